import PyProof.Rows.All
import Wide.All
import OpenK.AllK
import Wide.FinOn
import Lean
import PySem.Challenge.RW_mr0280_01
section
open PySem PySem.W PySem.W.X PyProof.Rows
set_option Elab.async false
set_option maxRecDepth 100000
namespace Mine

/-- the fast twin of `denote table` -/
noncomputable def dn (c : Code) : Sem Fin := ZFast.zw11892475500146522536 ZFast.tableZ c
theorem dn_eq (c : Code) : denote table c = dn c := by
  unfold dn
  rw [ZFast.tableZ_eq, ZFast.ze11892475500146522536]

noncomputable abbrev Cells := List (Addr × Obj)
noncomputable def nth : Cells → Nat → Option (Addr × Obj)
  | [], _ => none
  | p :: _, 0 => some p
  | _ :: r, j + 1 => nth r j
noncomputable def setNth : Cells → Nat → Addr × Obj → Cells
  | [], _, _ => []
  | _ :: r, 0, x => x :: r
  | p :: r, j + 1, x => p :: setNth r j x
theorem nth_mem : ∀ {σ : Cells} {j : Nat} {p : Addr × Obj}, nth σ j = some p → p ∈ σ
  | [], _, _, h => by cases h
  | q :: _, 0, p, h => by cases h; exact .head _
  | _ :: r, j + 1, p, h => .tail _ (nth_mem (σ := r) (j := j) h)
theorem setNth_keys : ∀ {σ : Cells} {j : Nat} {a : Addr} {o o' : Obj}, nth σ j = some (a, o) → (setNth σ j (a, o')).map (·.1) = σ.map (·.1)
  | [], _, _, _, _, h => by cases h
  | q :: _, 0, _, _, _, h => by cases h; rfl
  | _ :: r, j + 1, _, _, _, h => by
    show _ :: (setNth r j _).map (·.1) = _ :: r.map (·.1)
    rw [setNth_keys (σ := r) (j := j) h]
theorem setNth_mem : ∀ {σ : Cells} {j : Nat} {a : Addr} {o o' : Obj}, nth σ j = some (a, o) → (σ.map (·.1)).Nodup → ∀ p ∈ setNth σ j (a, o'), p = (a, o') ∨ (p ∈ σ ∧ p.1 ≠ a)
  | [], _, _, _, _, h, _, _, _ => by cases h
  | q :: r, 0, a, o, o', h, hn, p, hp => by
    cases h
    rcases List.mem_cons.mp hp with e | e
    · exact .inl e
    · refine .inr ⟨.tail _ e, fun z => ?_⟩
      have := (List.nodup_cons.mp hn).1
      exact this (List.mem_map.mpr ⟨p, e, z⟩)
  | q :: r, j + 1, a, o, o', h, hn, p, hp => by
    have hn' := List.nodup_cons.mp hn
    rcases List.mem_cons.mp hp with e | e
    · refine .inr ⟨e ▸ .head _, fun z => ?_⟩
      have hm := nth_mem (σ := r) (j := j) h
      subst e
      exact hn'.1 (List.mem_map.mpr ⟨_, hm, z.symm⟩)
    · rcases setNth_mem (σ := r) (j := j) h hn'.2 p e with z | z
      · exact .inl z
      · exact .inr ⟨.tail _ z.1, z.2⟩

/-- where the text's own objects end -/
noncomputable abbrev N0 : Nat := 171

structure Rep (h₀ h : Heap) (F : List Addr) (σ : Cells) : Prop where
  keep : ∀ b o, h₀.get? b = some o → b ∉ F → h.get? b = some o
  at_ : ∀ p ∈ σ, h.get? p.1 = some p.2
  nodup : (σ.map (·.1)).Nodup
  own : ∀ p ∈ σ, p.1 ∈ F ∨ h₀.objs.size ≤ p.1
  size : h₀.objs.size ≤ h.objs.size
  lo : ∀ a ∈ F, N0 ≤ a
  base : N0 ≤ h₀.objs.size

noncomputable def TopOk (T : KT) (h : Heap) : Prop := ∀ a o, a < N0 → T.get a = some o → h.get? a = some o

section
variable {h₀ h : Heap} {F : List Addr} {σ : Cells} {T : KT}
theorem Rep.top (D : Rep h₀ h F σ) (hT : TopOk T h₀) : TopOk T h := fun a o ha e =>
  D.keep a o (hT a o ha e) fun hm => Nat.lt_irrefl _ (Nat.lt_of_lt_of_le ha (D.lo a hm))
theorem Rep.lt (D : Rep h₀ h F σ) {p : Addr × Obj} (hp : p ∈ σ) : p.1 < h.objs.size := Heap.lt_size (D.at_ p hp)
theorem Rep.cell (D : Rep h₀ h F σ) (j : Nat) {a : Addr} {o : Obj} (hj : nth σ j = some (a, o)) : h.get? a = some o := D.at_ (a, o) (nth_mem hj)
theorem Rep.ge (D : Rep h₀ h F σ) (j : Nat) {a : Addr} {o : Obj} (hj : nth σ j = some (a, o)) : N0 ≤ a := by
  rcases D.own _ (nth_mem hj) with q | q
  · exact D.lo _ q
  · exact Nat.le_trans D.base q
theorem Rep.ne_sys (D : Rep h₀ h F σ) (j : Nat) {a : Addr} {o : Obj} (hj : nth σ j = some (a, o)) : (a == sysModules) = false := by
  have h1 := D.ge j hj
  have h2 : sysModules < N0 := by decide
  simp only [beq_eq_false_iff_ne, ne_eq]
  intro e
  rw [e] at h1
  exact Nat.lt_irrefl _ (Nat.lt_of_lt_of_le h2 h1)
theorem Rep.alloc (D : Rep h₀ h F σ) {o : Obj} (hf : o.isFreed = false) : Rep h₀ (h.push o) F ((h.objs.size, o) :: σ) := by
  refine ⟨fun b o' e hb => Heap.get?_push_of_some _ (D.keep b o' e hb), fun p hp => ?_, ?_, fun p hp => ?_, ?_, D.lo, D.base⟩
  · rcases List.mem_cons.mp hp with hp | hp
    · rw [hp]; exact Heap.get?_push_size _ hf
    · exact Heap.get?_push_of_some _ (D.at_ p hp)
  · rw [List.map_cons]
    refine List.nodup_cons.mpr ⟨fun hm => ?_, D.nodup⟩
    obtain ⟨p, hp, e⟩ := List.mem_map.mp hm
    have h1 := D.lt hp
    rw [e] at h1
    exact Nat.lt_irrefl _ h1
  · rcases List.mem_cons.mp hp with hp | hp
    · rw [hp]; exact .inr D.size
    · exact D.own p hp
  · rw [Heap.size_push]; have := D.size; omega
theorem Rep.update (D : Rep h₀ h F σ) {j : Nat} {a : Addr} {o : Obj} {f : Obj → Obj} (hj : nth σ j = some (a, o)) (hf : (f o).isFreed = false) : Rep h₀ (h.update a f) F (setNth σ j (a, f o)) := by
  have hs : Heap.SameBut a h (h.update a f) := Heap.SameBut.update ..
  have hm := nth_mem hj
  have ho := D.at_ _ hm
  have ge : (h.update a f).get? a = some (f o) := by first | exact Heap.get?_update_self f ho hf | exact Heap.get?_update_self _ ho hf
  have hk := setNth_keys (o' := f o) hj
  refine ⟨fun b o' e hb => ?_, fun p hp => ?_, by rw [hk]; exact D.nodup, fun p hp => ?_, by rw [hs.1]; exact D.size, D.lo, D.base⟩
  · refine (hs.2 b fun z => ?_).trans (D.keep b o' e hb)
    rcases D.own _ hm with q | q
    · exact hb (z ▸ q)
    · have h1 := Heap.lt_size e
      have q' : h₀.objs.size ≤ a := q
      rw [z] at h1
      exact Nat.lt_irrefl _ (Nat.lt_of_lt_of_le h1 q')
  · rcases setNth_mem hj D.nodup p hp with e | ⟨e, ne⟩
    · rw [e]; exact ge
    · exact (hs.2 p.1 ne).trans (D.at_ p e)
  · rcases setNth_mem hj D.nodup p hp with e | ⟨e, _⟩
    · rw [e]; exact D.own (a, o) hm
    · exact D.own p e
theorem Rep.same (D : Rep h₀ h F σ) {h' : Heap} {j : Nat} {a : Addr} {o o' : Obj} (hj : nth σ j = some (a, o)) (hs : Heap.SameBut a h h') (ge : h'.get? a = some o') : Rep h₀ h' F (setNth σ j (a, o')) := by
  have hm := nth_mem hj
  have hk := setNth_keys (o' := o') hj
  refine ⟨fun b o' e hb => ?_, fun p hp => ?_, by rw [hk]; exact D.nodup, fun p hp => ?_, by rw [hs.1]; exact D.size, D.lo, D.base⟩
  · refine (hs.2 b fun z => ?_).trans (D.keep b o' e hb)
    rcases D.own _ hm with q | q
    · exact hb (z ▸ q)
    · have h1 := Heap.lt_size e
      have q' : h₀.objs.size ≤ a := q
      rw [z] at h1
      exact Nat.lt_irrefl _ (Nat.lt_of_lt_of_le h1 q')
  · rcases setNth_mem hj D.nodup p hp with e | ⟨e, ne⟩
    · rw [e]; exact ge
    · exact (hs.2 p.1 ne).trans (D.at_ p e)
  · rcases setNth_mem hj D.nodup p hp with e | ⟨e, _⟩
    · rw [e]; exact D.own (a, o) hm
    · exact D.own p e
theorem Rep.perm {σ' : Cells} (D : Rep h₀ h F σ) (hp : σ'.Perm σ) : Rep h₀ h F σ' :=
  ⟨D.keep, fun p hm => D.at_ p (hp.subset hm), (hp.map _).nodup_iff.mpr D.nodup, fun p hm => D.own p (hp.subset hm), D.size, D.lo, D.base⟩
theorem Rep.sub {σ' : Cells} (D : Rep h₀ h F σ) (hs : ∀ p ∈ σ', p ∈ σ) (hn : (σ'.map (·.1)).Nodup) : Rep h₀ h F σ' :=
  ⟨D.keep, fun p hp => D.at_ p (hs p hp), hn, fun p hp => D.own p (hs p hp), D.size, D.lo, D.base⟩
end

inductive Kn where
  | base
  | ret (c : Code) (hd : Option Value) (k : Result → Sem Fin) (κ : Kn)
noncomputable def arnd (A₀ : Around) : Kn → Around
  | .base => A₀
  | .ret c hd _ κ => ((arnd A₀ κ).under c).mark hd
noncomputable def hnd (hd₀ : Option Value) : Kn → Option Value
  | .base => hd₀
  | .ret _ hd _ κ => hd.or (hnd hd₀ κ)
theorem arnd_hnd (A₀ : Around) : ∀ κ, (arnd A₀ κ).handled = hnd A₀.handled κ
  | .base => rfl
  | .ret c hd k κ => by
    show hd.or ((arnd A₀ κ).under c).handled = hd.or (hnd A₀.handled κ)
    rw [← arnd_hnd A₀ κ]; rfl
noncomputable def endK (prog : Program) (w : World) (A₀ : Around) (R₀ : Result → Shared → Prop) : Kn → Result → Shared → Prop
  | .base => R₀
  | .ret c _ k κ => postR prog w (arnd A₀ κ) c (postC prog w (arnd A₀ κ) (endK prog w A₀ R₀ κ)) (postE (endK prog w A₀ R₀ κ)) k
noncomputable def Mn (prog : Program) (w : World) (A₀ : Around) (R₀ : Result → Shared → Prop) (c : Code) (κ : Kn) (t : Sem Fin) (s : Shared) : Prop :=
  wpOwn (model prog w) (arnd A₀ κ) c t (postC prog w (arnd A₀ κ) (endK prog w A₀ R₀ κ)) (postE (endK prog w A₀ R₀ κ)) s

/-- a plan's word at a node: an object of the text, the cell j, go into a call -/
inductive It where
  | t
  | s (j : Nat)
  | e
structure Pm where
  prog : Program
  P : Params
  hd : Option Value
  T : KT
  n : Nat
  tk : Nat
noncomputable abbrev Sts := List (Pos × List (Code × Pos))
structure Out where
  pl : List It
  c : Code
  κ : Kn
  t : Sem Fin
  σ : Cells
  m : Nat
  i : Nat
  st : Sts
  el : List Addr
  er : List Addr
noncomputable def okM (hd : Option Value) : Bool := match hd with
  | none => true
  | some v => match v with
    | .notImplemented => false
    | _ => true
noncomputable abbrev RT := List It → Code → Kn → Sem Fin → Cells → Nat → Nat → Sts → List Addr → List Addr → Out
noncomputable def rstep (p : Pm) (ih : RT) : RT := fun pl c κ t σ m i st el er => match t with
  | .pure fin => match fin with
    | .done f => match κ with
      | .base => ⟨pl, c, .base, .pure (.done f), σ, m, i, st, el, er⟩
      | .ret c' _ k κ' => ih pl c' κ' (k (.ok f)) σ m i st el er
    | .again c' => match pl with
      | .e :: pl' => match c'.quiet with
        | true => ih pl' c' κ (dn c') σ m i st el er
        | false => ⟨pl, c, κ, .pure (.again c'), σ, m, i, st, el, er⟩
      | _ => ⟨pl, c, κ, .pure (.again c'), σ, m, i, st, el, er⟩
  | .raise e => match κ with
    | .base => ⟨pl, c, .base, .raise e, σ, m, i, st, el, er⟩
    | .ret c' _ k κ' => ih pl c' κ' (k (.error e)) σ m i st el er
  | .rule _ k => ih pl c κ (k ()) σ m i st el er
  | .at _ k => ih pl c κ (k ()) σ m i st el er
  | .point _ k => ih pl c κ (k ()) σ m i st el er
  | .ask k => ih pl c κ (k ⟨p.prog, p.P⟩) σ m i st el er
  | .load a q k => match pl with
    | .t :: pl' => match Nat.blt a N0 with
      | true => match p.T.get a with
        | some o => ih pl' c κ (k o) σ m i st el er
        | none => ⟨pl, c, κ, .load a q k, σ, m, i, st, el, er⟩
      | false => ⟨pl, c, κ, .load a q k, σ, m, i, st, el, er⟩
    | .s j :: pl' => match nth σ j with
      | some x => ih pl' c κ (k x.2) σ m i st (a :: el) (x.1 :: er)
      | none => ⟨pl, c, κ, .load a q k, σ, m, i, st, el, er⟩
    | _ => ⟨pl, c, κ, .load a q k, σ, m, i, st, el, er⟩
  | .update a q f k => match pl with
    | .s j :: pl' => match nth σ j with
      | some x => match (f x.2).isFreed with
        | false => ih pl' c κ (k ()) (setNth σ j (x.1, f x.2)) m i st (a :: el) (x.1 :: er)
        | true => ⟨pl, c, κ, .update a q f k, σ, m, i, st, el, er⟩
      | none => ⟨pl, c, κ, .update a q f k, σ, m, i, st, el, er⟩
    | _ => ⟨pl, c, κ, .update a q f k, σ, m, i, st, el, er⟩
  | .alloc o k => match o.isFreed with
    | false => ih pl c κ (k (p.n + m)) ((p.n + m, o) :: σ) (m + 1) i st el er
    | true => ⟨pl, c, κ, .alloc o k, σ, m, i, st, el, er⟩
  | .fresh k => ih pl c κ (k (p.tk + i)) σ m (i + 1) st el er
  | .handled own k => match own with
    | false => ih pl c κ (k (hnd p.hd κ)) σ m i st el er
    | true => ⟨pl, c, κ, .handled own k, σ, m, i, st, el, er⟩
  | .stack k => match st with
    | x :: st' => ih pl c κ (k ((c, x.1) :: x.2)) σ m i st' el er
    | [] => ⟨pl, c, κ, .stack k, σ, m, i, [], el, er⟩
  | .call c' hd g l k => match pl with
    | .e :: pl' => match okM hd with
      | true => ih pl' c' (.ret c hd k κ) (dn c') σ m i st el er
      | false => ⟨pl, c, κ, .call c' hd g l k, σ, m, i, st, el, er⟩
    | _ => ⟨pl, c, κ, .call c' hd g l k, σ, m, i, st, el, er⟩
  | t => ⟨pl, c, κ, t, σ, m, i, st, el, er⟩
noncomputable def rrun (p : Pm) : Nat → RT
  | 0 => fun pl c κ t σ m i st el er => ⟨pl, c, κ, t, σ, m, i, st, el, er⟩
  | n + 1 => rstep p (rrun p n)

noncomputable def Ext (el er : List Addr) (o : Out) : Prop := ∃ xs ys, o.el = xs ++ el ∧ o.er = ys ++ er ∧ xs.length = ys.length
theorem Ext.refl (pl c κ t σ m i st) (el er : List Addr) : Ext el er ⟨pl, c, κ, t, σ, m, i, st, el, er⟩ := ⟨[], [], rfl, rfl, rfl⟩
theorem Ext.cons {el er : List Addr} {a b : Addr} {o : Out} (h : Ext (a :: el) (b :: er) o) : Ext el er o := by
  obtain ⟨xs, ys, h1, h2, h3⟩ := h
  exact ⟨xs ++ [a], ys ++ [b], by rw [h1]; simp, by rw [h2]; simp, by simp [h3]⟩
theorem Ext.eq {el er : List Addr} {a b : Addr} {o : Out} (h : Ext (a :: el) (b :: er) o) (e : o.el = o.er) : a = b := by
  obtain ⟨xs, ys, h1, h2, h3⟩ := h
  rw [h1, h2] at e
  have := List.append_inj e h3
  exact (List.cons.inj this.2).1
section
variable {p : Pm} {ih : RT} {pl : List It} {c : Code} {κ : Kn} {σ : Cells} {m i : Nat} {st : Sts} {el er : List Addr}
theorem rs_again {c' : Code} {b : Bool} : c'.quiet = b → rstep p ih (.e :: pl) c κ (.pure (.again c')) σ m i st el er = (match b with | true => ih pl c' κ (dn c') σ m i st el er | false => ⟨.e :: pl, c, κ, .pure (.again c'), σ, m, i, st, el, er⟩) := by intro h; subst h; rfl
theorem rs_loadt {a : Addr} {q : Option Value} {k : Obj → Sem Fin} {b : Bool} : Nat.blt a N0 = b → rstep p ih (.t :: pl) c κ (.load a q k) σ m i st el er = (match b with
      | true => match p.T.get a with
        | some o => ih pl c κ (k o) σ m i st el er
        | none => ⟨.t :: pl, c, κ, .load a q k, σ, m, i, st, el, er⟩
      | false => ⟨.t :: pl, c, κ, .load a q k, σ, m, i, st, el, er⟩) := by intro h; subst h; rfl
theorem rs_loadt2 {a : Addr} {q : Option Value} {k : Obj → Sem Fin} {x : Option Obj} : Nat.blt a N0 = true → p.T.get a = x → rstep p ih (.t :: pl) c κ (.load a q k) σ m i st el er = (match x with
        | some o => ih pl c κ (k o) σ m i st el er
        | none => ⟨.t :: pl, c, κ, .load a q k, σ, m, i, st, el, er⟩) := by intro h ho; rw [rs_loadt h]; subst ho; rfl
theorem rs_loads {a : Addr} {q : Option Value} {k : Obj → Sem Fin} {j : Nat} {x : Option (Addr × Obj)} : nth σ j = x → rstep p ih (.s j :: pl) c κ (.load a q k) σ m i st el er = (match x with
      | some x => ih pl c κ (k x.2) σ m i st (a :: el) (x.1 :: er)
      | none => ⟨.s j :: pl, c, κ, .load a q k, σ, m, i, st, el, er⟩) := by intro ho; subst ho; rfl
theorem rs_upd {a : Addr} {q : Option Value} {f : Obj → Obj} {k : Unit → Sem Fin} {j : Nat} {x : Option (Addr × Obj)} : nth σ j = x → rstep p ih (.s j :: pl) c κ (.update a q f k) σ m i st el er = (match x with
      | some x => match (f x.2).isFreed with
        | false => ih pl c κ (k ()) (setNth σ j (x.1, f x.2)) m i st (a :: el) (x.1 :: er)
        | true => ⟨.s j :: pl, c, κ, .update a q f k, σ, m, i, st, el, er⟩
      | none => ⟨.s j :: pl, c, κ, .update a q f k, σ, m, i, st, el, er⟩) := by intro ho; subst ho; rfl
theorem rs_upd2 {a : Addr} {q : Option Value} {f : Obj → Obj} {k : Unit → Sem Fin} {j : Nat} {x : Addr × Obj} {b : Bool} : nth σ j = some x → (f x.2).isFreed = b → rstep p ih (.s j :: pl) c κ (.update a q f k) σ m i st el er = (match b with
        | false => ih pl c κ (k ()) (setNth σ j (x.1, f x.2)) m i st (a :: el) (x.1 :: er)
        | true => ⟨.s j :: pl, c, κ, .update a q f k, σ, m, i, st, el, er⟩) := by intro ho hf; rw [rs_upd ho]; subst hf; rfl
theorem rs_alloc {o : Obj} {k : Addr → Sem Fin} {b : Bool} : o.isFreed = b → rstep p ih pl c κ (.alloc o k) σ m i st el er = (match b with
    | false => ih pl c κ (k (p.n + m)) ((p.n + m, o) :: σ) (m + 1) i st el er
    | true => ⟨pl, c, κ, .alloc o k, σ, m, i, st, el, er⟩) := by intro h; subst h; rfl
theorem rs_call {c' : Code} {hd : Option Value} {g : Bool} {l : List Value} {k : Result → Sem Fin} {b : Bool} : okM hd = b → rstep p ih (.e :: pl) c κ (.call c' hd g l k) σ m i st el er = (match b with
      | true => ih pl c' (.ret c hd k κ) (dn c') σ m i st el er
      | false => ⟨.e :: pl, c, κ, .call c' hd g l k, σ, m, i, st, el, er⟩) := by intro h; subst h; rfl
end
theorem rstep_ext (p : Pm) (ih : RT) (IH : ∀ pl c κ t σ m i st el er, Ext el er (ih pl c κ t σ m i st el er)) : ∀ pl c κ t σ m i st el er, Ext el er (rstep p ih pl c κ t σ m i st el er) := by
  intro pl c κ t σ m i st el er
  cases t with
  | pure fin =>
    cases fin with
    | done f =>
      cases κ with
      | base => exact Ext.refl ..
      | ret c' hd k κ' => exact IH ..
    | again c' =>
      cases pl with
      | nil => exact Ext.refl ..
      | cons x pl' =>
        cases x with
        | t => exact Ext.refl ..
        | s j => exact Ext.refl ..
        | e =>
          cases q' : c'.quiet with
          | false => rw [rs_again q']; exact Ext.refl ..
          | true => rw [rs_again q']; exact IH ..
  | raise e =>
    cases κ with
    | base => exact Ext.refl ..
    | ret c' hd k κ' => exact IH ..
  | rule tag k => exact IH ..
  | «at» q k => exact IH ..
  | point l k => exact IH ..
  | ask k => exact IH ..
  | load a q k =>
    cases pl with
    | nil => exact Ext.refl ..
    | cons x pl' =>
      cases x with
      | e => exact Ext.refl ..
      | t =>
        cases hb : Nat.blt a N0 with
        | false => rw [rs_loadt hb]; exact Ext.refl ..
        | true =>
          cases ho : p.T.get a with
          | none => rw [rs_loadt2 hb ho]; exact Ext.refl ..
          | some o => rw [rs_loadt2 hb ho]; exact IH ..
      | s j =>
        cases ho : nth σ j with
        | none => rw [rs_loads ho]; exact Ext.refl ..
        | some y => rw [rs_loads ho]; exact Ext.cons (IH ..)
  | update a q f k =>
    cases pl with
    | nil => exact Ext.refl ..
    | cons x pl' =>
      cases x with
      | e => exact Ext.refl ..
      | t => exact Ext.refl ..
      | s j =>
        cases ho : nth σ j with
        | none => rw [rs_upd ho]; exact Ext.refl ..
        | some y =>
          cases hf : (f y.2).isFreed with
          | true => rw [rs_upd2 ho hf]; exact Ext.refl ..
          | false => rw [rs_upd2 ho hf]; exact Ext.cons (IH ..)
  | alloc o k =>
    cases hf : o.isFreed with
    | true => rw [rs_alloc hf]; exact Ext.refl ..
    | false => rw [rs_alloc hf]; exact IH ..
  | fresh k => exact IH ..
  | handled own k =>
    cases own with
    | true => exact Ext.refl ..
    | false => exact IH ..
  | stack k =>
    cases st with
    | nil => exact Ext.refl ..
    | cons x st' => exact IH ..
  | call c' hd g' l k =>
    cases pl with
    | nil => exact Ext.refl ..
    | cons x pl' =>
      cases x with
      | t => exact Ext.refl ..
      | s j => exact Ext.refl ..
      | e =>
        cases hm : okM hd with
        | false => rw [rs_call hm]; exact Ext.refl ..
        | true => rw [rs_call hm]; exact IH ..
  | unsupported wh => exact Ext.refl ..
  | finish e => exact Ext.refl ..
  | register a k => exact Ext.refl ..
  | loadIfAlive a k => exact Ext.refl ..
  | choose a b k => exact Ext.refl ..
  | os a b k => exact Ext.refl ..
  | newGen a k => exact Ext.refl ..
  | genState a k => exact Ext.refl ..
  | resume a b l k => exact Ext.refl ..
  | yield a b l k => exact Ext.refl ..
  | fork a k => exact Ext.refl ..
  | thread k => exact Ext.refl ..
  | await a b e l k => exact Ext.refl ..
theorem rrun_ext (p : Pm) : ∀ n pl c κ t σ m i st el er, Ext el er (rrun p n pl c κ t σ m i st el er)
  | 0 => fun _ _ _ _ _ _ _ _ _ _ => Ext.refl ..
  | n + 1 => rstep_ext p _ (rrun_ext p n)

section
variable {p : Pm} {w : World} {A₀ : Around} {R₀ : Result → Shared → Prop} {h₀ : Heap} {F : List Addr} {g : Array GenState} {d : Drawn} {os : OsState}
noncomputable def Good (p : Pm) (w : World) (A₀ : Around) (R₀ : Result → Shared → Prop) (h₀ : Heap) (F : List Addr) (g : Array GenState) (d : Drawn) (os : OsState) (o : Out) : Prop :=
  o.el = o.er ∧ ∀ h, Rep h₀ h F o.σ → h.objs.size = p.n + o.m → Mn p.prog w A₀ R₀ o.c o.κ o.t ⟨h, g, d, p.tk + o.i, os⟩
theorem okM_ne {hd : Option Value} (h : okM hd = true) : hd ≠ some byPass := by
  intro e
  subst e
  simp [okM, byPass] at h
noncomputable def SoundAt (p : Pm) (w : World) (A₀ : Around) (R₀ : Result → Shared → Prop) (h₀ : Heap) (F : List Addr) (g : Array GenState) (d : Drawn) (os : OsState) (ih : RT) : Prop :=
  ∀ N pl c κ t σ m i el er, (∀ st : Sts, st.length = N → Good p w A₀ R₀ h₀ F g d os (ih pl c κ t σ m i st el er)) → ∀ h, Rep h₀ h F σ → h.objs.size = p.n + m → Mn p.prog w A₀ R₀ c κ t ⟨h, g, d, p.tk + i, os⟩
theorem mn_ret {r : Result} {c : Code} {κ : Kn} {t : Sem Fin} (ht : t = leafOf r) {s : Shared} (H : endK p.prog w A₀ R₀ κ r s) : Mn p.prog w A₀ R₀ c κ t s := by
  cases r with
  | ok f => subst ht; exact y_pure _ _ _ _ _ _ _ _ _ (y_done _ _ _ _ _ _ H)
  | error e => subst ht; exact y_raise _ _ _ _ _ _ _ _ _ (y_err _ _ _ H)
theorem sts_any (N : Nat) : ∃ st : Sts, st.length = N := ⟨List.replicate N (⟨0, 0, 0, 0⟩, []), by simp⟩
theorem rstep_sound (hP : p.P = w.params) (hh : A₀.handled = p.hd) (hT : TopOk p.T h₀) (ih : RT) (EX : ∀ pl c κ t σ m i st el er, Ext el er (ih pl c κ t σ m i st el er))
    (IH : SoundAt p w A₀ R₀ h₀ F g d os ih) : SoundAt p w A₀ R₀ h₀ F g d os (rstep p ih) := by
  intro N pl c κ t σ m i el er H h D hs
  have self : ∀ (x : Out), (∀ st : Sts, st.length = N → rstep p ih pl c κ t σ m i st el er = ⟨x.pl, c, κ, t, σ, m, i, st, el, er⟩) → Mn p.prog w A₀ R₀ c κ t ⟨h, g, d, p.tk + i, os⟩ := by
    intro x hx
    obtain ⟨st, hst⟩ := sts_any N
    have z := H st hst
    rw [hx st hst] at z
    exact z.2 h D hs
  cases t with
  | pure fin =>
    cases fin with
    | done f =>
      cases κ with
      | base => exact self ⟨pl, c, .base, .pure (.done f), σ, m, i, [], el, er⟩ (fun st _ => rfl)
      | ret c' hd k κ' => exact mn_ret (r := .ok f) rfl (IH N pl c' κ' (k (.ok f)) σ m i el er H h D hs)
    | again c' =>
      cases pl with
      | nil => exact self ⟨[], c, κ, .pure (.again c'), σ, m, i, [], el, er⟩ (fun st _ => rfl)
      | cons x pl' =>
        cases x with
        | t => exact self ⟨.t :: pl', c, κ, .pure (.again c'), σ, m, i, [], el, er⟩ (fun st _ => rfl)
        | s j => exact self ⟨.s j :: pl', c, κ, .pure (.again c'), σ, m, i, [], el, er⟩ (fun st _ => rfl)
        | e =>
          cases q' : c'.quiet with
          | false => exact self ⟨.e :: pl', c, κ, .pure (.again c'), σ, m, i, [], el, er⟩ (fun st _ => rs_again q')
          | true =>
            have z := IH N pl' c' κ (dn c') σ m i el er (fun st hst => by have z := H st hst; rw [rs_again q'] at z; exact z) h D hs
            refine y_pure _ _ _ _ _ _ _ _ _ (y_again _ _ _ _ _ _ q' (y_code _ _ _ _ _ _ ?_))
            rw [dn_eq]; exact z
  | raise e =>
    cases κ with
    | base => exact self ⟨pl, c, .base, .raise e, σ, m, i, [], el, er⟩ (fun st _ => rfl)
    | ret c' hd k κ' => exact mn_ret (r := .error e) rfl (IH N pl c' κ' (k (.error e)) σ m i el er H h D hs)
  | rule tag k => exact y_skim _ _ _ _ _ _ _ _ _ 1 (IH N pl c κ (k ()) σ m i el er H h D hs)
  | «at» q k => exact y_skim _ _ _ _ _ _ _ _ _ 1 (IH N pl c κ (k ()) σ m i el er H h D hs)
  | point l k => exact y_skim _ _ _ _ _ _ _ _ _ 1 (IH N pl c κ (k ()) σ m i el er H h D hs)
  | ask k =>
    have z := IH N pl c κ (k ⟨p.prog, p.P⟩) σ m i el er H h D hs
    rw [hP] at z
    exact y_skim _ _ _ _ _ _ _ _ _ 1 z
  | load a q k =>
    cases pl with
    | nil => exact self ⟨[], c, κ, .load a q k, σ, m, i, [], el, er⟩ (fun st _ => rfl)
    | cons x pl' =>
      cases x with
      | e => exact self ⟨.e :: pl', c, κ, .load a q k, σ, m, i, [], el, er⟩ (fun st _ => rfl)
      | t =>
        cases hb : Nat.blt a N0 with
        | false => exact self ⟨.t :: pl', c, κ, .load a q k, σ, m, i, [], el, er⟩ (fun st _ => rs_loadt hb)
        | true =>
          cases ho : p.T.get a with
          | none => exact self ⟨.t :: pl', c, κ, .load a q k, σ, m, i, [], el, er⟩ (fun st _ => rs_loadt2 hb ho)
          | some o =>
            have z := IH N pl' c κ (k o) σ m i el er (fun st hst => by have z := H st hst; rw [rs_loadt2 hb ho] at z; exact z) h D hs
            exact y_load _ _ _ _ _ _ _ _ _ _ _ _ _ _ _ _ (D.top hT a o (blt_true hb) ho) z
      | s j =>
        cases ho : nth σ j with
        | none => exact self ⟨.s j :: pl', c, κ, .load a q k, σ, m, i, [], el, er⟩ (fun st _ => rs_loads ho)
        | some y =>
          have H' : ∀ st : Sts, st.length = N → Good p w A₀ R₀ h₀ F g d os (ih pl' c κ (k y.2) σ m i st (a :: el) (y.1 :: er)) := fun st hst => by have z := H st hst; rw [rs_loads ho] at z; exact z
          obtain ⟨st, hst⟩ := sts_any N
          have ea : a = y.1 := (EX ..).eq (H' st hst).1
          have z := IH N pl' c κ (k y.2) σ m i (a :: el) (y.1 :: er) H' h D hs
          exact y_load _ _ _ _ _ _ _ _ _ _ _ _ _ _ _ _ (by rw [ea]; exact D.at_ _ (nth_mem ho)) z
  | update a q f k =>
    cases pl with
    | nil => exact self ⟨[], c, κ, .update a q f k, σ, m, i, [], el, er⟩ (fun st _ => rfl)
    | cons x pl' =>
      cases x with
      | e => exact self ⟨.e :: pl', c, κ, .update a q f k, σ, m, i, [], el, er⟩ (fun st _ => rfl)
      | t => exact self ⟨.t :: pl', c, κ, .update a q f k, σ, m, i, [], el, er⟩ (fun st _ => rfl)
      | s j =>
        cases ho : nth σ j with
        | none => exact self ⟨.s j :: pl', c, κ, .update a q f k, σ, m, i, [], el, er⟩ (fun st _ => rs_upd ho)
        | some y =>
          cases hf : (f y.2).isFreed with
          | true => exact self ⟨.s j :: pl', c, κ, .update a q f k, σ, m, i, [], el, er⟩ (fun st _ => rs_upd2 ho hf)
          | false =>
            have H' : ∀ st : Sts, st.length = N → Good p w A₀ R₀ h₀ F g d os (ih pl' c κ (k ()) (setNth σ j (y.1, f y.2)) m i st (a :: el) (y.1 :: er)) := fun st hst => by have z := H st hst; rw [rs_upd2 ho hf] at z; exact z
            obtain ⟨st, hst⟩ := sts_any N
            have ea : a = y.1 := (EX ..).eq (H' st hst).1
            subst ea
            have hj : nth σ j = some (y.1, y.2) := ho
            have D' := D.update (f := f) hj hf
            have z := IH N pl' c κ (k ()) _ m i _ _ H' _ D' (by rw [(Heap.SameBut.update ..).1]; exact hs)
            exact wpOwn_bind (m := updatePart y.1 q f) (f := k) (wpOwn_of_wpAny (wpAny_updatePart (D.at_ _ (nth_mem ho)) z))
  | alloc o k =>
    cases hf : o.isFreed with
    | true => exact self ⟨pl, c, κ, .alloc o k, σ, m, i, [], el, er⟩ (fun st _ => rs_alloc hf)
    | false =>
      have D' := D.alloc hf
      rw [hs] at D'
      have z := IH N pl c κ (k (p.n + m)) _ (m + 1) i el er (fun st hst => by have z := H st hst; rw [rs_alloc hf] at z; exact z) _ D' (by rw [Heap.size_push, hs, Nat.add_assoc])
      exact wpOwn_bind (m := PySem.alloc o) (f := k) (wpOwn_of_wpAny (wpAny_alloc (by rw [hs]; exact z)))
  | fresh k => exact y_fresh _ _ _ _ _ _ _ _ _ _ _ _ _ (IH N pl c κ (k (p.tk + i)) σ m (i + 1) el er H h D hs)
  | handled own k =>
    cases own with
    | true => exact self ⟨pl, c, κ, .handled true k, σ, m, i, [], el, er⟩ (fun st _ => rfl)
    | false =>
      have z := IH N pl c κ (k (hnd p.hd κ)) σ m i el er H h D hs
      refine y_handled _ _ _ _ _ _ _ _ _ ?_
      rw [arnd_hnd, hh]; exact z
  | stack k =>
    cases N with
    | zero =>
      have z := (H [] rfl)
      exact z.2 h D hs
    | succ N =>
      refine y_stack _ _ _ _ _ _ _ _ _ fun q below _ => ?_
      exact IH N pl c κ (k ((c, q) :: below)) σ m i el er (fun st hst => H ((q, below) :: st) (by simp [hst])) h D hs
  | call c' hd g' l k =>
    cases pl with
    | nil => exact self ⟨[], c, κ, .call c' hd g' l k, σ, m, i, [], el, er⟩ (fun st _ => rfl)
    | cons x pl' =>
      cases x with
      | t => exact self ⟨.t :: pl', c, κ, .call c' hd g' l k, σ, m, i, [], el, er⟩ (fun st _ => rfl)
      | s j => exact self ⟨.s j :: pl', c, κ, .call c' hd g' l k, σ, m, i, [], el, er⟩ (fun st _ => rfl)
      | e =>
        cases hm : okM hd with
        | false => exact self ⟨.e :: pl', c, κ, .call c' hd g' l k, σ, m, i, [], el, er⟩ (fun st _ => rs_call hm)
        | true =>
          have z := IH N pl' c' (.ret c hd k κ) (dn c') σ m i el er (fun st hst => by have z := H st hst; rw [rs_call hm] at z; exact z) h D hs
          refine y_call _ _ _ _ _ _ _ _ _ _ _ _ _ (okM_ne hm) (y_code _ _ _ _ _ _ ?_)
          rw [dn_eq]; exact z
  | unsupported wh => exact self ⟨pl, c, κ, .unsupported wh, σ, m, i, [], el, er⟩ (fun st _ => rfl)
  | finish e => exact self ⟨pl, c, κ, .finish e, σ, m, i, [], el, er⟩ (fun st _ => rfl)
  | register a k => exact self ⟨pl, c, κ, .register a k, σ, m, i, [], el, er⟩ (fun st _ => rfl)
  | loadIfAlive a k => exact self ⟨pl, c, κ, .loadIfAlive a k, σ, m, i, [], el, er⟩ (fun st _ => rfl)
  | choose a b k => exact self ⟨pl, c, κ, .choose a b k, σ, m, i, [], el, er⟩ (fun st _ => rfl)
  | os a b k => exact self ⟨pl, c, κ, .os a b k, σ, m, i, [], el, er⟩ (fun st _ => rfl)
  | newGen a k => exact self ⟨pl, c, κ, .newGen a k, σ, m, i, [], el, er⟩ (fun st _ => rfl)
  | genState a k => exact self ⟨pl, c, κ, .genState a k, σ, m, i, [], el, er⟩ (fun st _ => rfl)
  | resume a b l k => exact self ⟨pl, c, κ, .resume a b l k, σ, m, i, [], el, er⟩ (fun st _ => rfl)
  | yield a b l k => exact self ⟨pl, c, κ, .yield a b l k, σ, m, i, [], el, er⟩ (fun st _ => rfl)
  | fork a k => exact self ⟨pl, c, κ, .fork a k, σ, m, i, [], el, er⟩ (fun st _ => rfl)
  | thread k => exact self ⟨pl, c, κ, .thread k, σ, m, i, [], el, er⟩ (fun st _ => rfl)
  | await a b e l k => exact self ⟨pl, c, κ, .await a b e l k, σ, m, i, [], el, er⟩ (fun st _ => rfl)
theorem rrun_sound (hP : p.P = w.params) (hh : A₀.handled = p.hd) (hT : TopOk p.T h₀) : ∀ n, SoundAt p w A₀ R₀ h₀ F g d os (rrun p n)
  | 0 => fun N pl c κ t σ m i el er H h D hs => by
    obtain ⟨st, hst⟩ := sts_any N
    exact (H st hst).2 h D hs
  | n + 1 => rstep_sound hP hh hT _ (rrun_ext p n) (rrun_sound hP hh hT n)
end
end Mine
end
section
open PySem PySem.W PySem.W.X PySem.W.ZRun PyProof.Rows
set_option Elab.async false
set_option maxRecDepth 100000
set_option maxHeartbeats 0
namespace Mine
section
local macro_rules | `(tactic| k_head) => `(tactic| z_head)
open_top zh for PySem.Challenge.rw_mr0280_01
end
end Mine
end
section
open PySem PySem.W PySem.W.X PyProof.Rows
set_option Elab.async false
set_option maxRecDepth 100000
namespace Mine
noncomputable def T0 (P : Params) : KT := zh.ktop_350 P
/-- a mask over the first cells; what lies behind the mask is kept -/
noncomputable def maskC : List Bool → Cells → Cells
  | [], σ => σ
  | _ :: _, [] => []
  | true :: b, p :: r => p :: maskC b r
  | false :: b, _ :: r => maskC b r
theorem maskC_sub : ∀ (b : List Bool) (σ : Cells), (maskC b σ).Sublist σ
  | [], σ => by unfold maskC; exact List.Sublist.refl _
  | _ :: _, [] => by unfold maskC; exact List.Sublist.refl _
  | true :: b, p :: r => (maskC_sub b r).cons_cons p
  | false :: b, p :: r => (maskC_sub b r).cons p
theorem Rep.mask {h₀ h : Heap} {F : List Addr} {σ : Cells} (D : Rep h₀ h F σ) (b : List Bool) : Rep h₀ h F (maskC b σ) :=
  D.sub (fun p hp => (maskC_sub b σ).subset hp) (((maskC_sub b σ).map _).nodup D.nodup)

/-- the cell j comes to the front -/
noncomputable def pull1 : Nat → Cells → Cells
  | _, [] => []
  | 0, p :: r => p :: r
  | j + 1, p :: r => match pull1 j r with
    | [] => [p]
    | q :: r' => q :: p :: r'
theorem pull1_perm : ∀ (j : Nat) (σ : Cells), (pull1 j σ).Perm σ
  | _, [] => by unfold pull1; exact .refl _
  | 0, p :: r => by unfold pull1; exact .refl _
  | j + 1, p :: r => by
    have ih := pull1_perm j r
    unfold pull1
    split
    · rename_i e
      rw [e] at ih
      exact (ih.cons p)
    · rename_i q r' e
      rw [e] at ih
      exact (List.Perm.swap p q r').trans (ih.cons p)
noncomputable def pullN : List Nat → Cells → Cells
  | [], σ => σ
  | j :: js, σ => pullN js (pull1 j σ)
theorem pullN_perm : ∀ (js : List Nat) (σ : Cells), (pullN js σ).Perm σ
  | [], _ => .refl _
  | j :: js, σ => (pullN_perm js (pull1 j σ)).trans (pull1_perm j σ)
theorem Rep.pull {h₀ h : Heap} {F : List Addr} {σ : Cells} (D : Rep h₀ h F σ) (js : List Nat) : Rep h₀ h F (pullN js σ) := D.perm (pullN_perm js σ)
/-- cells from the n-th on -/
noncomputable def dropC : Nat → Cells → Cells
  | 0, σ => σ
  | _ + 1, [] => []
  | n + 1, _ :: r => dropC n r
noncomputable def takeC : Nat → Cells → Cells
  | 0, _ => []
  | _ + 1, [] => []
  | n + 1, p :: r => p :: takeC n r
theorem takeC_drop : ∀ (n : Nat) (σ : Cells), takeC n σ ++ dropC n σ = σ
  | 0, σ => rfl
  | _ + 1, [] => rfl
  | n + 1, p :: r => by
    show p :: (takeC n r ++ dropC n r) = p :: r
    rw [takeC_drop n r]
theorem Rep.splitL {h₀ h : Heap} {F : List Addr} {σ : Cells} (D : Rep h₀ h F σ) (n : Nat) {ps : Cells} (e : takeC n σ = ps) : Rep h₀ h F (ps ++ dropC n σ) := by
  rw [← e, takeC_drop]; exact D
theorem Rep.split1 {h₀ h : Heap} {F : List Addr} {σ : Cells} {p0 : Addr × Obj} (D : Rep h₀ h F σ) (e : takeC 1 σ = [p0]) : Rep h₀ h F (p0 :: dropC 1 σ) := D.splitL 1 e
theorem Rep.split2 {h₀ h : Heap} {F : List Addr} {σ : Cells} {p0 p1 : Addr × Obj} (D : Rep h₀ h F σ) (e : takeC 2 σ = [p0, p1]) : Rep h₀ h F (p0 :: p1 :: dropC 2 σ) := D.splitL 2 e
theorem Rep.split3 {h₀ h : Heap} {F : List Addr} {σ : Cells} {p0 p1 p2 : Addr × Obj} (D : Rep h₀ h F σ) (e : takeC 3 σ = [p0, p1, p2]) : Rep h₀ h F (p0 :: p1 :: p2 :: dropC 3 σ) := D.splitL 3 e
theorem Rep.split4 {h₀ h : Heap} {F : List Addr} {σ : Cells} {p0 p1 p2 p3 : Addr × Obj} (D : Rep h₀ h F σ) (e : takeC 4 σ = [p0, p1, p2, p3]) : Rep h₀ h F (p0 :: p1 :: p2 :: p3 :: dropC 4 σ) := D.splitL 4 e
theorem Rep.split5 {h₀ h : Heap} {F : List Addr} {σ : Cells} {p0 p1 p2 p3 p4 : Addr × Obj} (D : Rep h₀ h F σ) (e : takeC 5 σ = [p0, p1, p2, p3, p4]) : Rep h₀ h F (p0 :: p1 :: p2 :: p3 :: p4 :: dropC 5 σ) := D.splitL 5 e
theorem Rep.split6 {h₀ h : Heap} {F : List Addr} {σ : Cells} {p0 p1 p2 p3 p4 p5 : Addr × Obj} (D : Rep h₀ h F σ) (e : takeC 6 σ = [p0, p1, p2, p3, p4, p5]) : Rep h₀ h F (p0 :: p1 :: p2 :: p3 :: p4 :: p5 :: dropC 6 σ) := D.splitL 6 e
theorem Rep.split7 {h₀ h : Heap} {F : List Addr} {σ : Cells} {p0 p1 p2 p3 p4 p5 p6 : Addr × Obj} (D : Rep h₀ h F σ) (e : takeC 7 σ = [p0, p1, p2, p3, p4, p5, p6]) : Rep h₀ h F (p0 :: p1 :: p2 :: p3 :: p4 :: p5 :: p6 :: dropC 7 σ) := D.splitL 7 e
theorem Rep.split8 {h₀ h : Heap} {F : List Addr} {σ : Cells} {p0 p1 p2 p3 p4 p5 p6 p7 : Addr × Obj} (D : Rep h₀ h F σ) (e : takeC 8 σ = [p0, p1, p2, p3, p4, p5, p6, p7]) : Rep h₀ h F (p0 :: p1 :: p2 :: p3 :: p4 :: p5 :: p6 :: p7 :: dropC 8 σ) := D.splitL 8 e
theorem Rep.split9 {h₀ h : Heap} {F : List Addr} {σ : Cells} {p0 p1 p2 p3 p4 p5 p6 p7 p8 : Addr × Obj} (D : Rep h₀ h F σ) (e : takeC 9 σ = [p0, p1, p2, p3, p4, p5, p6, p7, p8]) : Rep h₀ h F (p0 :: p1 :: p2 :: p3 :: p4 :: p5 :: p6 :: p7 :: p8 :: dropC 9 σ) := D.splitL 9 e
theorem Rep.split10 {h₀ h : Heap} {F : List Addr} {σ : Cells} {p0 p1 p2 p3 p4 p5 p6 p7 p8 p9 : Addr × Obj} (D : Rep h₀ h F σ) (e : takeC 10 σ = [p0, p1, p2, p3, p4, p5, p6, p7, p8, p9]) : Rep h₀ h F (p0 :: p1 :: p2 :: p3 :: p4 :: p5 :: p6 :: p7 :: p8 :: p9 :: dropC 10 σ) := D.splitL 10 e
theorem Rep.split11 {h₀ h : Heap} {F : List Addr} {σ : Cells} {p0 p1 p2 p3 p4 p5 p6 p7 p8 p9 p10 : Addr × Obj} (D : Rep h₀ h F σ) (e : takeC 11 σ = [p0, p1, p2, p3, p4, p5, p6, p7, p8, p9, p10]) : Rep h₀ h F (p0 :: p1 :: p2 :: p3 :: p4 :: p5 :: p6 :: p7 :: p8 :: p9 :: p10 :: dropC 11 σ) := D.splitL 11 e
theorem Rep.split12 {h₀ h : Heap} {F : List Addr} {σ : Cells} {p0 p1 p2 p3 p4 p5 p6 p7 p8 p9 p10 p11 : Addr × Obj} (D : Rep h₀ h F σ) (e : takeC 12 σ = [p0, p1, p2, p3, p4, p5, p6, p7, p8, p9, p10, p11]) : Rep h₀ h F (p0 :: p1 :: p2 :: p3 :: p4 :: p5 :: p6 :: p7 :: p8 :: p9 :: p10 :: p11 :: dropC 12 σ) := D.splitL 12 e
/-- blocks of cells, one behind the other -/
noncomputable def cat : List Cells → Cells
  | [] => []
  | [x] => x
  | x :: y :: r => x ++ cat (y :: r)
noncomputable def gpull1 {α : Type} : Nat → List α → List α
  | _, [] => []
  | 0, p :: r => p :: r
  | j + 1, p :: r => match gpull1 j r with
    | [] => [p]
    | q :: r' => q :: p :: r'
noncomputable def gpull {α : Type} : List Nat → List α → List α
  | [], σ => σ
  | j :: js, σ => gpull js (gpull1 j σ)
theorem cat_cons (x : Cells) : ∀ bs : List Cells, (cat (x :: bs)).Perm (x ++ cat bs)
  | [] => by simp [cat]
  | y :: r => .refl _
theorem cat_swap (x y : Cells) (bs : List Cells) : (cat (x :: y :: bs)).Perm (cat (y :: x :: bs)) := by
  refine (cat_cons x (y :: bs)).trans (((cat_cons y bs).append_left x).trans ?_)
  refine List.Perm.trans ?_ ((cat_cons y (x :: bs)).trans ((cat_cons x bs).append_left y)).symm
  rw [← List.append_assoc, ← List.append_assoc]
  exact List.perm_append_comm.append_right _
theorem cat_gpull1 : ∀ (j : Nat) (bs : List Cells), (cat (gpull1 j bs)).Perm (cat bs)
  | _, [] => by unfold gpull1; exact .refl _
  | 0, p :: r => by unfold gpull1; exact .refl _
  | j + 1, p :: r => by
    have ih := cat_gpull1 j r
    unfold gpull1
    split
    · rename_i e
      rw [e] at ih
      exact (cat_cons p []).trans ((ih.append_left p).trans (cat_cons p r).symm)
    · rename_i q r' e
      rw [e] at ih
      exact (cat_swap q p r').trans ((cat_cons p (q :: r')).trans ((ih.append_left p).trans (cat_cons p r).symm))
theorem cat_gpull : ∀ (js : List Nat) (bs : List Cells), (cat (gpull js bs)).Perm (cat bs)
  | [], _ => .refl _
  | j :: js, bs => (cat_gpull js (gpull1 j bs)).trans (cat_gpull1 j bs)
theorem Rep.shuf {h₀ h : Heap} {F : List Addr} (bs : List Cells) (js : List Nat) (D : Rep h₀ h F (cat bs)) : Rep h₀ h F (cat (gpull js bs)) := D.perm (cat_gpull js bs)
theorem Rep.tail {h₀ h : Heap} {F : List Addr} {σ : Cells} (D : Rep h₀ h F σ) (n : Nat) {rest : Cells} (e : dropC n σ = rest) : Rep h₀ h F (takeC n σ ++ rest) := by
  rw [← e, takeC_drop]; exact D
inductive SemTop where
  | pure (f : Fin)
  | raise (e : Value)
  | call (c : Code) (hd : Option Value) (k : Result → Sem Fin)
  | other
noncomputable def topOf : Sem Fin → SemTop
  | .pure f => .pure f
  | .raise e => .raise e
  | .call c hd _ _ k => .call c hd k
  | _ => .other
theorem topOf_spec (t : Sem Fin) : (match topOf t with | .pure f => t = .pure f | .raise e => t = .raise e | .call c hd k => ∃ g l, t = .call c hd g l k | .other => True) := by
  cases t with
  | pure f => exact rfl
  | raise e => exact rfl
  | call c hd g l k => exact ⟨g, l, rfl⟩
  | _ => exact trivial
noncomputable def callOf (t : Sem Fin) : Option (Code × Option Value) := match topOf t with
  | .call c hd _ => some (c, hd)
  | _ => none
noncomputable def contOf (t : Sem Fin) : Result → Sem Fin := match topOf t with
  | .call _ _ k => k
  | _ => fun _ => t
noncomputable def doneOf (t : Sem Fin) : Option Flow := match topOf t with
  | .pure (.done f) => some f
  | _ => none
noncomputable def againOf (t : Sem Fin) : Option Code := match topOf t with
  | .pure (.again c) => some c
  | _ => none
noncomputable def raiseOf (t : Sem Fin) : Option Value := match topOf t with
  | .raise e => some e
  | _ => none
theorem callOf_eq {t : Sem Fin} {c : Code} {hd : Option Value} (h : callOf t = some (c, hd)) : ∃ g l, t = .call c hd g l (contOf t) := by
  have s := topOf_spec t
  unfold callOf at h
  unfold contOf
  cases e : topOf t with
  | call c' hd' k => rw [e] at h s; cases h; exact s
  | _ => rw [e] at h; cases h
theorem doneOf_eq {t : Sem Fin} {f : Flow} (h : doneOf t = some f) : t = .pure (.done f) := by
  have s := topOf_spec t
  unfold doneOf at h
  cases e : topOf t with
  | pure fin => rw [e] at h s; cases fin with
    | done f' => cases h; exact s
    | again c => cases h
  | _ => rw [e] at h; cases h
theorem againOf_eq {t : Sem Fin} {c : Code} (h : againOf t = some c) : t = .pure (.again c) := by
  have s := topOf_spec t
  unfold againOf at h
  cases e : topOf t with
  | pure fin => rw [e] at h s; cases fin with
    | done f' => cases h
    | again c => cases h; exact s
  | _ => rw [e] at h; cases h
theorem raiseOf_eq {t : Sem Fin} {v : Value} (h : raiseOf t = some v) : t = .raise v := by
  have s := topOf_spec t
  unfold raiseOf at h
  cases e : topOf t with
  | raise v' => rw [e] at h s; cases h; exact s
  | _ => rw [e] at h; cases h

/-- what holds of every heap on the way: the text's own objects stand -/
structure Gd (w : World) (h : Heap) : Prop where
  top : TopOk (T0 w.params) h
  lim : h.NoLimit

section
variable {prog : Program} {w : World} {A : Around} {R : Result → Shared → Prop} {h₀ h : Heap} {F : List Addr} {σ : Cells} {g : Array GenState} {d : Drawn} {tk : Nat} {os : OsState} {c : Code} {κ : Kn} {t : Sem Fin} {s : Shared}
theorem Rep.gd (D : Rep h₀ h F σ) (G : Gd w h₀) : Gd w h :=
  ⟨D.top G.top, G.lim.at fun o e => D.keep _ o e fun hm => absurd (D.lo _ hm) (by decide)⟩

noncomputable abbrev pm (prog : Program) (w : World) (hd : Option Value) (n tk : Nat) : Pm := ⟨prog, w.params, hd, T0 w.params, n, tk⟩

/-- the simulator, shut to the elaborator (the kernel opens it) -/
@[irreducible] noncomputable def run1 (p : Pm) (fuel : Nat) (pl : List It) (c : Code) (κ : Kn) (t : Sem Fin) (σ : Cells) : Out := rrun p fuel pl c κ t σ 0 0 [] [] []
theorem run1_eq (p : Pm) (fuel : Nat) (pl : List It) (c : Code) (κ : Kn) (t : Sem Fin) (σ : Cells) : run1 p fuel pl c κ t σ = rrun p fuel pl c κ t σ 0 0 [] [] [] := by unfold run1; rfl
theorem seg (fuel : Nat) (pl : List It) (b : List Bool) {σ' : Cells} {hd : Option Value} (G : Gd w h₀) (hh : A.handled = hd) (D : Rep h₀ h F σ)
    (h1 : (run1 (pm prog w hd h.objs.size tk) fuel pl c κ t σ).el = (run1 (pm prog w hd h.objs.size tk) fuel pl c κ t σ).er)
    (h2 : maskC b (run1 (pm prog w hd h.objs.size tk) fuel pl c κ t σ).σ = σ')
    (x : ∀ h' tk', Rep h₀ h' F σ' → h.objs.size ≤ h'.objs.size → Mn prog w A R (run1 (pm prog w hd h.objs.size tk) fuel pl c κ t σ).c (run1 (pm prog w hd h.objs.size tk) fuel pl c κ t σ).κ (run1 (pm prog w hd h.objs.size tk) fuel pl c κ t σ).t ⟨h', g, d, tk', os⟩) :
    Mn prog w A R c κ t ⟨h, g, d, tk, os⟩ := by
  refine rrun_sound (p := pm prog w hd h.objs.size tk) rfl hh G.top fuel 0 pl c κ t σ 0 0 [] [] ?_ h D rfl
  intro st hst
  rw [run1_eq] at h1 h2 x
  have e : st = [] := List.eq_nil_of_length_eq_zero hst
  subst e
  refine ⟨h1, fun h' D' hs => x h' _ (h2 ▸ D'.mask b) (by rw [hs]; exact Nat.le_add_right _ _)⟩

theorem sg (fuel : Nat) (pl : List It) (b : List Bool) {hd : Option Value} (G : Gd w h₀) (hh : A.handled = hd) (D : Rep h₀ h F σ)
    (h1 : (run1 (pm prog w hd h.objs.size tk) fuel pl c κ t σ).el = (run1 (pm prog w hd h.objs.size tk) fuel pl c κ t σ).er)
    (x : ∀ h' tk', Rep h₀ h' F (maskC b (run1 (pm prog w hd h.objs.size tk) fuel pl c κ t σ).σ) → Mn prog w A R (run1 (pm prog w hd h.objs.size tk) fuel pl c κ t σ).c (run1 (pm prog w hd h.objs.size tk) fuel pl c κ t σ).κ (run1 (pm prog w hd h.objs.size tk) fuel pl c κ t σ).t ⟨h', g, d, tk', os⟩) :
    Mn prog w A R c κ t ⟨h, g, d, tk, os⟩ := seg fuel pl b G hh D h1 rfl fun h' tk' D' _ => x h' tk' D'
@[irreducible] noncomputable def run1S (p : Pm) (fuel : Nat) (pl : List It) (c : Code) (κ : Kn) (t : Sem Fin) (σ : Cells) (y : Pos × List (Code × Pos)) : Out := rrun p fuel pl c κ t σ 0 0 [y] [] []
theorem run1S_eq (p : Pm) (fuel : Nat) (pl : List It) (c : Code) (κ : Kn) (t : Sem Fin) (σ : Cells) (y : Pos × List (Code × Pos)) : run1S p fuel pl c κ t σ y = rrun p fuel pl c κ t σ 0 0 [y] [] [] := by unfold run1S; rfl
/-- a segment in which the stack is asked once -/
theorem sgS (fuel : Nat) (pl : List It) (b : List Bool) {hd : Option Value} (G : Gd w h₀) (hh : A.handled = hd) (D : Rep h₀ h F σ)
    (h1 : ∀ y, (run1S (pm prog w hd h.objs.size tk) fuel pl c κ t σ y).el = (run1S (pm prog w hd h.objs.size tk) fuel pl c κ t σ y).er)
    (x : ∀ y h' tk', Rep h₀ h' F (maskC b (run1S (pm prog w hd h.objs.size tk) fuel pl c κ t σ y).σ) → Mn prog w A R (run1S (pm prog w hd h.objs.size tk) fuel pl c κ t σ y).c (run1S (pm prog w hd h.objs.size tk) fuel pl c κ t σ y).κ (run1S (pm prog w hd h.objs.size tk) fuel pl c κ t σ y).t ⟨h', g, d, tk', os⟩) :
    Mn prog w A R c κ t ⟨h, g, d, tk, os⟩ := by
  refine rrun_sound (p := pm prog w hd h.objs.size tk) rfl hh G.top fuel 1 pl c κ t σ 0 0 [] [] ?_ h D rfl
  intro st hst
  match st, hst with
  | [y], _ =>
    have h1 := h1 y
    have x := x y
    rw [run1S_eq] at h1 x
    exact ⟨h1, fun h' D' hs => x h' _ (D'.mask b)⟩
theorem Rep.eq {σ' : Cells} (D : Rep h₀ h F σ) (e : σ = σ') : Rep h₀ h F σ' := e ▸ D
theorem use_call {c' : Code} {hd : Option Value} (hc : callOf t = some (c', hd)) (hm : okM hd = true)
    (x : codeAny (model prog w) (((arnd A κ).under c).mark hd) c' (fun r s' => Mn prog w A R c κ (contOf t r) s') s) : Mn prog w A R c κ t s := by
  obtain ⟨g, l, e⟩ := callOf_eq hc
  rw [e]
  exact y_call _ _ _ _ _ _ _ _ _ _ _ _ _ (okM_ne hm) x
theorem use_any {f : Value} {pos : List Value} {kw : List (Str × Value)} (hc : callOf t = some (.call f ⟨pos, kw⟩, none))
    (x : wpAny (model prog w) ((arnd A κ).under c) (call f pos kw) (fun v s' => Mn prog w A R c κ (contOf t (.ok (.ret v))) s') (fun e s' => Mn prog w A R c κ (contOf t (.error e)) s') s) : Mn prog w A R c κ t s := by
  obtain ⟨g, l, e⟩ := callOf_eq hc
  rw [e]
  intro Γ p hΓc hΓ
  have z := x Γ p (hΓc ▸ hΓ.in)
  refine wpCode_mono ?_ z
  intro r s' q
  cases r with
  | ok fl =>
    cases fl with
    | ret v => exact q Γ p hΓc hΓ
    | _ => exact q.elim
  | error e => exact q Γ p hΓc hΓ
theorem end_done {f : Flow} (hk : κ = .base) (hc : doneOf t = some f) (x : R (.ok f) s) : Mn prog w A R c κ t s := by
  subst hk
  rw [doneOf_eq hc]
  exact y_pure _ _ _ _ _ _ _ _ _ (y_done _ _ _ _ _ _ x)
theorem end_raise {e : Value} (hk : κ = .base) (hc : raiseOf t = some e) (x : R (.error e) s) : Mn prog w A R c κ t s := by
  subst hk
  rw [raiseOf_eq hc]
  exact y_raise _ _ _ _ _ _ _ _ _ (y_err _ _ _ x)
theorem end_again {c' : Code} (hk : κ = .base) (hc : againOf t = some c') (hq : c'.quiet = true) (x : codeAny (model prog w) A c' R s) : Mn prog w A R c κ t s := by
  subst hk
  rw [againOf_eq hc]
  exact y_pure _ _ _ _ _ _ _ _ _ (y_again _ _ _ _ _ _ hq x)
noncomputable def isRet : Kn → Bool
  | .ret .. => true
  | .base => false
noncomputable def kc : Kn → Code
  | .ret c _ _ _ => c
  | .base => default
noncomputable def kk : Kn → Result → Sem Fin
  | .ret _ _ k _ => k
  | .base => fun _ => default
noncomputable def kr : Kn → Kn
  | .ret _ _ _ κ => κ
  | .base => .base
theorem use_again {c' : Code} (hc : againOf t = some c') (hq : c'.quiet = true) (hk : isRet κ = true)
    (x : codeAny (model prog w) (arnd A κ) c' (fun r s' => Mn prog w A R (kc κ) (kr κ) (kk κ r) s') s) : Mn prog w A R c κ t s := by
  rw [againOf_eq hc]
  cases κ with
  | base => cases hk
  | ret c₀ hd k κ' => exact y_pure _ _ _ _ _ _ _ _ _ (y_again _ _ _ _ _ _ hq x)
theorem use_bi {id : String} {args : Args} {B : Builtin} {S : PySem.Spec} (hb : entryFor table id = some B) (hp : plainId id = true) (m : Meets (B args) S) (hc : againOf t = some (.builtin id args)) (hk : isRet κ = true)
    (x : S (arnd A κ) (fun r s' => Mn prog w A R (kc κ) (kr κ) (kk κ r) s') s) : Mn prog w A R c κ t s := by
  refine use_again hc (plainId_quiet hp args) hk ?_
  refine codeAny_of_tree ?_
  rw [Around.under_plainId hp]
  show wpAny _ _ (match entryFor table id with | some b => b args | none => unsupported ((withoutEnding? id "#data").getD id)) _ _ s
  rw [hb]
  exact m prog w _ _ s x
theorem code_start (x : Mn prog w A R c .base (dn c) s) : codeAny (model prog w) A c R s := by
  refine y_code _ _ _ _ _ _ ?_
  rw [dn_eq]; exact x
theorem enter {c2 : Code} (ht : t = PySem.W.R.bindR (ZFast.enterX 0) (fun _ => .pure (.again c2))) (hq : c2.quiet = true) (hl : s.heap.NoLimit) (hd : ((arnd A κ).under c).depth < recursionLimit)
    (x : Mn prog w A R c2 κ (dn c2) s) : Mn prog w A R c κ t s := by
  subst ht
  have e1 : (PySem.W.R.bindR (ZFast.enterX 0) (fun _ => Sem.pure (Fin.again c2)) : Sem Fin) = Sem.bind enterFrame (fun _ => .pure (.again c2)) := by
    rw [← PySem.W.R.bindR_eq, ← ZFast.enterX_eq]
  rw [e1]
  refine wpOwn_bind (m := enterFrame) (wpOwn_of_wpAny (wpAny_enterFrame hl hd ?_))
  refine y_pure _ _ _ _ _ _ _ _ _ (y_again _ _ _ _ _ _ hq (y_code _ _ _ _ _ _ ?_))
  rw [dn_eq]; exact x
end
noncomputable def kdep : Kn → Code → Nat
  | .base, c => c.weight
  | .ret c₀ _ _ κ, c => kdep κ c₀ + c.weight
theorem arnd_depth (A : Around) : ∀ (κ : Kn) (c : Code), ((arnd A κ).under c).depth = A.depth + kdep κ c
  | .base, c => rfl
  | .ret c₀ hd k κ, c => by
    show (((arnd A κ).under c₀).mark hd).depth + c.weight = A.depth + (kdep κ c₀ + c.weight)
    have e : (((arnd A κ).under c₀).mark hd).depth = ((arnd A κ).under c₀).depth := rfl
    rw [e, arnd_depth A κ c₀, Nat.add_assoc]
/-- what a contract asks of the around: no exception is being handled, n frames may still be entered -/
structure Ok (A : Around) (n : Nat) : Prop where
  hd : A.handled = none
  dp : A.depth + n < recursionLimit
theorem Ok.call {A : Around} {n m : Nat} {κ : Kn} {c : Code} (o : Ok A n) (h1 : hnd none κ = none) (h2 : Nat.ble (kdep κ c + m) n = true) : Ok (((arnd A κ).under c).mark none) m := by
  refine ⟨?_, ?_⟩
  · show (none : Option Value).or ((arnd A κ).under c).handled = none
    have e : ((arnd A κ).under c).handled = (arnd A κ).handled := rfl
    rw [e, arnd_hnd, o.hd, h1]; rfl
  · have e : (((arnd A κ).under c).mark none).depth = ((arnd A κ).under c).depth := rfl
    rw [e, arnd_depth]
    have := o.dp
    have := Nat.le_of_ble_eq_true h2
    omega
theorem Ok.mono {A : Around} {n m : Nat} (o : Ok A n) (h : m ≤ n) : Ok A m := ⟨o.hd, by have := o.dp; omega⟩
theorem Ok.room {A : Around} {n : Nat} {κ : Kn} {c : Code} (o : Ok A n) (h2 : Nat.ble (kdep κ c) n = true) : ((arnd A κ).under c).depth < recursionLimit := by
  rw [arnd_depth]
  have := o.dp
  have := Nat.le_of_ble_eq_true h2
  omega
noncomputable def sEq (s t : String) : Bool := @decide (s = t) (PySem.W.S.strDecS s t)
/-- the world with three of its choices written out -/
noncomputable def wF (b1 b2 b3 : Bool) (w : World) : World :=
  { w with params := { w.params with followText := fun s => cond (sEq s "special-get-raises") b1 (cond (sEq s "comprehension-iter-twice") b2 (cond (sEq s "set-order") b3 (w.params.followText s))) } }
theorem sEq_iff (s t : String) : sEq s t = true ↔ s = t := by unfold sEq; exact @decide_eq_true_iff _ (PySem.W.S.strDecS s t)
theorem wF_self (w : World) : wF (w.params.followText "special-get-raises") (w.params.followText "comprehension-iter-twice") (w.params.followText "set-order") w = w := by
  have e : (fun s => cond (sEq s "special-get-raises") (w.params.followText "special-get-raises") (cond (sEq s "comprehension-iter-twice") (w.params.followText "comprehension-iter-twice") (cond (sEq s "set-order") (w.params.followText "set-order") (w.params.followText s)))) = w.params.followText := by
    funext s
    cases h1 : sEq s "special-get-raises" with
    | true => rw [(sEq_iff _ _).mp h1]; rfl
    | false =>
      cases h2 : sEq s "comprehension-iter-twice" with
      | true => rw [(sEq_iff _ _).mp h2]; rfl
      | false =>
        cases h3 : sEq s "set-order" with
        | true => rw [(sEq_iff _ _).mp h3]; rfl
        | false => rfl
  unfold wF
  rw [e]
noncomputable def hS (P : Params) (x : Str) : Int := ZFast.zw12210062019545310541 (P.strHash x.cps)
noncomputable def fd (P : Params) (a : Addr) : FuncData := match (T0 P).get a with
  | some ⟨_, _, .func f, _⟩ => f
  | _ => default
noncomputable def fcode (P : Params) (a L : Addr) : Code := match (fd P a).body with
  | .stmts b => .func b { scope := (fd P a).scope, locals := L, globals := 3, cells := [], qual := (fd P a).qualname ++ ".<locals>.", func := some a, code := (fd P a).code, frame := some L, builtins := 0 }
  | .expr e => .expr e default
noncomputable def fenv (P : Params) (a L : Addr) : Env := { scope := (fd P a).scope, locals := L, globals := 3, cells := [], qual := (fd P a).qualname ++ ".<locals>.", func := some a, code := (fd P a).code, frame := some L, builtins := 0 }
noncomputable def fstmt (P : Params) (a : Addr) (i : Nat) : Option Stmt := match (fd P a).body with
  | .stmts b => b[i]?
  | .expr _ => none
/-- the for statement i of the def a, at work -/
noncomputable def forC (P : Params) (a : Addr) (i : Nat) (it L : Addr) : Code := match fstmt P a i with
  | some (.For tgt _ body orelse _) => .forLoop tgt (.ref it) body orelse (fenv P a L)
  | _ => default
/-- what two runs must share -/
noncomputable def oLm (o o' : Out) : List Addr × List Addr × Code × Kn × Sem Fin × Cells := match o with
  | ⟨_, _, _, _, _, _, _, _, el, _⟩ => match o' with
    | ⟨_, c', κ', t', σ', _, _, _, el', _⟩ => (el, el', c', κ', t', σ')
noncomputable def oRm (o o' : Out) : List Addr × List Addr × Code × Kn × Sem Fin × Cells := match o with
  | ⟨_, c, κ, t, σ, _, _, _, _, er⟩ => match o' with
    | ⟨_, _, _, _, _, _, _, _, _, er'⟩ => (er, er', c, κ, t, σ)
theorem oEq {o o' : Out} (h : oLm o o' = oRm o o') : o.el = o.er ∧ o'.el = o'.er ∧ o'.c = o.c ∧ o'.κ = o.κ ∧ o'.t = o.t ∧ o'.σ = o.σ := by
  cases o; cases o'
  simpa only [oLm, oRm, Prod.mk.injEq] using h
section
variable {prog : Program} {w₀ : World} {b1 b2 b3 : Bool} {A : Around} {R : Result → Shared → Prop} {h₀ h : Heap} {F : List Addr} {σ : Cells} {g : Array GenState} {d : Drawn} {tk : Nat} {os : OsState} {c : Code} {κ : Kn} {t : Sem Fin}
/-- a segment walked once for both values of the first choice -/
theorem sg2 (fuel : Nat) (pl : List It) (b : List Bool) {hd : Option Value} (G : Gd (wF b1 b2 b3 w₀) h₀) (hh : A.handled = hd) (D : Rep h₀ h F σ)
    (h1 : oLm (run1 (pm prog (wF true b2 b3 w₀) hd h.objs.size tk) fuel pl c κ t σ) (run1 (pm prog (wF false b2 b3 w₀) hd h.objs.size tk) fuel pl c κ t σ) = oRm (run1 (pm prog (wF true b2 b3 w₀) hd h.objs.size tk) fuel pl c κ t σ) (run1 (pm prog (wF false b2 b3 w₀) hd h.objs.size tk) fuel pl c κ t σ))
    (x : ∀ h' tk', Rep h₀ h' F (maskC b (run1 (pm prog (wF true b2 b3 w₀) hd h.objs.size tk) fuel pl c κ t σ).σ) → Mn prog (wF b1 b2 b3 w₀) A R (run1 (pm prog (wF true b2 b3 w₀) hd h.objs.size tk) fuel pl c κ t σ).c (run1 (pm prog (wF true b2 b3 w₀) hd h.objs.size tk) fuel pl c κ t σ).κ (run1 (pm prog (wF true b2 b3 w₀) hd h.objs.size tk) fuel pl c κ t σ).t ⟨h', g, d, tk', os⟩) :
    Mn prog (wF b1 b2 b3 w₀) A R c κ t ⟨h, g, d, tk, os⟩ := by
  obtain ⟨e1, e2, e3, e4, e5, e6⟩ := oEq h1
  cases b1
  · refine sg fuel pl b G hh D e2 fun h' tk' D' => ?_
    rw [e3, e4, e5]
    rw [e6] at D'
    exact x h' tk' D'
  · exact sg fuel pl b G hh D e1 x
theorem sgS2 (fuel : Nat) (pl : List It) (b : List Bool) {hd : Option Value} (G : Gd (wF b1 b2 b3 w₀) h₀) (hh : A.handled = hd) (D : Rep h₀ h F σ)
    (h1 : ∀ y, oLm (run1S (pm prog (wF true b2 b3 w₀) hd h.objs.size tk) fuel pl c κ t σ y) (run1S (pm prog (wF false b2 b3 w₀) hd h.objs.size tk) fuel pl c κ t σ y) = oRm (run1S (pm prog (wF true b2 b3 w₀) hd h.objs.size tk) fuel pl c κ t σ y) (run1S (pm prog (wF false b2 b3 w₀) hd h.objs.size tk) fuel pl c κ t σ y))
    (x : ∀ y h' tk', Rep h₀ h' F (maskC b (run1S (pm prog (wF true b2 b3 w₀) hd h.objs.size tk) fuel pl c κ t σ y).σ) → Mn prog (wF b1 b2 b3 w₀) A R (run1S (pm prog (wF true b2 b3 w₀) hd h.objs.size tk) fuel pl c κ t σ y).c (run1S (pm prog (wF true b2 b3 w₀) hd h.objs.size tk) fuel pl c κ t σ y).κ (run1S (pm prog (wF true b2 b3 w₀) hd h.objs.size tk) fuel pl c κ t σ y).t ⟨h', g, d, tk', os⟩) :
    Mn prog (wF b1 b2 b3 w₀) A R c κ t ⟨h, g, d, tk, os⟩ := by
  cases b1
  · refine sgS fuel pl b G hh D (fun y => (oEq (h1 y)).2.1) fun y h' tk' D' => ?_
    obtain ⟨e1, e2, e3, e4, e5, e6⟩ := oEq (h1 y)
    rw [e3, e4, e5]
    rw [e6] at D'
    exact x y h' tk' D'
  · exact sgS fuel pl b G hh D (fun y => (oEq (h1 y)).1) x
/-- what is left behind a segment that ends at o, when e holds of it -/
structure SgP (prog : Program) (w : World) (A : Around) (R : Result → Shared → Prop) (h₀ : Heap) (F : List Addr) (g : Array GenState) (d : Drawn) (os : OsState) (b : List Bool) (e : Prop) (o : Out) : Prop where
  h1 : e
  x : ∀ h' tk', Rep h₀ h' F (maskC b o.σ) → Mn prog w A R o.c o.κ o.t ⟨h', g, d, tk', os⟩
noncomputable def oL2 (f : Bool → Out) : List Addr × List Addr × Code × Kn × Sem Fin × Cells := oLm (f true) (f false)
noncomputable def oR2 (f : Bool → Out) : List Addr × List Addr × Code × Kn × Sem Fin × Cells := oRm (f true) (f false)
/-- a segment; its end is named once -/
theorem sgL (fuel : Nat) (pl : List It) (b : List Bool) {hd : Option Value} {w : World} (G : Gd w h₀) (hh : A.handled = hd) (D : Rep h₀ h F σ)
    (H : let o := run1 (pm prog w hd h.objs.size tk) fuel pl c κ t σ; SgP prog w A R h₀ F g d os b (o.el = o.er) o) :
    Mn prog w A R c κ t ⟨h, g, d, tk, os⟩ := sg fuel pl b G hh D (SgP.h1 H) (SgP.x H)
theorem sg2L (fuel : Nat) (pl : List It) (b : List Bool) {hd : Option Value} (G : Gd (wF b1 b2 b3 w₀) h₀) (hh : A.handled = hd) (D : Rep h₀ h F σ)
    (H : let f : Bool → Out := fun q => run1 (pm prog (wF q b2 b3 w₀) hd h.objs.size tk) fuel pl c κ t σ; let o := f true; SgP prog (wF b1 b2 b3 w₀) A R h₀ F g d os b (oL2 f = oR2 f) o) :
    Mn prog (wF b1 b2 b3 w₀) A R c κ t ⟨h, g, d, tk, os⟩ := sg2 fuel pl b G hh D (SgP.h1 H) (SgP.x H)
theorem sgSL (fuel : Nat) (pl : List It) (b : List Bool) {hd : Option Value} {w : World} (G : Gd w h₀) (hh : A.handled = hd) (D : Rep h₀ h F σ)
    (H : ∀ y, let o := run1S (pm prog w hd h.objs.size tk) fuel pl c κ t σ y; SgP prog w A R h₀ F g d os b (o.el = o.er) o) :
    Mn prog w A R c κ t ⟨h, g, d, tk, os⟩ := sgS fuel pl b G hh D (fun y => SgP.h1 (H y)) fun y => SgP.x (H y)
theorem sgS2L (fuel : Nat) (pl : List It) (b : List Bool) {hd : Option Value} (G : Gd (wF b1 b2 b3 w₀) h₀) (hh : A.handled = hd) (D : Rep h₀ h F σ)
    (H : ∀ y, let f : Bool → Out := fun q => run1S (pm prog (wF q b2 b3 w₀) hd h.objs.size tk) fuel pl c κ t σ y; let o := f true; SgP prog (wF b1 b2 b3 w₀) A R h₀ F g d os b (oL2 f = oR2 f) o) :
    Mn prog (wF b1 b2 b3 w₀) A R c κ t ⟨h, g, d, tk, os⟩ := sgS2 fuel pl b G hh D (fun y => SgP.h1 (H y)) fun y => SgP.x (H y)
end
end Mine
end
section
open PySem PySem.W PySem.W.X PyProof.Rows
set_option Elab.async false
set_option maxRecDepth 100000
set_option maxHeartbeats 1000000
namespace Mine
noncomputable abbrev instO (C D : Addr) : Obj := ⟨.ref C, some D, .plain, #[]⟩
noncomputable abbrev dictO (es : Array DictEntry) (n : Nat) : Obj := ⟨.type "dict", none, .dict es n, #[]⟩
noncomputable abbrev listO (xs : Array Value) (n : Nat) : Obj := ⟨.type "list", none, .seq xs n, #[]⟩
noncomputable abbrev tupO (xs : Array Value) (n : Nat) : Obj := ⟨.type "tuple", none, .seq xs n, #[]⟩
noncomputable abbrev frameO (es : Array DictEntry) (n : Nat) : Obj := ⟨.type "frame", none, .dict es n, #[]⟩
noncomputable abbrev fieldsO (T : String) (vs : Array Value) : Obj := ⟨.type T, none, .fields vs, #[]⟩
noncomputable abbrev infoO (dx : Addr) (k : Int) (kt : Tok) (p : Int) (pt : Tok) (l : Addr) : Obj := ⟨.ref 47, some dx, .plain, #[some (.int k kt), some (.int p pt), some (.ref l)]⟩
noncomputable def s_self : Str := ⟨#[115, 101, 108, 102]⟩
noncomputable def s_node : Str := ⟨#[110, 111, 100, 101]⟩
noncomputable def s_node2info : Str := ⟨#[95, 110, 111, 100, 101, 50, 105, 110, 102, 111]⟩
noncomputable def s_ready : Str := ⟨#[95, 114, 101, 97, 100, 121, 95, 110, 111, 100, 101, 115]⟩
noncomputable def s_npassed : Str := ⟨#[95, 110, 112, 97, 115, 115, 101, 100, 111, 117, 116]⟩
noncomputable def s_nfin : Str := ⟨#[95, 110, 102, 105, 110, 105, 115, 104, 101, 100]⟩
noncomputable def s_graph : Str := ⟨#[103, 114, 97, 112, 104]⟩
noncomputable def s_result : Str := ⟨#[114, 101, 115, 117, 108, 116]⟩
noncomputable def s_preds : Str := ⟨#[112, 114, 101, 100, 101, 99, 101, 115, 115, 111, 114, 115]⟩
noncomputable def s_pred : Str := ⟨#[112, 114, 101, 100]⟩
noncomputable def s_pred_info : Str := ⟨#[112, 114, 101, 100, 95, 105, 110, 102, 111]⟩
noncomputable def s_nodeinfo : Str := ⟨#[110, 111, 100, 101, 105, 110, 102, 111]⟩
noncomputable def s_nodes : Str := ⟨#[110, 111, 100, 101, 115]⟩
noncomputable def s_n2i : Str := ⟨#[110, 50, 105]⟩
noncomputable def s_stat : Str := ⟨#[115, 116, 97, 116]⟩
noncomputable def s_successor : Str := ⟨#[115, 117, 99, 99, 101, 115, 115, 111, 114]⟩
noncomputable def s_successor_info : Str := ⟨#[115, 117, 99, 99, 101, 115, 115, 111, 114, 95, 105, 110, 102, 111]⟩
noncomputable def s_stack : Str := ⟨#[115, 116, 97, 99, 107]⟩
noncomputable def s_itstack : Str := ⟨#[105, 116, 115, 116, 97, 99, 107]⟩
noncomputable def s_seen : Str := ⟨#[115, 101, 101, 110]⟩
noncomputable def s_node2stacki : Str := ⟨#[110, 111, 100, 101, 50, 115, 116, 97, 99, 107, 105]⟩
noncomputable def s_cycle : Str := ⟨#[99, 121, 99, 108, 101]⟩
noncomputable def s_iterator : Str := ⟨#[105, 116, 101, 114, 97, 116, 111, 114]⟩
noncomputable def s_b : Str := ⟨#[98]⟩
noncomputable def s_val : Str := ⟨#[118, 97, 108]⟩
noncomputable def s_octets : Str := ⟨#[111, 99, 116, 101, 116, 115]⟩
noncomputable def s_place : Str := ⟨#[112, 108, 97, 99, 101]⟩
noncomputable def s_rest : Str := ⟨#[114, 101, 115, 116]⟩
noncomputable def s_value : Str := ⟨#[118, 97, 108, 117, 101]⟩
noncomputable def s_needs : Str := ⟨#[110, 101, 101, 100, 115]⟩
noncomputable def s_sorter : Str := ⟨#[115, 111, 114, 116, 101, 114]⟩
noncomputable def s_rounds : Str := ⟨#[114, 111, 117, 110, 100, 115]⟩
noncomputable def s_refused : Str := ⟨#[114, 101, 102, 117, 115, 101, 100]⟩
noncomputable def s_row : Str := ⟨#[114, 111, 119]⟩
noncomputable def s_rdy : Str := ⟨#[114, 101, 97, 100, 121]⟩
noncomputable def s_ends : Str := ⟨#[101, 110, 100, 115]⟩
noncomputable def s_k : Str := ⟨#[107]⟩
noncomputable def s_turn : Str := ⟨#[116, 117, 114, 110]⟩
noncomputable def s_script : Str := ⟨#[115, 99, 114, 105, 112, 116]⟩
noncomputable def s_size : Str := ⟨#[115, 105, 122, 101]⟩
noncomputable def s_last : Str := ⟨#[108, 97, 115, 116]⟩
noncomputable def s_told : Str := ⟨#[116, 111, 108, 100]⟩
noncomputable def s_behind : Str := ⟨#[98, 101, 104, 105, 110, 100]⟩
noncomputable def s_due : Str := ⟨#[100, 117, 101]⟩
noncomputable def s_one : Str := ⟨#[111, 110, 101]⟩
noncomputable def s_many : Str := ⟨#[109, 97, 110, 121]⟩
noncomputable def s_x : Str := ⟨#[120]⟩
noncomputable def s_i : Str := ⟨#[105]⟩
end Mine
namespace Mine
structure SA where
  h1 : Int
  h2 : Int
  h3 : Int
  h4 : Int
  t1 : PySem.Tok
  t2 : PySem.Tok
  t3 : PySem.Tok
  t4 : PySem.Tok
noncomputable def attrs (a : SA) (N : Addr) (r : PySem.Value) (np nf : PySem.Value) : Array PySem.DictEntry := #[⟨a.h1, .str s_node2info a.t1, .ref N⟩, ⟨a.h2, .str s_ready a.t2, r⟩, ⟨a.h3, .str s_npassed a.t3, np⟩, ⟨a.h4, .str s_nfin a.t4, nf⟩]
end Mine
end
section
open PySem PySem.W PySem.W.X PyProof.Rows
set_option Elab.async false
set_option maxRecDepth 100000
set_option maxHeartbeats 1000000
namespace Mine
theorem e_dict_get : entryFor table "dict.get" = some Builtin.«dict.get» := by first | exact PySem.entry_dict_get | exact PySem.F.entry_dict_get
theorem e_dict_getitem : entryFor table "dict.__getitem__" = some Builtin.«dict.__getitem__» := by first | exact PySem.entry_dict_getitem | exact PySem.F.entry_dict_getitem
theorem e_dict_setitem : entryFor table "dict.__setitem__" = some Builtin.«dict.__setitem__» := by first | exact PySem.entry_dict_setitem | exact PySem.F.entry_dict_setitem
theorem e_dict_contains : entryFor table "dict.__contains__" = some Builtin.«dict.__contains__» := by first | exact PySem.entry_dict_contains | exact PySem.F.entry_dict_contains
theorem e_dict_delitem : entryFor table "dict.__delitem__" = some Builtin.«dict.__delitem__» := by first | exact PySem.entry_dict_delitem | exact PySem.F.entry_dict_delitem
theorem e_list_append : entryFor table "list.append" = some Builtin.«list.append» := by first | exact PySem.entry_list_append | exact PySem.F.entry_list_append
theorem e_list_pop : entryFor table "list.pop" = some Builtin.«list.pop» := by first | exact PySem.entry_list_pop | exact PySem.F.entry_list_pop
theorem e_list_clear : entryFor table "list.clear" = some Builtin.«list.clear» := by first | exact PySem.entry_list_clear | exact PySem.F.entry_list_clear
theorem e_list_iterator_next : entryFor table "list_iterator.__next__" = some Builtin.«list_iterator.__next__» := by first | exact PySem.entry_listiter_next | exact PySem.F.entry_listiter_next
theorem e_tuple_iterator_next : entryFor table "tuple_iterator.__next__" = some Builtin.«tuple_iterator.__next__» := by first | exact PySem.entry_tuple_iterator_next | exact PySem.F.entry_tuple_iterator_next
theorem e_list_getitem : entryFor table "list.__getitem__" = some Builtin.«list.__getitem__» := by first | exact PySem.entry_list_getitem | exact PySem.F.entry_list_getitem
theorem e_list_iadd : entryFor table "list.__iadd__" = some Builtin.«list.__iadd__» := by first | exact PySem.entry_list_iadd | exact PySem.F.entry_list_iadd
theorem p_dict_get : plainId "dict.get" = true := by decide +kernel
theorem p_dict_getitem : plainId "dict.__getitem__" = true := by decide +kernel
theorem p_dict_setitem : plainId "dict.__setitem__" = true := by decide +kernel
theorem p_dict_contains : plainId "dict.__contains__" = true := by decide +kernel
theorem p_dict_delitem : plainId "dict.__delitem__" = true := by decide +kernel
theorem p_list_append : plainId "list.append" = true := by decide +kernel
theorem p_list_pop : plainId "list.pop" = true := by decide +kernel
theorem p_list_clear : plainId "list.clear" = true := by decide +kernel
theorem p_list_iterator_next : plainId "list_iterator.__next__" = true := by decide +kernel
theorem p_tuple_iterator_next : plainId "tuple_iterator.__next__" = true := by decide +kernel
theorem p_dict_keyiterator_next : plainId "dict_keyiterator.__next__" = true := by decide +kernel
theorem p_dict_valueiterator_next : plainId "dict_valueiterator.__next__" = true := by decide +kernel
theorem p_set_contains : plainId "set.__contains__" = true := by decide +kernel
theorem p_set_add : plainId "set.add" = true := by decide +kernel
theorem p_list_iadd : plainId "list.__iadd__" = true := by decide +kernel
theorem p_list_getitem : plainId "list.__getitem__" = true := by decide +kernel
theorem p_range_iterator_next : plainId "range_iterator.__next__" = true := by decide +kernel
theorem p_list_add : plainId "list.__add__" = true := by decide +kernel
theorem m_append (l : Addr) (items : Array Value) (n : Nat) (x : Value) (hs1 : items.size ≤ sizeLine) :
    Meets (Builtin.«list.append» ⟨[.ref l, x], []⟩) (fun _ R s => s.heap.get? l = some (listO items n) ∧ R (.ok (.ret Value.none)) { s with heap := s.heap.update l (Obj.mapSeq fun y => y.push x) }) :=
  .of_wp fun prog w A R s h => by
    obtain ⟨hp, g, d, tk, os⟩ := s; obtain ⟨hl, h⟩ := h
    have hz' : (items.push x).size ≤ sizeLine + 1 := by rw [Array.size_push]; omega
    wp_walk using (wpAny_updateSeq hl rfl (hz := hs1) (_hz' := hz')), wpAny_loadPart' hl
    exact ⟨_, rfl, h⟩
/-- what a dict of int keys says under k -/
noncomputable def dlook (es : Array DictEntry) (k : Int) : Option Value := findBy Value.isInt es k
theorem mapOf {prog : Program} {w : World} {h : Heap} {d : Addr} {es : Array DictEntry} {ep : Nat} (ho : h.get? d = some (dictO es ep)) (hk : PySem.IntKeys es) : h.MapOf (intKind prog w) d (dlook es) :=
  ⟨_, es, ep, ho, ⟨rfl, rfl, rfl⟩, rfl, fun e he => by
    obtain ⟨k, t, h1, h2⟩ := hk e he
    exact ⟨k, by rw [h1]; simp [intKind, Value.isInt], h2⟩, fun _ => rfl⟩
theorem m_dget (d : Addr) (es : Array DictEntry) (ep : Nat) (k : Int) (t : Tok) (hk : PySem.IntKeys es) (hd : (d == sysModules) = false) :
    Meets (Builtin.«dict.get» ⟨[.ref d, .int k t], []⟩) (fun _ R s => s.heap.get? d = some (dictO es ep) ∧ R (.ok (.ret ((dlook es k).getD .none))) { s with toks := s.toks + 1 }) :=
  fun prog w A R s h => meets_dict_get (intKind prog w) d (intKind_is prog w k t) hd A R s ⟨_, mapOf h.1 hk, h.2⟩
theorem m_dhas (d : Addr) (es : Array DictEntry) (ep : Nat) (k : Int) (t : Tok) (hk : PySem.IntKeys es) (hd : (d == sysModules) = false) :
    Meets (Builtin.«dict.__contains__» ⟨[.ref d, .int k t], []⟩) (fun _ R s => s.heap.get? d = some (dictO es ep) ∧ R (.ok (.ret (.bool (dlook es k).isSome))) { s with toks := s.toks + 1 }) :=
  fun prog w A R s h => meets_dict_contains (intKind prog w) d (intKind_is prog w k t) hd A R s ⟨_, mapOf h.1 hk, h.2⟩
theorem m_ditem (d : Addr) (es : Array DictEntry) (ep : Nat) (k : Int) (t : Tok) (v : Value) (hk : PySem.IntKeys es) (hv : dlook es k = some v) :
    Meets (Builtin.«dict.__getitem__» ⟨[.ref d, .int k t], []⟩) (fun _ R s => s.heap.get? d = some (dictO es ep) ∧ R (.ok (.ret v)) { s with toks := s.toks + 1 }) :=
  fun prog w A R s h => meets_dict_getitem (intKind prog w) d (intKind_is prog w k t) A R s ⟨_, v, mapOf h.1 hk, hv, h.2⟩
theorem findIdx_none {es : Array DictEntry} {k : Int} (hn : dlook es k = none) : (es.findIdx? fun e => Value.isInt k e.key) = none := by
  cases hi : es.findIdx? fun e => Value.isInt k e.key with
  | none => rfl
  | some i =>
    unfold dlook at hn
    rw [findBy_of_findIdx?, hi] at hn
    have hlt : i < es.size := (Array.findIdx?_eq_some_iff_findIdx_eq.mp hi).1
    simp only [Array.getElem?_eq_getElem hlt, Option.map_some] at hn
    cases hn
theorem wp_dset {prog : Program} {w : World} {A : Around} {E : Value → Shared → Prop} {s : Shared} {d : Addr} {es : Array DictEntry} {ep : Nat} {k : Int} {t : Tok} {v : Value} {Q : Unit → Shared → Prop}
    (ho : s.heap.get? d = some (dictO es ep)) (hk : PySem.IntKeys es) (hn : dlook es k = none) (hz : es.size ≤ sizeLine)
    (h : Q () { s with heap := s.heap.update d (Obj.mapDictKeys fun x => x.push ⟨hashInt k, .int k t, v⟩), toks := s.toks + 1 }) :
    wpAny (model prog w) A (dictSet d (.int k t) v) Q E s := by
  unfold dictSet
  try with_reducible refine wpAny_holding ?_
  refine wpAny_bind (wpAny_pyHash_int ?_)
  unfold dictSetHashed
  try with_reducible refine wpAny_holding ?_
  refine wpAny_bind (wpAny_dictFind_int (s := { s with toks := s.toks + 1 }) ho rfl hk ?_)
  rw [findIdx_none hn]
  exact wpAny_bind (wpAny_rule (wpAny_updateDictKeys (hz := hz) (s := { s with toks := s.toks + 1 }) ho rfl h))
theorem m_dset (d : Addr) (es : Array DictEntry) (ep : Nat) (k : Int) (t : Tok) (v : Value) (hk : PySem.IntKeys es) (hn : dlook es k = none) (hz : es.size ≤ sizeLine) :
    Meets (Builtin.«dict.__setitem__» ⟨[.ref d, .int k t, v], []⟩) (fun _ R s => s.heap.get? d = some (dictO es ep) ∧
      R (.ok (.ret .none)) { s with heap := s.heap.update d (Obj.mapDictKeys fun x => x.push ⟨hashInt k, .int k t, v⟩), toks := s.toks + 1 }) :=
  .of_wp fun prog w A R s h => by
    have ht : s.TypeIs (.ref d) "dict" := ⟨_, h.1, rfl⟩
    show wpAny _ _ (Builtin.Dict.notOrdered "__setitem__" ⟨[.ref d, .int k t, v], []⟩ >>= _) _ _ s
    refine wpAny_bind (wpAny_notOrdered_dict ht ?_)
    show wpAny _ _ (dictSet d (.int k t) v >>= _) _ _ s
    exact wpAny_bind (wp_dset h.1 hk hn hz (wpAny_pure ⟨.none, rfl, h.2⟩))
section
variable {prog : Program} {w : World} {A : Around} {R : Result → Shared → Prop} {h₀ h : Heap} {F : List Addr} {σ : Cells} {g : Array GenState} {d : Drawn} {tk : Nat} {os : OsState} {c : Code} {κ : Kn} {t : Sem Fin}
theorem u_dget (D : Rep h₀ h F σ) (j : Nat) {N : Addr} {es : Array DictEntry} {ep : Nat} {k : Int} {u : Tok} (hj : nth σ j = some (N, dictO es ep)) (hk : PySem.IntKeys es) (hc : againOf t = some (.builtin "dict.get" ⟨[.ref N, .int k u], []⟩)) (hr : isRet κ = true)
    (x : Mn prog w A R (kc κ) (kr κ) (kk κ (.ok (.ret ((dlook es k).getD .none)))) ⟨h, g, d, tk + 1, os⟩) : Mn prog w A R c κ t ⟨h, g, d, tk, os⟩ :=
  use_bi e_dict_get p_dict_get (m_dget N es ep k u hk (D.ne_sys j hj)) hc hr ⟨D.cell j hj, x⟩
theorem u_dhas (D : Rep h₀ h F σ) (j : Nat) {N : Addr} {es : Array DictEntry} {ep : Nat} {k : Int} {u : Tok} (hj : nth σ j = some (N, dictO es ep)) (hk : PySem.IntKeys es) (hc : againOf t = some (.builtin "dict.__contains__" ⟨[.ref N, .int k u], []⟩)) (hr : isRet κ = true)
    (x : Mn prog w A R (kc κ) (kr κ) (kk κ (.ok (.ret (.bool (dlook es k).isSome)))) ⟨h, g, d, tk + 1, os⟩) : Mn prog w A R c κ t ⟨h, g, d, tk, os⟩ :=
  use_bi e_dict_contains p_dict_contains (m_dhas N es ep k u hk (D.ne_sys j hj)) hc hr ⟨D.cell j hj, x⟩
theorem u_ditem (D : Rep h₀ h F σ) (j : Nat) {N : Addr} {es : Array DictEntry} {ep : Nat} {k : Int} {u : Tok} {v : Value} (hj : nth σ j = some (N, dictO es ep)) (hk : PySem.IntKeys es) (hv : dlook es k = some v) (hc : againOf t = some (.builtin "dict.__getitem__" ⟨[.ref N, .int k u], []⟩)) (hr : isRet κ = true)
    (x : Mn prog w A R (kc κ) (kr κ) (kk κ (.ok (.ret v))) ⟨h, g, d, tk + 1, os⟩) : Mn prog w A R c κ t ⟨h, g, d, tk, os⟩ :=
  use_bi e_dict_getitem p_dict_getitem (m_ditem N es ep k u v hk hv) hc hr ⟨D.cell j hj, x⟩
theorem u_dset (D : Rep h₀ h F σ) (j : Nat) {N : Addr} {es : Array DictEntry} {ep : Nat} {k : Int} {u : Tok} {v : Value} (hj : nth σ j = some (N, dictO es ep)) (hk : PySem.IntKeys es) (hn : dlook es k = none) (hz : es.size ≤ sizeLine) (hc : againOf t = some (.builtin "dict.__setitem__" ⟨[.ref N, .int k u, v], []⟩)) (hr : isRet κ = true)
    (x : ∀ h', Rep h₀ h' F (setNth σ j (N, dictO (es.push ⟨hashInt k, .int k u, v⟩) (ep + 1))) → Mn prog w A R (kc κ) (kr κ) (kk κ (.ok (.ret .none))) ⟨h', g, d, tk + 1, os⟩) : Mn prog w A R c κ t ⟨h, g, d, tk, os⟩ :=
  use_bi e_dict_setitem p_dict_setitem (m_dset N es ep k u v hk hn hz) hc hr ⟨D.cell j hj, x _ (D.update (f := Obj.mapDictKeys fun x => x.push ⟨hashInt k, .int k u, v⟩) hj rfl)⟩
theorem mapSeq_push (items : Array Value) (n : Nat) (v : Value) : Obj.mapSeq (fun y => y.push v) (listO items n) = listO (items.push v) (n + 1) := by
  simp [Obj.mapSeq]
theorem u_append (D : Rep h₀ h F σ) (j : Nat) {l : Addr} {items : Array Value} {n : Nat} {v : Value} (hj : nth σ j = some (l, listO items n)) (hz : items.size ≤ sizeLine) (hc : againOf t = some (.builtin "list.append" ⟨[.ref l, v], []⟩)) (hr : isRet κ = true)
    (x : ∀ h', Rep h₀ h' F (setNth σ j (l, listO (items.push v) (n + 1))) → Mn prog w A R (kc κ) (kr κ) (kk κ (.ok (.ret .none))) ⟨h', g, d, tk, os⟩) : Mn prog w A R c κ t ⟨h, g, d, tk, os⟩ :=
  use_bi e_list_append p_list_append (m_append l items n v hz) hc hr ⟨D.cell j hj, x _ (by
    have z := D.update (f := Obj.mapSeq fun y => y.push v) hj rfl
    rw [mapSeq_push] at z
    exact z)⟩
theorem c_lenL (D : Rep h₀ h F σ) (j : Nat) {l : Addr} {items : Array Value} {n : Nat} (hj : nth σ j = some (l, listO items n)) (hz : items.size ≤ 1000)
    (x : R (.ok (.ret (.int items.size (tk + 1)))) ⟨h, g, d, tk + 2, os⟩) : codeAny (model prog w) A (.builtin "len" ⟨[.ref l], []⟩) R ⟨h, g, d, tk, os⟩ := by
  refine codeAny_builtin entry_len ?_
  have hl : (⟨h, g, d, tk, os⟩ : Shared).heap.IsList l items := ⟨_, D.cell j hj, rfl, n, rfl⟩
  refine wpAny_mono (wpAny_len_body_list (E := fun e s' => R (.error e) s') (Q := fun r s' => R (.ok (.ret r)) s') hl (by omega) x) (fun fin s' h' => ?_) fun _ _ e => ?_
  · obtain ⟨r, rfl, hq⟩ := h'; exact hq
  · exact e
theorem c_lenT (D : Rep h₀ h F σ) (j : Nat) {l : Addr} {items : Array Value} {n : Nat} (hj : nth σ j = some (l, tupO items n)) (hz : items.size ≤ 1000)
    (x : R (.ok (.ret (.int items.size (tk + 1)))) ⟨h, g, d, tk + 2, os⟩) : codeAny (model prog w) A (.builtin "len" ⟨[.ref l], []⟩) R ⟨h, g, d, tk, os⟩ := by
  refine codeAny_builtin entry_len ?_
  have ho := D.cell j hj
  have hT : (⟨h, g, d, tk, os⟩ : Shared).TypeIs (.ref l) "tuple" := ⟨_, ho, rfl⟩
  have hlt : ((items.size : Nat) : Int) < 2 ^ 63 := by omega
  unfold Builtin.«len»
  refine wpAny_bind (m := oneArg "len" _) (wpAny_pure ?_)
  refine wpAny_bind (m := callSpecial? (.ref l) (Str.ofString "__len__")) (wpAny_callSpecial?_slot (name := Str.ofString "__len__") hT PySem.F.slot_tuple_len
    (wpAny_call_entry PySem.F.slot_tuple_len hT PySem.F.entry_tuple_len ?_ (PySem.F.args_tuple_len_1 _)))
  · wp_walk using wpAny_loadPart' ho
    refine ⟨_, rfl, ?_⟩
    refine wpAny_bind (wpAny_holding (wpAny_pure ?_))
    refine wpAny_bind (wpAny_letGo ?_)
    show wpAny _ _ (if ((items.size : Nat) : Int) < 0 then _ else _) _ _ _
    rw [if_neg (by omega)]
    show wpAny _ _ (if ((items.size : Nat) : Int) ≥ 2 ^ 63 then _ else _) _ _ _
    rw [if_neg (by omega)]
    exact wpAny_bind (wpAny_mkInt (wpAny_pure x))
end
end Mine
end
section
open PySem PySem.W PySem.W.X PyProof.Rows
set_option Elab.async false
set_option maxRecDepth 100000
set_option maxHeartbeats 1000000
namespace Mine
noncomputable abbrev stopO (E0 : Addr) : Obj := fieldsO "StopIteration" #[.ref E0, .none, .none, .none, .bool false, .none]
theorem stop_fields (v : Value) : (#[v, .none, .none, .none, .bool false, if ((Manifest.find? "StopIteration").elim false fun t => t.mro.contains "StopIteration" || t.mro.contains "SystemExit") = true then ([] : List Value).headD Value.none else Value.none] ++ ownMembersOf (Value.type "StopIteration") [] : Array Value) = #[v, .none, .none, .none, .bool false, .none] := by
  have e : ownMembersOf (Value.type "StopIteration") [] = #[] := by kernel_rfl
  rw [e]
  simp
noncomputable abbrev itO (T : String) (l : Value) (i : Nat) : Obj := fieldsO T #[l, .int i 0]
theorem m_tnext (it T : Addr) (items : Array Value) (n i : Nat) (v : Value) (hv : items[i]? = some v) :
    Meets (Builtin.«tuple_iterator.__next__» ⟨[.ref it], []⟩) (fun _ R s => s.heap.get? it = some (itO "tuple_iterator" (.ref T) i) ∧ s.heap.get? T = some (tupO items n) ∧
      R (.ok (.ret v)) { s with heap := s.heap.update it (Obj.mapFields fun x => x.setIfInBounds 1 (.int (i + 1 : Int) 0)) }) :=
  .of_wp fun prog w A R s h => by
    obtain ⟨hp, g, d, tk, os⟩ := s; obtain ⟨h1, h2, h⟩ := h
    have hv' : items[(i : Int).toNat]? = some v := by simpa using hv
    wp_walk using wpAny_loadPart' h1, wpAny_loadPart' h2
    rw [hv']
    wp_walk using wpAny_loadPart' h1, wpAny_loadPart' h2
    exact ⟨_, rfl, h⟩
theorem m_tstop (it T : Addr) (items : Array Value) (n i : Nat) (hv : items[i]? = none) :
    Meets (Builtin.«tuple_iterator.__next__» ⟨[.ref it], []⟩) (fun A R s => A.handled = none ∧ s.heap.get? it = some (itO "tuple_iterator" (.ref T) i) ∧ s.heap.get? T = some (tupO items n) ∧
      R (.error (.ref (s.heap.objs.size + 1))) { s with heap := ((s.heap.update it (Obj.mapFields fun x => x.setIfInBounds 0 .none)).push (tupO #[] 0)).push (stopO s.heap.objs.size) }) :=
  .of_wp fun prog w A R s h => by
    obtain ⟨hp, g, d, tk, os⟩ := s; obtain ⟨hA, h1, h2, h⟩ := h
    have hv' : items[(i : Int).toNat]? = none := by simpa using hv
    wp_walk using wpAny_loadPart' h1, wpAny_loadPart' h2
    rw [hv']
    have hA' : A.in1.handled = none := hA
    wp_walk using wpAny_loadPart' h1, wpAny_loadPart' h2
    unfold raiseNew
    wp_walk using wpAny_loadPart' h1, wpAny_loadPart' h2
    have e1 : (hp.update it (Obj.mapFields fun x => x.setIfInBounds 0 Value.none)).objs.size = hp.objs.size := Heap.size_update ..
    have e2 : ((hp.update it (Obj.mapFields fun x => x.setIfInBounds 0 Value.none)).push { cls := Value.type "tuple", data := Data.seq #[] }).objs.size = hp.objs.size + 1 := by rw [Heap.size_push, e1]
    rw [e1, e2, stop_fields]
    exact h
theorem m_lnext (it T : Addr) (items : Array Value) (n i : Nat) (v : Value) (hv : items[i]? = some v) :
    Meets (Builtin.«list_iterator.__next__» ⟨[.ref it], []⟩) (fun _ R s => s.heap.get? it = some (itO "list_iterator" (.ref T) i) ∧ s.heap.get? T = some (listO items n) ∧
      R (.ok (.ret v)) { s with heap := s.heap.update it (Obj.mapFields fun x => x.setIfInBounds 1 (.int (i + 1 : Int) 0)) }) :=
  .of_wp fun prog w A R s h => by
    obtain ⟨hp, g, d, tk, os⟩ := s; obtain ⟨h1, h2, h⟩ := h
    have hv' : items[(i : Int).toNat]? = some v := by simpa using hv
    wp_walk using wpAny_loadPart' h1, wpAny_loadPart' h2
    rw [hv']
    wp_walk using wpAny_loadPart' h1, wpAny_loadPart' h2
    exact ⟨_, rfl, h⟩
theorem m_lstop (it T : Addr) (items : Array Value) (n i : Nat) (hv : items[i]? = none) :
    Meets (Builtin.«list_iterator.__next__» ⟨[.ref it], []⟩) (fun A R s => A.handled = none ∧ s.heap.get? it = some (itO "list_iterator" (.ref T) i) ∧ s.heap.get? T = some (listO items n) ∧
      R (.error (.ref (s.heap.objs.size + 1))) { s with heap := ((s.heap.update it (Obj.mapFields fun x => x.setIfInBounds 0 .none)).push (tupO #[] 0)).push (stopO s.heap.objs.size) }) :=
  .of_wp fun prog w A R s h => by
    obtain ⟨hp, g, d, tk, os⟩ := s; obtain ⟨hA, h1, h2, h⟩ := h
    have hv' : items[(i : Int).toNat]? = none := by simpa using hv
    wp_walk using wpAny_loadPart' h1, wpAny_loadPart' h2
    rw [hv']
    have hA' : A.in1.handled = none := hA
    wp_walk using wpAny_loadPart' h1, wpAny_loadPart' h2
    unfold raiseNew
    wp_walk using wpAny_loadPart' h1, wpAny_loadPart' h2
    have e1 : (hp.update it (Obj.mapFields fun x => x.setIfInBounds 0 Value.none)).objs.size = hp.objs.size := Heap.size_update ..
    have e2 : ((hp.update it (Obj.mapFields fun x => x.setIfInBounds 0 Value.none)).push { cls := Value.type "tuple", data := Data.seq #[] }).objs.size = hp.objs.size + 1 := by rw [Heap.size_push, e1]
    rw [e1, e2, stop_fields]
    exact h
section
variable {prog : Program} {w : World} {A : Around} {R : Result → Shared → Prop} {h₀ h : Heap} {F : List Addr} {σ : Cells} {g : Array GenState} {d : Drawn} {tk : Nat} {os : OsState} {c : Code} {κ : Kn} {t : Sem Fin}
theorem Rep.keeps {h' : Heap} (D : Rep h₀ h F σ) (hk : ∀ b o, h.get? b = some o → h'.get? b = some o) (j : Nat) {L : Addr} {o : Obj} (hj : nth σ j = some (L, o)) (hL : h₀.objs.size ≤ L) : Rep h₀ h' F σ :=
  ⟨fun b o e hb => hk b o (D.keep b o e hb), fun p hp => hk _ _ (D.at_ p hp), D.nodup, D.own, Nat.le_of_lt (Nat.lt_of_le_of_lt hL (Heap.lt_size (hk _ _ (D.cell j hj)))), D.lo, D.base⟩
theorem u_tuple (D : Rep h₀ h F σ) (j : Nat) {l : Addr} {items : Array Value} {n : Nat} (hj : nth σ j = some (l, listO items n)) (jL : Nat) {L : Addr} {oL : Obj} (hL : nth σ jL = some (L, oL)) (hb : h₀.objs.size ≤ L) (hz : items.size ≤ sizeLine) (hc : callOf t = some (.call (.type "tuple") ⟨[.ref l], []⟩, none))
    (x : ∀ h' T, Rep h₀ h' F ((T, tupO items 0) :: σ) → Mn prog w A R c κ (contOf t (.ok (.ret (.ref T)))) ⟨h', g, d, tk, os⟩) : Mn prog w A R c κ t ⟨h, g, d, tk, os⟩ := by
  refine use_any hc (call_tuple_list (s := ⟨h, g, d, tk, os⟩) ⟨_, D.cell j hj, rfl, n, rfl⟩ (fun h' hk => ?_) hz)
  exact x _ _ ((D.keeps hk jL hL hb).alloc rfl)
theorem u_tnext (D : Rep h₀ h F σ) (j : Nat) {it T : Addr} {items : Array Value} {n i : Nat} {v : Value} (hj : nth σ j = some (it, itO "tuple_iterator" (.ref T) i)) (jt : Nat) (ht : nth σ jt = some (T, tupO items n)) (hv : items[i]? = some v) (hc : againOf t = some (.builtin "tuple_iterator.__next__" ⟨[.ref it], []⟩)) (hr : isRet κ = true)
    (x : ∀ h', Rep h₀ h' F (setNth σ j (it, itO "tuple_iterator" (.ref T) (i + 1))) → Mn prog w A R (kc κ) (kr κ) (kk κ (.ok (.ret v))) ⟨h', g, d, tk, os⟩) : Mn prog w A R c κ t ⟨h, g, d, tk, os⟩ :=
  use_bi e_tuple_iterator_next p_tuple_iterator_next (m_tnext it T items n i v hv) hc hr ⟨D.cell j hj, D.cell jt ht, x _ (D.update (f := Obj.mapFields fun x => x.setIfInBounds 1 (.int (i + 1 : Int) 0)) hj rfl)⟩
theorem u_tstop (D : Rep h₀ h F σ) (j : Nat) {it T : Addr} {items : Array Value} {n i : Nat} (hj : nth σ j = some (it, itO "tuple_iterator" (.ref T) i)) (jt : Nat) (ht : nth σ jt = some (T, tupO items n)) (hv : items[i]? = none) (hA : A.handled = none) (hk : hnd none κ = none) (hc : againOf t = some (.builtin "tuple_iterator.__next__" ⟨[.ref it], []⟩)) (hr : isRet κ = true)
    (x : ∀ h' E E0, Rep h₀ h' F ((E, stopO E0) :: (E0, tupO #[] 0) :: setNth σ j (it, itO "tuple_iterator" .none i)) → Mn prog w A R (kc κ) (kr κ) (kk κ (.error (.ref E))) ⟨h', g, d, tk, os⟩) : Mn prog w A R c κ t ⟨h, g, d, tk, os⟩ := by
  refine use_bi e_tuple_iterator_next p_tuple_iterator_next (m_tstop it T items n i hv) hc hr ⟨by rw [arnd_hnd, hA]; exact hk, D.cell j hj, D.cell jt ht, ?_⟩
  have D1 := D.update (f := Obj.mapFields fun x => x.setIfInBounds 0 .none) hj rfl
  have D2 := D1.alloc (o := tupO #[] 0) rfl
  have D3 := D2.alloc (o := stopO h.objs.size) rfl
  have e1 : (h.update it (Obj.mapFields fun x => x.setIfInBounds 0 Value.none)).objs.size = h.objs.size := Heap.size_update ..
  have e2 : ((h.update it (Obj.mapFields fun x => x.setIfInBounds 0 Value.none)).push (tupO #[] 0)).objs.size = h.objs.size + 1 := by rw [Heap.size_push, e1]
  rw [e2, e1] at D3
  exact x _ _ _ D3
theorem u_lnext (D : Rep h₀ h F σ) (j : Nat) {it T : Addr} {items : Array Value} {n i : Nat} {v : Value} (hj : nth σ j = some (it, itO "list_iterator" (.ref T) i)) (jt : Nat) (ht : nth σ jt = some (T, listO items n)) (hv : items[i]? = some v) (hc : againOf t = some (.builtin "list_iterator.__next__" ⟨[.ref it], []⟩)) (hr : isRet κ = true)
    (x : ∀ h', Rep h₀ h' F (setNth σ j (it, itO "list_iterator" (.ref T) (i + 1))) → Mn prog w A R (kc κ) (kr κ) (kk κ (.ok (.ret v))) ⟨h', g, d, tk, os⟩) : Mn prog w A R c κ t ⟨h, g, d, tk, os⟩ :=
  use_bi e_list_iterator_next p_list_iterator_next (m_lnext it T items n i v hv) hc hr ⟨D.cell j hj, D.cell jt ht, x _ (D.update (f := Obj.mapFields fun x => x.setIfInBounds 1 (.int (i + 1 : Int) 0)) hj rfl)⟩
theorem u_lstop (D : Rep h₀ h F σ) (j : Nat) {it T : Addr} {items : Array Value} {n i : Nat} (hj : nth σ j = some (it, itO "list_iterator" (.ref T) i)) (jt : Nat) (ht : nth σ jt = some (T, listO items n)) (hv : items[i]? = none) (hA : A.handled = none) (hk : hnd none κ = none) (hc : againOf t = some (.builtin "list_iterator.__next__" ⟨[.ref it], []⟩)) (hr : isRet κ = true)
    (x : ∀ h' E E0, Rep h₀ h' F ((E, stopO E0) :: (E0, tupO #[] 0) :: setNth σ j (it, itO "list_iterator" .none i)) → Mn prog w A R (kc κ) (kr κ) (kk κ (.error (.ref E))) ⟨h', g, d, tk, os⟩) : Mn prog w A R c κ t ⟨h, g, d, tk, os⟩ := by
  refine use_bi e_list_iterator_next p_list_iterator_next (m_lstop it T items n i hv) hc hr ⟨by rw [arnd_hnd, hA]; exact hk, D.cell j hj, D.cell jt ht, ?_⟩
  have D1 := D.update (f := Obj.mapFields fun x => x.setIfInBounds 0 .none) hj rfl
  have D2 := D1.alloc (o := tupO #[] 0) rfl
  have D3 := D2.alloc (o := stopO h.objs.size) rfl
  have e1 : (h.update it (Obj.mapFields fun x => x.setIfInBounds 0 Value.none)).objs.size = h.objs.size := Heap.size_update ..
  have e2 : ((h.update it (Obj.mapFields fun x => x.setIfInBounds 0 Value.none)).push (tupO #[] 0)).objs.size = h.objs.size + 1 := by rw [Heap.size_push, e1]
  rw [e2, e1] at D3
  exact x _ _ _ D3
end
end Mine
end
section
open PySem PySem.W PySem.W.X PyProof.Rows
set_option Elab.async false
set_option maxRecDepth 100000
set_option maxHeartbeats 1000000
namespace Mine
variable {prog : Program} {w : World} {A : Around} {R : Result → Shared → Prop} {h₀ h : Heap} {F : List Addr} {ρ : Cells} {g : Array GenState} {d : Drawn} {tk : Nat} {os : OsState}
theorem c43 {I dx : Addr} {k : Int} {kt : Tok} (G : Gd w h₀) (o : Ok A 1) (D : Rep h₀ h F ((I, ⟨.ref 47, some dx, .plain, #[]⟩) :: ρ))
    (x : ∀ h' tk' l pt, Rep h₀ h' F ((l, listO #[] 0) :: (I, infoO dx k kt 0 pt l) :: ρ) → R (.ok (.ret .none)) ⟨h', g, d, tk', os⟩) :
    codeAny (model prog w) A (.call (.ref 43) ⟨[.ref I, .int k kt], []⟩) R ⟨h, g, d, tk, os⟩ := by
  refine code_start ?_
  refine seg 1000 [.t, .t, .s 0, .s 0, .s 0, .s 0] [] (σ' := (h.objs.size, frameO #[⟨hS w.params s_self, .str s_self tk, .ref I⟩, ⟨hS w.params s_node, .str s_node (tk + 1), .int k kt⟩] 2) :: (I, ⟨.ref 47, some dx, .plain, #[]⟩) :: ρ) G o.hd D (by kernel_rfl) (by kernel_rfl) ?_
  intro h1 tk1 D1 _
  refine enter (c2 := fcode w.params 43 h.objs.size) (by kernel_rfl) (by kernel_rfl) (D1.gd G).lim (o.room (by kernel_rfl)) ?_
  refine seg 1000 [.s 0, .s 0, .s 1, .t, .t, .t, .e, .s 1, .t, .e, .s 1, .t, .s 1, .t, .t, .t, .t, .t, .e, .t, .e, .t, .t, .s 1, .t, .t, .t, .e, .t, .t, .s 1, .t, .s 1, .s 0, .s 1, .t, .t, .t, .e, .s 1, .t, .e, .s 1, .t, .s 1, .t, .t, .t, .t, .t, .e, .t, .e, .t, .t, .s 1, .t, .t, .t, .e, .t, .t, .s 1, .t, .s 1, .s 1, .s 2, .t, .t, .t, .e, .s 2, .t, .e, .s 2, .t, .s 2, .t, .t, .t, .t, .t, .e, .t, .e, .t, .t, .s 2, .t, .t, .t, .e, .t, .t, .s 2, .t, .s 2]
    [true, false] (σ' := (h1.objs.size, listO #[] 0) :: (I, infoO dx k kt 0 (tk1 + 1) h1.objs.size) :: ρ) G o.hd D1 (by kernel_rfl) (by kernel_rfl) ?_
  intro h2 tk2 D2 _
  exact end_done (by kernel_rfl) (by kernel_rfl) (x _ _ _ _ D2)
end Mine
end
section
open PySem PySem.W PySem.W.X PyProof.Rows
set_option Elab.async false
set_option maxRecDepth 100000
set_option maxHeartbeats 1000000
namespace Mine
variable {prog : Program} {w : World} {A : Around} {R : Result → Shared → Prop} {h₀ h : Heap} {F : List Addr} {ρ : Cells} {g : Array GenState} {d : Drawn} {tk : Nat} {os : OsState}
theorem c87_hit {S Dd N : Addr} {a : SA} {r np nf : Value} {es : Array DictEntry} {ep : Nat} {k : Int} {t : Tok} {I : Addr} (G : Gd w h₀) (o : Ok A 1) (hk : PySem.IntKeys es) (hv : dlook es k = some (.ref I))
    (D : Rep h₀ h F ((S, instO 144 Dd) :: (Dd, dictO (attrs a N r np nf) 4) :: (N, dictO es ep) :: ρ))
    (x : ∀ h' tk', Rep h₀ h' F ((S, instO 144 Dd) :: (Dd, dictO (attrs a N r np nf) 4) :: (N, dictO es ep) :: ρ) → R (.ok (.ret (.ref I))) ⟨h', g, d, tk', os⟩) :
    codeAny (model prog w) A (.call (.ref 87) ⟨[.ref S, .int k t], []⟩) R ⟨h, g, d, tk, os⟩ := by
  refine code_start ?_
  refine seg 1000 [.t, .t, .s 0, .s 0, .s 0, .s 0] [] (σ' := (h.objs.size, frameO #[⟨hS w.params s_self, .str s_self tk, .ref S⟩, ⟨hS w.params s_node, .str s_node (tk + 1), .int k t⟩] 2) :: (S, instO 144 Dd) :: (Dd, dictO (attrs a N r np nf) 4) :: (N, dictO es ep) :: ρ) G o.hd D (by kernel_rfl) (by kernel_rfl) ?_
  intro h1 tk1 D1 _
  refine enter (c2 := fcode w.params 87 h.objs.size) (by kernel_rfl) (by kernel_rfl) (D1.gd G).lim (o.room (by kernel_rfl)) ?_
  refine seg 1000 [.s 0, .s 1, .t, .t, .t, .e, .s 1, .t, .t, .t, .s 1, .s 1, .t, .s 2, .s 3, .s 3, .s 3, .s 3, .s 0, .e, .s 3] [] (σ' := (h.objs.size, frameO #[⟨hS w.params s_self, .str s_self tk, .ref S⟩, ⟨hS w.params s_node, .str s_node (tk + 1), .int k t⟩] 2) :: (S, instO 144 Dd) :: (Dd, dictO (attrs a N r np nf) 4) :: (N, dictO es ep) :: ρ) G o.hd D1 (by kernel_rfl) (by kernel_rfl) ?_
  intro h2 tk2 D2 _
  refine use_bi e_dict_get p_dict_get (m_dget N es ep k t hk (D2.ne_sys 3 rfl)) (by kernel_rfl) (by kernel_rfl) ?_
  refine ⟨D2.cell 3 rfl, ?_⟩
  rw [hv]
  refine seg 1000 [.s 0, .s 0, .s 0] [false] (σ' := (S, instO 144 Dd) :: (Dd, dictO (attrs a N r np nf) 4) :: (N, dictO es ep) :: ρ) G o.hd D2 (by kernel_rfl) (by kernel_rfl) ?_
  intro h3 tk3 D3 _
  exact end_done (by kernel_rfl) (by kernel_rfl) (x _ _ D3)
end Mine
end
section
open PySem PySem.W PySem.W.X PyProof.Rows
set_option Elab.async false
set_option maxRecDepth 100000
set_option maxHeartbeats 1000000
namespace Mine
variable {prog : Program} {w : World} {A : Around} {R : Result → Shared → Prop} {h₀ h : Heap} {F : List Addr} {ρ : Cells} {g : Array GenState} {d : Drawn} {tk : Nat} {os : OsState}
theorem c87_miss {S Dd N : Addr} {a : SA} {r np nf : Value} {es : Array DictEntry} {ep : Nat} {k : Int} {t : Tok} (G : Gd w h₀) (o : Ok A 4) (hk : PySem.IntKeys es) (hv : dlook es k = none) (hz : es.size ≤ sizeLine)
    (D : Rep h₀ h F ((S, instO 144 Dd) :: (Dd, dictO (attrs a N r np nf) 4) :: (N, dictO es ep) :: ρ))
    (x : ∀ h' tk' l I dx pt, Rep h₀ h' F ((l, listO #[] 0) :: (I, infoO dx k t 0 pt l) :: (S, instO 144 Dd) :: (Dd, dictO (attrs a N r np nf) 4) :: (N, dictO (es.push ⟨hashInt k, .int k t, .ref I⟩) (ep + 1)) :: ρ) → R (.ok (.ret (.ref I))) ⟨h', g, d, tk', os⟩) :
    codeAny (model prog w) A (.call (.ref 87) ⟨[.ref S, .int k t], []⟩) R ⟨h, g, d, tk, os⟩ := by
  refine code_start ?_
  refine sgL 1000 [.t, .t, .s 0, .s 0, .s 0, .s 0] [] G o.hd D ?_; intro oh1; refine ⟨by kernel_rfl, fun h1 tk1 D1 => ?_⟩
  refine enter (c2 := fcode w.params 87 h.objs.size) (by kernel_rfl) (by kernel_rfl) (D1.gd G).lim (o.room (by kernel_rfl)) ?_
  refine sgL 1000 [.s 0, .s 1, .t, .t, .t, .e, .s 1, .t, .t, .t, .s 1, .s 1, .t, .s 2, .s 3, .s 3, .s 3, .s 3, .s 0, .e, .s 3] [] G o.hd D1 ?_; intro oh2; refine ⟨by kernel_rfl, fun h2 tk2 D2 => ?_⟩
  refine u_dget (N := N) (es := es) (ep := ep) (k := k) (u := t) D2 3 (by kernel_rfl) hk (by kernel_rfl) (by kernel_rfl) ?_
  rw [hv]
  refine sgL 1000 [.s 0, .s 0, .t, .s 0, .t, .t, .e, .t, .t, .e, .t, .e, .t, .t, .t, .e, .t, .t, .t, .t, .t, .t, .t, .e, .t, .t, .t, .t, .t, .t, .t, .t, .t, .t, .t, .t, .t, .s 0, .t, .s 0, .t, .t, .t, .t] [] G o.hd D2 ?_; intro oh3; refine ⟨by kernel_rfl, fun h3 tk3 D3 => ?_⟩
  refine use_call (c' := .call (.ref 43) ⟨[.ref (h2.objs.size + 1), .int k t], []⟩) (hd := none) (by kernel_rfl) rfl ?_
  refine c43 (I := h2.objs.size + 1) (dx := h2.objs.size) G (o.call (by kernel_rfl) (by kernel_rfl)) (D3.split1 (by kernel_rfl)) ?_
  intro h4 tk4 l pt D4
  refine sgL 1000 [.s 3, .s 4, .t, .t, .t, .e, .s 4, .t, .t, .t, .s 4, .s 4, .t, .s 5, .s 3, .s 6, .s 6, .e, .s 6] [] G o.hd D4 ?_; intro oh5; refine ⟨by kernel_rfl, fun h5 tk5 D5 => ?_⟩
  refine u_dset (N := N) (es := es) (ep := ep) (k := k) (u := t) (v := .ref (h2.objs.size + 1)) D5 6 (by kernel_rfl) hk hv hz (by kernel_rfl) (by kernel_rfl) fun h6 D6 => ?_
  refine sgL 1000 [.s 3, .s 3, .s 3] [true, true, false, false] G o.hd D6 ?_; intro oh7; refine ⟨by kernel_rfl, fun h7 tk7 D7 => ?_⟩
  exact end_done (by kernel_rfl) (by kernel_rfl) (x h7 tk7 l (h2.objs.size + 1) h2.objs.size pt (D7.eq (by kernel_rfl)))
end Mine
end
section
open PySem PySem.W PySem.W.X PyProof.Rows
set_option Elab.async false
set_option maxRecDepth 100000
set_option maxHeartbeats 1000000
namespace Mine
noncomputable abbrev IT := Int × Tok
noncomputable abbrev iv (p : IT) : Value := .int p.1 p.2
/-- a node as it lies in the heap -/
structure Nd where
  k : Int
  kt : Tok
  a : Addr
  dx : Addr
  l : Addr
  p : Int
  pt : Tok
  su : List IT
  e : Nat
/-- a node as it is meant -/
structure PN where
  k : Int
  p : Int
  su : List Int
  deriving DecidableEq
noncomputable def Nd.pn (n : Nd) : PN := ⟨n.k, n.p, n.su.map (·.1)⟩
noncomputable def Nd.ent (n : Nd) : DictEntry := ⟨hashInt n.k, .int n.k n.kt, .ref n.a⟩
noncomputable abbrev Nd.info (n : Nd) : Addr × Obj := (n.a, infoO n.dx n.k n.kt n.p n.pt n.l)
noncomputable abbrev Nd.lst (n : Nd) : Addr × Obj := (n.l, listO ⟨n.su.map iv⟩ n.e)
noncomputable def ents (ns : List Nd) : Array DictEntry := ⟨ns.map Nd.ent⟩
noncomputable def ncells : List Nd → Cells
  | [] => []
  | n :: r => n.info :: n.lst :: ncells r
theorem ncells_append : ∀ a b : List Nd, ncells (a ++ b) = ncells a ++ ncells b
  | [], b => rfl
  | n :: r, b => by
    show n.info :: n.lst :: ncells (r ++ b) = n.info :: n.lst :: (ncells r ++ ncells b)
    rw [ncells_append r b]
theorem ents_keys (ns : List Nd) : PySem.IntKeys (ents ns) := by
  intro e he
  have he' : e ∈ ns.map Nd.ent := by simpa [ents] using he
  obtain ⟨n, _, rfl⟩ := List.mem_map.mp he'
  exact ⟨n.k, n.kt, rfl, rfl⟩
theorem dlook_ents (ns : List Nd) (k : Int) : dlook (ents ns) k = (ns.find? (fun n => n.k == k)).map fun n => .ref n.a := by
  unfold dlook findBy ents
  induction ns with
  | nil => rfl
  | cons n r ih =>
    simp only [List.map_cons, List.find?_toArray, List.find?_cons] at ih ⊢
    have e : Value.isInt k n.ent.key = (n.k == k) := rfl
    rw [e]
    cases h : n.k == k with
    | true => rfl
    | false => exact ih
theorem ents_push (ns : List Nd) (n : Nd) : (ents ns).push n.ent = ents (ns ++ [n]) := by
  simp [ents]
theorem ents_size (ns : List Nd) : (ents ns).size = ns.length := by simp [ents]
end Mine
end
section
open PySem PySem.W PySem.W.X PyProof.Rows
set_option Elab.async false
set_option maxRecDepth 100000
set_option maxHeartbeats 1000000
namespace Mine
variable {prog : Program} {w : World} {A : Around} {R : Result → Shared → Prop} {h₀ h : Heap} {F : List Addr} {ρ : Cells} {g : Array GenState} {d : Drawn} {tk : Nat} {os : OsState}
/-- the node of key k, found or made -/
noncomputable def Got (ns : List Nd) (k : Int) (pre : List Nd) (nd : Nd) (post : List Nd) : Prop :=
  nd.k = k ∧ (∀ m ∈ pre, m.k ≠ k) ∧ ((pre ++ nd :: post = ns) ∨ (pre = ns ∧ post = [] ∧ nd.p = 0 ∧ nd.su = []))
noncomputable abbrev sC (S Dd : Addr) (a : SA) (N : Addr) (r np nf : Value) (es : Array DictEntry) (ep : Nat) (ρ : Cells) : Cells :=
  (S, instO 144 Dd) :: (Dd, dictO (attrs a N r np nf) 4) :: (N, dictO es ep) :: ρ
theorem find_split {ns : List Nd} {k : Int} {nd : Nd} (h : ns.find? (fun n => n.k == k) = some nd) : ∃ pre post, ns = pre ++ nd :: post ∧ nd.k = k ∧ ∀ m ∈ pre, m.k ≠ k := by
  obtain ⟨h1, pre, post, e, h2⟩ := List.find?_eq_some_iff_append.mp h
  exact ⟨pre, post, e, by simpa using h1, fun m hm => by simpa using h2 m hm⟩
theorem line_of {n m : Nat} (h : n ≤ 1000) (e : m = n) : m ≤ sizeLine := by
  subst e
  exact Nat.le_trans h (by decide)
theorem c87n {S Dd N : Addr} {a : SA} {r np nf : Value} {ns : List Nd} {ep : Nat} {k : Int} {t : Tok} (G : Gd w h₀) (o : Ok A 4) (hz : ns.length ≤ 1000)
    (D : Rep h₀ h F (sC S Dd a N r np nf (ents ns) ep (ncells ns ++ ρ)))
    (x : ∀ h' tk' pre nd post ep', Got ns k pre nd post → Rep h₀ h' F (nd.info :: nd.lst :: sC S Dd a N r np nf (ents (pre ++ nd :: post)) ep' (ncells pre ++ (ncells post ++ ρ))) → R (.ok (.ret (.ref nd.a))) ⟨h', g, d, tk', os⟩) :
    codeAny (model prog w) A (.call (.ref 87) ⟨[.ref S, .int k t], []⟩) R ⟨h, g, d, tk, os⟩ := by
  have hl := dlook_ents ns k
  cases hf : ns.find? (fun n => n.k == k) with
  | some nd =>
    rw [hf] at hl
    obtain ⟨pre, post, e, hk, hp⟩ := find_split hf
    refine c87_hit G (o.mono (by decide)) (ents_keys ns) hl D fun h' tk' D' => ?_
    subst e
    refine x h' tk' pre nd post ep ⟨hk, hp, .inl rfl⟩ ?_
    rw [ncells_append] at D'
    let S2 : List Cells := [[(S, instO 144 Dd)], [(Dd, dictO (attrs a N r np nf) 4)], [(N, dictO (ents (pre ++ nd :: post)) ep)], ncells pre, [nd.info], [nd.lst], ncells post ++ ρ]; have D2 : Rep h₀ h' F (cat S2) := by
      have e : ncells pre ++ ncells (nd :: post) ++ ρ = ncells pre ++ (nd.info :: nd.lst :: (ncells post ++ ρ)) := by
        simp [ncells]
      show Rep h₀ h' F ((S, instO 144 Dd) :: (Dd, dictO (attrs a N r np nf) 4) :: (N, dictO (ents (pre ++ nd :: post)) ep) :: (ncells pre ++ (nd.info :: nd.lst :: (ncells post ++ ρ))))
      rw [← e]; exact D'
    exact Rep.shuf _ [5, 5] D2
  | none =>
    rw [hf] at hl
    refine c87_miss G o (ents_keys ns) hl (line_of hz (ents_size ns)) D fun h' tk' l I dx pt D' => ?_
    have hp : ∀ m ∈ ns, m.k ≠ k := fun m hm => by
      have := List.find?_eq_none.mp hf m hm
      simpa using this
    refine x h' tk' ns ⟨k, t, I, dx, l, 0, pt, [], 0⟩ [] (ep + 1) ⟨rfl, hp, .inr ⟨rfl, rfl, rfl, rfl⟩⟩ ?_
    have e : ents (ns ++ [⟨k, t, I, dx, l, 0, pt, [], 0⟩]) = (ents ns).push ⟨hashInt k, .int k t, .ref I⟩ := (ents_push ns _).symm
    rw [e]
    exact Rep.shuf [[(l, listO #[] 0)], [(I, infoO dx k t 0 pt l)], [(S, instO 144 Dd)], [(Dd, dictO (attrs a N r np nf) 4)], [(N, dictO ((ents ns).push ⟨hashInt k, .int k t, .ref I⟩) (ep + 1))], ncells ns ++ ρ] [1] D'
end Mine
end
section
open PySem PySem.W PySem.W.X PyProof.Rows
set_option Elab.async false
set_option maxRecDepth 100000
set_option maxHeartbeats 1000000
namespace Mine
variable {prog : Program} {w₀ : World} {b1 b2 b3 : Bool} {A : Around} {R : Result → Shared → Prop} {h₀ h : Heap} {F : List Addr} {ρ : Cells} {g : Array GenState} {d : Drawn} {tk : Nat} {os : OsState}
/-- the first node of key k turned by f -/
noncomputable def modK (k : Int) (f : PN → PN) : List PN → List PN
  | [] => []
  | n :: r => if n.k = k then f n :: r else n :: modK k f r
noncomputable def getM (ps : List PN) (k : Int) : List PN := if ps.any (fun n => n.k == k) then ps else ps ++ [⟨k, 0, []⟩]
noncomputable def addM (ps : List PN) (k : Int) : Option Int → List PN
  | none => modK k (fun n => { n with p := n.p + 0 }) (getM ps k)
  | some q => modK q (fun n => { n with su := n.su ++ [k] }) (getM (modK k (fun n => { n with p := n.p + 1 }) (getM ps k)) q)
noncomputable def pns (ns : List Nd) : List PN := ns.map Nd.pn
theorem modK_split {k : Int} {f : PN → PN} : ∀ {pre : List Nd} {nd : Nd} {post : List Nd}, (∀ m ∈ pre, m.k ≠ k) → nd.k = k → modK k f (pns (pre ++ nd :: post)) = pns pre ++ f nd.pn :: pns post
  | [], nd, post, _, hk => by
    have e : nd.pn.k = k := hk
    show (if nd.pn.k = k then f nd.pn :: pns post else _) = _
    rw [if_pos e]; rfl
  | m :: r, nd, post, hp, hk => by
    have e : ¬ m.pn.k = k := hp m (.head _)
    show (if m.pn.k = k then _ else m.pn :: modK k f (pns (r ++ nd :: post))) = _
    rw [if_neg e, modK_split (fun x hx => hp x (.tail _ hx)) hk]; rfl
theorem got_pns {ns pre post : List Nd} {nd : Nd} {k : Int} (h : Got ns k pre nd post) : pns (pre ++ nd :: post) = getM (pns ns) k := by
  obtain ⟨hk, hp, h | ⟨h1, h2, h3, h4⟩⟩ := h
  · subst h
    unfold getM
    rw [if_pos (by simp [pns, Nd.pn, hk])]
  · subst h1 h2
    unfold getM
    rw [if_neg (by
      simp only [pns, List.any_map, List.any_eq_true, Function.comp_apply, beq_iff_eq, not_exists, not_and]
      exact fun m hm => hp m hm)]
    simp [pns, Nd.pn, h3, h4, hk]
theorem got_len {ns pre post : List Nd} {nd : Nd} {k : Int} (h : Got ns k pre nd post) : (pre ++ nd :: post).length ≤ ns.length + 1 := by
  obtain ⟨_, _, h | ⟨h1, h2, _, _⟩⟩ := h
  · rw [h]; omega
  · subst h1 h2; simp
theorem pns_append (a b : List Nd) : pns (a ++ b) = pns a ++ pns b := by simp [pns]
theorem ents_upd (pre post : List Nd) (nd nd' : Nd) (h1 : nd'.k = nd.k) (h2 : nd'.kt = nd.kt) (h3 : nd'.a = nd.a) : ents (pre ++ nd' :: post) = ents (pre ++ nd :: post) := by
  simp [ents, Nd.ent, h1, h2, h3]
theorem ncells_mid (pre post : List Nd) (nd : Nd) (ρ : Cells) : ncells (pre ++ nd :: post) ++ ρ = ncells pre ++ (nd.info :: nd.lst :: (ncells post ++ ρ)) := by
  rw [ncells_append]
  simp [ncells]
/-- the cells of a node go home -/
theorem Rep.home {S Dd N : Addr} {a : SA} {r np nf : Value} {pre post : List Nd} {nd : Nd} {ep : Nat} (D : Rep h₀ h F (nd.info :: nd.lst :: sC S Dd a N r np nf (ents (pre ++ nd :: post)) ep (ncells pre ++ (ncells post ++ ρ)))) :
    Rep h₀ h F (sC S Dd a N r np nf (ents (pre ++ nd :: post)) ep (ncells (pre ++ nd :: post) ++ ρ)) := by
  rw [ncells_mid]
  exact Rep.shuf [[nd.info], [nd.lst], [(S, instO 144 Dd)], [(Dd, dictO (attrs a N r np nf) 4)], [(N, dictO (ents (pre ++ nd :: post)) ep)], ncells pre, ncells post, ρ] [7, 7, 3, 3, 7, 7, 7, 7] D
theorem Rep.homeT {S Dd N : Addr} {a : SA} {r np nf : Value} {pre post : List Nd} {nd0 : Nd} (nd : Nd) {ep : Nat} {τ : Cells} (h1 : nd.k = nd0.k) (h2 : nd.kt = nd0.kt) (h3 : nd.a = nd0.a) (D : Rep h₀ h F (τ ++ (nd.info :: nd.lst :: sC S Dd a N r np nf (ents (pre ++ nd0 :: post)) ep (ncells pre ++ (ncells post ++ ρ))))) :
    Rep h₀ h F (sC S Dd a N r np nf (ents (pre ++ nd :: post)) ep (ncells (pre ++ nd :: post) ++ (τ ++ ρ))) := by
  rw [ents_upd pre post nd0 nd h1 h2 h3, ncells_mid]
  exact Rep.shuf [τ, [nd.info], [nd.lst], [(S, instO 144 Dd)], [(Dd, dictO (attrs a N r np nf) 4)], [(N, dictO (ents (pre ++ nd0 :: post)) ep)], ncells pre, ncells post, ρ] [8, 1, 8, 4, 4, 8, 8, 8, 8] D
theorem Rep.away {S Dd N : Addr} {a : SA} {r np nf : Value} {pre post : List Nd} {nd : Nd} {es : Array DictEntry} {ep : Nat} {τ : Cells} (D : Rep h₀ h F (nd.info :: nd.lst :: sC S Dd a N r np nf es ep (ncells pre ++ (ncells post ++ (τ ++ ρ))))) :
    Rep h₀ h F (nd.info :: nd.lst :: sC S Dd a N r np nf es ep (τ ++ (ncells pre ++ (ncells post ++ ρ)))) :=
  Rep.shuf [[nd.info], [nd.lst], [(S, instO 144 Dd)], [(Dd, dictO (attrs a N r np nf) 4)], [(N, dictO es ep)], ncells pre, ncells post, τ, ρ] [8, 7, 7, 8, 8, 8, 8, 8, 8] D

theorem c94_0 {S Dd N : Addr} {a : SA} {np nf : Value} {ns : List Nd} {ep : Nat} {k q : Int} {t u : Tok} (G : Gd (wF b1 b2 b3 w₀) h₀) (o : Ok A 6) (hz : ns.length ≤ 900) (hs : ∀ m ∈ ns, m.su.length ≤ 900)
    (D : Rep h₀ h F (sC S Dd a N .none np nf (ents ns) ep (ncells ns ++ ρ)))
    (x : ∀ h' tk' ns' ep', pns ns' = addM (pns ns) k none → Rep h₀ h' F (sC S Dd a N .none np nf (ents ns') ep' (ncells ns' ++ ρ)) → R (.ok (.ret .none)) ⟨h', g, d, tk', os⟩) :
    codeAny (model prog (wF b1 b2 b3 w₀)) A (.call (.ref 94) ⟨[.ref S, .int k t], []⟩) R ⟨h, g, d, tk, os⟩ := by
  all_goals
    refine code_start ?_
    refine sg2L 1000 [.t, .t, .s 0, .s 0, .s 0, .s 0, .s 0, .s 0] [] G o.hd D ?_; intro fh1 oh1; refine ⟨by kernel_rfl, fun h1 tk1 D1 => ?_⟩
    refine enter (c2 := fcode w₀.params 94 (h.objs.size + 1)) (by kernel_rfl) (by kernel_rfl) (D1.gd G).lim (o.room (by kernel_rfl)) ?_
    refine sg2L 1000 [.s 0, .s 2, .t, .t, .t, .e, .s 2, .t, .t, .t, .s 2, .s 2, .t, .s 3, .s 0, .s 2, .t, .t, .t, .s 2, .t, .t, .t, .s 2, .t, .t, .t, .t, .s 2, .s 3, .s 0, .t] [] G o.hd D1 ?_; intro fh2 oh2; refine ⟨by kernel_rfl, fun h2 tk2 D2 => ?_⟩
    refine use_call (c' := .call (.ref 87) ⟨[.ref S, .int k t], []⟩) (hd := none) (by kernel_rfl) rfl ?_
    refine c87n (ns := ns) (ρ := takeC 2 _ ++ ρ) G (o.call (by kernel_rfl) (by kernel_rfl)) (by omega) (Rep.shuf [takeC 2 _, [(S, instO 144 Dd)], [(Dd, dictO (attrs a N .none np nf) 4)], [(N, dictO (ents ns) ep)], ncells ns, ρ] [4, 4, 4, 4] (D2.tail 2 (by kernel_rfl))) ?_
    intro h3 tk3 pre nd post ep3 hg D3
    have D4 := Rep.shuf [[nd.info], [nd.lst], [(S, instO 144 Dd)], [(Dd, dictO (attrs a N .none np nf) 4)], [(N, dictO (ents (pre ++ nd :: post)) ep3)], ncells pre, ncells post, takeC 2 _, ρ] [7, 5, 5, 5, 5, 5] D3
    refine sg2L 1000 [.s 5, .s 5, .s 5, .s 0, .t, .t, .t, .e, .s 0, .t, .t, .t, .t, .t, .t, .t, .t, .e, .t, .e, .t, .t, .s 0, .t, .t, .t, .e, .t, .t, .s 0, .t, .s 0, .t, .t, .s 5, .e, .e, .s 6, .e, .s 6, .e, .s 6, .e, .e, .s 0, .t, .t, .t, .e, .s 0, .t, .e, .s 0, .t, .s 0, .t, .t, .t, .t, .t, .e, .t, .e, .t, .t, .s 0, .t, .t, .t, .e, .t, .t, .s 0, .t, .s 0, .s 5, .s 6, .s 6, .e, .s 6, .e, .s 0, .e, .s 0, .e, .s 0, .e, .s 0, .s 0, .s 7, .s 0, .s 0, .s 0, .e] [false, false, false, true, true, true, true, true, false, false] G o.hd D4 ?_; intro fh5 oh5; refine ⟨by kernel_rfl, fun h5 tk5 D5 => ?_⟩
    refine end_done (f := .ret .none) (by kernel_rfl) (by kernel_rfl) ?_
    have e6 : ents (pre ++ { nd with p := nd.p + 0, pt := tk3 + 4 } :: post) = ents (pre ++ nd :: post) := ents_upd pre post nd _ rfl rfl rfl
    have D6 : Rep h₀ h5 F (Nd.info { nd with p := nd.p + 0, pt := tk3 + 4 } :: Nd.lst { nd with p := nd.p + 0, pt := tk3 + 4 } :: sC S Dd a N .none np nf (ents (pre ++ { nd with p := nd.p + 0, pt := tk3 + 4 } :: post)) ep3 (ncells pre ++ (ncells post ++ ρ))) := by
      rw [e6]
      exact D5.eq (by kernel_rfl)
    refine x h5 tk5 _ ep3 ?_ D6.home
    unfold addM
    rw [← got_pns hg, modK_split hg.2.1 hg.1, pns_append]
    rfl

theorem c94_1 {S Dd N : Addr} {a : SA} {np nf : Value} {ns : List Nd} {ep : Nat} {k q : Int} {t u : Tok} (G : Gd (wF b1 b2 b3 w₀) h₀) (o : Ok A 6) (hz : ns.length ≤ 900) (hs : ∀ m ∈ ns, m.su.length ≤ 900)
    (D : Rep h₀ h F (sC S Dd a N .none np nf (ents ns) ep (ncells ns ++ ρ)))
    (x : ∀ h' tk' ns' ep', pns ns' = addM (pns ns) k (some q) → Rep h₀ h' F (sC S Dd a N .none np nf (ents ns') ep' (ncells ns' ++ ρ)) → R (.ok (.ret .none)) ⟨h', g, d, tk', os⟩) :
    codeAny (model prog (wF b1 b2 b3 w₀)) A (.call (.ref 94) ⟨[.ref S, .int k t, .int q u], []⟩) R ⟨h, g, d, tk, os⟩ := by
  all_goals
    refine code_start ?_
    refine sg2L 1000 [.t, .t, .s 0, .s 0, .s 0, .s 0, .s 0, .s 0] [] G o.hd D ?_; intro fh1 oh1; refine ⟨by kernel_rfl, fun h1 tk1 D1 => ?_⟩
    refine enter (c2 := fcode w₀.params 94 (h.objs.size + 1)) (by kernel_rfl) (by kernel_rfl) (D1.gd G).lim (o.room (by kernel_rfl)) ?_
    refine sg2L 1000 [.s 0, .s 2, .t, .t, .t, .e, .s 2, .t, .t, .t, .s 2, .s 2, .t, .s 3, .s 0, .s 2, .t, .t, .t, .s 2, .t, .t, .t, .s 2, .t, .t, .t, .t, .s 2, .s 3, .s 0, .t] [] G o.hd D1 ?_; intro fh2 oh2; refine ⟨by kernel_rfl, fun h2 tk2 D2 => ?_⟩
    refine use_call (c' := .call (.ref 87) ⟨[.ref S, .int k t], []⟩) (hd := none) (by kernel_rfl) rfl ?_
    refine c87n (ns := ns) (ρ := takeC 2 _ ++ ρ) G (o.call (by kernel_rfl) (by kernel_rfl)) (by omega) (Rep.shuf [takeC 2 _, [(S, instO 144 Dd)], [(Dd, dictO (attrs a N .none np nf) 4)], [(N, dictO (ents ns) ep)], ncells ns, ρ] [4, 4, 4, 4] (D2.tail 2 (by kernel_rfl))) ?_
    intro h3 tk3 pre nd post ep3 hg D3
    have D4 := Rep.shuf [[nd.info], [nd.lst], [(S, instO 144 Dd)], [(Dd, dictO (attrs a N .none np nf) 4)], [(N, dictO (ents (pre ++ nd :: post)) ep3)], ncells pre, ncells post, takeC 2 _, ρ] [7, 5, 5, 5, 5, 5] D3
    refine sg2L 1000 [.s 5, .s 5, .s 5, .s 0, .t, .t, .t, .e, .s 0, .t, .t, .t, .t, .t, .t, .t, .t, .e, .t, .e, .t, .t, .s 0, .t, .t, .t, .e, .t, .t, .s 0, .t, .s 0, .t, .t, .s 5, .e, .e, .s 6, .e, .s 6, .e, .s 6, .e, .e, .s 0, .t, .t, .t, .e, .s 0, .t, .e, .s 0, .t, .s 0, .t, .t, .t, .t, .t, .e, .t, .e, .t, .t, .s 0, .t, .t, .t, .e, .t, .t, .s 0, .t, .s 0, .s 5, .s 6, .s 6, .e, .s 6, .e, .s 0, .e, .s 0, .e, .s 0, .e, .s 0, .s 0, .s 7, .s 0, .s 0, .s 6, .s 6, .s 6, .s 3, .t, .t, .t, .s 3, .t, .t, .t, .s 3, .t, .t, .t, .t, .s 3, .s 4, .s 6, .t] [] G o.hd D4 ?_; intro fh5 oh5; refine ⟨by kernel_rfl, fun h5 tk5 D5 => ?_⟩
    have hl := got_len hg
    refine use_call (c' := .call (.ref 87) ⟨[.ref S, .int q u], []⟩) (hd := none) (by kernel_rfl) rfl ?_
    have D6 := Rep.homeT (S := S) (Dd := Dd) (a := a) (N := N) (r := .none) (np := np) (nf := nf) (pre := pre) (post := post) (nd0 := nd) { nd with p := nd.p + 1, pt := tk3 + 4 } (ep := ep3) (ρ := ρ) rfl rfl rfl ((D5.pull [7, 7, 2]).tail 3 (by kernel_rfl))
    refine c87n G (o.call (by kernel_rfl) (by kernel_rfl)) (by simp only [List.length_append, List.length_cons] at hl ⊢; omega) D6 ?_
    intro h7 tk7 pre2 nd2 post2 ep7 hg2 D7
    have D8 := D7.away
    refine sg2L 1000 [.s 6, .s 6, .s 6, .s 0, .t, .t, .t, .e, .s 0, .t, .t, .t, .t, .t, .t, .t, .t, .e, .t, .e, .t, .t, .s 0, .t, .t, .t, .e, .t, .t, .s 0, .t, .s 0, .s 1, .s 1, .s 1, .s 1, .s 6, .e, .s 1] [] G o.hd D8 ?_; intro fh9 oh9; refine ⟨by kernel_rfl, fun h9 tk9 D9 => ?_⟩
    have hsu : nd2.su.length ≤ 900 := by
      have hall : ∀ m ∈ pre ++ { nd with p := nd.p + 1, pt := tk3 + 4 } :: post, m.su.length ≤ 900 := by
        intro m hm
        have hall0 : ∀ m ∈ pre ++ nd :: post, m.su.length ≤ 900 := by
          obtain ⟨_, _, e | ⟨e1, e2, _, e4⟩⟩ := hg
          · rw [e]; exact hs
          · subst e1 e2
            intro m hm
            rcases List.mem_append.mp hm with hm | hm
            · exact hs m hm
            · rw [List.mem_singleton.mp hm, e4]; decide
        rcases List.mem_append.mp hm with hm | hm
        · exact hall0 m (List.mem_append.mpr (.inl hm))
        · rcases List.mem_cons.mp hm with rfl | hm
          · exact hall0 nd (List.mem_append.mpr (.inr (.head _)))
          · exact hall0 m (List.mem_append.mpr (.inr (.tail _ hm)))
      obtain ⟨_, _, e | ⟨_, _, _, e4⟩⟩ := hg2
      · exact hall nd2 (e ▸ List.mem_append.mpr (.inr (.head _)))
      · rw [e4]; decide
    refine u_append (l := nd2.l) (items := ⟨nd2.su.map iv⟩) (n := nd2.e) (v := .int k t) D9 1 (by kernel_rfl) (line_of (n := nd2.su.length) (by omega) (by simp)) (by kernel_rfl) (by kernel_rfl) fun h10 D10 => ?_
    refine sg2L 1000 [.e, .s 5, .e, .s 5, .e, .s 5, .s 5, .s 7, .s 5, .s 5, .s 0, .e] [false, false, true, true, true, true, true, false, false, false] G o.hd D10 ?_; intro fh11 oh11; refine ⟨by kernel_rfl, fun h11 tk11 D11 => ?_⟩
    refine end_done (f := .ret .none) (by kernel_rfl) (by kernel_rfl) ?_
    have e6 : ents (pre2 ++ { nd2 with su := nd2.su ++ [(k, t)], e := nd2.e + 1 } :: post2) = ents (pre2 ++ nd2 :: post2) := ents_upd pre2 post2 nd2 _ rfl rfl rfl
    have D12 : Rep h₀ h11 F (Nd.info { nd2 with su := nd2.su ++ [(k, t)], e := nd2.e + 1 } :: Nd.lst { nd2 with su := nd2.su ++ [(k, t)], e := nd2.e + 1 } :: sC S Dd a N .none np nf (ents (pre2 ++ { nd2 with su := nd2.su ++ [(k, t)], e := nd2.e + 1 } :: post2)) ep7 (ncells pre2 ++ (ncells post2 ++ ρ))) := by
      rw [e6]
      have e7 : Nd.lst { nd2 with su := nd2.su ++ [(k, t)], e := nd2.e + 1 } = (nd2.l, listO ((⟨nd2.su.map iv⟩ : Array Value).push (.int k t)) (nd2.e + 1)) := by simp [Nd.lst]
      rw [e7]
      exact D11.eq (by kernel_rfl)
    refine x h11 tk11 _ ep7 ?_ D12.home
    show _ = modK q (fun n => { n with su := n.su ++ [k] }) (getM (modK k (fun n => { n with p := n.p + 1 }) (getM (pns ns) k)) q)
    rw [← got_pns hg, modK_split hg.2.1 hg.1]
    have e8 := got_pns hg2
    rw [pns_append pre] at e8
    have e9 : pns pre ++ pns ({ nd with p := nd.p + 1, pt := tk3 + 4 } :: post) = pns pre ++ (fun n : PN => { n with p := n.p + 1 }) nd.pn :: pns post := rfl
    rw [e9] at e8
    rw [← e8, modK_split hg2.2.1 hg2.1, pns_append]
    simp [pns, Nd.pn]

end Mine
end
section
open PySem PySem.W PySem.W.X PyProof.Rows
set_option Elab.async false
set_option maxRecDepth 100000
set_option maxHeartbeats 1000000
namespace Mine
variable {prog : Program} {w : World} {w₀ : World} {b1 b2 b3 : Bool} {A : Around} {R : Result → Shared → Prop} {h₀ h : Heap} {F : List Addr} {ρ σ : Cells} {g : Array GenState} {d : Drawn} {tk : Nat} {os : OsState}
theorem dec_lt (x y : Int) : @decide (x < y) (Z.ltZ x y) = decide (x < y) := by congr
theorem c_lt {x y : Int} {t u : Tok} (G : Gd w h₀) (hA : A.handled = none) (D : Rep h₀ h F σ)
    (z : ∀ h' tk', Rep h₀ h' F σ → R (.ok (.ret (.bool (decide (x < y))))) ⟨h', g, d, tk', os⟩) :
    codeAny (model prog w) A (.builtin "int.__lt__" ⟨[.int x t, .int y u], []⟩) R ⟨h, g, d, tk, os⟩ := by
  refine code_start ?_
  refine sgL 100 [] [] G hA D ?_; intro oh1; refine ⟨by kernel_rfl, fun h1 tk1 D1 => ?_⟩
  refine end_done (f := .ret (.bool (@decide (x < y) (Z.ltZ x y)))) (by kernel_rfl) (by kernel_rfl) ?_
  rw [dec_lt]
  exact z _ _ (D1.eq (by kernel_rfl))
theorem c113 {S Dd N Rl : Addr} {a : SA} {c : Int} {t1 t2 : Tok} {es : Array DictEntry} {ep e : Nat} {rs : List IT} (G : Gd (wF b1 b2 b3 w₀) h₀) (o : Ok A 2) (hz : rs.length ≤ 1000)
    (D : Rep h₀ h F (sC S Dd a N (.ref Rl) (.int c t1) (.int c t2) es ep ((Rl, listO ⟨rs.map iv⟩ e) :: ρ)))
    (x : ∀ h' tk', Rep h₀ h' F (sC S Dd a N (.ref Rl) (.int c t1) (.int c t2) es ep ((Rl, listO ⟨rs.map iv⟩ e) :: ρ)) → R (.ok (.ret (.bool (!rs.isEmpty)))) ⟨h', g, d, tk', os⟩) :
    codeAny (model prog (wF b1 b2 b3 w₀)) A (.call (.ref 113) ⟨[.ref S], []⟩) R ⟨h, g, d, tk, os⟩ := by
  all_goals
    refine code_start ?_
    refine sg2L 1000 [.t, .t, .s 0, .s 0] [] G o.hd D ?_; intro fh1 oh1; refine ⟨by kernel_rfl, fun h1 tk1 D1 => ?_⟩
    refine enter (c2 := fcode w₀.params 113 h.objs.size) (by kernel_rfl) (by kernel_rfl) (D1.gd G).lim (o.room (by kernel_rfl)) ?_
    refine sg2L 1000 [.s 0, .s 1, .t, .t, .t, .e, .s 1, .t, .t, .t, .s 1, .s 1, .t, .s 2, .s 0, .s 1, .t, .t, .t, .e, .s 1, .t, .t, .t, .s 1, .s 1, .t, .s 2, .s 0, .s 1, .t, .t, .t, .e, .s 1, .t, .t, .t, .s 1, .s 1, .t, .s 2, .e] [] G o.hd D1 ?_; intro fh2 oh2; refine ⟨by kernel_rfl, fun h2 tk2 D2 => ?_⟩
    refine use_again (c' := .builtin "int.__lt__" ⟨[.int c t2, .int c t1], []⟩) (by kernel_rfl) (by kernel_rfl) (by kernel_rfl) ?_
    refine c_lt G (by rw [arnd_hnd, o.hd]; kernel_rfl) D2 ?_
    intro h3 tk3 D3
    rw [show decide (c < c) = false from decide_eq_false (Int.lt_irrefl c)]
    refine sg2L 1000 [.t, .t, .s 0, .s 1, .t, .t, .t, .e, .s 1, .t, .t, .t, .s 1, .s 1, .t, .s 2, .e, .e, .e, .e, .s 4, .s 4] [] G o.hd D3 ?_; intro fh4 oh4; refine ⟨by kernel_rfl, fun h4 tk4 D4 => ?_⟩
    refine use_call (c' := .builtin "len" ⟨[.ref Rl], []⟩) (hd := none) (by kernel_rfl) rfl ?_
    refine c_lenL D4 4 (l := Rl) (items := ⟨rs.map iv⟩) (n := e) (by kernel_rfl) (by simpa using hz) ?_
    cases rs with
    | nil =>
      refine sg2L 1000 [.e, .e] [false] G o.hd D4 ?_; intro fh5 oh5; refine ⟨by kernel_rfl, fun h5 tk5 D5 => ?_⟩
      exact end_done (f := .ret (.bool false)) (by kernel_rfl) (by kernel_rfl) (x h5 tk5 (D5.eq (by kernel_rfl)))
    | cons v vs =>
      refine sg2L 1000 [.e, .e] [false] G o.hd D4 ?_; intro fh5 oh5; refine ⟨by kernel_rfl, fun h5 tk5 D5 => ?_⟩
      exact end_done (f := .ret (.bool true)) (by kernel_rfl) (by kernel_rfl) (x h5 tk5 (D5.eq (by kernel_rfl)))
end Mine
end
section
open PySem PySem.W PySem.W.X PyProof.Rows
set_option Elab.async false
set_option maxRecDepth 100000
set_option maxHeartbeats 1000000
namespace Mine
variable {prog : Program} {w : World} {w₀ : World} {b1 b2 b3 : Bool} {A : Around} {R : Result → Shared → Prop} {h₀ h : Heap} {F : List Addr} {ρ σ : Cells} {g : Array GenState} {d : Drawn} {tk : Nat} {os : OsState}
noncomputable def outM (ps : List PN) (ks : List Int) : List PN := ks.foldl (fun ps k => modK k (fun n => { n with p := -1 }) ps) ps
noncomputable def grE (q0 q1 q2 : Int × Tok) (S T N : Addr) : Option (Int × Tok × Value) → Array DictEntry
  | none => #[⟨q0.1, .str s_self q0.2, .ref S⟩, ⟨q1.1, .str s_result q1.2, .ref T⟩, ⟨q2.1, .str s_n2i q2.2, .ref N⟩]
  | some x => #[⟨q0.1, .str s_self q0.2, .ref S⟩, ⟨q1.1, .str s_result q1.2, .ref T⟩, ⟨q2.1, .str s_n2i q2.2, .ref N⟩, ⟨x.1, .str s_node x.2.1, x.2.2⟩]
noncomputable def grN : Option (Int × Tok × Value) → Nat
  | none => 3
  | some _ => 4
theorem getElem_mid (dn rest : List IT) (r : IT) : (⟨(dn ++ r :: rest).map iv⟩ : Array Value)[dn.length]? = some (iv r) := by simp
theorem getElem_end (dn : List IT) : (⟨dn.map iv⟩ : Array Value)[dn.length]? = none := by simp
theorem l106 {S Dd N Rl it T L : Addr} {a : SA} {np nf : Value} {rl : Obj} {ep : Nat} {q0 q1 q2 : Int × Tok} (G : Gd w h₀) (o : Ok A 2) : ∀ (rest dn : List IT) (ns : List Nd) (nv : Option (Int × Tok × Value)) (h : Heap) (tk : Nat),
    (∀ r ∈ rest, ∃ m ∈ ns, m.k = r.1) →
    Rep h₀ h F ((it, itO "tuple_iterator" (.ref T) dn.length) :: (T, tupO ⟨(dn ++ rest).map iv⟩ 0) :: (L, frameO (grE q0 q1 q2 S T N nv) (grN nv)) :: sC S Dd a N (.ref Rl) np nf (ents ns) ep ((Rl, rl) :: (ncells ns ++ ρ))) →
    (∀ h' tk' ns' nv', pns ns' = outM (pns ns) (rest.map (·.1)) → Rep h₀ h' F ((T, tupO ⟨(dn ++ rest).map iv⟩ 0) :: (L, frameO (grE q0 q1 q2 S T N nv') (grN nv')) :: sC S Dd a N (.ref Rl) np nf (ents ns') ep ((Rl, rl) :: (ncells ns' ++ ρ))) → R (.ok .next) ⟨h', g, d, tk', os⟩) →
    codeAny (model prog w) A (forC w.params 106 3 it L) R ⟨h, g, d, tk, os⟩
  | [] => by
    intro dn ns nv h tk _ D x
    refine code_start ?_
    refine sgL 1000 [.s 0, .e, .s 0] [] G o.hd D ?_; intro oh1; refine ⟨by kernel_rfl, fun h1 tk1 D1 => ?_⟩
    refine u_tstop D1 0 (it := it) (T := T) (items := ⟨(dn ++ []).map iv⟩) (n := 0) (i := dn.length) (by kernel_rfl) 1 (by kernel_rfl) (by rw [List.append_nil]; exact getElem_end dn) o.hd (by kernel_rfl) (by kernel_rfl) (by kernel_rfl) fun h2 E E0 D2 => ?_
    refine sgL 1000 [.s 0, .e] [false, false, false] G o.hd D2 ?_; intro oh3; refine ⟨by kernel_rfl, fun h3 tk3 D3 => ?_⟩
    exact end_done (f := .next) (by kernel_rfl) (by kernel_rfl) (x h3 tk3 ns nv rfl (D3.eq (by kernel_rfl)))
  | r :: rest => by
    intro dn ns nv h tk hk D x
    obtain ⟨m, hm, hmk⟩ := hk r (.head _)
    cases hf : ns.find? (fun n => n.k == r.1) with
    | none =>
      have := List.find?_eq_none.mp hf m hm
      simp [hmk] at this
    | some nd =>
    have hl : dlook (ents ns) r.1 = some (.ref nd.a) := by rw [dlook_ents, hf]; rfl
    obtain ⟨pre, post, e, hnk, hp⟩ := find_split hf
    subst e
    refine code_start ?_
    refine sgL 1000 [.s 0, .e, .s 0] [] G o.hd D ?_; intro oh1; refine ⟨by kernel_rfl, fun h1 tk1 D1 => ?_⟩
    refine u_tnext D1 0 (it := it) (T := T) (items := ⟨(dn ++ r :: rest).map iv⟩) (n := 0) (i := dn.length) (v := .int r.1 r.2) (by kernel_rfl) 1 (by kernel_rfl) (getElem_mid dn rest r) (by kernel_rfl) (by kernel_rfl) fun h2 D2 => ?_
    rcases nv with _ | nv
    · refine sgL 1000 [.s 2, .s 2, .t, .s 2, .s 2, .s 5, .s 5, .s 5, .e, .s 5] [] G o.hd D2 ?_; intro oh3; refine ⟨by kernel_rfl, fun h3 tk3 D3 => ?_⟩
      refine u_ditem D3 5 (N := N) (es := ents (pre ++ nd :: post)) (ep := ep) (k := r.1) (u := r.2) (v := .ref nd.a) (by kernel_rfl) (ents_keys _) hl (by kernel_rfl) (by kernel_rfl) ?_
      have D4 := D3.tail 7 (rest := ncells (pre ++ nd :: post) ++ ρ) (by kernel_rfl)
      rw [ncells_mid] at D4
      have D5 := Rep.shuf [takeC 7 _, ncells pre, [nd.info], [nd.lst], ncells post ++ ρ] [4, 2, 2, 4, 4] D4
      refine sgL 1000 [.s 0, .t, .t, .t, .e, .s 0, .t, .e, .s 0, .t, .s 0, .t, .t, .t, .t, .t, .e, .t, .e, .t, .t, .s 0, .t, .t, .t, .e, .t, .t, .s 0, .t, .s 0] [] G o.hd D5 ?_; intro oh6; refine ⟨by kernel_rfl, fun h6 tk6 D6 => ?_⟩
      refine end_again (c' := forC w.params 106 3 it L) (by kernel_rfl) (by kernel_rfl) (by kernel_rfl) ?_
      let S7 : List Cells := [[Nd.info { nd with p := -1, pt := 208 }], [Nd.lst { nd with p := -1, pt := 208 }], [(it, itO "tuple_iterator" (.ref T) (dn.length + 1))], [(T, tupO ⟨(dn ++ r :: rest).map iv⟩ 0)], [(L, frameO (grE q0 q1 q2 S T N (some (hS w.params s_node, tk1, .int r.1 r.2))) 4)], [(S, instO 144 Dd)], [(Dd, dictO (attrs a N (.ref Rl) np nf) 4)], [(N, dictO (ents (pre ++ nd :: post)) ep)], [(Rl, rl)], ncells pre, ncells post, ρ]; have D7 : Rep h₀ h6 F (cat S7) := D6.eq (by kernel_rfl)
      have D8 := Rep.shuf _ [11, 11, 3, 3, 11, 11, 11, 11, 11, 11, 11, 11] D7
      refine l106 (S := S) (Dd := Dd) (N := N) (Rl := Rl) (T := T) (a := a) (np := np) (nf := nf) (rl := rl) (ep := ep) (q0 := q0) (q1 := q1) (q2 := q2) G o rest (dn ++ [r]) (pre ++ { nd with p := -1, pt := 208 } :: post) (some (hS w.params s_node, tk1, .int r.1 r.2)) h6 tk6 ?_ ?_ ?_
      · intro r' hr'
        obtain ⟨m', hm', e'⟩ := hk r' (.tail _ hr')
        rcases List.mem_append.mp hm' with hm' | hm'
        · exact ⟨m', List.mem_append.mpr (.inl hm'), e'⟩
        · rcases List.mem_cons.mp hm' with rfl | hm'
          · exact ⟨_, List.mem_append.mpr (.inr (.head _)), e'⟩
          · exact ⟨m', List.mem_append.mpr (.inr (.tail _ hm')), e'⟩
      · rw [ents_upd pre post nd { nd with p := -1, pt := 208 } rfl rfl rfl, ncells_mid, List.append_assoc dn [r] rest, List.length_append]
        exact D8
      · intro h' tk' ns' nv' hns D'
        refine x h' tk' ns' nv' ?_ (by rw [List.append_assoc dn [r] rest] at D'; exact D')
        rw [hns]
        show outM (pns (pre ++ { nd with p := -1, pt := 208 } :: post)) _ = outM (modK r.1 (fun n => { n with p := -1 }) (pns (pre ++ nd :: post))) _
        rw [modK_split hp hnk, pns_append]
        rfl
    · refine sgL 1000 [.s 2, .s 2, .t, .s 2, .s 2, .s 5, .s 5, .s 5, .e, .s 5] [] G o.hd D2 ?_; intro oh3; refine ⟨by kernel_rfl, fun h3 tk3 D3 => ?_⟩
      refine u_ditem D3 5 (N := N) (es := ents (pre ++ nd :: post)) (ep := ep) (k := r.1) (u := r.2) (v := .ref nd.a) (by kernel_rfl) (ents_keys _) hl (by kernel_rfl) (by kernel_rfl) ?_
      have D4 := D3.tail 7 (rest := ncells (pre ++ nd :: post) ++ ρ) (by kernel_rfl)
      rw [ncells_mid] at D4
      have D5 := Rep.shuf [takeC 7 _, ncells pre, [nd.info], [nd.lst], ncells post ++ ρ] [4, 2, 2, 4, 4] D4
      refine sgL 1000 [.s 0, .t, .t, .t, .e, .s 0, .t, .e, .s 0, .t, .s 0, .t, .t, .t, .t, .t, .e, .t, .e, .t, .t, .s 0, .t, .t, .t, .e, .t, .t, .s 0, .t, .s 0] [] G o.hd D5 ?_; intro oh6; refine ⟨by kernel_rfl, fun h6 tk6 D6 => ?_⟩
      refine end_again (c' := forC w.params 106 3 it L) (by kernel_rfl) (by kernel_rfl) (by kernel_rfl) ?_
      let S7 : List Cells := [[Nd.info { nd with p := -1, pt := 208 }], [Nd.lst { nd with p := -1, pt := 208 }], [(it, itO "tuple_iterator" (.ref T) (dn.length + 1))], [(T, tupO ⟨(dn ++ r :: rest).map iv⟩ 0)], [(L, frameO (grE q0 q1 q2 S T N (some (nv.1, nv.2.1, .int r.1 r.2))) 4)], [(S, instO 144 Dd)], [(Dd, dictO (attrs a N (.ref Rl) np nf) 4)], [(N, dictO (ents (pre ++ nd :: post)) ep)], [(Rl, rl)], ncells pre, ncells post, ρ]; have D7 : Rep h₀ h6 F (cat S7) := D6.eq (by kernel_rfl)
      have D8 := Rep.shuf _ [11, 11, 3, 3, 11, 11, 11, 11, 11, 11, 11, 11] D7
      refine l106 (S := S) (Dd := Dd) (N := N) (Rl := Rl) (T := T) (a := a) (np := np) (nf := nf) (rl := rl) (ep := ep) (q0 := q0) (q1 := q1) (q2 := q2) G o rest (dn ++ [r]) (pre ++ { nd with p := -1, pt := 208 } :: post) (some (nv.1, nv.2.1, .int r.1 r.2)) h6 tk6 ?_ ?_ ?_
      · intro r' hr'
        obtain ⟨m', hm', e'⟩ := hk r' (.tail _ hr')
        rcases List.mem_append.mp hm' with hm' | hm'
        · exact ⟨m', List.mem_append.mpr (.inl hm'), e'⟩
        · rcases List.mem_cons.mp hm' with rfl | hm'
          · exact ⟨_, List.mem_append.mpr (.inr (.head _)), e'⟩
          · exact ⟨m', List.mem_append.mpr (.inr (.tail _ hm')), e'⟩
      · rw [ents_upd pre post nd { nd with p := -1, pt := 208 } rfl rfl rfl, ncells_mid, List.append_assoc dn [r] rest, List.length_append]
        exact D8
      · intro h' tk' ns' nv' hns D'
        refine x h' tk' ns' nv' ?_ (by rw [List.append_assoc dn [r] rest] at D'; exact D')
        rw [hns]
        show outM (pns (pre ++ { nd with p := -1, pt := 208 } :: post)) _ = outM (modK r.1 (fun n => { n with p := -1 }) (pns (pre ++ nd :: post))) _
        rw [modK_split hp hnk, pns_append]
        rfl
theorem mapSeq_clear (items : Array Value) (n : Nat) : ∃ n', Obj.mapSeq (fun _ => #[]) (listO items n) = listO #[] n' := ⟨_, rfl⟩
theorem u_clear {c : Code} {κ : Kn} {t : Sem Fin} (D : Rep h₀ h F σ) (j : Nat) {l : Addr} {items : Array Value} {n : Nat} (hj : nth σ j = some (l, listO items n)) (hz : items.size ≤ sizeLine) (hc : againOf t = some (.builtin "list.clear" ⟨[.ref l], []⟩)) (hr : isRet κ = true)
    (x : ∀ h' n', Rep h₀ h' F (setNth σ j (l, listO #[] n')) → Mn prog w A R (kc κ) (kr κ) (kk κ (.ok (.ret .none))) ⟨h', g, d, tk, os⟩) : Mn prog w A R c κ t ⟨h, g, d, tk, os⟩ :=
  use_bi e_list_clear p_list_clear (PySem.AutoSeq1.list_clear_list_0 l items n hz) hc hr ⟨D.cell j hj, x _ _ (by
    have z := D.update (f := Obj.mapSeq fun _ => #[]) hj rfl
    rw [(mapSeq_clear items n).choose_spec] at z
    exact z)⟩
theorem c106 {S Dd N Rl : Addr} {a : SA} {c : Int} {t1 : Tok} {nf : Value} {ns : List Nd} {ep e : Nat} {rs : List IT} (G : Gd (wF b1 b2 b3 w₀) h₀) (o : Ok A 3) (hz : rs.length ≤ 1000) (hk : ∀ r ∈ rs, ∃ m ∈ ns, m.k = r.1)
    (D : Rep h₀ h F (sC S Dd a N (.ref Rl) (.int c t1) nf (ents ns) ep ((Rl, listO ⟨rs.map iv⟩ e) :: (ncells ns ++ ρ))))
    (x : ∀ h' tk' ns' T t2 e', pns ns' = outM (pns ns) (rs.map (·.1)) → Rep h₀ h' F ((T, tupO ⟨rs.map iv⟩ 0) :: sC S Dd a N (.ref Rl) (.int (c + rs.length) t2) nf (ents ns') ep ((Rl, listO #[] e') :: (ncells ns' ++ ρ))) → R (.ok (.ret (.ref T))) ⟨h', g, d, tk', os⟩) :
    codeAny (model prog (wF b1 b2 b3 w₀)) A (.call (.ref 106) ⟨[.ref S], []⟩) R ⟨h, g, d, tk, os⟩ := by
  all_goals
    refine code_start ?_
    refine sg2L 1000 [.t, .t, .s 0, .s 0] [] G o.hd D ?_; intro fh1 oh1; refine ⟨by kernel_rfl, fun h1 tk1 D1 => ?_⟩
    refine enter (c2 := fcode w₀.params 106 h.objs.size) (by kernel_rfl) (by kernel_rfl) (D1.gd G).lim (o.room (by kernel_rfl)) ?_
    refine sg2L 1000 [.s 0, .s 1, .t, .t, .t, .e, .s 1, .t, .t, .t, .s 1, .s 1, .t, .s 2, .t, .t, .s 0, .s 1, .t, .t, .t, .e, .s 1, .t, .t, .t, .s 1, .s 1, .t, .s 2] [] G o.hd D1 ?_; intro fh2 oh2; refine ⟨by kernel_rfl, fun h2 tk2 D2 => ?_⟩
    refine u_tuple D2 4 (l := Rl) (items := ⟨rs.map iv⟩) (n := e) (by kernel_rfl) 0 (L := h.objs.size) (oL := frameO #[⟨hS w₀.params s_self, .str s_self tk, .ref S⟩] 1) (by kernel_rfl) D.size (line_of hz (by simp)) (by kernel_rfl) fun h3 T D3 => ?_
    refine sg2L 1000 [.s 1, .s 1, .s 1, .s 2, .t, .t, .t, .e, .s 2, .t, .t, .t, .s 2, .s 2, .t, .s 3, .s 1, .s 1, .s 1, .s 0, .s 0, .e, .s 0, .e, .s 0] [] G o.hd D3 ?_; intro fh4 oh4; refine ⟨by kernel_rfl, fun h4 tk4 D4 => ?_⟩
    refine use_call (c' := forC w₀.params 106 3 h3.objs.size h.objs.size) (hd := none) (by kernel_rfl) rfl ?_
    refine l106 (w := wF _ b2 b3 w₀) (S := S) (Dd := Dd) (N := N) (Rl := Rl) (T := T) (a := a) (np := .int c t1) (nf := nf) (rl := listO ⟨rs.map iv⟩ e) (ep := ep) (q0 := (hS w₀.params s_self, tk)) (q1 := (hS w₀.params s_result, tk2)) (q2 := (hS w₀.params s_n2i, tk2 + 2)) (ρ := ρ) G (o.call (by kernel_rfl) (by kernel_rfl)) rs [] ns none h4 tk4 hk (D4.eq (by kernel_rfl)) ?_
    intro h5 tk5 ns' nv' hns D5
    rcases nv' with _ | nv
    all_goals
      refine sg2L 1000 [.s 1, .s 2, .t, .t, .t, .e, .s 2, .t, .t, .t, .s 2, .s 2, .t, .s 3, .s 5, .s 5, .s 5, .s 5, .e, .s 5] [] G o.hd D5 ?_; intro fh6 oh6; refine ⟨by kernel_rfl, fun h6 tk6 D6 => ?_⟩
      refine u_clear D6 5 (l := Rl) (items := ⟨rs.map iv⟩) (n := e) (by kernel_rfl) (line_of hz (by simp)) (by kernel_rfl) (by kernel_rfl) fun h7 e7 D7 => ?_
      refine sg2L 1000 [.s 1, .s 2, .t, .t, .t, .e, .s 2, .t, .t, .t, .s 2, .s 2, .t, .s 3, .t, .t, .s 1, .e] [] G o.hd D7 ?_; intro fh8 oh8; refine ⟨by kernel_rfl, fun h8 tk8 D8 => ?_⟩
      refine use_again (c' := .builtin "len" ⟨[.ref T], []⟩) (by kernel_rfl) (by kernel_rfl) (by kernel_rfl) ?_
      refine c_lenT D8 0 (l := T) (items := ⟨rs.map iv⟩) (n := 0) (by kernel_rfl) (by simpa using hz) ?_
      refine sg2L 1000 [.e, .e, .s 2, .t, .t, .t, .e, .s 2, .t, .e, .s 2, .t, .s 2, .t, .t, .t, .s 2, .t, .s 3, .s 3, .s 3, .s 1] [true, false] G o.hd D8 ?_; intro fh9 oh9; refine ⟨by kernel_rfl, fun h9 tk9 D9 => ?_⟩
      refine end_done (f := .ret (.ref T)) (by kernel_rfl) (by kernel_rfl) ?_
      have es : ((⟨rs.map iv⟩ : Array Value).size : Int) = rs.length := by simp
      have D10 : Rep h₀ h9 F ((T, tupO ⟨rs.map iv⟩ 0) :: sC S Dd a N (.ref Rl) (.int (c + ((⟨rs.map iv⟩ : Array Value).size : Int)) (tk8 + 2)) nf (ents ns') ep ((Rl, listO #[] e7) :: (ncells ns' ++ ρ))) := D9.eq (by kernel_rfl)
      rw [es] at D10
      exact x h9 tk9 ns' T _ _ hns D10
end Mine
end
section
open PySem PySem.W PySem.W.X PyProof.Rows
set_option Elab.async false
set_option maxRecDepth 100000
set_option maxHeartbeats 1000000
namespace Mine
variable {prog : Program} {w : World} {w₀ : World} {b1 b2 b3 : Bool} {A : Around} {R : Result → Shared → Prop} {h₀ h : Heap} {F : List Addr} {ρ σ : Cells} {g : Array GenState} {d : Drawn} {tk : Nat} {os : OsState}
theorem dec_eq (x y : Int) : @decide (x = y) (Z.eqZ x y) = decide (x = y) := by congr
theorem c_eq {x y : Int} {t u : Tok} (G : Gd w h₀) (hA : A.handled = none) (D : Rep h₀ h F σ)
    (z : ∀ h' tk', Rep h₀ h' F σ → R (.ok (.ret (.bool (decide (x = y))))) ⟨h', g, d, tk', os⟩) :
    codeAny (model prog w) A (.builtin "int.__eq__" ⟨[.int x t, .int y u], []⟩) R ⟨h, g, d, tk, os⟩ := by
  refine code_start ?_
  refine sgL 100 [] [] G hA D ?_; intro oh1; refine ⟨by kernel_rfl, fun h1 tk1 D1 => ?_⟩
  refine end_done (f := .ret (.bool (@decide (x = y) (Z.eqZ x y)))) (by kernel_rfl) (by kernel_rfl) ?_
  rw [dec_eq]
  exact z _ _ (D1.eq (by kernel_rfl))
noncomputable abbrev Q2 := Int × Tok
noncomputable abbrev fe (q : Q2) (s : Str) (v : Value) : DictEntry := ⟨q.1, .str s q.2, v⟩
noncomputable def icells (ns : List Nd) : Cells := ns.map Nd.info
noncomputable def lcells (ns : List Nd) : Cells := ns.map Nd.lst
theorem icells_mid (pre post : List Nd) (nd : Nd) (ρ : Cells) : icells (pre ++ nd :: post) ++ ρ = icells pre ++ (nd.info :: (icells post ++ ρ)) := by
  simp [icells]
theorem lcells_mid (pre post : List Nd) (nd : Nd) (ρ : Cells) : lcells (pre ++ nd :: post) ++ ρ = lcells pre ++ (nd.lst :: (lcells post ++ ρ)) := by
  simp [lcells]
theorem ncells_perm : ∀ ns : List Nd, (ncells ns).Perm (icells ns ++ lcells ns)
  | [] => .refl _
  | n :: r => by
    show (n.info :: n.lst :: ncells r).Perm (n.info :: (icells r ++ n.lst :: lcells r))
    exact (((ncells_perm r).cons _).trans List.perm_middle.symm).cons _
noncomputable def strip (n : Nd) : Nd := { n with p := 0, pt := 0 }
noncomputable def dnE (q0 q1 q2 : Q2) (S T N : Addr) : Option (Q2 × Q2 × Q2 × Value × Value × Value) → Option (Q2 × Q2 × Value × Value) → Array DictEntry
  | none, _ => #[fe q0 s_self (.ref S), fe q1 s_nodes (.ref T), fe q2 s_n2i (.ref N)]
  | some (q3, q4, q5, v3, v4, v5), none => #[fe q0 s_self (.ref S), fe q1 s_nodes (.ref T), fe q2 s_n2i (.ref N), fe q3 s_node v3, fe q4 s_nodeinfo v4, fe q5 s_stat v5]
  | some (q3, q4, q5, v3, v4, v5), some (q6, q7, v6, v7) => #[fe q0 s_self (.ref S), fe q1 s_nodes (.ref T), fe q2 s_n2i (.ref N), fe q3 s_node v3, fe q4 s_nodeinfo v4, fe q5 s_stat v5, fe q6 s_successor v6, fe q7 s_successor_info v7]
noncomputable def dnN : Option (Q2 × Q2 × Q2 × Value × Value × Value) → Option (Q2 × Q2 × Value × Value) → Nat
  | none, _ => 3
  | some _, none => 6
  | some _, some _ => 8
noncomputable def subS : Option Stmt → Nat → Option Stmt
  | some (.For _ _ body _ _), j => body[j]?
  | _, _ => none
noncomputable def forS (P : Params) (a : Addr) (s : Option Stmt) (it L : Addr) : Code := match s with
  | some (.For tgt _ body orelse _) => .forLoop tgt (.ref it) body orelse (fenv P a L)
  | _ => default
noncomputable abbrev forC2 (P : Params) (a : Addr) (i j : Nat) (it L : Addr) : Code := forS P a (subS (fstmt P a i) j) it L
noncomputable def pget (ps : List PN) (k : Int) : Option PN := ps.find? (fun n => n.k == k)
theorem pget_pns (ns : List Nd) (k : Int) : pget (pns ns) k = (ns.find? (fun n => n.k == k)).map Nd.pn := by
  unfold pget pns
  rw [List.find?_map]; rfl
noncomputable def dec1 (st : List PN × List Int) (s : Int) : Option (List PN × List Int) := match pget st.1 s with
  | none => none
  | some n => if st.2.length ≤ 1000 then some (modK s (fun n => { n with p := n.p - 1 }) st.1, if n.p - 1 = 0 then st.2 ++ [s] else st.2) else none
noncomputable def decs : List Int → List PN × List Int → Option (List PN × List Int)
  | [], st => some st
  | s :: r, st => match dec1 st s with
    | some st' => decs r st'
    | none => none
theorem decs_cons {s : Int} {r : List Int} {st st' : List PN × List Int} (h : decs (s :: r) st = some st') : ∃ n, pget st.1 s = some n ∧ st.2.length ≤ 1000 ∧ decs r (modK s (fun n => { n with p := n.p - 1 }) st.1, if n.p - 1 = 0 then st.2 ++ [s] else st.2) = some st' := by
  unfold decs dec1 at h
  cases hg : pget st.1 s with
  | none => rw [hg] at h; cases h
  | some n =>
    rw [hg] at h
    by_cases hz : st.2.length ≤ 1000
    · simp only [if_pos hz] at h; exact ⟨n, rfl, hz, h⟩
    · simp only [if_neg hz] at h; cases h
theorem l127i {S Dd N Rl it l T L : Addr} {a : SA} {np nf : Value} {ep e : Nat} {q0 q1 q2 : Q2} {x3 x4 x5 : Q2} {u3 u4 u5 : Value} (o : Ok A 2) : ∀ (rest : List IT) (b1 : Bool) (_ : Gd (wF b1 b2 b3 w₀) h₀) (dn : List IT) (ns : List Nd) (rs : List IT) (er : Nat) (y : Option (Q2 × Q2 × Value × Value)) (h : Heap) (tk : Nat) (st' : List PN × List Int),
    decs (rest.map (·.1)) (pns ns, rs.map (·.1)) = some st' →
    Rep h₀ h F ((it, itO "list_iterator" (.ref l) dn.length) :: (l, listO ⟨(dn ++ rest).map iv⟩ e) :: (L, frameO (dnE q0 q1 q2 S T N (some (x3, x4, x5, u3, u4, u5)) y) (dnN (some (x3, x4, x5, u3, u4, u5)) y)) :: sC S Dd a N (.ref Rl) np nf (ents ns) ep ((Rl, listO ⟨rs.map iv⟩ er) :: (icells ns ++ ρ))) →
    (∀ h' tk' (ns' : List Nd) (rs' : List IT) er' y', ns'.map strip = ns.map strip → pns ns' = st'.1 → rs'.map (·.1) = st'.2 → Rep h₀ h' F ((l, listO ⟨(dn ++ rest).map iv⟩ e) :: (L, frameO (dnE q0 q1 q2 S T N (some (x3, x4, x5, u3, u4, u5)) y') (dnN (some (x3, x4, x5, u3, u4, u5)) y')) :: sC S Dd a N (.ref Rl) np nf (ents ns') ep ((Rl, listO ⟨rs'.map iv⟩ er') :: (icells ns' ++ ρ))) → R (.ok .next) ⟨h', g, d, tk', os⟩) →
    codeAny (model prog (wF b1 b2 b3 w₀)) A (forC2 w₀.params 127 2 4 it L) R ⟨h, g, d, tk, os⟩
  | [] => by
    intro b1 G dn ns rs er y h tk st' hm D x
    have hm' : (pns ns, rs.map (·.1)) = st' := by
      have z : some (pns ns, rs.map (·.1)) = some st' := hm
      injection z
    refine code_start ?_
    refine sg2L 1000 [.s 0, .e, .s 0] [] G o.hd D ?_; intro fh1 oh1; refine ⟨by kernel_rfl, fun h1 tk1 D1 => ?_⟩
    refine u_lstop D1 0 (it := it) (T := l) (items := ⟨(dn ++ []).map iv⟩) (n := e) (i := dn.length) (by kernel_rfl) 1 (by kernel_rfl) (by rw [List.append_nil]; exact getElem_end dn) o.hd (by kernel_rfl) (by kernel_rfl) (by kernel_rfl) fun h2 E E0 D2 => ?_
    refine sg2L 1000 [.s 0, .e] [false, false, false] G o.hd D2 ?_; intro fh3 oh3; refine ⟨by kernel_rfl, fun h3 tk3 D3 => ?_⟩
    exact end_done (f := .next) (by kernel_rfl) (by kernel_rfl) (x h3 tk3 ns rs er y rfl (by rw [← hm']) (by rw [← hm']) (D3.eq (by kernel_rfl)))
  | r :: rest => by
    intro b1 G dn ns rs er y h tk st' hm D x
    obtain ⟨n, hg, hz0, hm⟩ := decs_cons hm
    have hz : rs.length ≤ 1000 := by simpa using hz0
    rw [pget_pns] at hg
    cases hf : ns.find? (fun n => n.k == r.1) with
    | none => rw [hf] at hg; cases hg
    | some nd =>
    rw [hf] at hg
    have hn : nd.pn = n := by simpa using hg
    subst hn
    have hl : dlook (ents ns) r.1 = some (.ref nd.a) := by rw [dlook_ents, hf]; rfl
    obtain ⟨pre, post, e', hnk, hp⟩ := find_split hf
    subst e'
    simp only [modK_split hp hnk] at hm
    have hpe : nd.pn.p = nd.p := rfl
    rw [hpe] at hm
    refine code_start ?_
    refine sg2L 1000 [.s 0, .e, .s 0] [] G o.hd D ?_; intro fh1 oh1; refine ⟨by kernel_rfl, fun h1 tk1 D1 => ?_⟩
    refine u_lnext D1 0 (it := it) (T := l) (items := ⟨(dn ++ r :: rest).map iv⟩) (n := e) (i := dn.length) (v := .int r.1 r.2) (by kernel_rfl) 1 (by kernel_rfl) (getElem_mid dn rest r) (by kernel_rfl) (by kernel_rfl) fun h2 D2 => ?_
    rcases y with _ | ⟨y6, y7, w6, w7⟩
    · refine sg2L 1000 [.s 2, .s 2, .s 2, .s 2, .s 5, .s 5, .s 5, .e, .s 5] [] G o.hd D2 ?_; intro fh3 oh3; refine ⟨by kernel_rfl, fun h3 tk3 D3 => ?_⟩
      refine u_ditem D3 5 (N := N) (es := ents (pre ++ nd :: post)) (ep := ep) (k := r.1) (u := r.2) (v := .ref nd.a) (by kernel_rfl) (ents_keys _) hl (by kernel_rfl) (by kernel_rfl) ?_
      have D4 := D3.tail 7 (rest := icells (pre ++ nd :: post) ++ ρ) (by kernel_rfl)
      rw [icells_mid] at D4
      have D5 := Rep.shuf [takeC 7 _, icells pre, [nd.info], icells post ++ ρ] [3, 2, 2, 3] D4
      refine sg2L 1000 [.s 3, .s 3, .s 3, .s 0, .t, .t, .t, .e, .s 0, .t, .t, .t, .t, .t, .t, .t, .t, .e, .t, .e, .t, .t, .s 0, .t, .t, .t, .e, .t, .t, .s 0, .t, .s 0, .e, .e, .s 0, .t, .t, .t, .e, .s 0, .t, .e, .s 0, .t, .s 0, .t, .t, .t, .t, .t, .e, .t, .e, .t, .t, .s 0, .t, .t, .t, .e, .t, .t, .s 0, .t, .s 0, .s 3, .s 0, .t, .t, .t, .e, .s 0, .t, .t, .t, .t, .t, .t, .t, .t, .e, .t, .e, .t, .t, .s 0, .t, .t, .t, .e, .t, .t, .s 0, .t, .s 0, .e] [] G o.hd D5 ?_; intro fh6 oh6; refine ⟨by kernel_rfl, fun h6 tk6 D6 => ?_⟩
      refine use_again (c' := .builtin "int.__eq__" ⟨[.int (nd.p - 1) (tk3 + 1 + 3), .int 0 (tk3 + 1 + 6)], []⟩) (by kernel_rfl) (by kernel_rfl) (by kernel_rfl) ?_
      refine c_eq G (by rw [arnd_hnd, o.hd]; kernel_rfl) D6 ?_
      intro h7 tk7 D7
      by_cases h0 : nd.p - 1 = 0
      · rw [if_pos h0] at hm
        rw [decide_eq_true h0]
        refine sg2L 1000 [.s 3, .s 4, .t, .t, .t, .e, .s 4, .t, .t, .t, .s 4, .s 4, .t, .s 5, .s 7, .s 7, .s 7, .s 7, .s 3, .e, .s 7] [] G o.hd D7 ?_; intro fh8 oh8; refine ⟨by kernel_rfl, fun h8 tk8 D8 => ?_⟩
        refine u_append (l := Rl) (items := ⟨rs.map iv⟩) (n := er) (v := .int r.1 r.2) D8 7 (by kernel_rfl) (line_of (n := rs.length) hz (by simp)) (by kernel_rfl) (by kernel_rfl) fun h9 D9 => ?_
        refine sg2L 1000 [] [] G o.hd D9 ?_; intro fh10 oh10; refine ⟨by kernel_rfl, fun h10 tk10 D10 => ?_⟩
        refine end_again (c' := forC2 w₀.params 127 2 4 it L) (by kernel_rfl) (by kernel_rfl) (by kernel_rfl) ?_
        have D9 : Rep h₀ h10 F (cat [[Nd.info { nd with p := nd.p - 1, pt := tk3 + 1 + 3 }], [(it, itO "list_iterator" (.ref l) (dn.length + 1))], [(l, listO ⟨(dn ++ r :: rest).map iv⟩ e)], [(L, frameO (dnE q0 q1 q2 S T N (some (x3, x4, x5, u3, u4, u5)) (some ((hS w₀.params s_successor, tk1), (hS w₀.params s_successor_info, tk3 + 1), .int r.1 r.2, .ref nd.a))) 8)], [(S, instO 144 Dd)], [(Dd, dictO (attrs a N (.ref Rl) np nf) 4)], [(N, dictO (ents (pre ++ nd :: post)) ep)], [(Rl, listO ⟨(rs ++ [r]).map iv⟩ (er + 1))], icells pre, icells post, ρ]) := by rw [show (⟨(rs ++ [r]).map iv⟩ : Array Value) = (⟨rs.map iv⟩ : Array Value).push (.int r.1 r.2) from by simp]; exact D10.eq (by kernel_rfl)
        have D10 := Rep.shuf _ [10, 10, 2, 10, 10, 10, 10, 10, 10, 10, 10] D9
        refine l127i (S := S) (Dd := Dd) (N := N) (Rl := Rl) (it := it) (l := l) (L := L) (T := T) (a := a) (np := np) (nf := nf) (q0 := q0) (q1 := q1) (q2 := q2) (ep := ep) (e := e) (x3 := x3) (x4 := x4) (x5 := x5) (u3 := u3) (u4 := u4) (u5 := u5) o rest _ G (dn ++ [r]) (pre ++ { nd with p := nd.p - 1, pt := tk3 + 1 + 3 } :: post) (rs ++ [r]) (er + 1) (some ((hS w₀.params s_successor, tk1), (hS w₀.params s_successor_info, tk3 + 1), .int r.1 r.2, .ref nd.a)) _ _ st' ?_ ?_ ?_
        · rw [pns_append]
          first | (rw [List.map_append]; exact hm) | exact hm
        · rw [ents_upd pre post nd { nd with p := nd.p - 1, pt := tk3 + 1 + 3 } rfl rfl rfl, icells_mid, List.append_assoc dn [r] rest, List.length_append]
          exact D10
        · intro h' tk' ns' rs' e' y' hs hp' hr' D'
          refine x h' tk' ns' rs' e' y' ?_ hp' hr' ?_
          · rw [hs]; simp [strip, List.map_append]
          · rw [List.append_assoc dn [r] rest] at D'
            exact D'
      · rw [if_neg h0] at hm
        rw [decide_eq_false h0]
        refine sg2L 1000 [] [] G o.hd D7 ?_; intro fh10 oh10; refine ⟨by kernel_rfl, fun h10 tk10 D10 => ?_⟩
        refine end_again (c' := forC2 w₀.params 127 2 4 it L) (by kernel_rfl) (by kernel_rfl) (by kernel_rfl) ?_
        let S9 : List Cells := [[Nd.info { nd with p := nd.p - 1, pt := tk3 + 1 + 3 }], [(it, itO "list_iterator" (.ref l) (dn.length + 1))], [(l, listO ⟨(dn ++ r :: rest).map iv⟩ e)], [(L, frameO (dnE q0 q1 q2 S T N (some (x3, x4, x5, u3, u4, u5)) (some ((hS w₀.params s_successor, tk1), (hS w₀.params s_successor_info, tk3 + 1), .int r.1 r.2, .ref nd.a))) 8)], [(S, instO 144 Dd)], [(Dd, dictO (attrs a N (.ref Rl) np nf) 4)], [(N, dictO (ents (pre ++ nd :: post)) ep)], [(Rl, listO ⟨(rs).map iv⟩ er)], icells pre, icells post, ρ]; have D9 : Rep h₀ h10 F (cat S9) := D10.eq (by kernel_rfl)
        have D10 := Rep.shuf _ [10, 10, 2, 10, 10, 10, 10, 10, 10, 10, 10] D9
        refine l127i (S := S) (Dd := Dd) (N := N) (Rl := Rl) (it := it) (l := l) (L := L) (T := T) (a := a) (np := np) (nf := nf) (q0 := q0) (q1 := q1) (q2 := q2) (ep := ep) (e := e) (x3 := x3) (x4 := x4) (x5 := x5) (u3 := u3) (u4 := u4) (u5 := u5) o rest _ G (dn ++ [r]) (pre ++ { nd with p := nd.p - 1, pt := tk3 + 1 + 3 } :: post) (rs) er (some ((hS w₀.params s_successor, tk1), (hS w₀.params s_successor_info, tk3 + 1), .int r.1 r.2, .ref nd.a)) _ _ st' ?_ ?_ ?_
        · rw [pns_append]
          first | (rw [List.map_append]; exact hm) | exact hm
        · rw [ents_upd pre post nd { nd with p := nd.p - 1, pt := tk3 + 1 + 3 } rfl rfl rfl, icells_mid, List.append_assoc dn [r] rest, List.length_append]
          exact D10
        · intro h' tk' ns' rs' e' y' hs hp' hr' D'
          refine x h' tk' ns' rs' e' y' ?_ hp' hr' ?_
          · rw [hs]; simp [strip, List.map_append]
          · rw [List.append_assoc dn [r] rest] at D'
            exact D'
    · refine sg2L 1000 [.s 2, .s 2, .s 2, .s 2, .s 5, .s 5, .s 5, .e, .s 5] [] G o.hd D2 ?_; intro fh3 oh3; refine ⟨by kernel_rfl, fun h3 tk3 D3 => ?_⟩
      refine u_ditem D3 5 (N := N) (es := ents (pre ++ nd :: post)) (ep := ep) (k := r.1) (u := r.2) (v := .ref nd.a) (by kernel_rfl) (ents_keys _) hl (by kernel_rfl) (by kernel_rfl) ?_
      have D4 := D3.tail 7 (rest := icells (pre ++ nd :: post) ++ ρ) (by kernel_rfl)
      rw [icells_mid] at D4
      have D5 := Rep.shuf [takeC 7 _, icells pre, [nd.info], icells post ++ ρ] [3, 2, 2, 3] D4
      refine sg2L 1000 [.s 3, .s 3, .s 3, .s 0, .t, .t, .t, .e, .s 0, .t, .t, .t, .t, .t, .t, .t, .t, .e, .t, .e, .t, .t, .s 0, .t, .t, .t, .e, .t, .t, .s 0, .t, .s 0, .e, .e, .s 0, .t, .t, .t, .e, .s 0, .t, .e, .s 0, .t, .s 0, .t, .t, .t, .t, .t, .e, .t, .e, .t, .t, .s 0, .t, .t, .t, .e, .t, .t, .s 0, .t, .s 0, .s 3, .s 0, .t, .t, .t, .e, .s 0, .t, .t, .t, .t, .t, .t, .t, .t, .e, .t, .e, .t, .t, .s 0, .t, .t, .t, .e, .t, .t, .s 0, .t, .s 0, .e] [] G o.hd D5 ?_; intro fh6 oh6; refine ⟨by kernel_rfl, fun h6 tk6 D6 => ?_⟩
      refine use_again (c' := .builtin "int.__eq__" ⟨[.int (nd.p - 1) (tk3 + 1 + 3), .int 0 (tk3 + 1 + 6)], []⟩) (by kernel_rfl) (by kernel_rfl) (by kernel_rfl) ?_
      refine c_eq G (by rw [arnd_hnd, o.hd]; kernel_rfl) D6 ?_
      intro h7 tk7 D7
      by_cases h0 : nd.p - 1 = 0
      · rw [if_pos h0] at hm
        rw [decide_eq_true h0]
        refine sg2L 1000 [.s 3, .s 4, .t, .t, .t, .e, .s 4, .t, .t, .t, .s 4, .s 4, .t, .s 5, .s 7, .s 7, .s 7, .s 7, .s 3, .e, .s 7] [] G o.hd D7 ?_; intro fh8 oh8; refine ⟨by kernel_rfl, fun h8 tk8 D8 => ?_⟩
        refine u_append (l := Rl) (items := ⟨rs.map iv⟩) (n := er) (v := .int r.1 r.2) D8 7 (by kernel_rfl) (line_of (n := rs.length) hz (by simp)) (by kernel_rfl) (by kernel_rfl) fun h9 D9 => ?_
        refine sg2L 1000 [] [] G o.hd D9 ?_; intro fh10 oh10; refine ⟨by kernel_rfl, fun h10 tk10 D10 => ?_⟩
        refine end_again (c' := forC2 w₀.params 127 2 4 it L) (by kernel_rfl) (by kernel_rfl) (by kernel_rfl) ?_
        have D9 : Rep h₀ h10 F (cat [[Nd.info { nd with p := nd.p - 1, pt := tk3 + 1 + 3 }], [(it, itO "list_iterator" (.ref l) (dn.length + 1))], [(l, listO ⟨(dn ++ r :: rest).map iv⟩ e)], [(L, frameO (dnE q0 q1 q2 S T N (some (x3, x4, x5, u3, u4, u5)) (some (y6, y7, .int r.1 r.2, .ref nd.a))) 8)], [(S, instO 144 Dd)], [(Dd, dictO (attrs a N (.ref Rl) np nf) 4)], [(N, dictO (ents (pre ++ nd :: post)) ep)], [(Rl, listO ⟨(rs ++ [r]).map iv⟩ (er + 1))], icells pre, icells post, ρ]) := by rw [show (⟨(rs ++ [r]).map iv⟩ : Array Value) = (⟨rs.map iv⟩ : Array Value).push (.int r.1 r.2) from by simp]; exact D10.eq (by kernel_rfl)
        have D10 := Rep.shuf _ [10, 10, 2, 10, 10, 10, 10, 10, 10, 10, 10] D9
        refine l127i (S := S) (Dd := Dd) (N := N) (Rl := Rl) (it := it) (l := l) (L := L) (T := T) (a := a) (np := np) (nf := nf) (q0 := q0) (q1 := q1) (q2 := q2) (ep := ep) (e := e) (x3 := x3) (x4 := x4) (x5 := x5) (u3 := u3) (u4 := u4) (u5 := u5) o rest _ G (dn ++ [r]) (pre ++ { nd with p := nd.p - 1, pt := tk3 + 1 + 3 } :: post) (rs ++ [r]) (er + 1) (some (y6, y7, .int r.1 r.2, .ref nd.a)) _ _ st' ?_ ?_ ?_
        · rw [pns_append]
          first | (rw [List.map_append]; exact hm) | exact hm
        · rw [ents_upd pre post nd { nd with p := nd.p - 1, pt := tk3 + 1 + 3 } rfl rfl rfl, icells_mid, List.append_assoc dn [r] rest, List.length_append]
          exact D10
        · intro h' tk' ns' rs' e' y' hs hp' hr' D'
          refine x h' tk' ns' rs' e' y' ?_ hp' hr' ?_
          · rw [hs]; simp [strip, List.map_append]
          · rw [List.append_assoc dn [r] rest] at D'
            exact D'
      · rw [if_neg h0] at hm
        rw [decide_eq_false h0]
        refine sg2L 1000 [] [] G o.hd D7 ?_; intro fh10 oh10; refine ⟨by kernel_rfl, fun h10 tk10 D10 => ?_⟩
        refine end_again (c' := forC2 w₀.params 127 2 4 it L) (by kernel_rfl) (by kernel_rfl) (by kernel_rfl) ?_
        let S9 : List Cells := [[Nd.info { nd with p := nd.p - 1, pt := tk3 + 1 + 3 }], [(it, itO "list_iterator" (.ref l) (dn.length + 1))], [(l, listO ⟨(dn ++ r :: rest).map iv⟩ e)], [(L, frameO (dnE q0 q1 q2 S T N (some (x3, x4, x5, u3, u4, u5)) (some (y6, y7, .int r.1 r.2, .ref nd.a))) 8)], [(S, instO 144 Dd)], [(Dd, dictO (attrs a N (.ref Rl) np nf) 4)], [(N, dictO (ents (pre ++ nd :: post)) ep)], [(Rl, listO ⟨(rs).map iv⟩ er)], icells pre, icells post, ρ]; have D9 : Rep h₀ h10 F (cat S9) := D10.eq (by kernel_rfl)
        have D10 := Rep.shuf _ [10, 10, 2, 10, 10, 10, 10, 10, 10, 10, 10] D9
        refine l127i (S := S) (Dd := Dd) (N := N) (Rl := Rl) (it := it) (l := l) (L := L) (T := T) (a := a) (np := np) (nf := nf) (q0 := q0) (q1 := q1) (q2 := q2) (ep := ep) (e := e) (x3 := x3) (x4 := x4) (x5 := x5) (u3 := u3) (u4 := u4) (u5 := u5) o rest _ G (dn ++ [r]) (pre ++ { nd with p := nd.p - 1, pt := tk3 + 1 + 3 } :: post) (rs) er (some (y6, y7, .int r.1 r.2, .ref nd.a)) _ _ st' ?_ ?_ ?_
        · rw [pns_append]
          first | (rw [List.map_append]; exact hm) | exact hm
        · rw [ents_upd pre post nd { nd with p := nd.p - 1, pt := tk3 + 1 + 3 } rfl rfl rfl, icells_mid, List.append_assoc dn [r] rest, List.length_append]
          exact D10
        · intro h' tk' ns' rs' e' y' hs hp' hr' D'
          refine x h' tk' ns' rs' e' y' ?_ hp' hr' ?_
          · rw [hs]; simp [strip, List.map_append]
          · rw [List.append_assoc dn [r] rest] at D'
            exact D'
end Mine
end
section
open PySem PySem.W PySem.W.X PyProof.Rows
set_option Elab.async false
set_option maxRecDepth 100000
set_option maxHeartbeats 1000000
namespace Mine
variable {prog : Program} {w : World} {w₀ : World} {b1 b2 b3 : Bool} {A : Around} {R : Result → Shared → Prop} {h₀ h : Heap} {F : List Addr} {ρ σ : Cells} {g : Array GenState} {d : Drawn} {tk : Nat} {os : OsState}
theorem lcells_strip (ns : List Nd) : lcells ns = lcells (ns.map strip) := by
  unfold lcells
  rw [List.map_map]; rfl
theorem ents_strip (ns : List Nd) : ents ns = ents (ns.map strip) := by
  unfold ents
  rw [List.map_map]; rfl
noncomputable def done1 (st : List PN × List Int) (k : Int) : Option (List PN × List Int) := match pget st.1 k with
  | none => none
  | some n => if n.p = -1 then decs n.su (modK k (fun n => { n with p := -2 }) st.1, st.2) else none
noncomputable def dones : List Int → List PN × List Int → Option (List PN × List Int)
  | [], st => some st
  | s :: r, st => match done1 st s with
    | some st' => dones r st'
    | none => none
theorem dones_cons {s : Int} {r : List Int} {st st' : List PN × List Int} (h : dones (s :: r) st = some st') : ∃ n st1, pget st.1 s = some n ∧ n.p = -1 ∧ decs n.su (modK s (fun n => { n with p := -2 }) st.1, st.2) = some st1 ∧ dones r st1 = some st' := by
  unfold dones done1 at h
  cases hg : pget st.1 s with
  | none => rw [hg] at h; cases h
  | some n =>
    rw [hg] at h
    by_cases hz : n.p = -1
    · simp only [if_pos hz] at h
      cases hd : decs n.su (modK s (fun n => { n with p := -2 }) st.1, st.2) with
      | none => rw [hd] at h; cases h
      | some st1 => rw [hd] at h; exact ⟨n, st1, rfl, hz, hd, h⟩
    · simp only [if_neg hz] at h; cases h
theorem l127 {S Dd N Rl it T L : Addr} {a : SA} {np : Value} {ep : Nat} {q0 q1 q2 : Q2} (o : Ok A 3) : ∀ (rest : List IT) (b1 : Bool) (_ : Gd (wF b1 b2 b3 w₀) h₀) (dn : List IT) (ns : List Nd) (rs : List IT) (er : Nat) (v : Option (Q2 × Q2 × Q2 × Value × Value × Value)) (y : Option (Q2 × Q2 × Value × Value)) (f : Int) (ft : Tok) (h : Heap) (tk : Nat) (st' : List PN × List Int),
    dones (rest.map (·.1)) (pns ns, rs.map (·.1)) = some st' →
    Rep h₀ h F ((it, itO "tuple_iterator" (.ref T) dn.length) :: (T, tupO ⟨(dn ++ rest).map iv⟩ 0) :: (L, frameO (dnE q0 q1 q2 S T N v y) (dnN v y)) :: sC S Dd a N (.ref Rl) np (.int f ft) (ents ns) ep ((Rl, listO ⟨rs.map iv⟩ er) :: (icells ns ++ (lcells ns ++ ρ)))) →
    (∀ h' tk' (ns' : List Nd) (rs' : List IT) er' v' y' ft', ns'.map strip = ns.map strip → pns ns' = st'.1 → rs'.map (·.1) = st'.2 → Rep h₀ h' F ((T, tupO ⟨(dn ++ rest).map iv⟩ 0) :: (L, frameO (dnE q0 q1 q2 S T N v' y') (dnN v' y')) :: sC S Dd a N (.ref Rl) np (.int (f + rest.length) ft') (ents ns') ep ((Rl, listO ⟨rs'.map iv⟩ er') :: (icells ns' ++ (lcells ns' ++ ρ)))) → R (.ok .next) ⟨h', g, d, tk', os⟩) →
    codeAny (model prog (wF b1 b2 b3 w₀)) A (forC w₀.params 127 2 it L) R ⟨h, g, d, tk, os⟩
  | [] => by
    intro b1 G dn ns rs er v y f ft h tk st' hm D x
    have hm' : (pns ns, rs.map (·.1)) = st' := by
      have z : some (pns ns, rs.map (·.1)) = some st' := hm
      injection z
    refine code_start ?_
    refine sg2L 1000 [.s 0, .e, .s 0] [] G o.hd D ?_; intro fh1 oh1; refine ⟨by kernel_rfl, fun h1 tk1 D1 => ?_⟩
    refine u_tstop D1 0 (it := it) (T := T) (items := ⟨(dn ++ []).map iv⟩) (n := 0) (i := dn.length) (by kernel_rfl) 1 (by kernel_rfl) (by rw [List.append_nil]; exact getElem_end dn) o.hd (by kernel_rfl) (by kernel_rfl) (by kernel_rfl) fun h2 E E0 D2 => ?_
    refine sg2L 1000 [.s 0, .e] [false, false, false] G o.hd D2 ?_; intro fh3 oh3; refine ⟨by kernel_rfl, fun h3 tk3 D3 => ?_⟩
    refine end_done (f := .next) (by kernel_rfl) (by kernel_rfl) (x h3 tk3 ns rs er v y ft rfl (by rw [← hm']) (by rw [← hm']) ?_)
    rw [show f + (([] : List IT).length : Int) = f from by simp]
    exact D3.eq (by kernel_rfl)
  | r :: rest => by
    intro b1 G dn ns rs er v y f ft h tk st' hm D x
    obtain ⟨n, st1, hg, hn1, h1m, h2m⟩ := dones_cons hm
    rw [pget_pns] at hg
    cases hf : ns.find? (fun n => n.k == r.1) with
    | none => rw [hf] at hg; cases hg
    | some nd =>
    rw [hf] at hg
    have hn : nd.pn = n := by simpa using hg
    subst hn
    have hl : (dlook (ents ns) r.1).getD .none = .ref nd.a := by rw [dlook_ents, hf]; rfl
    obtain ⟨pre, post, e', hnk, hp⟩ := find_split hf
    subst e'
    simp only [modK_split hp hnk] at h1m
    obtain ⟨nk, kt, na, dx, l, np1, pt, su, e⟩ := nd
    have hn2 : np1 = -1 := hn1
    subst hn2
    refine code_start ?_
    refine sg2L 1000 [.s 0, .e, .s 0] [] G o.hd D ?_; intro fh1 oh1; refine ⟨by kernel_rfl, fun h1 tk1 D1 => ?_⟩
    refine u_tnext D1 0 (it := it) (T := T) (items := ⟨(dn ++ r :: rest).map iv⟩) (n := 0) (i := dn.length) (v := .int r.1 r.2) (by kernel_rfl) 1 (by kernel_rfl) (getElem_mid dn rest r) (by kernel_rfl) (by kernel_rfl) fun h2 D2 => ?_
    rcases v with _ | ⟨x3, x4, x5, u3, u4, u5⟩
    · refine sg2L 1000 [.s 2, .s 2, .s 2, .s 5, .s 5, .s 5, .s 5, .s 2, .e, .s 5] [] G o.hd D2 ?_; intro fh3 oh3; refine ⟨by kernel_rfl, fun h3 tk3 D3 => ?_⟩
      refine u_dget D3 5 (N := N) (es := ents (pre ++ ⟨nk, kt, na, dx, l, -1, pt, su, e⟩ :: post)) (ep := ep) (k := r.1) (u := r.2) (by kernel_rfl) (ents_keys _) (by kernel_rfl) (by kernel_rfl) ?_
      rw [hl]
      have D4 := D3.tail 7 (rest := icells (pre ++ ⟨nk, kt, na, dx, l, -1, pt, su, e⟩ :: post) ++ (lcells (pre ++ ⟨nk, kt, na, dx, l, -1, pt, su, e⟩ :: post) ++ ρ)) (by kernel_rfl)
      rw [icells_mid, lcells_mid] at D4
      have D5 := Rep.shuf [takeC 7 _, icells pre, [Nd.info ⟨nk, kt, na, dx, l, -1, pt, su, e⟩], icells post, lcells pre, [Nd.lst ⟨nk, kt, na, dx, l, -1, pt, su, e⟩], lcells post ++ ρ] [6, 5, 5, 4, 6, 5, 6] D4
      refine sg2L 1000 [.s 3, .s 3, .s 3, .s 0, .t, .t, .t, .e, .s 0, .t, .t, .t, .t, .t, .t, .t, .t, .e, .t, .e, .t, .t, .s 0, .t, .t, .t, .e, .t, .t, .s 0, .t, .s 0, .s 3, .s 3, .s 3, .t, .e, .e, .t, .s 3, .s 0, .t, .t, .t, .e, .s 0, .t, .e, .s 0, .t, .s 0, .t, .t, .t, .t, .t, .e, .t, .e, .t, .t, .s 0, .t, .t, .t, .e, .t, .t, .s 0, .t, .s 0, .s 3, .s 0, .t, .t, .t, .e, .s 0, .t, .t, .t, .t, .t, .t, .t, .t, .e, .t, .e, .t, .t, .s 0, .t, .t, .t, .e, .t, .t, .s 0, .t, .s 0, .s 8, .s 8, .e, .s 8, .e, .s 0] [] G o.hd D5 ?_; intro fh6 oh6; refine ⟨by kernel_rfl, fun h6 tk6 D6 => ?_⟩
      refine use_call (c' := forC2 w₀.params 127 2 4 h3.objs.size L) (hd := none) (by kernel_rfl) rfl ?_
      let S7 : List Cells := [[(h3.objs.size, itO "list_iterator" (.ref l) 0)], [Nd.info ⟨nk, kt, na, dx, l, -2, 211, su, e⟩], [(it, itO "tuple_iterator" (.ref T) (dn.length + 1))], [(T, tupO ⟨(dn ++ r :: rest).map iv⟩ 0)], [(L, frameO (dnE q0 q1 q2 S T N (some ((hS w₀.params s_node, tk1), (hS w₀.params s_nodeinfo, tk3 + 1), (hS w₀.params s_stat, tk3 + 1 + 2), .int r.1 r.2, .ref na, .int (-1) pt)) none) (dnN (some ((hS w₀.params s_node, tk1), (hS w₀.params s_nodeinfo, tk3 + 1), (hS w₀.params s_stat, tk3 + 1 + 2), .int r.1 r.2, .ref na, .int (-1) pt)) none))], [(S, instO 144 Dd)], [(Dd, dictO (attrs a N (.ref Rl) np (.int f ft)) 4)], [(N, dictO (ents (pre ++ ⟨nk, kt, na, dx, l, -1, pt, su, e⟩ :: post)) ep)], [(Rl, listO ⟨rs.map iv⟩ er)], [Nd.lst ⟨nk, kt, na, dx, l, -1, pt, su, e⟩], icells pre, icells post, lcells pre, lcells post, ρ]; have D7 : Rep h₀ h6 F (cat S7) := D6.eq (by kernel_rfl)
      have D8 := Rep.shuf _ [14, 14, 14, 6, 6, 14, 7, 14, 13, 13, 13, 13, 13, 14, 14] D7
      refine l127i (a := a) (np := np) (ep := ep) (q0 := q0) (q1 := q1) (q2 := q2) (S := S) (Dd := Dd) (N := N) (Rl := Rl) (T := T) (L := L) (F := F) (nf := .int f ft) (it := h3.objs.size) (l := l) (e := e) (x3 := (hS w₀.params s_node, tk1)) (x4 := (hS w₀.params s_nodeinfo, tk3 + 1)) (x5 := (hS w₀.params s_stat, tk3 + 1 + 2)) (u3 := .int r.1 r.2) (u4 := .ref na) (u5 := .int (-1) pt) (ρ := cat [[(it, itO "tuple_iterator" (.ref T) (dn.length + 1))], [(T, tupO ⟨(dn ++ r :: rest).map iv⟩ 0)], lcells pre, lcells post, ρ]) (o.call (by kernel_rfl) (by kernel_rfl)) su _ G [] (pre ++ ⟨nk, kt, na, dx, l, -2, 211, su, e⟩ :: post) rs er none h6 tk6 st1 ?_ ?_ ?_
      · rw [pns_append]; exact h1m
      · rw [ents_upd pre post ⟨nk, kt, na, dx, l, -1, pt, su, e⟩ ⟨nk, kt, na, dx, l, -2, 211, su, e⟩ rfl rfl rfl, icells_mid]
        exact D8
      intro h9 tk9 ns9 rs9 er9 y9 hs9 hp9 hr9 D9
      have hlc : lcells ns9 = lcells (pre ++ ⟨nk, kt, na, dx, l, -1, pt, su, e⟩ :: post) := by
        rw [lcells_strip ns9, hs9, ← lcells_strip]; simp [lcells, Nd.lst]
      have hss : ns9.map strip = (pre ++ ⟨nk, kt, na, dx, l, -1, pt, su, e⟩ :: post).map strip := by rw [hs9]; simp [strip]
      rcases y9 with _ | ⟨z6, z7, c6, c7⟩
      · refine sg2L 1000 [.s 1, .s 2, .t, .t, .t, .e, .s 2, .t, .t, .t, .s 2, .s 2, .t, .s 3, .e, .e, .s 2, .t, .t, .t, .e, .s 2, .t, .e, .s 2, .t, .s 2, .t, .t, .t, .s 2, .t, .s 3, .s 3, .s 3] [] G o.hd D9 ?_; intro fh10 oh10; refine ⟨by kernel_rfl, fun h10 tk10 D10 => ?_⟩
        refine end_again (c' := forC w₀.params 127 2 it L) (by kernel_rfl) (by kernel_rfl) (by kernel_rfl) ?_
        let S11 : List Cells := [[Nd.lst ⟨nk, kt, na, dx, l, -1, pt, su, e⟩], [(L, frameO (dnE q0 q1 q2 S T N (some ((hS w₀.params s_node, tk1), (hS w₀.params s_nodeinfo, tk3 + 1), (hS w₀.params s_stat, tk3 + 1 + 2), .int r.1 r.2, .ref na, .int (-1) pt)) none) (dnN (some ((hS w₀.params s_node, tk1), (hS w₀.params s_nodeinfo, tk3 + 1), (hS w₀.params s_stat, tk3 + 1 + 2), .int r.1 r.2, .ref na, .int (-1) pt)) none))], [(S, instO 144 Dd)], [(Dd, dictO (attrs a N (.ref Rl) np (.int (f + 1) (tk9 + 2))) 4)], [(N, dictO (ents ns9) ep)], [(Rl, listO ⟨rs9.map iv⟩ er9)], icells ns9, [(it, itO "tuple_iterator" (.ref T) (dn.length + 1))], [(T, tupO ⟨(dn ++ r :: rest).map iv⟩ 0)], lcells pre, lcells post, ρ]; have D11 : Rep h₀ h10 F (cat S11) := D10.eq (by kernel_rfl)
        have D12 := Rep.shuf _ [11, 11, 2, 11, 9, 9, 9, 9, 9, 9, 11, 11] D11
        refine l127 (a := a) (np := np) (ep := ep) (q0 := q0) (q1 := q1) (q2 := q2) (S := S) (Dd := Dd) (N := N) (Rl := Rl) (T := T) (L := L) (it := it) o rest _ G (dn ++ [r]) ns9 rs9 er9 (some ((hS w₀.params s_node, tk1), (hS w₀.params s_nodeinfo, tk3 + 1), (hS w₀.params s_stat, tk3 + 1 + 2), .int r.1 r.2, .ref na, .int (-1) pt)) none (f + 1) (tk9 + 2) h10 tk10 st' ?_ ?_ ?_
        · rw [hp9, hr9]; exact h2m
        · rw [hlc, lcells_mid, List.append_assoc dn [r] rest, List.length_append]
          exact D12
        · intro h' tk' ns' rs' e' v' y' ft' hs hp' hr' D'
          refine x h' tk' ns' rs' e' v' y' ft' (hs.trans hss) hp' hr' ?_
          rw [List.append_assoc dn [r] rest, show f + 1 + (rest.length : Int) = f + ((r :: rest).length : Int) from by rw [List.length_cons]; omega] at D'
          exact D'
      · refine sg2L 1000 [.s 1, .s 2, .t, .t, .t, .e, .s 2, .t, .t, .t, .s 2, .s 2, .t, .s 3, .e, .e, .s 2, .t, .t, .t, .e, .s 2, .t, .e, .s 2, .t, .s 2, .t, .t, .t, .s 2, .t, .s 3, .s 3, .s 3] [] G o.hd D9 ?_; intro fh10 oh10; refine ⟨by kernel_rfl, fun h10 tk10 D10 => ?_⟩
        refine end_again (c' := forC w₀.params 127 2 it L) (by kernel_rfl) (by kernel_rfl) (by kernel_rfl) ?_
        let S11 : List Cells := [[Nd.lst ⟨nk, kt, na, dx, l, -1, pt, su, e⟩], [(L, frameO (dnE q0 q1 q2 S T N (some ((hS w₀.params s_node, tk1), (hS w₀.params s_nodeinfo, tk3 + 1), (hS w₀.params s_stat, tk3 + 1 + 2), .int r.1 r.2, .ref na, .int (-1) pt)) (some (z6, z7, c6, c7))) (dnN (some ((hS w₀.params s_node, tk1), (hS w₀.params s_nodeinfo, tk3 + 1), (hS w₀.params s_stat, tk3 + 1 + 2), .int r.1 r.2, .ref na, .int (-1) pt)) (some (z6, z7, c6, c7))))], [(S, instO 144 Dd)], [(Dd, dictO (attrs a N (.ref Rl) np (.int (f + 1) (tk9 + 2))) 4)], [(N, dictO (ents ns9) ep)], [(Rl, listO ⟨rs9.map iv⟩ er9)], icells ns9, [(it, itO "tuple_iterator" (.ref T) (dn.length + 1))], [(T, tupO ⟨(dn ++ r :: rest).map iv⟩ 0)], lcells pre, lcells post, ρ]; have D11 : Rep h₀ h10 F (cat S11) := D10.eq (by kernel_rfl)
        have D12 := Rep.shuf _ [11, 11, 2, 11, 9, 9, 9, 9, 9, 9, 11, 11] D11
        refine l127 (a := a) (np := np) (ep := ep) (q0 := q0) (q1 := q1) (q2 := q2) (S := S) (Dd := Dd) (N := N) (Rl := Rl) (T := T) (L := L) (it := it) o rest _ G (dn ++ [r]) ns9 rs9 er9 (some ((hS w₀.params s_node, tk1), (hS w₀.params s_nodeinfo, tk3 + 1), (hS w₀.params s_stat, tk3 + 1 + 2), .int r.1 r.2, .ref na, .int (-1) pt)) (some (z6, z7, c6, c7)) (f + 1) (tk9 + 2) h10 tk10 st' ?_ ?_ ?_
        · rw [hp9, hr9]; exact h2m
        · rw [hlc, lcells_mid, List.append_assoc dn [r] rest, List.length_append]
          exact D12
        · intro h' tk' ns' rs' e' v' y' ft' hs hp' hr' D'
          refine x h' tk' ns' rs' e' v' y' ft' (hs.trans hss) hp' hr' ?_
          rw [List.append_assoc dn [r] rest, show f + 1 + (rest.length : Int) = f + ((r :: rest).length : Int) from by rw [List.length_cons]; omega] at D'
          exact D'
    rcases y with _ | ⟨y6, y7, w6, w7⟩
    · refine sg2L 1000 [.s 2, .s 2, .s 2, .s 5, .s 5, .s 5, .s 5, .s 2, .e, .s 5] [] G o.hd D2 ?_; intro fh3 oh3; refine ⟨by kernel_rfl, fun h3 tk3 D3 => ?_⟩
      refine u_dget D3 5 (N := N) (es := ents (pre ++ ⟨nk, kt, na, dx, l, -1, pt, su, e⟩ :: post)) (ep := ep) (k := r.1) (u := r.2) (by kernel_rfl) (ents_keys _) (by kernel_rfl) (by kernel_rfl) ?_
      rw [hl]
      have D4 := D3.tail 7 (rest := icells (pre ++ ⟨nk, kt, na, dx, l, -1, pt, su, e⟩ :: post) ++ (lcells (pre ++ ⟨nk, kt, na, dx, l, -1, pt, su, e⟩ :: post) ++ ρ)) (by kernel_rfl)
      rw [icells_mid, lcells_mid] at D4
      have D5 := Rep.shuf [takeC 7 _, icells pre, [Nd.info ⟨nk, kt, na, dx, l, -1, pt, su, e⟩], icells post, lcells pre, [Nd.lst ⟨nk, kt, na, dx, l, -1, pt, su, e⟩], lcells post ++ ρ] [6, 5, 5, 4, 6, 5, 6] D4
      refine sg2L 1000 [.s 3, .s 3, .s 3, .s 0, .t, .t, .t, .e, .s 0, .t, .t, .t, .t, .t, .t, .t, .t, .e, .t, .e, .t, .t, .s 0, .t, .t, .t, .e, .t, .t, .s 0, .t, .s 0, .s 3, .s 3, .s 3, .t, .e, .e, .t, .s 3, .s 0, .t, .t, .t, .e, .s 0, .t, .e, .s 0, .t, .s 0, .t, .t, .t, .t, .t, .e, .t, .e, .t, .t, .s 0, .t, .t, .t, .e, .t, .t, .s 0, .t, .s 0, .s 3, .s 0, .t, .t, .t, .e, .s 0, .t, .t, .t, .t, .t, .t, .t, .t, .e, .t, .e, .t, .t, .s 0, .t, .t, .t, .e, .t, .t, .s 0, .t, .s 0, .s 8, .s 8, .e, .s 8, .e, .s 0] [] G o.hd D5 ?_; intro fh6 oh6; refine ⟨by kernel_rfl, fun h6 tk6 D6 => ?_⟩
      refine use_call (c' := forC2 w₀.params 127 2 4 h3.objs.size L) (hd := none) (by kernel_rfl) rfl ?_
      let S7 : List Cells := [[(h3.objs.size, itO "list_iterator" (.ref l) 0)], [Nd.info ⟨nk, kt, na, dx, l, -2, 211, su, e⟩], [(it, itO "tuple_iterator" (.ref T) (dn.length + 1))], [(T, tupO ⟨(dn ++ r :: rest).map iv⟩ 0)], [(L, frameO (dnE q0 q1 q2 S T N (some (x3, x4, x5, .int r.1 r.2, .ref na, .int (-1) pt)) none) (dnN (some (x3, x4, x5, .int r.1 r.2, .ref na, .int (-1) pt)) none))], [(S, instO 144 Dd)], [(Dd, dictO (attrs a N (.ref Rl) np (.int f ft)) 4)], [(N, dictO (ents (pre ++ ⟨nk, kt, na, dx, l, -1, pt, su, e⟩ :: post)) ep)], [(Rl, listO ⟨rs.map iv⟩ er)], [Nd.lst ⟨nk, kt, na, dx, l, -1, pt, su, e⟩], icells pre, icells post, lcells pre, lcells post, ρ]; have D7 : Rep h₀ h6 F (cat S7) := D6.eq (by kernel_rfl)
      have D8 := Rep.shuf _ [14, 14, 14, 6, 6, 14, 7, 14, 13, 13, 13, 13, 13, 14, 14] D7
      refine l127i (a := a) (np := np) (ep := ep) (q0 := q0) (q1 := q1) (q2 := q2) (S := S) (Dd := Dd) (N := N) (Rl := Rl) (T := T) (L := L) (F := F) (nf := .int f ft) (it := h3.objs.size) (l := l) (e := e) (x3 := x3) (x4 := x4) (x5 := x5) (u3 := .int r.1 r.2) (u4 := .ref na) (u5 := .int (-1) pt) (ρ := cat [[(it, itO "tuple_iterator" (.ref T) (dn.length + 1))], [(T, tupO ⟨(dn ++ r :: rest).map iv⟩ 0)], lcells pre, lcells post, ρ]) (o.call (by kernel_rfl) (by kernel_rfl)) su _ G [] (pre ++ ⟨nk, kt, na, dx, l, -2, 211, su, e⟩ :: post) rs er none h6 tk6 st1 ?_ ?_ ?_
      · rw [pns_append]; exact h1m
      · rw [ents_upd pre post ⟨nk, kt, na, dx, l, -1, pt, su, e⟩ ⟨nk, kt, na, dx, l, -2, 211, su, e⟩ rfl rfl rfl, icells_mid]
        exact D8
      intro h9 tk9 ns9 rs9 er9 y9 hs9 hp9 hr9 D9
      have hlc : lcells ns9 = lcells (pre ++ ⟨nk, kt, na, dx, l, -1, pt, su, e⟩ :: post) := by
        rw [lcells_strip ns9, hs9, ← lcells_strip]; simp [lcells, Nd.lst]
      have hss : ns9.map strip = (pre ++ ⟨nk, kt, na, dx, l, -1, pt, su, e⟩ :: post).map strip := by rw [hs9]; simp [strip]
      rcases y9 with _ | ⟨z6, z7, c6, c7⟩
      · refine sg2L 1000 [.s 1, .s 2, .t, .t, .t, .e, .s 2, .t, .t, .t, .s 2, .s 2, .t, .s 3, .e, .e, .s 2, .t, .t, .t, .e, .s 2, .t, .e, .s 2, .t, .s 2, .t, .t, .t, .s 2, .t, .s 3, .s 3, .s 3] [] G o.hd D9 ?_; intro fh10 oh10; refine ⟨by kernel_rfl, fun h10 tk10 D10 => ?_⟩
        refine end_again (c' := forC w₀.params 127 2 it L) (by kernel_rfl) (by kernel_rfl) (by kernel_rfl) ?_
        let S11 : List Cells := [[Nd.lst ⟨nk, kt, na, dx, l, -1, pt, su, e⟩], [(L, frameO (dnE q0 q1 q2 S T N (some (x3, x4, x5, .int r.1 r.2, .ref na, .int (-1) pt)) none) (dnN (some (x3, x4, x5, .int r.1 r.2, .ref na, .int (-1) pt)) none))], [(S, instO 144 Dd)], [(Dd, dictO (attrs a N (.ref Rl) np (.int (f + 1) (tk9 + 2))) 4)], [(N, dictO (ents ns9) ep)], [(Rl, listO ⟨rs9.map iv⟩ er9)], icells ns9, [(it, itO "tuple_iterator" (.ref T) (dn.length + 1))], [(T, tupO ⟨(dn ++ r :: rest).map iv⟩ 0)], lcells pre, lcells post, ρ]; have D11 : Rep h₀ h10 F (cat S11) := D10.eq (by kernel_rfl)
        have D12 := Rep.shuf _ [11, 11, 2, 11, 9, 9, 9, 9, 9, 9, 11, 11] D11
        refine l127 (a := a) (np := np) (ep := ep) (q0 := q0) (q1 := q1) (q2 := q2) (S := S) (Dd := Dd) (N := N) (Rl := Rl) (T := T) (L := L) (it := it) o rest _ G (dn ++ [r]) ns9 rs9 er9 (some (x3, x4, x5, .int r.1 r.2, .ref na, .int (-1) pt)) none (f + 1) (tk9 + 2) h10 tk10 st' ?_ ?_ ?_
        · rw [hp9, hr9]; exact h2m
        · rw [hlc, lcells_mid, List.append_assoc dn [r] rest, List.length_append]
          exact D12
        · intro h' tk' ns' rs' e' v' y' ft' hs hp' hr' D'
          refine x h' tk' ns' rs' e' v' y' ft' (hs.trans hss) hp' hr' ?_
          rw [List.append_assoc dn [r] rest, show f + 1 + (rest.length : Int) = f + ((r :: rest).length : Int) from by rw [List.length_cons]; omega] at D'
          exact D'
      · refine sg2L 1000 [.s 1, .s 2, .t, .t, .t, .e, .s 2, .t, .t, .t, .s 2, .s 2, .t, .s 3, .e, .e, .s 2, .t, .t, .t, .e, .s 2, .t, .e, .s 2, .t, .s 2, .t, .t, .t, .s 2, .t, .s 3, .s 3, .s 3] [] G o.hd D9 ?_; intro fh10 oh10; refine ⟨by kernel_rfl, fun h10 tk10 D10 => ?_⟩
        refine end_again (c' := forC w₀.params 127 2 it L) (by kernel_rfl) (by kernel_rfl) (by kernel_rfl) ?_
        let S11 : List Cells := [[Nd.lst ⟨nk, kt, na, dx, l, -1, pt, su, e⟩], [(L, frameO (dnE q0 q1 q2 S T N (some (x3, x4, x5, .int r.1 r.2, .ref na, .int (-1) pt)) (some (z6, z7, c6, c7))) (dnN (some (x3, x4, x5, .int r.1 r.2, .ref na, .int (-1) pt)) (some (z6, z7, c6, c7))))], [(S, instO 144 Dd)], [(Dd, dictO (attrs a N (.ref Rl) np (.int (f + 1) (tk9 + 2))) 4)], [(N, dictO (ents ns9) ep)], [(Rl, listO ⟨rs9.map iv⟩ er9)], icells ns9, [(it, itO "tuple_iterator" (.ref T) (dn.length + 1))], [(T, tupO ⟨(dn ++ r :: rest).map iv⟩ 0)], lcells pre, lcells post, ρ]; have D11 : Rep h₀ h10 F (cat S11) := D10.eq (by kernel_rfl)
        have D12 := Rep.shuf _ [11, 11, 2, 11, 9, 9, 9, 9, 9, 9, 11, 11] D11
        refine l127 (a := a) (np := np) (ep := ep) (q0 := q0) (q1 := q1) (q2 := q2) (S := S) (Dd := Dd) (N := N) (Rl := Rl) (T := T) (L := L) (it := it) o rest _ G (dn ++ [r]) ns9 rs9 er9 (some (x3, x4, x5, .int r.1 r.2, .ref na, .int (-1) pt)) (some (z6, z7, c6, c7)) (f + 1) (tk9 + 2) h10 tk10 st' ?_ ?_ ?_
        · rw [hp9, hr9]; exact h2m
        · rw [hlc, lcells_mid, List.append_assoc dn [r] rest, List.length_append]
          exact D12
        · intro h' tk' ns' rs' e' v' y' ft' hs hp' hr' D'
          refine x h' tk' ns' rs' e' v' y' ft' (hs.trans hss) hp' hr' ?_
          rw [List.append_assoc dn [r] rest, show f + 1 + (rest.length : Int) = f + ((r :: rest).length : Int) from by rw [List.length_cons]; omega] at D'
          exact D'
    · refine sg2L 1000 [.s 2, .s 2, .s 2, .s 5, .s 5, .s 5, .s 5, .s 2, .e, .s 5] [] G o.hd D2 ?_; intro fh3 oh3; refine ⟨by kernel_rfl, fun h3 tk3 D3 => ?_⟩
      refine u_dget D3 5 (N := N) (es := ents (pre ++ ⟨nk, kt, na, dx, l, -1, pt, su, e⟩ :: post)) (ep := ep) (k := r.1) (u := r.2) (by kernel_rfl) (ents_keys _) (by kernel_rfl) (by kernel_rfl) ?_
      rw [hl]
      have D4 := D3.tail 7 (rest := icells (pre ++ ⟨nk, kt, na, dx, l, -1, pt, su, e⟩ :: post) ++ (lcells (pre ++ ⟨nk, kt, na, dx, l, -1, pt, su, e⟩ :: post) ++ ρ)) (by kernel_rfl)
      rw [icells_mid, lcells_mid] at D4
      have D5 := Rep.shuf [takeC 7 _, icells pre, [Nd.info ⟨nk, kt, na, dx, l, -1, pt, su, e⟩], icells post, lcells pre, [Nd.lst ⟨nk, kt, na, dx, l, -1, pt, su, e⟩], lcells post ++ ρ] [6, 5, 5, 4, 6, 5, 6] D4
      refine sg2L 1000 [.s 3, .s 3, .s 3, .s 0, .t, .t, .t, .e, .s 0, .t, .t, .t, .t, .t, .t, .t, .t, .e, .t, .e, .t, .t, .s 0, .t, .t, .t, .e, .t, .t, .s 0, .t, .s 0, .s 3, .s 3, .s 3, .t, .e, .e, .t, .s 3, .s 0, .t, .t, .t, .e, .s 0, .t, .e, .s 0, .t, .s 0, .t, .t, .t, .t, .t, .e, .t, .e, .t, .t, .s 0, .t, .t, .t, .e, .t, .t, .s 0, .t, .s 0, .s 3, .s 0, .t, .t, .t, .e, .s 0, .t, .t, .t, .t, .t, .t, .t, .t, .e, .t, .e, .t, .t, .s 0, .t, .t, .t, .e, .t, .t, .s 0, .t, .s 0, .s 8, .s 8, .e, .s 8, .e, .s 0] [] G o.hd D5 ?_; intro fh6 oh6; refine ⟨by kernel_rfl, fun h6 tk6 D6 => ?_⟩
      refine use_call (c' := forC2 w₀.params 127 2 4 h3.objs.size L) (hd := none) (by kernel_rfl) rfl ?_
      let S7 : List Cells := [[(h3.objs.size, itO "list_iterator" (.ref l) 0)], [Nd.info ⟨nk, kt, na, dx, l, -2, 211, su, e⟩], [(it, itO "tuple_iterator" (.ref T) (dn.length + 1))], [(T, tupO ⟨(dn ++ r :: rest).map iv⟩ 0)], [(L, frameO (dnE q0 q1 q2 S T N (some (x3, x4, x5, .int r.1 r.2, .ref na, .int (-1) pt)) (some (y6, y7, w6, w7))) (dnN (some (x3, x4, x5, .int r.1 r.2, .ref na, .int (-1) pt)) (some (y6, y7, w6, w7))))], [(S, instO 144 Dd)], [(Dd, dictO (attrs a N (.ref Rl) np (.int f ft)) 4)], [(N, dictO (ents (pre ++ ⟨nk, kt, na, dx, l, -1, pt, su, e⟩ :: post)) ep)], [(Rl, listO ⟨rs.map iv⟩ er)], [Nd.lst ⟨nk, kt, na, dx, l, -1, pt, su, e⟩], icells pre, icells post, lcells pre, lcells post, ρ]; have D7 : Rep h₀ h6 F (cat S7) := D6.eq (by kernel_rfl)
      have D8 := Rep.shuf _ [14, 14, 14, 6, 6, 14, 7, 14, 13, 13, 13, 13, 13, 14, 14] D7
      refine l127i (a := a) (np := np) (ep := ep) (q0 := q0) (q1 := q1) (q2 := q2) (S := S) (Dd := Dd) (N := N) (Rl := Rl) (T := T) (L := L) (F := F) (nf := .int f ft) (it := h3.objs.size) (l := l) (e := e) (x3 := x3) (x4 := x4) (x5 := x5) (u3 := .int r.1 r.2) (u4 := .ref na) (u5 := .int (-1) pt) (ρ := cat [[(it, itO "tuple_iterator" (.ref T) (dn.length + 1))], [(T, tupO ⟨(dn ++ r :: rest).map iv⟩ 0)], lcells pre, lcells post, ρ]) (o.call (by kernel_rfl) (by kernel_rfl)) su _ G [] (pre ++ ⟨nk, kt, na, dx, l, -2, 211, su, e⟩ :: post) rs er (some (y6, y7, w6, w7)) h6 tk6 st1 ?_ ?_ ?_
      · rw [pns_append]; exact h1m
      · rw [ents_upd pre post ⟨nk, kt, na, dx, l, -1, pt, su, e⟩ ⟨nk, kt, na, dx, l, -2, 211, su, e⟩ rfl rfl rfl, icells_mid]
        exact D8
      intro h9 tk9 ns9 rs9 er9 y9 hs9 hp9 hr9 D9
      have hlc : lcells ns9 = lcells (pre ++ ⟨nk, kt, na, dx, l, -1, pt, su, e⟩ :: post) := by
        rw [lcells_strip ns9, hs9, ← lcells_strip]; simp [lcells, Nd.lst]
      have hss : ns9.map strip = (pre ++ ⟨nk, kt, na, dx, l, -1, pt, su, e⟩ :: post).map strip := by rw [hs9]; simp [strip]
      rcases y9 with _ | ⟨z6, z7, c6, c7⟩
      · refine sg2L 1000 [.s 1, .s 2, .t, .t, .t, .e, .s 2, .t, .t, .t, .s 2, .s 2, .t, .s 3, .e, .e, .s 2, .t, .t, .t, .e, .s 2, .t, .e, .s 2, .t, .s 2, .t, .t, .t, .s 2, .t, .s 3, .s 3, .s 3] [] G o.hd D9 ?_; intro fh10 oh10; refine ⟨by kernel_rfl, fun h10 tk10 D10 => ?_⟩
        refine end_again (c' := forC w₀.params 127 2 it L) (by kernel_rfl) (by kernel_rfl) (by kernel_rfl) ?_
        let S11 : List Cells := [[Nd.lst ⟨nk, kt, na, dx, l, -1, pt, su, e⟩], [(L, frameO (dnE q0 q1 q2 S T N (some (x3, x4, x5, .int r.1 r.2, .ref na, .int (-1) pt)) none) (dnN (some (x3, x4, x5, .int r.1 r.2, .ref na, .int (-1) pt)) none))], [(S, instO 144 Dd)], [(Dd, dictO (attrs a N (.ref Rl) np (.int (f + 1) (tk9 + 2))) 4)], [(N, dictO (ents ns9) ep)], [(Rl, listO ⟨rs9.map iv⟩ er9)], icells ns9, [(it, itO "tuple_iterator" (.ref T) (dn.length + 1))], [(T, tupO ⟨(dn ++ r :: rest).map iv⟩ 0)], lcells pre, lcells post, ρ]; have D11 : Rep h₀ h10 F (cat S11) := D10.eq (by kernel_rfl)
        have D12 := Rep.shuf _ [11, 11, 2, 11, 9, 9, 9, 9, 9, 9, 11, 11] D11
        refine l127 (a := a) (np := np) (ep := ep) (q0 := q0) (q1 := q1) (q2 := q2) (S := S) (Dd := Dd) (N := N) (Rl := Rl) (T := T) (L := L) (it := it) o rest _ G (dn ++ [r]) ns9 rs9 er9 (some (x3, x4, x5, .int r.1 r.2, .ref na, .int (-1) pt)) none (f + 1) (tk9 + 2) h10 tk10 st' ?_ ?_ ?_
        · rw [hp9, hr9]; exact h2m
        · rw [hlc, lcells_mid, List.append_assoc dn [r] rest, List.length_append]
          exact D12
        · intro h' tk' ns' rs' e' v' y' ft' hs hp' hr' D'
          refine x h' tk' ns' rs' e' v' y' ft' (hs.trans hss) hp' hr' ?_
          rw [List.append_assoc dn [r] rest, show f + 1 + (rest.length : Int) = f + ((r :: rest).length : Int) from by rw [List.length_cons]; omega] at D'
          exact D'
      · refine sg2L 1000 [.s 1, .s 2, .t, .t, .t, .e, .s 2, .t, .t, .t, .s 2, .s 2, .t, .s 3, .e, .e, .s 2, .t, .t, .t, .e, .s 2, .t, .e, .s 2, .t, .s 2, .t, .t, .t, .s 2, .t, .s 3, .s 3, .s 3] [] G o.hd D9 ?_; intro fh10 oh10; refine ⟨by kernel_rfl, fun h10 tk10 D10 => ?_⟩
        refine end_again (c' := forC w₀.params 127 2 it L) (by kernel_rfl) (by kernel_rfl) (by kernel_rfl) ?_
        let S11 : List Cells := [[Nd.lst ⟨nk, kt, na, dx, l, -1, pt, su, e⟩], [(L, frameO (dnE q0 q1 q2 S T N (some (x3, x4, x5, .int r.1 r.2, .ref na, .int (-1) pt)) (some (z6, z7, c6, c7))) (dnN (some (x3, x4, x5, .int r.1 r.2, .ref na, .int (-1) pt)) (some (z6, z7, c6, c7))))], [(S, instO 144 Dd)], [(Dd, dictO (attrs a N (.ref Rl) np (.int (f + 1) (tk9 + 2))) 4)], [(N, dictO (ents ns9) ep)], [(Rl, listO ⟨rs9.map iv⟩ er9)], icells ns9, [(it, itO "tuple_iterator" (.ref T) (dn.length + 1))], [(T, tupO ⟨(dn ++ r :: rest).map iv⟩ 0)], lcells pre, lcells post, ρ]; have D11 : Rep h₀ h10 F (cat S11) := D10.eq (by kernel_rfl)
        have D12 := Rep.shuf _ [11, 11, 2, 11, 9, 9, 9, 9, 9, 9, 11, 11] D11
        refine l127 (a := a) (np := np) (ep := ep) (q0 := q0) (q1 := q1) (q2 := q2) (S := S) (Dd := Dd) (N := N) (Rl := Rl) (T := T) (L := L) (it := it) o rest _ G (dn ++ [r]) ns9 rs9 er9 (some (x3, x4, x5, .int r.1 r.2, .ref na, .int (-1) pt)) (some (z6, z7, c6, c7)) (f + 1) (tk9 + 2) h10 tk10 st' ?_ ?_ ?_
        · rw [hp9, hr9]; exact h2m
        · rw [hlc, lcells_mid, List.append_assoc dn [r] rest, List.length_append]
          exact D12
        · intro h' tk' ns' rs' e' v' y' ft' hs hp' hr' D'
          refine x h' tk' ns' rs' e' v' y' ft' (hs.trans hss) hp' hr' ?_
          rw [List.append_assoc dn [r] rest, show f + 1 + (rest.length : Int) = f + ((r :: rest).length : Int) from by rw [List.length_cons]; omega] at D'
          exact D'
end Mine
end
section
open PySem PySem.W PySem.W.X PyProof.Rows
set_option Elab.async false
set_option maxRecDepth 100000
set_option maxHeartbeats 1000000
namespace Mine
variable {prog : Program} {w : World} {w₀ : World} {b1 b2 b3 : Bool} {A : Around} {R : Result → Shared → Prop} {h₀ h : Heap} {F : List Addr} {ρ σ : Cells} {g : Array GenState} {d : Drawn} {tk : Nat} {os : OsState}
theorem b127 {S Dd N Rl T L : Addr} {a : SA} {np : Value} {f : Int} {ft : Tok} {ns : List Nd} {rs0 rs : List IT} {ep er : Nat} {q0 q1 : Q2} {st' : List PN × List Int} {κ : Kn} (hκ : κ = .base) (G : Gd (wF b1 b2 b3 w₀) h₀) (o : Ok A 4)
    (hm : dones (rs0.map (·.1)) (pns ns, rs.map (·.1)) = some st')
    (D : Rep h₀ h F ((L, frameO #[fe q0 s_self (.ref S), fe q1 s_nodes (.ref T)] 2) :: (T, tupO ⟨rs0.map iv⟩ 0) :: sC S Dd a N (.ref Rl) np (.int f ft) (ents ns) ep ((Rl, listO ⟨rs.map iv⟩ er) :: (icells ns ++ (lcells ns ++ ρ)))))
    (x : ∀ h' tk' (ns' : List Nd) (rs' : List IT) er' ft', ns'.map strip = ns.map strip → pns ns' = st'.1 → rs'.map (·.1) = st'.2 → Rep h₀ h' F (sC S Dd a N (.ref Rl) np (.int (f + rs0.length) ft') (ents ns') ep ((Rl, listO ⟨rs'.map iv⟩ er') :: (icells ns' ++ (lcells ns' ++ ρ)))) → R (.ok (.ret .none)) ⟨h', g, d, tk', os⟩) :
    Mn prog (wF b1 b2 b3 w₀) A R (fcode w₀.params 127 L) κ (dn (fcode w₀.params 127 L)) ⟨h, g, d, tk, os⟩ := by
  subst hκ
  all_goals
    refine sg2L 1000 [.s 0, .s 2, .t, .t, .t, .e, .s 2, .t, .t, .t, .s 2, .s 2, .t, .s 3, .s 0, .s 2, .t, .t, .t, .e, .s 2, .t, .t, .t, .s 2, .s 2, .t, .s 3, .s 0, .s 0, .s 0, .s 1, .s 1, .e, .s 1, .e, .s 0] [] G o.hd D ?_; intro fh2 oh2; refine ⟨by kernel_rfl, fun h2 tk2 D2 => ?_⟩
    refine use_call (c' := forC w₀.params 127 2 h.objs.size L) (hd := none) (by kernel_rfl) rfl ?_
    refine l127 (S := S) (Dd := Dd) (N := N) (Rl := Rl) (T := T) (L := L) (a := a) (np := np) (ep := ep) (F := F) (ρ := ρ) (q0 := q0) (q1 := q1) (q2 := (hS w₀.params s_n2i, tk + 2)) (o.call (by kernel_rfl) (by kernel_rfl)) rs0 _ G [] ns rs er none none f ft h2 tk2 st' hm ?_ ?_
    · exact Rep.shuf [[(h.objs.size, itO "tuple_iterator" (.ref T) 0)], [(L, frameO (dnE q0 q1 (hS w₀.params s_n2i, tk + 2) S T N none none) 3)], [(T, tupO ⟨rs0.map iv⟩ 0)], sC S Dd a N (.ref Rl) np (.int f ft) (ents ns) ep ((Rl, listO ⟨rs.map iv⟩ er) :: (icells ns ++ (lcells ns ++ ρ)))] [3, 2, 3, 3] (D2.eq (by kernel_rfl))
    intro h3 tk3 ns' rs' er' v' y' ft' hs hp hr D3
    rcases v' with _ | ⟨x3, x4, x5, u3, u4, u5⟩ <;> rcases y' with _ | ⟨y6, y7, w6, w7⟩
    all_goals
      refine sg2L 1000 [] [false, false] G o.hd D3 ?_; intro fh4 oh4; refine ⟨by kernel_rfl, fun h4 tk4 D4 => ?_⟩
      exact end_done (f := .ret .none) (by kernel_rfl) (by kernel_rfl) (x h4 tk4 ns' rs' er' ft' hs hp hr (D4.eq (by kernel_rfl)))
theorem c127 {S Dd N Rl : Addr} {a : SA} {np : Value} {f : Int} {ft : Tok} {ns : List Nd} {rs0 rs : List IT} {ep er : Nat} {st' : List PN × List Int} (G : Gd (wF b1 b2 b3 w₀) h₀) (o : Ok A 4) (hz : rs0.length ≤ 16)
    (hm : dones (rs0.map (·.1)) (pns ns, rs.map (·.1)) = some st')
    (D : Rep h₀ h F (sC S Dd a N (.ref Rl) np (.int f ft) (ents ns) ep ((Rl, listO ⟨rs.map iv⟩ er) :: (icells ns ++ (lcells ns ++ ρ)))))
    (x : ∀ h' tk' (ns' : List Nd) (rs' : List IT) er' ft', ns'.map strip = ns.map strip → pns ns' = st'.1 → rs'.map (·.1) = st'.2 → Rep h₀ h' F (sC S Dd a N (.ref Rl) np (.int (f + rs0.length) ft') (ents ns') ep ((Rl, listO ⟨rs'.map iv⟩ er') :: (icells ns' ++ (lcells ns' ++ ρ)))) → R (.ok (.ret .none)) ⟨h', g, d, tk', os⟩) :
    codeAny (model prog (wF b1 b2 b3 w₀)) A (.call (.ref 127) ⟨.ref S :: rs0.map iv, []⟩) R ⟨h, g, d, tk, os⟩ := by
  refine code_start ?_
  rcases rs0 with _ | ⟨r0, rs0⟩
  ·
    refine sgL 1000 [.t, .t, .s 0, .s 0, .s 0, .s 0] [] G o.hd D ?_; intro oh1; refine ⟨by kernel_rfl, fun h1 tk1 D1 => ?_⟩
    refine enter (c2 := fcode w₀.params 127 (h.objs.size + 1)) (by kernel_rfl) (by kernel_rfl) (D1.gd G).lim (o.room (by kernel_rfl)) ?_
    exact b127 (A := A) (R := R) (S := S) (Dd := Dd) (N := N) (Rl := Rl) (T := h.objs.size) (L := h.objs.size + 1) (a := a) (np := np) (ep := ep) (F := F) (ρ := ρ) (ft := ft) (ns := ns) (rs0 := []) (rs := rs) (er := er) (q0 := (hS w₀.params s_self, tk)) (q1 := (hS w₀.params s_nodes, tk + 1)) (by kernel_rfl) G o hm (D1.eq (by kernel_rfl)) x
  rcases rs0 with _ | ⟨r1, rs0⟩
  ·
    refine sgL 1000 [.t, .t, .s 0, .s 0, .s 0, .s 0] [] G o.hd D ?_; intro oh1; refine ⟨by kernel_rfl, fun h1 tk1 D1 => ?_⟩
    refine enter (c2 := fcode w₀.params 127 (h.objs.size + 1)) (by kernel_rfl) (by kernel_rfl) (D1.gd G).lim (o.room (by kernel_rfl)) ?_
    exact b127 (A := A) (R := R) (S := S) (Dd := Dd) (N := N) (Rl := Rl) (T := h.objs.size) (L := h.objs.size + 1) (a := a) (np := np) (ep := ep) (F := F) (ρ := ρ) (ft := ft) (ns := ns) (rs0 := [r0]) (rs := rs) (er := er) (q0 := (hS w₀.params s_self, tk)) (q1 := (hS w₀.params s_nodes, tk + 1)) (by kernel_rfl) G o hm (D1.eq (by kernel_rfl)) x
  rcases rs0 with _ | ⟨r2, rs0⟩
  ·
    refine sgL 1000 [.t, .t, .s 0, .s 0, .s 0, .s 0] [] G o.hd D ?_; intro oh1; refine ⟨by kernel_rfl, fun h1 tk1 D1 => ?_⟩
    refine enter (c2 := fcode w₀.params 127 (h.objs.size + 1)) (by kernel_rfl) (by kernel_rfl) (D1.gd G).lim (o.room (by kernel_rfl)) ?_
    exact b127 (A := A) (R := R) (S := S) (Dd := Dd) (N := N) (Rl := Rl) (T := h.objs.size) (L := h.objs.size + 1) (a := a) (np := np) (ep := ep) (F := F) (ρ := ρ) (ft := ft) (ns := ns) (rs0 := [r0, r1]) (rs := rs) (er := er) (q0 := (hS w₀.params s_self, tk)) (q1 := (hS w₀.params s_nodes, tk + 1)) (by kernel_rfl) G o hm (D1.eq (by kernel_rfl)) x
  rcases rs0 with _ | ⟨r3, rs0⟩
  ·
    refine sgL 1000 [.t, .t, .s 0, .s 0, .s 0, .s 0] [] G o.hd D ?_; intro oh1; refine ⟨by kernel_rfl, fun h1 tk1 D1 => ?_⟩
    refine enter (c2 := fcode w₀.params 127 (h.objs.size + 1)) (by kernel_rfl) (by kernel_rfl) (D1.gd G).lim (o.room (by kernel_rfl)) ?_
    exact b127 (A := A) (R := R) (S := S) (Dd := Dd) (N := N) (Rl := Rl) (T := h.objs.size) (L := h.objs.size + 1) (a := a) (np := np) (ep := ep) (F := F) (ρ := ρ) (ft := ft) (ns := ns) (rs0 := [r0, r1, r2]) (rs := rs) (er := er) (q0 := (hS w₀.params s_self, tk)) (q1 := (hS w₀.params s_nodes, tk + 1)) (by kernel_rfl) G o hm (D1.eq (by kernel_rfl)) x
  rcases rs0 with _ | ⟨r4, rs0⟩
  ·
    refine sgL 1000 [.t, .t, .s 0, .s 0, .s 0, .s 0] [] G o.hd D ?_; intro oh1; refine ⟨by kernel_rfl, fun h1 tk1 D1 => ?_⟩
    refine enter (c2 := fcode w₀.params 127 (h.objs.size + 1)) (by kernel_rfl) (by kernel_rfl) (D1.gd G).lim (o.room (by kernel_rfl)) ?_
    exact b127 (A := A) (R := R) (S := S) (Dd := Dd) (N := N) (Rl := Rl) (T := h.objs.size) (L := h.objs.size + 1) (a := a) (np := np) (ep := ep) (F := F) (ρ := ρ) (ft := ft) (ns := ns) (rs0 := [r0, r1, r2, r3]) (rs := rs) (er := er) (q0 := (hS w₀.params s_self, tk)) (q1 := (hS w₀.params s_nodes, tk + 1)) (by kernel_rfl) G o hm (D1.eq (by kernel_rfl)) x
  rcases rs0 with _ | ⟨r5, rs0⟩
  ·
    refine sgL 1000 [.t, .t, .s 0, .s 0, .s 0, .s 0] [] G o.hd D ?_; intro oh1; refine ⟨by kernel_rfl, fun h1 tk1 D1 => ?_⟩
    refine enter (c2 := fcode w₀.params 127 (h.objs.size + 1)) (by kernel_rfl) (by kernel_rfl) (D1.gd G).lim (o.room (by kernel_rfl)) ?_
    exact b127 (A := A) (R := R) (S := S) (Dd := Dd) (N := N) (Rl := Rl) (T := h.objs.size) (L := h.objs.size + 1) (a := a) (np := np) (ep := ep) (F := F) (ρ := ρ) (ft := ft) (ns := ns) (rs0 := [r0, r1, r2, r3, r4]) (rs := rs) (er := er) (q0 := (hS w₀.params s_self, tk)) (q1 := (hS w₀.params s_nodes, tk + 1)) (by kernel_rfl) G o hm (D1.eq (by kernel_rfl)) x
  rcases rs0 with _ | ⟨r6, rs0⟩
  ·
    refine sgL 1000 [.t, .t, .s 0, .s 0, .s 0, .s 0] [] G o.hd D ?_; intro oh1; refine ⟨by kernel_rfl, fun h1 tk1 D1 => ?_⟩
    refine enter (c2 := fcode w₀.params 127 (h.objs.size + 1)) (by kernel_rfl) (by kernel_rfl) (D1.gd G).lim (o.room (by kernel_rfl)) ?_
    exact b127 (A := A) (R := R) (S := S) (Dd := Dd) (N := N) (Rl := Rl) (T := h.objs.size) (L := h.objs.size + 1) (a := a) (np := np) (ep := ep) (F := F) (ρ := ρ) (ft := ft) (ns := ns) (rs0 := [r0, r1, r2, r3, r4, r5]) (rs := rs) (er := er) (q0 := (hS w₀.params s_self, tk)) (q1 := (hS w₀.params s_nodes, tk + 1)) (by kernel_rfl) G o hm (D1.eq (by kernel_rfl)) x
  rcases rs0 with _ | ⟨r7, rs0⟩
  ·
    refine sgL 1000 [.t, .t, .s 0, .s 0, .s 0, .s 0] [] G o.hd D ?_; intro oh1; refine ⟨by kernel_rfl, fun h1 tk1 D1 => ?_⟩
    refine enter (c2 := fcode w₀.params 127 (h.objs.size + 1)) (by kernel_rfl) (by kernel_rfl) (D1.gd G).lim (o.room (by kernel_rfl)) ?_
    exact b127 (A := A) (R := R) (S := S) (Dd := Dd) (N := N) (Rl := Rl) (T := h.objs.size) (L := h.objs.size + 1) (a := a) (np := np) (ep := ep) (F := F) (ρ := ρ) (ft := ft) (ns := ns) (rs0 := [r0, r1, r2, r3, r4, r5, r6]) (rs := rs) (er := er) (q0 := (hS w₀.params s_self, tk)) (q1 := (hS w₀.params s_nodes, tk + 1)) (by kernel_rfl) G o hm (D1.eq (by kernel_rfl)) x
  rcases rs0 with _ | ⟨r8, rs0⟩
  ·
    refine sgL 1000 [.t, .t, .s 0, .s 0, .s 0, .s 0] [] G o.hd D ?_; intro oh1; refine ⟨by kernel_rfl, fun h1 tk1 D1 => ?_⟩
    refine enter (c2 := fcode w₀.params 127 (h.objs.size + 1)) (by kernel_rfl) (by kernel_rfl) (D1.gd G).lim (o.room (by kernel_rfl)) ?_
    exact b127 (A := A) (R := R) (S := S) (Dd := Dd) (N := N) (Rl := Rl) (T := h.objs.size) (L := h.objs.size + 1) (a := a) (np := np) (ep := ep) (F := F) (ρ := ρ) (ft := ft) (ns := ns) (rs0 := [r0, r1, r2, r3, r4, r5, r6, r7]) (rs := rs) (er := er) (q0 := (hS w₀.params s_self, tk)) (q1 := (hS w₀.params s_nodes, tk + 1)) (by kernel_rfl) G o hm (D1.eq (by kernel_rfl)) x
  rcases rs0 with _ | ⟨r9, rs0⟩
  ·
    refine sgL 1000 [.t, .t, .s 0, .s 0, .s 0, .s 0] [] G o.hd D ?_; intro oh1; refine ⟨by kernel_rfl, fun h1 tk1 D1 => ?_⟩
    refine enter (c2 := fcode w₀.params 127 (h.objs.size + 1)) (by kernel_rfl) (by kernel_rfl) (D1.gd G).lim (o.room (by kernel_rfl)) ?_
    exact b127 (A := A) (R := R) (S := S) (Dd := Dd) (N := N) (Rl := Rl) (T := h.objs.size) (L := h.objs.size + 1) (a := a) (np := np) (ep := ep) (F := F) (ρ := ρ) (ft := ft) (ns := ns) (rs0 := [r0, r1, r2, r3, r4, r5, r6, r7, r8]) (rs := rs) (er := er) (q0 := (hS w₀.params s_self, tk)) (q1 := (hS w₀.params s_nodes, tk + 1)) (by kernel_rfl) G o hm (D1.eq (by kernel_rfl)) x
  rcases rs0 with _ | ⟨r10, rs0⟩
  ·
    refine sgL 1000 [.t, .t, .s 0, .s 0, .s 0, .s 0] [] G o.hd D ?_; intro oh1; refine ⟨by kernel_rfl, fun h1 tk1 D1 => ?_⟩
    refine enter (c2 := fcode w₀.params 127 (h.objs.size + 1)) (by kernel_rfl) (by kernel_rfl) (D1.gd G).lim (o.room (by kernel_rfl)) ?_
    exact b127 (A := A) (R := R) (S := S) (Dd := Dd) (N := N) (Rl := Rl) (T := h.objs.size) (L := h.objs.size + 1) (a := a) (np := np) (ep := ep) (F := F) (ρ := ρ) (ft := ft) (ns := ns) (rs0 := [r0, r1, r2, r3, r4, r5, r6, r7, r8, r9]) (rs := rs) (er := er) (q0 := (hS w₀.params s_self, tk)) (q1 := (hS w₀.params s_nodes, tk + 1)) (by kernel_rfl) G o hm (D1.eq (by kernel_rfl)) x
  rcases rs0 with _ | ⟨r11, rs0⟩
  ·
    refine sgL 1000 [.t, .t, .s 0, .s 0, .s 0, .s 0] [] G o.hd D ?_; intro oh1; refine ⟨by kernel_rfl, fun h1 tk1 D1 => ?_⟩
    refine enter (c2 := fcode w₀.params 127 (h.objs.size + 1)) (by kernel_rfl) (by kernel_rfl) (D1.gd G).lim (o.room (by kernel_rfl)) ?_
    exact b127 (A := A) (R := R) (S := S) (Dd := Dd) (N := N) (Rl := Rl) (T := h.objs.size) (L := h.objs.size + 1) (a := a) (np := np) (ep := ep) (F := F) (ρ := ρ) (ft := ft) (ns := ns) (rs0 := [r0, r1, r2, r3, r4, r5, r6, r7, r8, r9, r10]) (rs := rs) (er := er) (q0 := (hS w₀.params s_self, tk)) (q1 := (hS w₀.params s_nodes, tk + 1)) (by kernel_rfl) G o hm (D1.eq (by kernel_rfl)) x
  rcases rs0 with _ | ⟨r12, rs0⟩
  ·
    refine sgL 1000 [.t, .t, .s 0, .s 0, .s 0, .s 0] [] G o.hd D ?_; intro oh1; refine ⟨by kernel_rfl, fun h1 tk1 D1 => ?_⟩
    refine enter (c2 := fcode w₀.params 127 (h.objs.size + 1)) (by kernel_rfl) (by kernel_rfl) (D1.gd G).lim (o.room (by kernel_rfl)) ?_
    exact b127 (A := A) (R := R) (S := S) (Dd := Dd) (N := N) (Rl := Rl) (T := h.objs.size) (L := h.objs.size + 1) (a := a) (np := np) (ep := ep) (F := F) (ρ := ρ) (ft := ft) (ns := ns) (rs0 := [r0, r1, r2, r3, r4, r5, r6, r7, r8, r9, r10, r11]) (rs := rs) (er := er) (q0 := (hS w₀.params s_self, tk)) (q1 := (hS w₀.params s_nodes, tk + 1)) (by kernel_rfl) G o hm (D1.eq (by kernel_rfl)) x
  rcases rs0 with _ | ⟨r13, rs0⟩
  ·
    refine sgL 1000 [.t, .t, .s 0, .s 0, .s 0, .s 0] [] G o.hd D ?_; intro oh1; refine ⟨by kernel_rfl, fun h1 tk1 D1 => ?_⟩
    refine enter (c2 := fcode w₀.params 127 (h.objs.size + 1)) (by kernel_rfl) (by kernel_rfl) (D1.gd G).lim (o.room (by kernel_rfl)) ?_
    exact b127 (A := A) (R := R) (S := S) (Dd := Dd) (N := N) (Rl := Rl) (T := h.objs.size) (L := h.objs.size + 1) (a := a) (np := np) (ep := ep) (F := F) (ρ := ρ) (ft := ft) (ns := ns) (rs0 := [r0, r1, r2, r3, r4, r5, r6, r7, r8, r9, r10, r11, r12]) (rs := rs) (er := er) (q0 := (hS w₀.params s_self, tk)) (q1 := (hS w₀.params s_nodes, tk + 1)) (by kernel_rfl) G o hm (D1.eq (by kernel_rfl)) x
  rcases rs0 with _ | ⟨r14, rs0⟩
  ·
    refine sgL 1000 [.t, .t, .s 0, .s 0, .s 0, .s 0] [] G o.hd D ?_; intro oh1; refine ⟨by kernel_rfl, fun h1 tk1 D1 => ?_⟩
    refine enter (c2 := fcode w₀.params 127 (h.objs.size + 1)) (by kernel_rfl) (by kernel_rfl) (D1.gd G).lim (o.room (by kernel_rfl)) ?_
    exact b127 (A := A) (R := R) (S := S) (Dd := Dd) (N := N) (Rl := Rl) (T := h.objs.size) (L := h.objs.size + 1) (a := a) (np := np) (ep := ep) (F := F) (ρ := ρ) (ft := ft) (ns := ns) (rs0 := [r0, r1, r2, r3, r4, r5, r6, r7, r8, r9, r10, r11, r12, r13]) (rs := rs) (er := er) (q0 := (hS w₀.params s_self, tk)) (q1 := (hS w₀.params s_nodes, tk + 1)) (by kernel_rfl) G o hm (D1.eq (by kernel_rfl)) x
  rcases rs0 with _ | ⟨r15, rs0⟩
  ·
    refine sgL 1000 [.t, .t, .s 0, .s 0, .s 0, .s 0] [] G o.hd D ?_; intro oh1; refine ⟨by kernel_rfl, fun h1 tk1 D1 => ?_⟩
    refine enter (c2 := fcode w₀.params 127 (h.objs.size + 1)) (by kernel_rfl) (by kernel_rfl) (D1.gd G).lim (o.room (by kernel_rfl)) ?_
    exact b127 (A := A) (R := R) (S := S) (Dd := Dd) (N := N) (Rl := Rl) (T := h.objs.size) (L := h.objs.size + 1) (a := a) (np := np) (ep := ep) (F := F) (ρ := ρ) (ft := ft) (ns := ns) (rs0 := [r0, r1, r2, r3, r4, r5, r6, r7, r8, r9, r10, r11, r12, r13, r14]) (rs := rs) (er := er) (q0 := (hS w₀.params s_self, tk)) (q1 := (hS w₀.params s_nodes, tk + 1)) (by kernel_rfl) G o hm (D1.eq (by kernel_rfl)) x
  rcases rs0 with _ | ⟨r16, rs0⟩
  ·
    refine sgL 1000 [.t, .t, .s 0, .s 0, .s 0, .s 0] [] G o.hd D ?_; intro oh1; refine ⟨by kernel_rfl, fun h1 tk1 D1 => ?_⟩
    refine enter (c2 := fcode w₀.params 127 (h.objs.size + 1)) (by kernel_rfl) (by kernel_rfl) (D1.gd G).lim (o.room (by kernel_rfl)) ?_
    exact b127 (A := A) (R := R) (S := S) (Dd := Dd) (N := N) (Rl := Rl) (T := h.objs.size) (L := h.objs.size + 1) (a := a) (np := np) (ep := ep) (F := F) (ρ := ρ) (ft := ft) (ns := ns) (rs0 := [r0, r1, r2, r3, r4, r5, r6, r7, r8, r9, r10, r11, r12, r13, r14, r15]) (rs := rs) (er := er) (q0 := (hS w₀.params s_self, tk)) (q1 := (hS w₀.params s_nodes, tk + 1)) (by kernel_rfl) G o hm (D1.eq (by kernel_rfl)) x
  · simp only [List.length_cons] at hz
    omega
end Mine
end
section
open PySem PySem.W PySem.W.X PyProof.Rows
set_option Elab.async false
set_option maxRecDepth 100000
set_option maxHeartbeats 1000000
namespace Mine
noncomputable def kenvs : Kn → Code → List Env
  | .base, c => c.envs
  | .ret c₀ _ _ κ, c => c.envs ++ kenvs κ c₀
theorem arnd_frames {A : Around} {fs : List Env} (h : A.frames = some fs) : ∀ (κ : Kn) (c : Code), ((arnd A κ).under c).frames = some (kenvs κ c ++ fs)
  | .base, c => by
    show pushEnvs c.envs A.frames = _
    rw [h, pushEnvs_eq]; rfl
  | .ret c₀ hd k κ, c => by
    show pushEnvs c.envs (((arnd A κ).under c₀).mark hd).frames = _
    have e : (((arnd A κ).under c₀).mark hd).frames = ((arnd A κ).under c₀).frames := rfl
    rw [e, arnd_frames h κ c₀, pushEnvs_eq]
    simp [kenvs]
inductive FrSame : Cells → Cells → Prop
  | nil : FrSame [] []
  | cons (a : Addr) (o : Obj) (s : Array (Option Value)) {r r' : Cells} (h : FrSame r r') : FrSame ((a, o) :: r) ((a, { o with slots := s }) :: r')
noncomputable def FrOk : List Env → Cells → Prop
  | [], [] => True
  | env :: es, p :: r => env.scope.kind ≠ .module ∧ env.frame = some p.1 ∧ (∀ vs, p.2.data ≠ .fields vs) ∧ FrOk es r
  | _, _ => False
theorem FrSame.keys {a b : Cells} (h : FrSame a b) : b.map (·.1) = a.map (·.1) := by
  induction h with
  | nil => rfl
  | cons a o s _ ih => simp [ih]
theorem FrOk.addrs : ∀ {es : List Env} {r : Cells}, FrOk es r → es.filterMap (·.frame) = r.map (·.1)
  | [], [], _ => rfl
  | env :: es, p :: r, h => by
    rw [List.filterMap_cons, h.2.1]
    simp [FrOk.addrs h.2.2.2]
  | [], _ :: _, h => h.elim
  | _ :: _, [], h => h.elim
theorem FrOk.fun {h base : Heap} (hb : ∀ a, base.get? a = none) : ∀ {es : List Env} {r : Cells}, FrOk es r → (∀ p ∈ r, h.get? p.1 = some p.2) → h.FunFrames base es
  | [], [], _, _ => trivial
  | env :: es, p :: r, x, ha => ⟨x.1, ⟨p.1, p.2, x.2.1, hb _, ha p (.head _), x.2.2.1⟩, FrOk.fun hb x.2.2.2 fun q hq => ha q (.tail _ hq)⟩
  | [], _ :: _, h, _ => h.elim
  | _ :: _, [], h, _ => h.elim
theorem frs_of {h h' : Heap} {S : List Addr} (hs : Heap.SlotsOnly S h h') : ∀ {frs : Cells}, (∀ p ∈ frs, h.get? p.1 = some p.2) → ∃ frs', FrSame frs frs' ∧ ∀ p ∈ frs', h'.get? p.1 = some p.2
  | [], _ => ⟨[], .nil, fun _ hp => by cases hp⟩
  | (a, o) :: r, ha => by
    obtain ⟨sl, e⟩ := hs.2.2 a o (ha (a, o) (.head _))
    obtain ⟨r', h1, h2⟩ := frs_of hs (frs := r) fun q hq => ha q (.tail _ hq)
    refine ⟨(a, { o with slots := sl }) :: r', .cons a o sl h1, fun p hp => ?_⟩
    rcases List.mem_cons.mp hp with rfl | hp
    · exact e
    · exact h2 p hp
theorem Rep.slots {h₀ h h' : Heap} {F : List Addr} {frs σ : Cells} (D : Rep h₀ h F (frs ++ σ)) (hs : Heap.SlotsOnly (frs.map (·.1)) h h') : ∃ frs', FrSame frs frs' ∧ Rep h₀ h' F (frs' ++ σ) := by
  obtain ⟨frs', h1, h2⟩ := frs_of hs (frs := frs) fun p hp => D.at_ p (List.mem_append.mpr (.inl hp))
  have hk : (frs' ++ σ).map (·.1) = (frs ++ σ).map (·.1) := by rw [List.map_append, List.map_append, h1.keys]
  have hn := D.nodup
  rw [List.map_append, List.nodup_append] at hn
  refine ⟨frs', h1, ⟨fun b o e hb => ?_, fun p hp => ?_, by rw [hk]; exact D.nodup, fun p hp => ?_, by rw [hs.1]; exact D.size, D.lo, D.base⟩⟩
  · refine (hs.2.1 b fun hm => ?_).trans (D.keep b o e hb)
    obtain ⟨p, hp, rfl⟩ := List.mem_map.mp hm
    rcases D.own p (List.mem_append.mpr (.inl hp)) with q | q
    · exact hb q
    · exact Nat.lt_irrefl _ (Nat.lt_of_lt_of_le (Heap.lt_size e) q)
  · rcases List.mem_append.mp hp with hp | hp
    · exact h2 p hp
    · refine (hs.2.1 p.1 fun hm => ?_).trans (D.at_ p (List.mem_append.mpr (.inr hp)))
      exact hn.2.2 _ hm _ (List.mem_map.mpr ⟨p, hp, rfl⟩) rfl
  · have : p.1 ∈ (frs ++ σ).map (·.1) := hk ▸ List.mem_map.mpr ⟨p, hp, rfl⟩
    obtain ⟨q, hq, e⟩ := List.mem_map.mp this
    rw [← e]; exact D.own q hq
noncomputable abbrev fldO (C : Value) (vs : Array Value) : Obj := ⟨C, none, .fields vs, #[]⟩
noncomputable abbrev tbO (hd : Value) (L : Addr) (fl : Value) (c0 c1 c2 c3 c4 c5 : Value) : Obj := fieldsO "traceback" #[hd, .ref L, .none, fl, .none, c0, c1, c2, c3, c4, c5]
theorem place_obj {pl : List Value} (h : IsPlace pl) (a b c d e : Value) : ∃ c0 c1 c2 c3 c4 c5, ([a, b, c, d, e] ++ (if pl.isEmpty then List.replicate 6 Value.none else pl)).toArray = #[a, b, c, d, e, c0, c1, c2, c3, c4, c5] := by
  rcases h with rfl | ⟨x0, x1, x2, x3, x4, x5, _, rfl⟩
  · exact ⟨_, _, _, _, _, _, rfl⟩
  · exact ⟨_, _, _, _, _, _, rfl⟩
/-- a tree around a hole that cannot raise -/
noncomputable def Lay (Φ : Sem Unit → Sem Fin) : Prop := ∀ (M : Model) (Γ : Ctx) (m : Sem Unit) (Q : Fin → Pos → Shared → Prop) (E : Value → Pos → Shared → Prop) (p : Pos) (s : Shared),
  Sem.wp M Γ m (fun u p' s' => Sem.wp M Γ (Φ (.pure u)) Q E p' s') (fun _ _ _ => False) p s → Sem.wp M Γ (Φ m) Q E p s
noncomputable def LayT {α : Type} (Φ : Sem Unit → Sem α) : Prop := ∀ (M : Model) (Γ : Ctx) (m : Sem Unit) (Q : α → Pos → Shared → Prop) (E : Value → Pos → Shared → Prop) (p : Pos) (s : Shared),
  Sem.wp M Γ m (fun u p' s' => Sem.wp M Γ (Φ (.pure u)) Q E p' s') (fun _ _ _ => False) p s → Sem.wp M Γ (Φ m) Q E p s
theorem LayT.hole {α : Type} (k : Unit → Sem α) : LayT (fun m => PySem.W.R.bindR m k) := by
  intro M Γ m Q E p s h
  show Sem.wp M Γ (PySem.W.R.bindR m k) Q E p s
  rw [← PySem.W.R.bindR_eq, Sem.wp_bind]
  refine Sem.wp_mono M Γ m (fun u p' s' hu => ?_) (fun _ _ _ x => x.elim) p s h
  rw [← PySem.W.R.bindR_eq, Sem.wp_bind] at hu
  exact hu
theorem LayT.bind {α β : Type} {Φ : Sem Unit → Sem α} (H : LayT Φ) (k : α → Sem β) : LayT (fun m => PySem.W.R.bindR (Φ m) k) := by
  intro M Γ m Q E p s h
  show Sem.wp M Γ (PySem.W.R.bindR (Φ m) k) Q E p s
  rw [← PySem.W.R.bindR_eq, Sem.wp_bind]
  refine H M Γ m _ _ p s (Sem.wp_mono M Γ m (fun u p' s' hu => ?_) (fun _ _ _ x => x) p s h)
  rw [← PySem.W.R.bindR_eq, Sem.wp_bind] at hu
  exact hu
theorem LayT.onRaise {α : Type} {Φ : Sem Unit → Sem α} (H : LayT Φ) (k : Value → Sem Unit) : LayT (fun m => PySem.W.R.onRaiseR (Φ m) k) := by
  intro M Γ m Q E p s h
  show Sem.wp M Γ (PySem.W.R.onRaiseR (Φ m) k) Q E p s
  rw [← PySem.W.R.onRaiseR_eq, Sem.wp_onRaise]
  refine H M Γ m _ _ p s (Sem.wp_mono M Γ m (fun u p' s' hu => ?_) (fun _ _ _ x => x) p s h)
  rw [← PySem.W.R.onRaiseR_eq, Sem.wp_onRaise] at hu
  exact hu
section
variable {prog : Program} {w : World} {A : Around} {R : Result → Shared → Prop} {h₀ h : Heap} {F : List Addr} {σ frs : Cells} {g : Array GenState} {d : Drawn} {tk : Nat} {os : OsState} {c : Code} {κ : Kn} {t : Sem Fin}
theorem note_new {Φ : Sem Unit → Sem Fin} (hΦ : LayT Φ) {e L : Addr} {env : Env} {outer : List Env} {T : Value} {v0 v2 v3 v4 v5 : Value} (ht : t = Φ (ZFast.noteFrameY (.ref e) env))
    (hfr : ((arnd A κ).under c).frames = some (env :: outer)) (hL : env.frame = some L) (hF : FrOk (env :: outer) frs)
    (D : Rep h₀ h F ((e, fldO T #[v0, .none, v2, v3, v4, v5]) :: (frs ++ σ)))
    (x : ∀ h' frs' tb c0 c1 c2 c3 c4 c5, FrSame frs frs' → Rep h₀ h' F ((tb, tbO .none L (rawInt L) c0 c1 c2 c3 c4 c5) :: (e, fldO T #[v0, .ref tb, v2, v3, v4, v5]) :: (frs' ++ σ)) → Mn prog w A R c κ (Φ (.pure ())) ⟨h', g, d, tk, os⟩) :
    Mn prog w A R c κ t ⟨h, g, d, tk, os⟩ := by
  subst ht
  rw [← ZFast.noteFrameY_eq]
  suffices z : wpAny (model prog w) ((arnd A κ).under c) (noteFrame (.ref e) env) (fun _ s' => Mn prog w A R c κ (Φ (.pure ())) s') (fun _ _ => False) ⟨h, g, d, tk, os⟩ by
    intro Γ p hc hΓ
    refine hΦ _ _ _ _ _ _ _ (Sem.wp_mono _ _ _ (fun u p' s' hu => ?_) (fun _ _ _ x => x) _ _ (z Γ p (hc ▸ hΓ.in)))
    exact hu Γ p' hc hΓ
  have he := D.at_ _ (List.Mem.head _)
  have D1 : Rep h₀ h F (frs ++ ((e, fldO T #[v0, .none, v2, v3, v4, v5]) :: σ)) := D.perm List.perm_middle
  have hl : h.FunFrames ({ objs := #[] } : Heap) (env :: outer) := hF.fun (fun a => by rfl) fun p hp => D1.at_ p (List.mem_append.mpr (.inl hp))
  unfold noteFrame
  simp only [hL]
  refine wpAny_bind (wpAny_field (s := ⟨h, g, d, tk, os⟩) (x := .none) he rfl rfl ?_)
  rw [if_neg (by decide)]
  refine wpAny_bind (wpAny_frameOf_fun hfr hl hL fun h₁ hs₁ => ?_)
  rw [hF.addrs] at hs₁
  obtain ⟨frs', hsm, D2⟩ := D1.slots hs₁
  refine wpAny_bind (wpAny_entryPlaceOf fun pl hpl => ?_)
  unfold EntryCells.newEntry newFields
  refine wpAny_bind (wpAny_newObj_type ?_ (hpl.sizeOk5 _ _ _ _ _))
  obtain ⟨c0, c1, c2, c3, c4, c5, hc⟩ := place_obj hpl .none (.ref L) .none (rawInt L) .none
  rw [hc]
  have D3 := (D2.perm List.perm_middle.symm).alloc (o := tbO .none L (rawInt L) c0 c1 c2 c3 c4 c5) rfl
  have D4 := D3.update (j := 1) (f := Obj.mapFields fun y => y.setIfInBounds 1 (.ref h₁.objs.size)) rfl rfl
  refine wpAny_setField (s := ⟨h₁.push (tbO .none L (rawInt L) c0 c1 c2 c3 c4 c5), g, d, tk, os⟩) (D3.cell 1 rfl) rfl (show 1 < 6 from by decide) ?_
  exact x _ frs' h₁.objs.size c0 c1 c2 c3 c4 c5 hsm D4
theorem note_more {Φ : Sem Unit → Sem Fin} (hΦ : LayT Φ) {e L tb0 L0 : Addr} {env : Env} {outer : List Env} {T : Value} {v0 v2 v3 v4 v5 hd0 d0 d1 d2 d3 d4 d5 : Value} (ht : t = Φ (ZFast.noteFrameY (.ref e) env))
    (hfr : ((arnd A κ).under c).frames = some (env :: outer)) (hL : env.frame = some L) (hF : FrOk (env :: outer) frs)
    (D : Rep h₀ h F ((tb0, tbO hd0 L0 .none d0 d1 d2 d3 d4 d5) :: (e, fldO T #[v0, .ref tb0, v2, v3, v4, v5]) :: (frs ++ σ)))
    (x : ∀ h' frs' tb c0 c1 c2 c3 c4 c5, FrSame frs frs' → Rep h₀ h' F ((tb, tbO (.ref tb0) L (rawInt L) c0 c1 c2 c3 c4 c5) :: (tb0, tbO hd0 L0 .none d0 d1 d2 d3 d4 d5) :: (e, fldO T #[v0, .ref tb, v2, v3, v4, v5]) :: (frs' ++ σ)) → Mn prog w A R c κ (Φ (.pure ())) ⟨h', g, d, tk, os⟩) :
    Mn prog w A R c κ t ⟨h, g, d, tk, os⟩ := by
  subst ht
  rw [← ZFast.noteFrameY_eq]
  suffices z : wpAny (model prog w) ((arnd A κ).under c) (noteFrame (.ref e) env) (fun _ s' => Mn prog w A R c κ (Φ (.pure ())) s') (fun _ _ => False) ⟨h, g, d, tk, os⟩ by
    intro Γ p hc hΓ
    refine hΦ _ _ _ _ _ _ _ (Sem.wp_mono _ _ _ (fun u p' s' hu => ?_) (fun _ _ _ x => x) _ _ (z Γ p (hc ▸ hΓ.in)))
    exact hu Γ p' hc hΓ
  have he := D.cell 1 (a := e) rfl
  have ht0 := D.cell 0 (a := tb0) rfl
  have D0 := D.update (j := 0) (f := Obj.mapFields fun y => y.setIfInBounds 3 .none) rfl rfl
  have D0' : Rep h₀ (h.update tb0 (Obj.mapFields fun y => y.setIfInBounds 3 .none)) F ((tb0, tbO hd0 L0 .none d0 d1 d2 d3 d4 d5) :: (e, fldO T #[v0, .ref tb0, v2, v3, v4, v5]) :: (frs ++ σ)) := D0
  have pm : (frs ++ ((tb0, tbO hd0 L0 .none d0 d1 d2 d3 d4 d5) :: (e, fldO T #[v0, .ref tb0, v2, v3, v4, v5]) :: σ)).Perm ((tb0, tbO hd0 L0 .none d0 d1 d2 d3 d4 d5) :: (e, fldO T #[v0, .ref tb0, v2, v3, v4, v5]) :: (frs ++ σ)) :=
    List.perm_middle.trans (List.perm_middle.cons _)
  have D1 := D0'.perm pm
  have hl : (h.update tb0 (Obj.mapFields fun y => y.setIfInBounds 3 .none)).FunFrames ({ objs := #[] } : Heap) (env :: outer) := hF.fun (fun a => by rfl) fun p hp => D1.at_ p (List.mem_append.mpr (.inl hp))
  unfold noteFrame
  simp only [hL]
  refine wpAny_bind (wpAny_field (s := ⟨h, g, d, tk, os⟩) (x := .ref tb0) he rfl rfl ?_)
  rw [if_pos (show (Value.ref tb0 != Value.none) = true from by simp)]
  refine wpAny_bind (wpAny_field (s := ⟨h, g, d, tk, os⟩) (x := .none) ht0 rfl rfl ?_)
  rw [if_neg (show ¬ (Value.none == rawInt L) = true from by simp [rawInt])]
  refine wpAny_bind (wpAny_setField (s := ⟨h, g, d, tk, os⟩) ht0 rfl (show 3 < 11 from by decide) ?_)
  refine wpAny_bind (wpAny_frameOf_fun hfr hl hL fun h₁ hs₁ => ?_)
  rw [hF.addrs] at hs₁
  obtain ⟨frs', hsm, D2⟩ := D1.slots hs₁
  refine wpAny_bind (wpAny_entryPlaceOf fun pl hpl => ?_)
  unfold EntryCells.newEntry newFields
  refine wpAny_bind (wpAny_newObj_type ?_ (hpl.sizeOk5 _ _ _ _ _))
  obtain ⟨c0, c1, c2, c3, c4, c5, hc⟩ := place_obj hpl (.ref tb0) (.ref L) .none (rawInt L) .none
  rw [hc]
  have D3 := (D2.perm (List.perm_middle.trans (List.perm_middle.cons _)).symm).alloc (o := tbO (.ref tb0) L (rawInt L) c0 c1 c2 c3 c4 c5) rfl
  have D4 := D3.update (j := 2) (f := Obj.mapFields fun y => y.setIfInBounds 1 (.ref h₁.objs.size)) rfl rfl
  refine wpAny_setField (s := ⟨h₁.push (tbO (.ref tb0) L (rawInt L) c0 c1 c2 c3 c4 c5), g, d, tk, os⟩) (D3.cell 2 rfl) rfl (show 1 < 6 from by decide) ?_
  exact x _ frs' h₁.objs.size c0 c1 c2 c3 c4 c5 hsm D4
end
end Mine
end
section
open PySem PySem.W PySem.W.X PyProof.Rows
set_option Elab.async false
set_option maxRecDepth 100000
set_option maxHeartbeats 1000000
namespace Mine
theorem m_last (l : Addr) (items : Array Value) (n : Nat) (u : Tok) (y : Value) (hy : items[items.size - 1]? = some y) :
    Meets (Builtin.«list.__getitem__» ⟨[.ref l, .int (-1) u], []⟩) (fun _ R s => s.heap.get? l = some (listO items n) ∧ R (.ok (.ret y)) s) :=
  .of_wp fun prog w A R s h => by
    obtain ⟨hp, g, d, tk, os⟩ := s; obtain ⟨hl, h⟩ := h
    have hpos : 0 < items.size := by
      rcases Nat.eq_zero_or_pos items.size with h0 | h0
      · simp [h0] at hy
      · exact h0
    have f1 := AutoSeq1.idx_int
    have hf : ¬ (!Builtin.List.listFitsIndex (-1)) = true := by decide
    have hk : seqIndex? (-1) items.size = some (items.size - 1) := by
      rw [seqIndex_neg (by omega) (by omega)]; congr 1; omega
    wp_walk using wpAny_loadPart' hl
    simp only [hk, hy, Option.bind_some]
    wp_walk
    exact ⟨_, rfl, h⟩
/-- a dict of int keys, as pairs -/
noncomputable def DPs (prog : Program) (w : World) (es : Array DictEntry) (kvs : List (Int × Value)) : Prop :=
  KeysOf (intKind prog w) es ∧ Pairs (intKind prog w) es.toList kvs ∧ (kvs.map (·.1)).Nodup
theorem DPs.nil (prog : Program) (w : World) : DPs prog w #[] [] := ⟨fun _ he => by simp at he, Pairs.nil, List.nodup_nil⟩
noncomputable abbrev setO (es : Array (Int × Value)) (ep : Nat) (t : SetTable) : Obj := ⟨.type "set", none, .set es ep t, #[]⟩
/-- a set of ints -/
noncomputable def SPs (prog : Program) (w : World) (es : Array (Int × Value)) (t : SetTable) (S : Int → Bool) (n : Nat) : Prop :=
  ElemsOf (intKind prog w) es.toList ∧ (∀ k, S k = true ↔ ∃ e ∈ es.toList, (intKind prog w).is k e.2 = true) ∧ es.size < scanBound ∧ t.fits es.size = true ∧ es.size = n
section
variable {prog : Program} {w : World} {A : Around} {R : Result → Shared → Prop} {h₀ h : Heap} {F : List Addr} {σ : Cells} {g : Array GenState} {d : Drawn} {tk : Nat} {os : OsState} {c : Code} {κ : Kn} {t : Sem Fin}
theorem use_biI {id : String} {args : Args} {B : Builtin} {S : PySem.Spec} (hb : entryFor table id = some B) (hp : plainId id = true) (m : MeetsIn prog w (B args) S) {s : Shared} (hc : againOf t = some (.builtin id args)) (hk : isRet κ = true)
    (x : S (arnd A κ) (fun r s' => Mn prog w A R (kc κ) (kr κ) (kk κ r) s') s) : Mn prog w A R c κ t s := by
  refine use_again hc (plainId_quiet hp args) hk ?_
  refine codeAny_of_tree ?_
  rw [Around.under_plainId hp]
  show wpAny _ _ (match entryFor table id with | some b => b args | none => unsupported ((withoutEnding? id "#data").getD id)) _ _ s
  rw [hb]
  exact m _ _ s x
theorem dictOf_at {N : Addr} {es : Array DictEntry} {ep : Nat} {kvs : List (Int × Value)} (ho : h.get? N = some (dictO es ep)) (x : DPs prog w es kvs) : h.DictOf (intKind prog w) N kvs :=
  ⟨_, es, ep, ho, ⟨rfl, rfl, rfl⟩, rfl, x.1, x.2.1, x.2.2⟩
theorem of_dictOf {N : Addr} {kvs : List (Int × Value)} (x : h.DictOf (intKind prog w) N kvs) : ∃ es ep, h.get? N = some (dictO es ep) ∧ DPs prog w es kvs := by
  obtain ⟨o, es, ep, ho, hc, hd, h1, h2, h3⟩ := x
  obtain ⟨c, dd, dt, sl⟩ := o
  obtain ⟨rfl, rfl, rfl⟩ := hc
  cases hd
  exact ⟨es, ep, ho, h1, h2, h3⟩
theorem setOf_at {a : Addr} {es : Array (Int × Value)} {ep : Nat} {tb : SetTable} {S : Int → Bool} {n : Nat} (ho : h.get? a = some (setO es ep tb)) (x : SPs prog w es tb S n) : h.SetOf (intKind prog w) a S n :=
  ⟨_, es, ep, tb, ho, ⟨rfl, rfl, rfl⟩, rfl, x⟩
theorem of_setOf {a : Addr} {S : Int → Bool} {n : Nat} (x : h.SetOf (intKind prog w) a S n) : ∃ es ep tb, h.get? a = some (setO es ep tb) ∧ SPs prog w es tb S n := by
  obtain ⟨o, es, ep, tb, ho, hc, hd, r⟩ := x
  obtain ⟨c, dd, dt, sl⟩ := o
  obtain ⟨rfl, rfl, rfl⟩ := hc
  cases hd
  exact ⟨es, ep, tb, ho, r⟩
theorem u_last (D : Rep h₀ h F σ) (j : Nat) {l : Addr} {items : Array Value} {n : Nat} {u : Tok} {y : Value} (hj : nth σ j = some (l, listO items n)) (hy : items[items.size - 1]? = some y) (hc : againOf t = some (.builtin "list.__getitem__" ⟨[.ref l, .int (-1) u], []⟩)) (hr : isRet κ = true)
    (x : Mn prog w A R (kc κ) (kr κ) (kk κ (.ok (.ret y))) ⟨h, g, d, tk, os⟩) : Mn prog w A R c κ t ⟨h, g, d, tk, os⟩ :=
  use_bi e_list_getitem p_list_getitem (m_last l items n u y hy) hc hr ⟨D.cell j hj, x⟩
theorem mapSeq_any (f : Array Value → Array Value) (items : Array Value) (n : Nat) : ∃ n', Obj.mapSeq f (listO items n) = listO (f items) n' := ⟨_, rfl⟩
theorem u_pop (D : Rep h₀ h F σ) (j : Nat) {l : Addr} {items : Array Value} {n : Nat} {y : Value} (hj : nth σ j = some (l, listO items n)) (hy : items[items.size - 1]? = some y) (hz : items.size ≤ sizeLine) (hc : againOf t = some (.builtin "list.pop" ⟨[.ref l], []⟩)) (hr : isRet κ = true)
    (x : ∀ h' n', Rep h₀ h' F (setNth σ j (l, listO (items.eraseIdxIfInBounds (items.size - 1)) n')) → Mn prog w A R (kc κ) (kr κ) (kk κ (.ok (.ret y))) ⟨h', g, d, tk, os⟩) : Mn prog w A R c κ t ⟨h, g, d, tk, os⟩ :=
  use_bi e_list_pop p_list_pop (PySem.MeetsSeq.list_pop_last l items n y hy hz) hc hr ⟨D.cell j hj, x _ _ (by
    have z := D.update (f := Obj.mapSeq fun xs => xs.eraseIdxIfInBounds (items.size - 1)) hj rfl
    rw [(mapSeq_any (fun xs => xs.eraseIdxIfInBounds (items.size - 1)) items n).choose_spec] at z
    exact z)⟩
theorem u_dset2 (D : Rep h₀ h F σ) (j : Nat) {N : Addr} {es : Array DictEntry} {ep : Nat} {kvs : List (Int × Value)} {k : Int} {u : Tok} {v : Value} (hj : nth σ j = some (N, dictO es ep)) (hp : DPs prog w es kvs) (hz : kvs.length ≤ sizeLine) (hc : againOf t = some (.builtin "dict.__setitem__" ⟨[.ref N, .int k u, v], []⟩)) (hr : isRet κ = true)
    (x : ∀ h' es' ep', DPs prog w es' (stored kvs k v) → Rep h₀ h' F (setNth σ j (N, dictO es' ep')) → Mn prog w A R (kc κ) (kr κ) (kk κ (.ok (.ret .none))) ⟨h', g, d, tk + 1, os⟩) : Mn prog w A R c κ t ⟨h, g, d, tk, os⟩ := by
  refine use_biI e_dict_setitem p_dict_setitem (meets_dict_setitem_pairs (intKind prog w) N (intKind_is prog w k u) v) hc hr ⟨kvs, dictOf_at (D.cell j hj) hp, hz, fun h' hd' hs => ?_⟩
  obtain ⟨es', ep', ho', hp'⟩ := of_dictOf hd'
  exact x h' es' ep' hp' (D.same hj hs ho')
theorem u_ddel (D : Rep h₀ h F σ) (j : Nat) {N : Addr} {es : Array DictEntry} {ep : Nat} {kvs : List (Int × Value)} {k : Int} {u : Tok} (hj : nth σ j = some (N, dictO es ep)) (hp : DPs prog w es kvs) (hz : kvs.length ≤ sizeLine) (hv : (valueAt kvs k).isSome = true) (hc : againOf t = some (.builtin "dict.__delitem__" ⟨[.ref N, .int k u], []⟩)) (hr : isRet κ = true)
    (x : ∀ h' es' ep', DPs prog w es' (without kvs k) → Rep h₀ h' F (setNth σ j (N, dictO es' ep')) → Mn prog w A R (kc κ) (kr κ) (kk κ (.ok (.ret .none))) ⟨h', g, d, tk + 1, os⟩) : Mn prog w A R c κ t ⟨h, g, d, tk, os⟩ := by
  refine use_biI e_dict_delitem p_dict_delitem (meets_dict_delitem_pairs (intKind prog w) N (intKind_is prog w k u)) hc hr ⟨kvs, dictOf_at (D.cell j hj) hp, hz, hv, fun h' hd' hs => ?_⟩
  obtain ⟨es', ep', ho', hp'⟩ := of_dictOf hd'
  exact x h' es' ep' hp' (D.same hj hs ho')
theorem u_dhas2 (D : Rep h₀ h F σ) (j : Nat) {N : Addr} {es : Array DictEntry} {ep : Nat} {kvs : List (Int × Value)} {k : Int} {u : Tok} (hj : nth σ j = some (N, dictO es ep)) (hp : DPs prog w es kvs) (hc : againOf t = some (.builtin "dict.__contains__" ⟨[.ref N, .int k u], []⟩)) (hr : isRet κ = true)
    (x : Mn prog w A R (kc κ) (kr κ) (kk κ (.ok (.ret (.bool (valueAt kvs k).isSome)))) ⟨h, g, d, tk + 1, os⟩) : Mn prog w A R c κ t ⟨h, g, d, tk, os⟩ := by
  exact use_biI e_dict_contains p_dict_contains (meets_dict_contains (intKind prog w) N (intKind_is prog w k u) (D.ne_sys j hj)) hc hr ⟨_, (dictOf_at (D.cell j hj) hp).mapOf, x⟩
theorem m_shas (prog : Program) (w : World) (a : Addr) (S : Int → Bool) (n : Nat) (k : Int) (u : Tok) :
    MeetsIn prog w (Builtin.«frozenset.__contains__» ⟨[.ref a, .int k u], []⟩) (fun _ R s => s.heap.SetOf (intKind prog w) a S n ∧ R (.ok (.ret (.bool (S k)))) { s with toks := s.toks + 1 }) :=
  .of_wp fun A R s ⟨hS, x⟩ => by
    unfold Builtin.«frozenset.__contains__» Builtin.Frozenset.oneOther
    simp only [List.isEmpty_nil, bind_assoc]
    unfold Builtin.Frozenset.addrOf Builtin.Frozenset.withSetAsKey setContains
    refine wpAny_bind (wpAny_pure ?_)
    try dsimp only
    refine wpAny_bind (wpAny_pure ?_)
    try dsimp only
    refine wpAny_bind (wpAny_tryCatch ?_)
    refine wpAny_holding ?_
    refine wpAny_bind ((intKind prog w).pyHash (intKind_is prog w k u) ?_)
    refine wpAny_bind (wpAny_setFind_of (s := { s with toks := s.toks + 1 }) (intKind_is prog w k u) rfl hS fun r hr' => ?_)
    refine wpAny_pure ?_
    show wpAny _ _ (ret (Value.bool r.isSome)) _ _ _
    rw [hr']
    exact wpAny_pure ⟨_, rfl, x⟩
theorem m_sadd (prog : Program) (w : World) (a : Addr) (S : Int → Bool) (n : Nat) (k : Int) (u : Tok) (hroom : n + 1 < scanBound) :
    MeetsIn prog w (Builtin.«set.add» ⟨[.ref a, .int k u], []⟩) (fun _ R s => s.heap.SetOf (intKind prog w) a S n ∧ ∀ h', Heap.SameBut a s.heap h' → h'.SetOf (intKind prog w) a (fun k' => S k' || decide (k' = k)) (if S k then n else n + 1) → R (.ok (.ret .none)) { s with heap := h', toks := s.toks + 1 }) :=
  .of_wp fun A R s ⟨hS, x⟩ => by
    unfold Builtin.«set.add» Builtin.Frozenset.oneOther
    simp only [List.isEmpty_nil, bind_assoc]
    unfold Builtin.Frozenset.addrOf setAdd
    refine wpAny_bind (wpAny_pure ?_)
    try dsimp only
    refine wpAny_bind (wpAny_pure ?_)
    try dsimp only
    refine wpAny_bind ?_
    refine wpAny_holding ?_
    refine wpAny_bind ((intKind prog w).pyHash (intKind_is prog w k u) ?_)
    refine wpAny_setAddHashed_of (s := { s with toks := s.toks + 1 }) (intKind_is prog w k u) rfl hS hroom fun h' hsb hS' => ?_
    show wpAny _ _ (ret Value.none) _ _ _
    exact wpAny_pure ⟨_, rfl, x h' hsb hS'⟩
theorem u_shas (D : Rep h₀ h F σ) (j : Nat) {a : Addr} {es : Array (Int × Value)} {ep : Nat} {tb : SetTable} {S : Int → Bool} {n : Nat} {k : Int} {u : Tok} (hj : nth σ j = some (a, setO es ep tb)) (hp : SPs prog w es tb S n) (hc : againOf t = some (.builtin "set.__contains__" ⟨[.ref a, .int k u], []⟩)) (hr : isRet κ = true)
    (x : Mn prog w A R (kc κ) (kr κ) (kk κ (.ok (.ret (.bool (S k))))) ⟨h, g, d, tk + 1, os⟩) : Mn prog w A R c κ t ⟨h, g, d, tk, os⟩ :=
  use_biI entry_set_contains p_set_contains (m_shas prog w a S n k u) hc hr ⟨setOf_at (D.cell j hj) hp, x⟩
theorem u_sadd (D : Rep h₀ h F σ) (j : Nat) {a : Addr} {es : Array (Int × Value)} {ep : Nat} {tb : SetTable} {S : Int → Bool} {n : Nat} {k : Int} {u : Tok} (hj : nth σ j = some (a, setO es ep tb)) (hp : SPs prog w es tb S n) (hroom : n + 1 < scanBound) (hc : againOf t = some (.builtin "set.add" ⟨[.ref a, .int k u], []⟩)) (hr : isRet κ = true)
    (x : ∀ h' es' ep' tb', SPs prog w es' tb' (fun k' => S k' || decide (k' = k)) (if S k then n else n + 1) → Rep h₀ h' F (setNth σ j (a, setO es' ep' tb')) → Mn prog w A R (kc κ) (kr κ) (kk κ (.ok (.ret .none))) ⟨h', g, d, tk + 1, os⟩) : Mn prog w A R c κ t ⟨h, g, d, tk, os⟩ := by
  refine use_biI PySem.F.entry_set_add p_set_add (m_sadd prog w a S n k u hroom) hc hr ⟨setOf_at (D.cell j hj) hp, fun h' hsb hS' => ?_⟩
  obtain ⟨es', ep', tb', ho', hp'⟩ := of_setOf hS'
  exact x h' es' ep' tb' hp' (D.same hj hsb ho')
end
end Mine
end
section
open PySem PySem.W PySem.W.X PyProof.Rows
set_option Elab.async false
set_option maxRecDepth 100000
set_option maxHeartbeats 1000000
namespace Mine
variable {prog : Program} {w : World} {w₀ : World} {b1 b2 b3 : Bool} {A : Around} {R : Result → Shared → Prop} {h₀ h : Heap} {F : List Addr} {ρ σ : Cells} {g : Array GenState} {d : Drawn} {tk : Nat} {os : OsState}
structure Lv where
  nd : Nd
  t : Tok
  it : Addr
  mw : Addr
  i : Nat
  x : Value
noncomputable abbrev mwO (it : Addr) : Obj := fieldsO "method-wrapper" #[.builtin "list_iterator.__next__", .ref it]
noncomputable def lvc : List Lv → Cells
  | [] => []
  | v :: r => (v.mw, mwO v.it) :: (v.it, itO "list_iterator" (.ref v.nd.l) v.i) :: lvc r
noncomputable def stI (lvs : List Lv) : List IT := lvs.reverse.map fun v => (v.nd.k, v.t)
noncomputable def itI (lvs : List Lv) : List Value := lvs.reverse.map fun v => .ref v.mw
noncomputable def kvI (lvs : List Lv) : List (Int × Value) := lvs.reverse.map fun v => (v.nd.k, v.x)
noncomputable abbrev frF (es : Array DictEntry) (n : Nat) (sl : Array (Option Value)) : Obj := ⟨.type "frame", none, .dict es n, sl⟩
structure FQ where
  q0 : Q2
  q1 : Q2
  q2 : Q2
  q3 : Q2
  q4 : Q2
  q5 : Q2
  q6 : Q2
noncomputable def fcE (q : FQ) (S N Ls Li Sn Ns : Addr) (nv : Value) : Array DictEntry := #[fe q.q0 s_self (.ref S), fe q.q1 s_n2i (.ref N), fe q.q2 s_stack (.ref Ls), fe q.q3 s_itstack (.ref Li), fe q.q4 s_seen (.ref Sn), fe q.q5 s_node2stacki (.ref Ns), fe q.q6 s_node nv]
noncomputable def subW : Option Stmt → Nat → Option Stmt
  | some (.For _ _ body _ _), j => body[j]?
  | some (.While _ body _ _), j => body[j]?
  | _, _ => none
noncomputable def whS (P : Params) (a : Addr) (s : Option Stmt) (L : Addr) : Code := match s with
  | some (.While test body orelse _) => .whileLoop test body orelse (fenv P a L)
  | _ => default
noncomputable def fcW1 (P : Params) (L : Addr) : Code := whS P 134 (subW (fstmt P 134 5) 1) L
noncomputable def fcW2 (P : Params) (L : Addr) : Code := whS P 134 (subW (subW (fstmt P 134 5) 1) 1) L
noncomputable def w2M : List Lv → Option (IT × List Lv)
  | [] => none
  | v :: r => match v.nd.su[v.i]? with
    | some s => some (s, { v with i := v.i + 1 } :: r)
    | none => w2M r
noncomputable def handsOf : Option Stmt → List ExceptHandler
  | some (.Try _ hs _ _ _) => hs
  | _ => []
noncomputable def tailH (E : Value) (env : Env) (hs : List ExceptHandler) : Sem Flow := PySem.W.R.bindR (ZFast.zw5670386056902412789 E none) (fun _ => ZFast.zw14206642085496868694 E env hs)
noncomputable def noteT (env : Env) (x : Value) : Sem Unit := PySem.W.R.bindR (ZFast.noteFrameY x env) (fun _ => ZFast.zw1623429502029203251 x)
noncomputable def whΦ (C : Code) (E : Value) (env : Env) (hs : List ExceptHandler) (rest : List Stmt) (m : Sem Unit) : Sem Fin :=
  PySem.W.R.onRaiseR (PySem.W.R.bindR (PySem.W.R.bindR (PySem.W.R.bindR m (fun _ => tailH E env hs))
    (fun f => match f with | .next => ZFast.zw12563942051412417395 rest env | f => Sem.pure f))
    (fun f => match f with | .next => Sem.pure (.again C) | .cont => Sem.pure (.again C) | .brk => Sem.pure (.done .next) | .ret v => Sem.pure (.done (.ret v)))) (noteT env)
theorem whΦ_lay (C : Code) (E : Value) (env : Env) (hs : List ExceptHandler) (rest : List Stmt) : LayT (whΦ C E env hs rest) := (((LayT.hole _).bind _).bind _).onRaise _

theorem stI_cons (v : Lv) (r : List Lv) : stI (v :: r) = stI r ++ [(v.nd.k, v.t)] := by simp [stI]
theorem itI_cons (v : Lv) (r : List Lv) : itI (v :: r) = itI r ++ [.ref v.mw] := by simp [itI]
theorem kvI_cons (v : Lv) (r : List Lv) : kvI (v :: r) = kvI r ++ [(v.nd.k, v.x)] := by simp [kvI]
theorem last_at (xs : List Value) (y : Value) : (⟨xs ++ [y]⟩ : Array Value)[(⟨xs ++ [y]⟩ : Array Value).size - 1]? = some y := by simp
theorem last_off (xs : List Value) (y : Value) : (⟨xs ++ [y]⟩ : Array Value).eraseIdxIfInBounds ((⟨xs ++ [y]⟩ : Array Value).size - 1) = ⟨xs⟩ := by
  have e : (⟨xs ++ [y]⟩ : Array Value) = (⟨xs⟩ : Array Value).push y := by simp
  rw [e]
  simp [Array.eraseIdxIfInBounds, List.eraseIdx_append_of_length_le]
theorem len_iv (lvs : List Lv) : (⟨(stI lvs).map iv⟩ : Array Value).size = lvs.length := by simp [stI]
theorem without_last {kvs : List (Int × Value)} {k : Int} {x : Value} (h : ((kvs ++ [(k, x)]).map (·.1)).Nodup) : without (kvs ++ [(k, x)]) k = kvs := by
  have hn : k ∉ kvs.map (·.1) := by
    rw [List.map_append, List.nodup_append] at h
    intro hm
    exact h.2.2 k hm k (by simp) rfl
  have e := without_of_not_mem kvs k hn
  unfold without at e ⊢
  rw [List.filter_append, e]
  simp
theorem valueAt_last (kvs : List (Int × Value)) (k : Int) (x : Value) : (valueAt (kvs ++ [(k, x)]) k).isSome = true := by
  unfold valueAt
  rw [Option.isSome_map, List.find?_isSome]
  exact ⟨(k, x), by simp, by simp⟩
theorem FrSame.refl : ∀ frs : Cells, FrSame frs frs
  | [] => .nil
  | (a, o) :: r => .cons a o o.slots (FrSame.refl r)
theorem FrSame.trans {a b : Cells} (h : FrSame a b) : ∀ {c : Cells}, FrSame b c → FrSame a c := by
  induction h with
  | nil => exact fun h => h
  | cons a o s h ih =>
    intro c hc
    cases hc with
    | cons _ _ s' h' => exact .cons a o s' (ih h')
theorem FrOk.same {frs frs' : Cells} (h : FrSame frs frs') : ∀ {es : List Env}, FrOk es frs → FrOk es frs' := by
  induction h with
  | nil => exact fun h => h
  | cons a o s h ih =>
    intro es hx
    cases es with
    | nil => exact hx.elim
    | cons e es => exact ⟨hx.1, hx.2.1, hx.2.2.1, ih hx.2.2.2⟩
theorem frames_of {A : Around} {κ : Kn} {c : Code} {fs : List Env} (hA : A.frames = some fs) (h : kenvs κ c = []) : ((arnd A κ).under c).frames = some fs := by
  rw [arnd_frames hA, h]; rfl
theorem kind134 (P : Params) (L : Addr) : (fenv P 134 L).scope.kind ≠ .module := by
  have e : (fenv P 134 L).scope.kind = .function := by kernel_rfl
  rw [e]; decide
theorem lw2 {S Dd N Ls Li Sn Ns L : Addr} {a : SA} {r np nf : Value} {so : Obj} {epn : Nat} {q : FQ} {ns : List Nd} {outer : List Env} (G : Gd w h₀) (o : Ok A 3) (hfr : A.frames = some (fenv w.params 134 L :: outer)) : ∀ (lvs : List Lv) (frs : Cells) (sl : Array (Option Value)) (nv : Value) (es : Array DictEntry) (ep e1 e2 : Nat) (h : Heap) (tk : Nat),
    (∀ v ∈ lvs, ns.find? (fun n => n.k == v.nd.k) = some v.nd) → DPs prog w es (kvI lvs) → lvs.length ≤ 1000 → FrOk outer frs →
    Rep h₀ h F ((Ls, listO ⟨(stI lvs).map iv⟩ e1) :: (Li, listO ⟨itI lvs⟩ e2) :: (Sn, so) :: (Ns, dictO es ep) :: (L, frF (fcE q S N Ls Li Sn Ns nv) 7 sl) :: sC S Dd a N r np nf (ents ns) epn (lvc lvs ++ (lcells ns ++ (frs ++ ρ)))) →
    (∀ h' tk' frs' sl' es' ep' e1' e2' s lvs', w2M lvs = some (s, lvs') → DPs prog w es' (kvI lvs') → FrSame frs frs' → Rep h₀ h' F ((Ls, listO ⟨(stI lvs').map iv⟩ e1') :: (Li, listO ⟨itI lvs'⟩ e2') :: (Sn, so) :: (Ns, dictO es' ep') :: (L, frF (fcE q S N Ls Li Sn Ns (iv s)) 7 sl') :: sC S Dd a N r np nf (ents ns) epn (lvc lvs' ++ (lcells ns ++ (frs' ++ ρ)))) → R (.ok .next) ⟨h', g, d, tk', os⟩) →
    (∀ h' tk' frs' sl' es' ep' e1' e2', w2M lvs = none → DPs prog w es' [] → FrSame frs frs' → Rep h₀ h' F ((Ls, listO #[] e1') :: (Li, listO #[] e2') :: (Sn, so) :: (Ns, dictO es' ep') :: (L, frF (fcE q S N Ls Li Sn Ns nv) 7 sl') :: sC S Dd a N r np nf (ents ns) epn (lcells ns ++ (frs' ++ ρ))) → R (.ok .brk) ⟨h', g, d, tk', os⟩) →
    codeAny (model prog w) A (fcW2 w.params L) R ⟨h, g, d, tk, os⟩
  | [] => by
    intro frs sl nv es ep e1 e2 h tk hf hp hz hF D xi xe
    refine code_start ?_
    refine sgL 1000 [.s 4, .s 0, .s 0] [] G o.hd D ?_; intro oh1; refine ⟨by kernel_rfl, fun h1 tk1 D1 => ?_⟩
    refine use_call (c' := .builtin "len" ⟨[.ref Ls], []⟩) (hd := none) (by kernel_rfl) rfl ?_
    refine c_lenL D1 0 (l := Ls) (items := ⟨(stI []).map iv⟩) (n := e1) (by kernel_rfl) (by simp [stI]) ?_
    refine sgL 1000 [] [] G o.hd D1 ?_; intro oh2; refine ⟨by kernel_rfl, fun h2 tk2 D2 => ?_⟩
    exact end_done (f := .brk) (by kernel_rfl) (by kernel_rfl) (xe h2 tk2 frs sl es ep e1 e2 rfl hp (FrSame.refl _) (D2.eq (by kernel_rfl)))
  | v :: rest => by
    intro frs sl nv es ep e1 e2 h tk hf hp hz hF D xi xe
    obtain ⟨pre, post, hns, _, _⟩ := find_split (hf v (.head _))
    rw [kvI_cons] at hp
    have hsz : (⟨(stI (v :: rest)).map iv⟩ : Array Value).size = rest.length + 1 := len_iv _
    have elc : lcells ns ++ (frs ++ ρ) = lcells pre ++ (v.nd.lst :: (lcells post ++ (frs ++ ρ))) := by rw [hns]; exact lcells_mid pre post v.nd _
    rw [elc, itI_cons, show (stI (v :: rest)).map iv = (stI rest).map iv ++ [iv (v.nd.k, v.t)] from by rw [stI_cons, List.map_append]; rfl] at D
    rw [show (stI (v :: rest)).map iv = (stI rest).map iv ++ [iv (v.nd.k, v.t)] from by rw [stI_cons, List.map_append]; rfl] at hsz
    have D0 := Rep.shuf ([[(Ls, listO ⟨(stI rest).map iv ++ [iv (v.nd.k, v.t)]⟩ e1)], [(Li, listO ⟨itI rest ++ [.ref v.mw]⟩ e2)], [(Sn, so)], [(Ns, dictO es ep)], [(L, frF (fcE q S N Ls Li Sn Ns nv) 7 sl)], [(S, instO 144 Dd)], [(Dd, dictO (attrs a N r np nf) 4)], [(N, dictO (ents ns) epn)], [(v.mw, mwO v.it)], [(v.it, itO "list_iterator" (.ref v.nd.l) v.i)], lvc rest, lcells pre, [v.nd.lst], lcells post ++ (frs ++ ρ)]) [13, 12, 12, 13, 13, 13, 13, 13, 13, 13, 13, 13, 13, 13] D
    refine code_start ?_
    refine sgL 1000 [.s 4, .s 0, .s 0] [] G o.hd D0 ?_; intro oh1; refine ⟨by kernel_rfl, fun h1 tk1 D1 => ?_⟩
    refine use_call (c' := .builtin "len" ⟨[.ref Ls], []⟩) (hd := none) (by kernel_rfl) rfl ?_
    refine c_lenL D1 0 (l := Ls) (items := ⟨(stI rest).map iv ++ [iv (v.nd.k, v.t)]⟩) (n := e1) (by kernel_rfl) (by rw [hsz]; simpa using hz) ?_
    rw [hsz]
    refine sgL 1000 [.s 4, .e, .e, .s 1, .s 1, .s 1, .e, .s 1] [] G o.hd D1 ?_; intro oh2; refine ⟨by kernel_rfl, fun h2 tk2 D2 => ?_⟩
    refine u_last D2 1 (l := Li) (items := ⟨itI rest ++ [.ref v.mw]⟩) (n := e2) (u := tk1 + 2 + 1) (y := .ref v.mw) (by kernel_rfl) (last_at _ _) (by kernel_rfl) (by kernel_rfl) ?_
    refine sgL 1000 [.s 8, .e, .s 8] [] G o.hd D2 ?_; intro oh3; refine ⟨by kernel_rfl, fun h3 tk3 D3 => ?_⟩
    cases hsu : v.nd.su[v.i]? with
    | some s =>
      have hm : w2M (v :: rest) = some (s, { v with i := v.i + 1 } :: rest) := by
        show (match v.nd.su[v.i]? with | some s => some (s, { v with i := v.i + 1 } :: rest) | none => w2M rest) = _
        rw [hsu]
      refine u_lnext D3 9 (it := v.it) (T := v.nd.l) (items := ⟨v.nd.su.map iv⟩) (n := v.nd.e) (i := v.i) (v := .int s.1 s.2) (by kernel_rfl) 10 (by kernel_rfl) (by simp [hsu]) (by kernel_rfl) (by kernel_rfl) fun h4 D4 => ?_
      refine sgL 1000 [.s 4, .s 4] [] G o.hd D4 ?_; intro oh5; refine ⟨by kernel_rfl, fun h5 tk5 D5 => ?_⟩
      refine end_done (f := .next) (by kernel_rfl) (by kernel_rfl) ?_
      refine xi h5 tk5 frs sl es ep e1 e2 s _ hm (by rw [kvI_cons]; exact hp) (FrSame.refl _) ?_
      have D6 : Rep h₀ h5 F (cat [[(Ls, listO ⟨(stI rest).map iv ++ [iv (v.nd.k, v.t)]⟩ e1)], [(Li, listO ⟨itI rest ++ [.ref v.mw]⟩ e2)], [(Sn, so)], [(Ns, dictO es ep)], [(L, frF (fcE q S N Ls Li Sn Ns (iv s)) 7 sl)], [(S, instO 144 Dd)], [(Dd, dictO (attrs a N r np nf) 4)], [(N, dictO (ents ns) epn)], [(v.mw, mwO v.it)], [(v.it, itO "list_iterator" (.ref v.nd.l) (v.i + 1))], [v.nd.lst], lvc rest, lcells pre, lcells post, frs, ρ]) := D5.eq (by kernel_rfl)
      rw [elc, itI_cons, show (stI ({ v with i := v.i + 1 } :: rest)).map iv = (stI rest).map iv ++ [iv (v.nd.k, v.t)] from by rw [stI_cons, List.map_append]; rfl]
      exact Rep.shuf _ [15, 15, 15, 13, 15, 15, 15, 15, 15, 15, 15, 15, 15, 15, 15, 15] D6
    | none =>
      have hm : w2M (v :: rest) = w2M rest := by
        show (match v.nd.su[v.i]? with | some s => some (s, { v with i := v.i + 1 } :: rest) | none => w2M rest) = _
        rw [hsu]
      refine u_lstop D3 9 (it := v.it) (T := v.nd.l) (items := ⟨v.nd.su.map iv⟩) (n := v.nd.e) (i := v.i) (by kernel_rfl) 10 (by kernel_rfl) (by simp [hsu]) o.hd (by kernel_rfl) (by kernel_rfl) (by kernel_rfl) fun h4 E E0 D4 => ?_
      have D5 : Rep h₀ h4 F (cat [[(E, stopO E0)], [(E0, tupO #[] 0)], [(Ls, listO ⟨(stI rest).map iv ++ [iv (v.nd.k, v.t)]⟩ e1)], [(Li, listO ⟨itI rest ++ [.ref v.mw]⟩ e2)], [(Sn, so)], [(Ns, dictO es ep)], [(L, frF (fcE q S N Ls Li Sn Ns nv) 7 sl)], [(S, instO 144 Dd)], [(Dd, dictO (attrs a N r np nf) 4)], [(N, dictO (ents ns) epn)], [(v.mw, mwO v.it)], [(v.it, itO "list_iterator" .none v.i)], [v.nd.lst], lvc rest, lcells pre, lcells post, frs, ρ]) := D4.eq (by kernel_rfl)
      have D6 := Rep.shuf _ [11, 11, 3, 17, 16, 16, 16, 16, 16, 16, 16, 15, 15, 15, 15, 17, 17, 17] D5
      refine note_new (frs := (L, frF (fcE q S N Ls Li Sn Ns nv) 7 sl) :: frs) (L := L) (outer := outer) (whΦ_lay (fcW2 w.params L) (.ref E) (fenv w.params 134 L) (handsOf (subW (subW (subW (fstmt w.params 134 5) 1) 1) 0)) []) (by kernel_rfl) (frames_of hfr (by kernel_rfl)) (by kernel_rfl) ⟨kind134 _ _, by kernel_rfl, (fun vs hv => by cases hv), hF⟩ D6 fun h7 frs7 tb c0 c1 c2 c3 c4 c5 hs7 D7 => ?_
      cases hs7 with
      | cons _ _ sl7 hs7 =>
      rename_i frs7
      have D8 : Rep h₀ h7 F (cat [[(tb, tbO .none L (rawInt L) c0 c1 c2 c3 c4 c5)], [(E, fieldsO "StopIteration" #[.ref E0, .ref tb, .none, .none, .bool false, .none])], [(L, frF (fcE q S N Ls Li Sn Ns nv) 7 sl7)], frs7, [(Ls, listO ⟨(stI rest).map iv ++ [iv (v.nd.k, v.t)]⟩ e1)], [(Li, listO ⟨itI rest ++ [.ref v.mw]⟩ e2)], [(Sn, so)], [(Ns, dictO es ep)], [(S, instO 144 Dd)], [(Dd, dictO (attrs a N r np nf) 4)], [(N, dictO (ents ns) epn)], [v.nd.lst], lvc rest, lcells pre, lcells post, ρ, [(E0, tupO #[] 0)], [(v.mw, mwO v.it)], [(v.it, itO "list_iterator" .none v.i)]]) := D7.eq (by simp [Mine.cat])
      have D9 := Rep.shuf _ [18, 18, 18, 18, 7, 18, 18, 18, 18, 18, 18, 18, 14, 18, 18, 18, 18, 18, 18] D8
      refine sgL 1000 [.s 1, .s 0, .s 0, .e, .t, .t, .s 1, .e, .s 1, .s 0, .s 0, .s 6, .s 6, .s 2, .s 2, .s 2, .s 2, .e, .s 2] [false] G o.hd D9 ?_; intro oh10; refine ⟨by kernel_rfl, fun h10 tk10 D10 => ?_⟩
      refine u_pop D10 1 (l := Ls) (items := ⟨(stI rest).map iv ++ [iv (v.nd.k, v.t)]⟩) (n := e1) (y := iv (v.nd.k, v.t)) (by kernel_rfl) (last_at _ _) (by rw [hsz]; exact Nat.le_trans (by simpa using hz) (by decide : 1000 ≤ sizeLine)) (by kernel_rfl) (by kernel_rfl) fun h11 e11 D11 => ?_
      rw [last_off] at D11
      refine sgL 1000 [.s 4, .s 4, .e, .s 4] [] G o.hd D11 ?_; intro oh12; refine ⟨by kernel_rfl, fun h12 tk12 D12 => ?_⟩
      refine u_ddel D12 4 (N := Ns) (es := es) (ep := ep) (k := v.nd.k) (u := v.t) (by kernel_rfl) hp (by simp [kvI]; exact Nat.le_trans (by simpa using hz) (by decide : 1000 ≤ sizeLine)) (valueAt_last _ _ _) (by kernel_rfl) (by kernel_rfl) fun h13 es13 ep13 hp13 D13 => ?_
      rw [without_last hp.2.2] at hp13
      refine sgL 1000 [.s 5, .s 2, .s 2, .s 2, .s 2, .e, .s 2] [] G o.hd D13 ?_; intro oh14; refine ⟨by kernel_rfl, fun h14 tk14 D14 => ?_⟩
      refine u_pop D14 2 (l := Li) (items := ⟨itI rest ++ [.ref v.mw]⟩) (n := e2) (y := .ref v.mw) (by kernel_rfl) (last_at _ _) (by simp [itI]; exact Nat.le_trans (by simpa using hz) (by decide : 1000 ≤ sizeLine)) (by kernel_rfl) (by kernel_rfl) fun h15 e15 D15 => ?_
      rw [last_off] at D15
      refine sgL 1000 [.e] [false] G o.hd D15 ?_; intro oh16; refine ⟨by kernel_rfl, fun h16 tk16 D16 => ?_⟩
      refine end_again (c' := fcW2 w.params L) (by kernel_rfl) (by kernel_rfl) (by kernel_rfl) ?_
      have D17 : Rep h₀ h16 F (cat [[(Ls, listO ⟨(stI rest).map iv⟩ e11)], [(Li, listO ⟨itI rest⟩ e15)], [(Sn, so)], [(Ns, dictO es13 ep13)], [(L, frF (fcE q S N Ls Li Sn Ns nv) 7 sl7)], [(S, instO 144 Dd)], [(Dd, dictO (attrs a N r np nf) 4)], [(N, dictO (ents ns) epn)], [v.nd.lst], lvc rest, lcells pre, lcells post, frs7, ρ, [(E0, tupO #[] 0)], [(v.mw, mwO v.it)], [(v.it, itO "list_iterator" .none v.i)]]) := D16.eq (by kernel_rfl)
      have D18 := Rep.shuf _ [13, 13, 13, 11, 13, 13, 13, 13, 13, 13, 13, 13, 13, 13, 16, 16, 16] D17
      have elc7 : lcells ns ++ (frs7 ++ ρ) = lcells pre ++ (v.nd.lst :: (lcells post ++ (frs7 ++ ρ))) := by rw [hns]; exact lcells_mid pre post v.nd _
      refine lw2 (S := S) (Dd := Dd) (N := N) (Ls := Ls) (Li := Li) (Sn := Sn) (Ns := Ns) (L := L) (a := a) (r := r) (np := np) (nf := nf) (so := so) (epn := epn) (q := q) (ns := ns) (outer := outer) G o hfr rest frs7 sl7 nv es13 ep13 e11 e15 h16 tk16 (fun x hx => hf x (.tail _ hx)) hp13 (by simp only [List.length_cons] at hz; omega) (hF.same hs7) ?_ ?_ ?_
      · rw [elc7]
        exact (D18.mask [false, false, false])
      · intro h' tk' frs' sl' es' ep' e1' e2' s lvs' hw hd hs D'
        exact xi h' tk' frs' sl' es' ep' e1' e2' s lvs' (hm.trans hw) hd (hs7.trans hs) D'
      · intro h' tk' frs' sl' es' ep' e1' e2' hw hd hs D'
        exact xe h' tk' frs' sl' es' ep' e1' e2' (hm.trans hw) hd (hs7.trans hs) D'
end Mine
end
section
open PySem PySem.W PySem.W.X PyProof.Rows
set_option Elab.async false
set_option maxRecDepth 100000
set_option maxHeartbeats 1000000
namespace Mine
noncomputable abbrev sliceO (a b c : Value) : Obj := fieldsO "slice" #[a, b, c]
theorem m_lslice (l sl : Addr) (items : Array Value) (n : Nat) (vl vu : Value) (lo hi : Option Int) (pl : IsPart vl lo) (pu : IsPart vu hi) (hsz : items.size ≤ sizeLine) :
    Meets (Builtin.«list.__getitem__» ⟨[.ref l, .ref sl], []⟩) (fun _ R s => s.heap.get? l = some (listO items n) ∧ s.heap.get? sl = some (sliceO vl vu .none) ∧
      R (.ok (.ret (.ref s.heap.objs.size))) { s with heap := s.heap.push (listO (slicePick items lo hi none) 0) }) :=
  .of_wp fun prog w A R s h => by
    obtain ⟨ho, hos, h⟩ := h
    have hl : s.heap.IsList l items := ⟨_, ho, rfl, n, rfl⟩
    have hTs : s.TypeIs (.ref sl) "slice" := ⟨_, hos, rfl⟩
    show wpAny _ _ (Builtin.List.listSubscript? (.ref sl) >>= _) _ _ s
    refine wpAny_bind ?_
    unfold Builtin.List.listSubscript?
    refine wpAny_bind (wpAny_specialOf hTs slice_no_index ?_)
    simp only [Option.isNone_none, if_true]
    refine wpAny_pure ?_
    show wpAny _ _ (typeOf (.ref sl) >>= _) _ _ s
    refine wpAny_bind (wpAny_typeOf hTs ?_)
    rw [if_neg (by decide)]
    rw [listSliceParts_eq]
    have hstep : ¬ ((rawPart none == rawInt 0) = true) := Bool.false_ne_true
    refine wpAny_bind (wpAny_bind (wpAny_field hos rfl (x := .none) rfl (wpAny_bind (wpAny_listPart IsPart.none ?_))))
    rw [if_neg hstep]
    refine wpAny_bind (wpAny_field hos rfl (x := vl) rfl (wpAny_bind (wpAny_listPart pl ?_)))
    refine wpAny_bind (wpAny_field hos rfl (x := vu) rfl (wpAny_bind (wpAny_listPart pu (wpAny_pure ?_))))
    refine wpAny_bind (m := Builtin.List.listItems (.ref l)) ?_
    unfold Builtin.List.listItems
    refine wpAny_bind (wpAny_seqItems ho rfl (wpAny_pure ?_))
    refine wpAny_bind (wpAny_of_eq (sliceIndices_raw lo hi none items.size (by simp)) ?_)
    refine wpAny_bind (wpAny_newObj_type (wpAny_pure ⟨_, rfl, h⟩) (Nat.le_trans (slicePick_size_le items lo hi none) hsz))
section
variable {prog : Program} {w : World} {A : Around} {R : Result → Shared → Prop} {h₀ h : Heap} {F : List Addr} {σ : Cells} {g : Array GenState} {d : Drawn} {tk : Nat} {os : OsState} {c : Code} {κ : Kn} {t : Sem Fin}
theorem u_lslice (D : Rep h₀ h F σ) (j : Nat) {l sl : Addr} {items : Array Value} {n : Nat} {vl vu : Value} {lo hi : Option Int} (hj : nth σ j = some (l, listO items n)) (js : Nat) (hs : nth σ js = some (sl, sliceO vl vu .none)) (pl : IsPart vl lo) (pu : IsPart vu hi) (hsz : items.size ≤ sizeLine) (hc : againOf t = some (.builtin "list.__getitem__" ⟨[.ref l, .ref sl], []⟩)) (hr : isRet κ = true)
    (x : ∀ h' T, Rep h₀ h' F ((T, listO (slicePick items lo hi none) 0) :: σ) → Mn prog w A R (kc κ) (kr κ) (kk κ (.ok (.ret (.ref T)))) ⟨h', g, d, tk, os⟩) : Mn prog w A R c κ t ⟨h, g, d, tk, os⟩ :=
  use_bi e_list_getitem p_list_getitem (m_lslice l sl items n vl vu lo hi pl pu hsz) hc hr ⟨D.cell j hj, D.cell js hs, x _ _ (D.alloc rfl)⟩
theorem u_ladd (D : Rep h₀ h F σ) (j : Nat) {l b : Addr} {items items2 : Array Value} {n n2 : Nat} (hj : nth σ j = some (l, listO items n)) (jb : Nat) (hb : nth σ jb = some (b, listO items2 n2)) (hz : items.size + items2.size ≤ sizeLine) (hc : againOf t = some (.builtin "list.__add__" ⟨[.ref l, .ref b], []⟩)) (hr : isRet κ = true)
    (x : ∀ h' T, Rep h₀ h' F ((T, listO (items ++ items2) 0) :: σ) → Mn prog w A R (kc κ) (kr κ) (kk κ (.ok (.ret (.ref T)))) ⟨h', g, d, tk, os⟩) : Mn prog w A R c κ t ⟨h, g, d, tk, os⟩ :=
  use_bi PySem.F.entry_list_add p_list_add (PySem.AutoSeq1.list___add___list_list_0 l items n b items2 n2 hz) hc hr ⟨D.cell j hj, D.cell jb hb, x _ _ (D.alloc rfl)⟩
theorem u_ditem2 (D : Rep h₀ h F σ) (j : Nat) {N : Addr} {es : Array DictEntry} {ep : Nat} {kvs : List (Int × Value)} {k : Int} {u : Tok} {v : Value} (hj : nth σ j = some (N, dictO es ep)) (hp : DPs prog w es kvs) (hv : valueAt kvs k = some v) (hc : againOf t = some (.builtin "dict.__getitem__" ⟨[.ref N, .int k u], []⟩)) (hr : isRet κ = true)
    (x : Mn prog w A R (kc κ) (kr κ) (kk κ (.ok (.ret v))) ⟨h, g, d, tk + 1, os⟩) : Mn prog w A R c κ t ⟨h, g, d, tk, os⟩ :=
  use_biI e_dict_getitem p_dict_getitem (meets_dict_getitem (intKind prog w) N (intKind_is prog w k u)) hc hr ⟨_, v, (dictOf_at (D.cell j hj) hp).mapOf, hv, x⟩
end
end Mine
end
section
open PySem PySem.W PySem.W.X PyProof.Rows
set_option Elab.async false
set_option maxRecDepth 100000
set_option maxHeartbeats 1000000
namespace Mine
variable {prog : Program} {w : World} {w₀ : World} {b1 b2 b3 : Bool} {A : Around} {R : Result → Shared → Prop} {h₀ h : Heap} {F : List Addr} {ρ σ : Cells} {g : Array GenState} {d : Drawn} {tk : Nat} {os : OsState}
noncomputable abbrev gdW {w : World} {h₀ : Heap} (_ : Gd w h₀) : World := w
noncomputable def plv (lvs : List Lv) : List (Int × Nat) := lvs.map fun v => (v.nd.k, v.i)
noncomputable def psu (ps : List PN) (k : Int) : List Int := match pget ps k with
  | some n => n.su
  | none => []
noncomputable def w2P (ps : List PN) : List (Int × Nat) → Option (Int × List (Int × Nat))
  | [] => none
  | (k, i) :: r => match (psu ps k)[i]? with
    | some s => some (s, (k, i + 1) :: r)
    | none => w2P ps r
noncomputable def w1P (ps : List PN) : Nat → Int → List Int → List (Int × Nat) → Option (Bool × List Int)
  | 0, _, _, _ => none
  | n + 1, k, seen, pl =>
    if seen.length ≤ 900 ∧ pl.length ≤ 900 then
      if seen.contains k then
        if pl.any (fun v => v.1 == k) then some (true, seen)
        else match w2P ps pl with
          | none => some (false, seen)
          | some (s, pl') => w1P ps n s seen pl'
      else match pget ps k with
        | none => none
        | some _ => match w2P ps ((k, 0) :: pl) with
          | none => some (false, k :: seen)
          | some (s, pl') => w1P ps n s (k :: seen) pl'
    else none
theorem psu_of {ns : List Nd} {nd : Nd} (h : ns.find? (fun n => n.k == nd.k) = some nd) : psu (pns ns) nd.k = nd.su.map (·.1) := by
  unfold psu
  rw [pget_pns, h]; rfl
theorem w2_some {ns : List Nd} : ∀ {lvs : List Lv} {s : IT} {lvs' : List Lv}, (∀ v ∈ lvs, ns.find? (fun n => n.k == v.nd.k) = some v.nd) → w2M lvs = some (s, lvs') →
    w2P (pns ns) (plv lvs) = some (s.1, plv lvs') ∧ ∀ v ∈ lvs', ∃ u ∈ lvs, v.nd = u.nd ∧ v.x = u.x
  | [], _, _, _, h => by cases h
  | v :: r, s, lvs', hf, h => by
    have e := psu_of (hf v (.head _))
    show (match (psu (pns ns) v.nd.k)[v.i]? with | some s => some (s, (v.nd.k, v.i + 1) :: plv r) | none => w2P (pns ns) (plv r)) = _ ∧ _
    rw [e, List.getElem?_map]
    have h' : (match v.nd.su[v.i]? with | some s => some (s, { v with i := v.i + 1 } :: r) | none => w2M r) = some (s, lvs') := h
    cases hs : v.nd.su[v.i]? with
    | some t =>
      rw [hs] at h'
      injection h' with h'
      injection h' with h1 h2
      subst h1 h2
      refine ⟨rfl, fun x hx => ?_⟩
      rcases List.mem_cons.mp hx with rfl | hx
      · exact ⟨v, .head _, rfl, rfl⟩
      · exact ⟨x, .tail _ hx, rfl, rfl⟩
    | none =>
      rw [hs] at h'
      obtain ⟨h1, h2⟩ := w2_some (lvs := r) (fun x hx => hf x (.tail _ hx)) h'
      refine ⟨h1, fun x hx => ?_⟩
      obtain ⟨u, hu, z⟩ := h2 x hx
      exact ⟨u, .tail _ hu, z⟩
theorem w2_none {ns : List Nd} : ∀ {lvs : List Lv}, (∀ v ∈ lvs, ns.find? (fun n => n.k == v.nd.k) = some v.nd) → w2M lvs = none → w2P (pns ns) (plv lvs) = none
  | [], _, _ => rfl
  | v :: r, hf, h => by
    have e := psu_of (hf v (.head _))
    show (match (psu (pns ns) v.nd.k)[v.i]? with | some s => some (s, (v.nd.k, v.i + 1) :: plv r) | none => w2P (pns ns) (plv r)) = _
    rw [e, List.getElem?_map]
    have h' : (match v.nd.su[v.i]? with | some s => some (s, { v with i := v.i + 1 } :: r) | none => w2M r) = none := h
    cases hs : v.nd.su[v.i]? with
    | some t => rw [hs] at h'; cases h'
    | none =>
      rw [hs] at h'
      exact w2_none (lvs := r) (fun x hx => hf x (.tail _ hx)) h'
theorem valueAt_lvs (lvs : List Lv) (k : Int) : (valueAt (kvI lvs) k).isSome = (plv lvs).any (fun v => v.1 == k) := by
  unfold valueAt kvI plv
  rw [Option.isSome_map, Bool.eq_iff_iff, List.find?_isSome, List.any_eq_true]
  simp
  exact ⟨fun ⟨_, a, h1, h2, _⟩ => ⟨_, a, h1, h2, rfl⟩, fun ⟨_, a, h1, h2, _⟩ => ⟨_, a, h1, h2, rfl⟩⟩
theorem valueAt_in {lvs : List Lv} {k : Int} {x : Value} (h : valueAt (kvI lvs) k = some x) : ∃ v ∈ lvs, v.x = x := by
  unfold valueAt kvI at h
  obtain ⟨p, hp, e⟩ := Option.map_eq_some_iff.mp h
  have := List.mem_of_find?_eq_some hp
  obtain ⟨v, hv, e2⟩ := List.mem_map.mp this
  exact ⟨v, List.mem_reverse.mp hv, by rw [← e, ← e2]⟩
theorem Rep.dropL {x y : Cells} (D : Rep h₀ h F (x ++ y)) : Rep h₀ h F y :=
  D.sub (fun p hp => List.mem_append.mpr (.inr hp)) (by
    have := D.nodup
    rw [List.map_append] at this
    exact (List.nodup_append.mp this).2.1)
theorem stored_new {kvs : List (Int × Value)} {k : Int} {v : Value} (h : (valueAt kvs k).isSome = false) : stored kvs k v = kvs ++ [(k, v)] := by
  unfold stored
  rw [if_neg]
  intro hh
  unfold valueAt at h
  rw [Option.isSome_map] at h
  obtain ⟨x, hx, e⟩ := List.any_eq_true.mp hh
  have : (kvs.find? fun kv => kv.1 = k).isSome = true := List.find?_isSome.mpr ⟨x, hx, e⟩
  rw [h] at this; cases this
theorem lw1 {S Dd N Ls Li Sn Ns L : Addr} {a : SA} {r np nf : Value} {epn : Nat} {q : FQ} {ns : List Nd} {outer : List Env} (o : Ok A 5) : ∀ (fuel : Nat) (b1 : Bool) (_ : Gd (wF b1 b2 b3 w₀) h₀) (_ : A.frames = some (fenv (wF b1 b2 b3 w₀).params 134 L :: outer)) (node : IT) (seen : List Int) (Sf : Int → Bool) (sn : Nat) (se : Array (Int × Value)) (sep : Nat) (stb : SetTable) (lvs : List Lv) (frs : Cells) (sl : Array (Option Value)) (es : Array DictEntry) (ep e1 e2 : Nat) (h : Heap) (tk : Nat) (fnd : Bool) (seen' : List Int),
    w1P (pns ns) fuel node.1 seen (plv lvs) = some (fnd, seen') → (∀ k, Sf k = seen.contains k) → sn = seen.length → SPs prog (wF b1 b2 b3 w₀) se stb Sf sn →
    (∀ v ∈ lvs, ns.find? (fun n => n.k == v.nd.k) = some v.nd) → DPs prog (wF b1 b2 b3 w₀) es (kvI lvs) → FrOk outer frs → (∀ v ∈ lvs, seen.contains v.nd.k = true) → (∀ v ∈ lvs, ∃ n t, v.x = .int n t) →
    Rep h₀ h F ((Ls, listO ⟨(stI lvs).map iv⟩ e1) :: (Li, listO ⟨itI lvs⟩ e2) :: (Sn, setO se sep stb) :: (Ns, dictO es ep) :: (L, frF (fcE q S N Ls Li Sn Ns (iv node)) 7 sl) :: sC S Dd a N r np nf (ents ns) epn (lvc lvs ++ (icells ns ++ (lcells ns ++ (frs ++ ρ))))) →
    (fnd = true → ∀ h' tk' frs' sl' nv' T items e', 0 < items.size ∧ items.size ≤ 1000 → FrSame frs frs' → Rep h₀ h' F ((T, listO items e') :: (L, frF (fcE q S N Ls Li Sn Ns nv') 7 sl') :: sC S Dd a N r np nf (ents ns) epn (icells ns ++ (lcells ns ++ (frs' ++ ρ)))) → R (.ok (.ret (.ref T))) ⟨h', g, d, tk', os⟩) →
    (fnd = false → ∀ h' tk' frs' sl' nv' es' ep' e1' e2' (Sf' : Int → Bool) sn' se' sep' stb', (∀ k, Sf' k = seen'.contains k) → sn' = seen'.length → SPs prog (wF b1 b2 b3 w₀) se' stb' Sf' sn' → DPs prog (wF b1 b2 b3 w₀) es' [] → FrSame frs frs' → Rep h₀ h' F ((Ls, listO #[] e1') :: (Li, listO #[] e2') :: (Sn, setO se' sep' stb') :: (Ns, dictO es' ep') :: (L, frF (fcE q S N Ls Li Sn Ns nv') 7 sl') :: sC S Dd a N r np nf (ents ns) epn (icells ns ++ (lcells ns ++ (frs' ++ ρ)))) → R (.ok .next) ⟨h', g, d, tk', os⟩) →
    codeAny (model prog (wF b1 b2 b3 w₀)) A (fcW1 (wF b1 b2 b3 w₀).params L) R ⟨h, g, d, tk, os⟩
  | 0 => by intro b1 G hfr node seen Sf sn se sep stb lvs frs sl es ep e1 e2 h tk fnd seen' hm hS hsn hSP hf hkv hF hsee hxx D xf xn; cases hm
  | fuel + 1 => by
    intro b1 G hfr node seen Sf sn se sep stb lvs frs sl es ep e1 e2 h tk fnd seen' hm hS hsn hSP hf hkv hF hsee hxx D xf xn
    unfold w1P at hm
    by_cases hbd : seen.length ≤ 900 ∧ (plv lvs).length ≤ 900
    case neg => rw [if_neg hbd] at hm; cases hm
    rw [if_pos hbd] at hm
    have hll : lvs.length ≤ 900 := by simpa [plv] using hbd.2
    have hsl : (⟨(stI lvs).map iv⟩ : Array Value).size ≤ sizeLine := by rw [len_iv]; exact Nat.le_trans hll (by decide)
    refine code_start ?_
    refine sg2L 1000 [.s 4, .s 4, .s 2, .s 2, .e, .s 2] [] G o.hd D ?_; intro fh1 oh1; refine ⟨by kernel_rfl, fun h1 tk1 D1 => ?_⟩
    refine u_shas D1 2 (a := Sn) (es := se) (ep := sep) (tb := stb) (S := Sf) (n := sn) (k := node.1) (u := node.2) (by kernel_rfl) hSP (by kernel_rfl) (by kernel_rfl) ?_
    rw [hS]
    cases hin : seen.contains node.1 with
    | true =>
      rw [hin] at hm
      simp only [if_true] at hm
      refine sg2L 1000 [.s 4, .s 4, .s 3, .s 3, .e, .s 3] [] G o.hd D1 ?_; intro fh2 oh2; refine ⟨by kernel_rfl, fun h2 tk2 D2 => ?_⟩
      refine u_dhas2 D2 3 (N := Ns) (es := es) (ep := ep) (kvs := kvI lvs) (k := node.1) (u := node.2) (by kernel_rfl) hkv (by kernel_rfl) (by kernel_rfl) ?_
      rw [valueAt_lvs]
      cases hany : (plv lvs).any (fun v => v.1 == node.1) with
      | true =>
        rw [hany] at hm
        simp only [if_true] at hm
        injection hm with hm
        injection hm with hm1 hm2
        have hsome : (valueAt (kvI lvs) node.1).isSome = true := by rw [valueAt_lvs]; exact hany
        obtain ⟨x, hx⟩ := Option.isSome_iff_exists.mp hsome
        obtain ⟨v, hv, rfl⟩ := valueAt_in hx
        obtain ⟨xi, xt, hxe⟩ := hxx v hv
        rw [hxe] at hx
        refine sg2L 1000 [.s 4, .s 4, .s 4, .s 3, .s 3, .s 3, .e, .s 3] [] G o.hd D2 ?_; intro fh3 oh3; refine ⟨by kernel_rfl, fun h3 tk3 D3 => ?_⟩
        refine u_ditem2 D3 3 (N := Ns) (es := es) (ep := ep) (kvs := kvI lvs) (k := node.1) (u := node.2) (v := .int xi xt) (by kernel_rfl) hkv hx (by kernel_rfl) (by kernel_rfl) ?_
        refine sg2L 1000 [.s 1, .s 1, .s 1, .e, .s 1] [] G o.hd D3 ?_; intro fh4 oh4; refine ⟨by kernel_rfl, fun h4 tk4 D4 => ?_⟩
        refine u_lslice D4 1 (l := Ls) (sl := h3.objs.size) (items := ⟨(stI lvs).map iv⟩) (n := e1) (vl := .int xi xt) (vu := .none) (lo := some xi) (hi := none) (by kernel_rfl) 0 (by kernel_rfl) (.int xi xt) .none hsl (by kernel_rfl) (by kernel_rfl) fun h5 T5 D5 => ?_
        refine sg2L 1000 [.s 6, .s 1, .s 0, .s 1, .e, .s 1] [] G o.hd D5 ?_; intro fh6 oh6; refine ⟨by kernel_rfl, fun h6 tk6 D6 => ?_⟩
        refine u_ladd D6 1 (l := T5) (b := h5.objs.size) (items := slicePick ⟨(stI lvs).map iv⟩ (some xi) none none) (n := 0) (items2 := #[iv node]) (n2 := 0) (by kernel_rfl) 0 (by kernel_rfl) (by have := slicePick_size_le ⟨(stI lvs).map iv⟩ (some xi) none none; rw [len_iv] at this; have e : (#[iv node] : Array Value).size = 1 := rfl; rw [e]; exact Nat.le_trans (Nat.add_le_add_right (Nat.le_trans this hll) 1) (by decide)) (by kernel_rfl) (by kernel_rfl) fun h7 T7 D7 => ?_
        refine sg2L 1000 [] [] G o.hd D7 ?_; intro fh8 oh8; refine ⟨by kernel_rfl, fun h8 tk8 D8 => ?_⟩
        refine end_done (f := .ret (.ref T7)) (by kernel_rfl) (by kernel_rfl) ?_
        refine xf hm1.symm h8 tk8 frs sl (iv node) T7 (slicePick ⟨(stI lvs).map iv⟩ (some xi) none none ++ #[iv node]) 0 ⟨by simp, by have := slicePick_size_le ⟨(stI lvs).map iv⟩ (some xi) none none; rw [len_iv] at this; have e : (#[iv node] : Array Value).size = 1 := rfl; rw [Array.size_append, e]; exact Nat.le_trans (Nat.add_le_add_right (Nat.le_trans this hll) 1) (by decide)⟩ (FrSame.refl _) ?_
        have D9 : Rep h₀ h8 F (cat [[(T7, listO (slicePick ⟨(stI lvs).map iv⟩ (some xi) none none ++ #[iv node]) 0)], [(h5.objs.size, listO #[iv node] 0)], [(T5, listO (slicePick ⟨(stI lvs).map iv⟩ (some xi) none none) 0)], [(h3.objs.size, sliceO (.int xi xt) .none .none)], [(Ls, listO ⟨(stI lvs).map iv⟩ e1)], [(Li, listO ⟨itI lvs⟩ e2)], [(Sn, (setO se sep stb))], [(Ns, dictO es ep)], [(L, frF (fcE q S N Ls Li Sn Ns (iv node)) 7 sl)], [(S, instO 144 Dd)], [(Dd, dictO (attrs a N r np nf) 4)], [(N, dictO (ents ns) epn)], lvc lvs, icells ns, lcells ns, frs, ρ]) := D8.eq (by kernel_rfl)
        have D10 := Rep.shuf _ [16, 16, 16, 16, 15, 15, 15, 15, 8, 15, 15, 15, 15, 15, 15, 15, 16] D9
        exact (D10.dropL).mask [false, false, false, false, false, false, false]
      | false =>
      rw [hany] at hm
      simp only [Bool.false_eq_true, if_false] at hm
      refine sg2L 1000 [] [] G o.hd D2 ?_; intro fh3 oh3; refine ⟨by kernel_rfl, fun h3 tk3 D3 => ?_⟩
      refine use_call (c' := fcW2 (gdW G).params L) (hd := none) (by kernel_rfl) rfl ?_
      have D4 : Rep h₀ h3 F (cat [[(Ls, listO ⟨(stI lvs).map iv⟩ e1)], [(Li, listO ⟨itI lvs⟩ e2)], [(Sn, (setO se sep stb))], [(Ns, dictO es ep)], [(L, frF (fcE q S N Ls Li Sn Ns (iv node)) 7 sl)], [(S, instO 144 Dd)], [(Dd, dictO (attrs a N r np nf) 4)], [(N, dictO (ents ns) epn)], lvc lvs, icells ns, lcells ns, frs, ρ]) := D3.eq (by kernel_rfl)
      have D5 := Rep.shuf _ [12, 10, 12, 12, 12, 12, 12, 12, 12, 12, 12, 12, 12] D4
      refine lw2 (w := gdW G) (S := S) (Dd := Dd) (N := N) (Ls := Ls) (Li := Li) (Sn := Sn) (Ns := Ns) (L := L) (a := a) (r := r) (np := np) (nf := nf) (epn := epn) (q := q) (ns := ns) (outer := outer) (so := (setO se sep stb)) (F := F) (ρ := icells ns ++ ρ) G (o.call (by kernel_rfl) (by kernel_rfl)) (frames_of hfr (by kernel_rfl)) (lvs) frs sl (iv node) es ep e1 e2 h3 tk3 hf hkv (Nat.le_trans hll (by decide)) hF (D5) ?_ ?_
      · intro h' tk' frs' sl' es' ep' e1' e2' s lvs' hw hd hs D'
        obtain ⟨hw1, hw2⟩ := w2_some hf hw
        rw [hw1] at hm
        refine sg2L 1000 [] [] G o.hd D' ?_; intro fh'' oh''; refine ⟨by kernel_rfl, fun h'' tk'' D'' => ?_⟩
        refine end_again (c' := fcW1 (gdW G).params L) (by kernel_rfl) (by kernel_rfl) (by kernel_rfl) ?_
        refine lw1 (S := S) (Dd := Dd) (N := N) (Ls := Ls) (Li := Li) (Sn := Sn) (Ns := Ns) (L := L) (a := a) (r := r) (np := np) (nf := nf) (epn := epn) (q := q) (ns := ns) (outer := outer) o fuel _ G hfr s (seen) Sf sn se sep stb lvs' frs' sl' es' ep' e1' e2' h'' tk'' fnd seen' hm hS hsn hSP (fun v hv => ?_) hd (hF.same hs) (fun v hv => ?_) (fun v hv => ?_) ?_ ?_ ?_
        · obtain ⟨u, hu, e1, _⟩ := hw2 v hv
          rw [e1]; exact hf u hu
        · obtain ⟨u, hu, e1, _⟩ := hw2 v hv
          rw [e1]; exact hsee u hu
        · obtain ⟨u, hu, _, e2⟩ := hw2 v hv
          rw [e2]; exact hxx u hu
        · have D3 : Rep h₀ h'' F (cat [[(Ls, listO ⟨(stI lvs').map iv⟩ e1')], [(Li, listO ⟨itI lvs'⟩ e2')], [(Sn, (setO se sep stb))], [(Ns, dictO es' ep')], [(L, frF (fcE q S N Ls Li Sn Ns (iv s)) 7 sl')], [(S, instO 144 Dd)], [(Dd, dictO (attrs a N r np nf) 4)], [(N, dictO (ents ns) epn)], lvc lvs', lcells ns, frs', icells ns, ρ]) := D''.eq (by kernel_rfl)
          exact Rep.shuf _ [12, 11, 11, 12, 12, 12, 12, 12, 12, 12, 12, 12, 12] D3
        · intro hb h3 tk3 frs3 sl3 nv3 T items e3 hpos hs3 D3
          exact xf hb h3 tk3 frs3 sl3 nv3 T items e3 hpos (hs.trans hs3) D3
        · intro hb h3 tk3 frs3 sl3 nv3 es3 ep3 e13 e23 Sf3 sn3 se3 sep3 stb3 y1 y2 y3 y4 hs3 D3
          exact xn hb h3 tk3 frs3 sl3 nv3 es3 ep3 e13 e23 Sf3 sn3 se3 sep3 stb3 y1 y2 y3 y4 (hs.trans hs3) D3
      · intro h' tk' frs' sl' es' ep' e1' e2' hw hd hs D'
        rw [w2_none hf hw] at hm
        injection hm with hm
        injection hm with hm1 hm2
        refine sg2L 1000 [] [] G o.hd D' ?_; intro fh'' oh''; refine ⟨by kernel_rfl, fun h'' tk'' D'' => ?_⟩
        refine end_done (f := .next) (by kernel_rfl) (by kernel_rfl) ?_
        refine xn hm1.symm h'' tk'' frs' sl' (iv node) es' ep' e1' e2' Sf sn se sep stb (by rw [← hm2]; exact hS) (by rw [← hm2]; exact hsn) hSP hd hs ?_
        have D3 : Rep h₀ h'' F (cat [[(Ls, listO ⟨[]⟩ e1')], [(Li, listO ⟨[]⟩ e2')], [(Sn, (setO se sep stb))], [(Ns, dictO es' ep')], [(L, frF (fcE q S N Ls Li Sn Ns (iv node)) 7 sl')], [(S, instO 144 Dd)], [(Dd, dictO (attrs a N r np nf) 4)], [(N, dictO (ents ns) epn)], lcells ns, frs', icells ns, ρ]) := D''.eq (by kernel_rfl)
        exact Rep.shuf _ [11, 10, 10, 11, 11, 11, 11, 11, 11, 11, 11, 11] D3
    | false =>
      rw [hin] at hm
      simp only [Bool.false_eq_true, if_false] at hm
      cases hg : pget (pns ns) node.1 with
      | none => rw [hg] at hm; cases hm
      | some pn =>
      rw [hg] at hm
      rw [pget_pns] at hg
      cases hfn : ns.find? (fun n => n.k == node.1) with
      | none => rw [hfn] at hg; cases hg
      | some nd =>
      have hl : dlook (ents ns) node.1 = some (.ref nd.a) := by rw [dlook_ents, hfn]; rfl
      obtain ⟨pre, post, hns, hnk, _⟩ := find_split hfn
      have hSf : Sf node.1 = false := by rw [hS]; exact hin
      refine sg2L 1000 [.s 4, .s 2, .s 2, .s 2, .s 2, .s 4, .e, .s 2] [] G o.hd D1 ?_; intro fh2 oh2; refine ⟨by kernel_rfl, fun h2 tk2 D2 => ?_⟩
      refine u_sadd D2 2 (a := Sn) (es := se) (ep := sep) (tb := stb) (S := Sf) (n := sn) (k := node.1) (u := node.2) (by kernel_rfl) hSP (by rw [hsn]; exact Nat.lt_of_le_of_lt (Nat.add_le_add_right hbd.1 1) (by decide)) (by kernel_rfl) (by kernel_rfl) fun h3 se2 sep2 stb2 hSP2 D3 => ?_
      rw [hSf] at hSP2
      simp only [Bool.false_eq_true, if_false] at hSP2
      have hS2 : ∀ k, (Sf k || decide (k = node.1)) = (node.1 :: seen).contains k := fun k => by
        rw [hS, List.contains_cons, Bool.or_comm]
        rfl
      have hsn2 : sn + 1 = (node.1 :: seen).length := by rw [hsn]; rfl
      refine sg2L 1000 [.s 4, .s 1, .s 1, .s 1, .s 1, .t, .t, .s 4, .s 4, .s 7, .s 7, .s 7, .e, .s 7] [] G o.hd D3 ?_; intro fh4 oh4; refine ⟨by kernel_rfl, fun h4 tk4 D4 => ?_⟩
      refine u_ditem D4 7 (N := N) (es := ents ns) (ep := epn) (k := node.1) (u := node.2) (v := .ref nd.a) (by kernel_rfl) (ents_keys _) hl (by kernel_rfl) (by kernel_rfl) ?_
      have eic : ∀ τ : Cells, icells ns ++ τ = icells pre ++ (nd.info :: (icells post ++ τ)) := fun τ => by rw [hns]; exact icells_mid pre post nd τ
      have elc : ∀ τ : Cells, lcells ns ++ τ = lcells pre ++ (nd.lst :: (lcells post ++ τ)) := fun τ => by rw [hns]; exact lcells_mid pre post nd τ
      have D5 : Rep h₀ h4 F (cat [[(Ls, listO ⟨(stI lvs).map iv⟩ e1)], [(Li, listO ⟨itI lvs⟩ e2)], [(Sn, (setO se2 sep2 stb2))], [(Ns, dictO es ep)], [(L, frF (fcE q S N Ls Li Sn Ns (iv node)) 7 sl)], [(S, instO 144 Dd)], [(Dd, dictO (attrs a N r np nf) 4)], [(N, dictO (ents ns) epn)], lvc lvs, icells pre, [nd.info], icells post, lcells pre, [nd.lst], lcells post, frs, ρ]) := by
        have z : Rep h₀ h4 F (cat [[(Ls, listO ⟨(stI lvs).map iv⟩ e1)], [(Li, listO ⟨itI lvs⟩ e2)], [(Sn, (setO se2 sep2 stb2))], [(Ns, dictO es ep)], [(L, frF (fcE q S N Ls Li Sn Ns (iv node)) 7 sl)], [(S, instO 144 Dd)], [(Dd, dictO (attrs a N r np nf) 4)], [(N, dictO (ents ns) epn)], lvc lvs, icells ns, lcells ns, frs, ρ]) := D4.eq (by kernel_rfl)
        simp only [Mine.cat] at z ⊢
        rw [eic, elc] at z
        exact z
      have D6 := Rep.shuf _ [16, 16, 16, 15, 15, 14, 14, 14, 14, 14, 14, 14, 14, 14, 14, 16, 16] D5
      all_goals
        refine sg2L 1000 [.s 0, .t, .t, .t, .e, .s 0, .t, .t, .t, .t, .t, .t, .t, .t, .e, .t, .e, .t, .t, .s 0, .t, .t, .t, .e, .t, .t, .s 0, .t, .s 0, .e, .e, .e, .s 1, .s 1, .e, .s 1, .e, .s 0, .s 0, .e, .s 0, .e, .s 0, .s 0, .s 0, .e, .e, .s 0, .e, .e, .s 5] [] G o.hd D6 ?_; intro fh7 oh7; refine ⟨by kernel_rfl, fun h7 tk7 D7 => ?_⟩
        refine u_append (l := Li) (items := ⟨itI lvs⟩) (n := e2) (v := .ref (h4.objs.size + 1)) D7 5 (by kernel_rfl) (line_of (n := lvs.length) (by omega) (by simp [itI])) (by kernel_rfl) (by kernel_rfl) fun h8 D8 => ?_
        have D9 : Rep h₀ h8 F (cat [[(h4.objs.size + 1, mwO h4.objs.size)], [(h4.objs.size, itO "list_iterator" (.ref nd.l) 0)], [nd.info], [nd.lst], [(Ls, listO ⟨(stI lvs).map iv⟩ e1)], [(Li, listO ⟨itI lvs ++ [.ref (h4.objs.size + 1)]⟩ (e2 + 1))], [(Sn, (setO se2 sep2 stb2))], [(Ns, dictO es ep)], [(L, frF (fcE q S N Ls Li Sn Ns (iv node)) 7 sl)], [(S, instO 144 Dd)], [(Dd, dictO (attrs a N r np nf) 4)], [(N, dictO (ents ns) epn)], lvc lvs, icells pre, icells post, lcells pre, lcells post, frs, ρ]) := by
          rw [show (⟨itI lvs ++ [.ref (h4.objs.size + 1)]⟩ : Array Value) = (⟨itI lvs⟩ : Array Value).push (.ref (h4.objs.size + 1)) from by simp]
          exact D8.eq (by kernel_rfl)
        have D10 := Rep.shuf _ [18, 15, 4, 15, 18, 18, 8, 18, 18, 18, 18, 18, 18, 18, 18, 18, 18, 18, 18] D9
        refine sg2L 1000 [.t, .t, .s 6, .e] [] G o.hd D10 ?_; intro fh11 oh11; refine ⟨by kernel_rfl, fun h11 tk11 D11 => ?_⟩
        refine use_again (c' := .builtin "len" ⟨[.ref Ls], []⟩) (by kernel_rfl) (by kernel_rfl) (by kernel_rfl) ?_
        refine c_lenL D11 2 (l := Ls) (items := ⟨(stI lvs).map iv⟩) (n := e1) (by kernel_rfl) (by rw [len_iv]; omega) ?_
        rw [len_iv]
        refine sg2L 1000 [.s 6, .s 6, .s 5, .s 5, .e, .s 5] [] G o.hd D11 ?_; intro fh12 oh12; refine ⟨by kernel_rfl, fun h12 tk12 D12 => ?_⟩
        have hnone : (valueAt (kvI lvs) node.1).isSome = false := by
          rw [valueAt_lvs]
          cases hh : (plv lvs).any (fun v => v.1 == node.1) with
          | false => rfl
          | true =>
            obtain ⟨pv, hpv, e⟩ := List.any_eq_true.mp hh
            obtain ⟨u, hu, rfl⟩ := List.mem_map.mp hpv
            have e' : u.nd.k = node.1 := by simpa using e
            have := hsee u hu
            rw [e', hin] at this; cases this
        refine u_dset2 D12 5 (N := Ns) (es := es) (ep := ep) (kvs := kvI lvs) (k := node.1) (u := node.2) (v := .int lvs.length (tk11 + 1)) (by kernel_rfl) hkv (by simp [kvI]; exact Nat.le_trans hll (by decide)) (by kernel_rfl) (by kernel_rfl) fun h13 es13 ep13 hp13 D13 => ?_
        rw [stored_new hnone] at hp13
        have D14 : Rep h₀ h13 F (cat [[(h4.objs.size + 1, mwO h4.objs.size)], [(h4.objs.size, itO "list_iterator" (.ref nd.l) 0)], [(Ls, listO ⟨(stI lvs).map iv⟩ e1)], [(Li, listO ⟨itI lvs ++ [.ref (h4.objs.size + 1)]⟩ (e2 + 1))], [(Sn, (setO se2 sep2 stb2))], [(Ns, dictO es13 ep13)], [(L, frF (fcE q S N Ls Li Sn Ns (iv node)) 7 sl)], [(S, instO 144 Dd)], [(Dd, dictO (attrs a N r np nf) 4)], [(N, dictO (ents ns) epn)], lvc lvs, lcells pre, [nd.lst], lcells post, frs, icells pre, [nd.info], icells post, ρ]) := D13.eq (by kernel_rfl)
        have D15 := Rep.shuf _ [18, 18, 18, 18, 18, 18, 18, 18, 18, 10, 10, 18, 18, 18, 18, 18, 18, 18, 18] D14
        refine sg2L 1000 [.s 4, .s 0, .s 0, .s 0, .s 0, .s 4, .e, .s 0] [] G o.hd D15 ?_; intro fh16 oh16; refine ⟨by kernel_rfl, fun h16 tk16 D16 => ?_⟩
        refine u_append (l := Ls) (items := ⟨(stI lvs).map iv⟩) (n := e1) (v := .int node.1 node.2) D16 0 (by kernel_rfl) (line_of (n := lvs.length) (by omega) (len_iv lvs)) (by kernel_rfl) (by kernel_rfl) fun h17 D17 => ?_
        refine sg2L 1000 [] [] G o.hd D17 ?_; intro fh18 oh18; refine ⟨by kernel_rfl, fun h18 tk18 D18 => ?_⟩
        refine use_call (c' := fcW2 (gdW G).params L) (hd := none) (by kernel_rfl) rfl ?_
        have hfv : ∀ v ∈ ((⟨nd, node.2, h4.objs.size, h4.objs.size + 1, 0, .int lvs.length (tk11 + 1)⟩ : Lv) :: lvs), ns.find? (fun n => n.k == v.nd.k) = some v.nd := by
          intro v hv
          rcases List.mem_cons.mp hv with rfl | hv
          · show ns.find? (fun n => n.k == nd.k) = some nd
            rw [hnk]; exact hfn
          · exact hf v hv
        have hkv2 : DPs prog (gdW G) es13 (kvI ((⟨nd, node.2, h4.objs.size, h4.objs.size + 1, 0, .int lvs.length (tk11 + 1)⟩ : Lv) :: lvs)) := by
          rw [kvI_cons]
          show DPs _ _ _ (kvI lvs ++ [(nd.k, _)])
          rw [hnk]; exact hp13
        have hsee2 : ∀ v ∈ ((⟨nd, node.2, h4.objs.size, h4.objs.size + 1, 0, .int lvs.length (tk11 + 1)⟩ : Lv) :: lvs), (node.1 :: seen).contains v.nd.k = true := by
          intro v hv
          rcases List.mem_cons.mp hv with rfl | hv
          · show (node.1 :: seen).contains nd.k = true
            rw [hnk]; simp
          · rw [List.contains_cons, hsee v hv, Bool.or_true]
        have hxx2 : ∀ v ∈ ((⟨nd, node.2, h4.objs.size, h4.objs.size + 1, 0, .int lvs.length (tk11 + 1)⟩ : Lv) :: lvs), ∃ n t, v.x = .int n t := by
          intro v hv
          rcases List.mem_cons.mp hv with rfl | hv
          · exact ⟨_, _, rfl⟩
          · exact hxx v hv
        have hm2 : (match w2P (pns ns) (plv ((⟨nd, node.2, h4.objs.size, h4.objs.size + 1, 0, .int lvs.length (tk11 + 1)⟩ : Lv) :: lvs)) with | none => some (false, node.1 :: seen) | some (s, pl') => w1P (pns ns) fuel s (node.1 :: seen) pl') = some (fnd, seen') := by
          show (match w2P (pns ns) ((nd.k, 0) :: plv lvs) with | none => some (false, node.1 :: seen) | some (s, pl') => w1P (pns ns) fuel s (node.1 :: seen) pl') = some (fnd, seen')
          rw [hnk]; exact hm
        have D19 : Rep h₀ h18 F (cat [[(Ls, listO ⟨(stI lvs).map iv ++ [.int node.1 node.2]⟩ (e1 + 1))], [(Li, listO ⟨itI lvs ++ [.ref (h4.objs.size + 1)]⟩ (e2 + 1))], [(Sn, (setO se2 sep2 stb2))], [(Ns, dictO es13 ep13)], [(L, frF (fcE q S N Ls Li Sn Ns (iv node)) 7 sl)], [(S, instO 144 Dd)], [(Dd, dictO (attrs a N r np nf) 4)], [(N, dictO (ents ns) epn)], [(h4.objs.size + 1, mwO h4.objs.size)], [(h4.objs.size, itO "list_iterator" (.ref nd.l) 0)], lvc lvs, lcells pre, [nd.lst], lcells post, frs, icells pre, [nd.info], icells post, ρ]) := by
          rw [show (⟨(stI lvs).map iv ++ [.int node.1 node.2]⟩ : Array Value) = (⟨(stI lvs).map iv⟩ : Array Value).push (.int node.1 node.2) from by simp]
          exact D18.eq (by kernel_rfl)
        have D20 : Rep h₀ h18 F (cat [[(Ls, listO ⟨(stI ((⟨nd, node.2, h4.objs.size, h4.objs.size + 1, 0, .int lvs.length (tk11 + 1)⟩ : Lv) :: lvs)).map iv⟩ (e1 + 1))], [(Li, listO ⟨itI ((⟨nd, node.2, h4.objs.size, h4.objs.size + 1, 0, .int lvs.length (tk11 + 1)⟩ : Lv) :: lvs)⟩ (e2 + 1))], [(Sn, (setO se2 sep2 stb2))], [(Ns, dictO es13 ep13)], [(L, frF (fcE q S N Ls Li Sn Ns (iv node)) 7 sl)], [(S, instO 144 Dd)], [(Dd, dictO (attrs a N r np nf) 4)], [(N, dictO (ents ns) epn)], lvc ((⟨nd, node.2, h4.objs.size, h4.objs.size + 1, 0, .int lvs.length (tk11 + 1)⟩ : Lv) :: lvs), lcells ns, frs, icells ns, ρ]) := by
          simp only [Mine.cat] at D19 ⊢
          rw [elc, eic, itI_cons, show (stI ((⟨nd, node.2, h4.objs.size, h4.objs.size + 1, 0, .int lvs.length (tk11 + 1)⟩ : Lv) :: lvs)).map iv = (stI lvs).map iv ++ [.int node.1 node.2] from by rw [stI_cons, List.map_append]; show _ ++ [iv (nd.k, node.2)] = _; rw [hnk]]
          exact D19
        refine lw2 (w := gdW G) (S := S) (Dd := Dd) (N := N) (Ls := Ls) (Li := Li) (Sn := Sn) (Ns := Ns) (L := L) (a := a) (r := r) (np := np) (nf := nf) (epn := epn) (q := q) (ns := ns) (outer := outer) (so := (setO se2 sep2 stb2)) (F := F) (ρ := icells ns ++ ρ) G (o.call (by kernel_rfl) (by kernel_rfl)) (frames_of hfr (by kernel_rfl)) ((⟨nd, node.2, h4.objs.size, h4.objs.size + 1, 0, .int lvs.length (tk11 + 1)⟩ : Lv) :: lvs) frs sl (iv node) es13 ep13 (e1 + 1) (e2 + 1) h18 tk18 hfv hkv2 (by simp only [List.length_cons]; omega) hF (D20) ?_ ?_
        · intro h' tk' frs' sl' es' ep' e1' e2' s lvs' hw hd hs D'
          obtain ⟨hw1, hw2⟩ := w2_some hfv hw
          rw [hw1] at hm2
          refine sg2L 1000 [] [] G o.hd D' ?_; intro fh'' oh''; refine ⟨by kernel_rfl, fun h'' tk'' D'' => ?_⟩
          refine end_again (c' := fcW1 (gdW G).params L) (by kernel_rfl) (by kernel_rfl) (by kernel_rfl) ?_
          refine lw1 (S := S) (Dd := Dd) (N := N) (Ls := Ls) (Li := Li) (Sn := Sn) (Ns := Ns) (L := L) (a := a) (r := r) (np := np) (nf := nf) (epn := epn) (q := q) (ns := ns) (outer := outer) o fuel _ G hfr s (node.1 :: seen) (fun k => Sf k || decide (k = node.1)) (sn + 1) se2 sep2 stb2 lvs' frs' sl' es' ep' e1' e2' h'' tk'' fnd seen' hm2 hS2 hsn2 hSP2 (fun v hv => ?_) hd (hF.same hs) (fun v hv => ?_) (fun v hv => ?_) ?_ ?_ ?_
          · obtain ⟨u, hu, e1, _⟩ := hw2 v hv
            rw [e1]; exact hfv u hu
          · obtain ⟨u, hu, e1, _⟩ := hw2 v hv
            rw [e1]; exact hsee2 u hu
          · obtain ⟨u, hu, _, e2⟩ := hw2 v hv
            rw [e2]; exact hxx2 u hu
          · have D3 : Rep h₀ h'' F (cat [[(Ls, listO ⟨(stI lvs').map iv⟩ e1')], [(Li, listO ⟨itI lvs'⟩ e2')], [(Sn, (setO se2 sep2 stb2))], [(Ns, dictO es' ep')], [(L, frF (fcE q S N Ls Li Sn Ns (iv s)) 7 sl')], [(S, instO 144 Dd)], [(Dd, dictO (attrs a N r np nf) 4)], [(N, dictO (ents ns) epn)], lvc lvs', lcells ns, frs', icells ns, ρ]) := D''.eq (by kernel_rfl)
            exact Rep.shuf _ [12, 11, 11, 12, 12, 12, 12, 12, 12, 12, 12, 12, 12] D3
          · intro hb h3 tk3 frs3 sl3 nv3 T items e3 hpos hs3 D3
            exact xf hb h3 tk3 frs3 sl3 nv3 T items e3 hpos (hs.trans hs3) D3
          · intro hb h3 tk3 frs3 sl3 nv3 es3 ep3 e13 e23 Sf3 sn3 se3 sep3 stb3 y1 y2 y3 y4 hs3 D3
            exact xn hb h3 tk3 frs3 sl3 nv3 es3 ep3 e13 e23 Sf3 sn3 se3 sep3 stb3 y1 y2 y3 y4 (hs.trans hs3) D3
        · intro h' tk' frs' sl' es' ep' e1' e2' hw hd hs D'
          rw [w2_none hfv hw] at hm2
          injection hm2 with hm2
          injection hm2 with hm1 hm2
          refine sg2L 1000 [] [] G o.hd D' ?_; intro fh'' oh''; refine ⟨by kernel_rfl, fun h'' tk'' D'' => ?_⟩
          refine end_done (f := .next) (by kernel_rfl) (by kernel_rfl) ?_
          refine xn hm1.symm h'' tk'' frs' sl' (iv node) es' ep' e1' e2' (fun k => Sf k || decide (k = node.1)) (sn + 1) se2 sep2 stb2 (by rw [← hm2]; exact hS2) (by rw [← hm2]; exact hsn2) hSP2 hd hs ?_
          have D3 : Rep h₀ h'' F (cat [[(Ls, listO ⟨[]⟩ e1')], [(Li, listO ⟨[]⟩ e2')], [(Sn, (setO se2 sep2 stb2))], [(Ns, dictO es' ep')], [(L, frF (fcE q S N Ls Li Sn Ns (iv node)) 7 sl')], [(S, instO 144 Dd)], [(Dd, dictO (attrs a N r np nf) 4)], [(N, dictO (ents ns) epn)], lcells ns, frs', icells ns, ρ]) := D''.eq (by kernel_rfl)
          exact Rep.shuf _ [11, 10, 10, 11, 11, 11, 11, 11, 11, 11, 11, 11] D3
end Mine
end
section
open PySem PySem.W PySem.W.X PyProof.Rows
set_option Elab.async false
set_option maxRecDepth 100000
set_option maxHeartbeats 1000000
namespace Mine
noncomputable abbrev ditO (T : String) (d : Value) (i n ep : Nat) : Obj := fieldsO T #[d, .int i 0, .int n 0, .int ep 0]
theorem m_knext (it N : Addr) (es : Array DictEntry) (ep i : Nat) (e : DictEntry) (he : es[i]? = some e) :
    Meets (Builtin.«dict_keyiterator.__next__» ⟨[.ref it], []⟩) (fun _ R s => s.heap.get? it = some (ditO "dict_keyiterator" (.ref N) i es.size ep) ∧ s.heap.get? N = some (dictO es ep) ∧
      R (.ok (.ret e.key)) { s with heap := s.heap.update it (Obj.mapFields fun x => x.setIfInBounds 1 (.int (i + 1 : Int) 0)) }) :=
  .of_wp fun prog w A R s h => by
    obtain ⟨ho, hod, h⟩ := h
    have hT : s.TypeIs (.ref it) "dict_keyiterator" := ⟨_, ho, rfl⟩
    have hlt : i < es.size := by
      rcases Nat.lt_or_ge i es.size with h | h
      · exact h
      · simp [Array.getElem?_eq_none h] at he
    have hee : es[i] = e := by
      rw [Array.getElem?_eq_getElem hlt] at he
      injection he
    refine wpAny_bind (wpAny_pure ?_)
    refine wpAny_bind ?_
    refine wpAny_bind ?_
    first | refine wpAny_bind (wpAny_typeNameOfWhole_keyiter hT (wpAny_pure ?_)) | refine wpAny_bind (wpAny_typeNameOf_keyiter hT (wpAny_pure ?_))
    refine wpAny_bind (wpAny_fieldsOf ho rfl ?_)
    have hown : Builtin.Dict_items.ownsTuple "dict_keyiterator" = false := by decide
    simp only [hown, Bool.false_eq_true, if_false]
    show wpAny _ _ (if (Value.ref N == Value.none) = true then _ else _) _ _ s
    rw [if_neg (show ¬ ((Value.ref N == Value.none) = true) from Bool.false_ne_true)]
    refine wpAny_bind (wpAny_pure ?_)
    refine wpAny_bind (wpAny_dictEntries hod rfl ?_)
    rw [if_neg (by simp)]
    refine wpAny_bind (wpAny_pure ?_)
    refine wpAny_bind (wpAny_dictEpoch hod rfl ?_)
    rw [if_neg (by simp)]
    refine wpAny_pure ?_
    simp only [show ¬ ((i : Int) < 0) from by omega, if_false, Int.toNat_natCast, Array.getElem?_eq_getElem hlt]
    refine wpAny_bind ?_
    first | refine wpAny_bind (wpAny_typeNameOfWhole_keyiter hT (wpAny_pure ?_)) | refine wpAny_bind (wpAny_typeNameOf_keyiter hT (wpAny_pure ?_))
    refine wpAny_bind (wpAny_isOneOf_keyiter hT ?_)
    show wpAny _ _ (setField (.ref it) 1 (rawInt ((i : Int) + 1)) >>= _) _ _ s
    refine wpAny_bind (wpAny_setField ho rfl (show 1 < 4 from by decide) ?_)
    have ho2 : (s.heap.update it (Obj.mapFields (·.setIfInBounds 1 (rawInt ((i : Int) + 1))))).get? it = some (Obj.mapFields (·.setIfInBounds 1 (rawInt ((i : Int) + 1))) (ditO "dict_keyiterator" (.ref N) i es.size ep)) := Heap.get?_update_self _ ho rfl
    refine wpAny_bind (wpAny_holding ?_)
    refine wpAny_bind (wpAny_isOneOf_keyiter (s := { s with heap := s.heap.update it (Obj.mapFields (·.setIfInBounds 1 (rawInt ((i : Int) + 1)))) }) ⟨_, ho2, rfl⟩ ?_)
    show wpAny _ _ (pure es[i].key) _ _ _
    rw [hee]
    exact wpAny_pure (wpAny_pure ⟨_, rfl, h⟩)
theorem m_kstop (it N : Addr) (es : Array DictEntry) (ep i : Nat) (he : es[i]? = none) :
    Meets (Builtin.«dict_keyiterator.__next__» ⟨[.ref it], []⟩) (fun A R s => A.handled = none ∧ s.heap.get? it = some (ditO "dict_keyiterator" (.ref N) i es.size ep) ∧ s.heap.get? N = some (dictO es ep) ∧
      R (.error (.ref (s.heap.objs.size + 1))) { s with heap := ((s.heap.update it (Obj.mapFields fun x => x.setIfInBounds 0 .none)).push (tupO #[] 0)).push (stopO s.heap.objs.size) }) :=
  .of_wp fun prog w A R s h => by
    obtain ⟨hh, ho, hod, h⟩ := h
    have hT : s.TypeIs (.ref it) "dict_keyiterator" := ⟨_, ho, rfl⟩
    refine wpAny_bind (wpAny_pure ?_)
    refine wpAny_bind ?_
    refine wpAny_bind ?_
    first | refine wpAny_bind (wpAny_typeNameOfWhole_keyiter hT (wpAny_pure ?_)) | refine wpAny_bind (wpAny_typeNameOf_keyiter hT (wpAny_pure ?_))
    refine wpAny_bind (wpAny_fieldsOf ho rfl ?_)
    have hown : Builtin.Dict_items.ownsTuple "dict_keyiterator" = false := by decide
    simp only [hown, Bool.false_eq_true, if_false]
    show wpAny _ _ (if (Value.ref N == Value.none) = true then _ else _) _ _ s
    rw [if_neg (show ¬ ((Value.ref N == Value.none) = true) from Bool.false_ne_true)]
    refine wpAny_bind (wpAny_pure ?_)
    refine wpAny_bind (wpAny_dictEntries hod rfl ?_)
    rw [if_neg (by simp)]
    refine wpAny_bind (wpAny_pure ?_)
    refine wpAny_bind (wpAny_dictEpoch hod rfl ?_)
    rw [if_neg (by simp)]
    refine wpAny_pure ?_
    have hge : es.size ≤ i := by simpa using he
    simp only [show ¬ ((i : Int) < 0) from by omega, if_false, Int.toNat_natCast, Array.getElem?_eq_none hge]
    refine wpAny_bind ?_
    first | refine wpAny_bind (wpAny_typeNameOfWhole_keyiter hT (wpAny_pure ?_)) | refine wpAny_bind (wpAny_typeNameOf_keyiter hT (wpAny_pure ?_))
    show wpAny _ _ (setField (.ref it) 0 .none >>= _) _ _ s
    refine wpAny_bind (wpAny_setField ho rfl (show 0 < 4 from by decide) ?_)
    show wpAny _ _ (newExc (.type "StopIteration") [] >>= _) _ _ _
    refine wpAny_bind ?_
    simp only [newExc, newTuple]
    refine wpAny_bind (wpAny_newObj_type ?_ (by size_fits))
    refine wpAny_bind (m := firstArgMember _ _) (wpAny_of_eq (a := Value.none) (by first | rfl | (simp only [firstArgMember]; rfl)) ?_)
    refine wpAny_newObj_type ?_ (by size_fits)
    simp only [raiseNew]
    refine wpAny_bind (wpAny_handled ?_)
    rw [show A.in1.handled = none from hh]
    refine wpAny_bind (wpAny_pure (wpAny_throw ?_))
    have e1 : (s.heap.update it (Obj.mapFields fun x => x.setIfInBounds 0 Value.none)).objs.size = s.heap.objs.size := Heap.size_update ..
    have e2 : ((s.heap.update it (Obj.mapFields fun x => x.setIfInBounds 0 Value.none)).push { cls := Value.type "tuple", data := Data.seq #[] }).objs.size = s.heap.objs.size + 1 := by rw [Heap.size_push, e1]
    rw [e1, e2]
    first
      | exact h
      | (rw [stop_fields]; exact h)
      | (simp only [stop_fields]; exact h)
section
variable {prog : Program} {w : World} {A : Around} {R : Result → Shared → Prop} {h₀ h : Heap} {F : List Addr} {σ : Cells} {g : Array GenState} {d : Drawn} {tk : Nat} {os : OsState} {c : Code} {κ : Kn} {t : Sem Fin}
theorem u_knext (D : Rep h₀ h F σ) (j : Nat) {it N : Addr} {es : Array DictEntry} {ep i : Nat} {e : DictEntry} (hj : nth σ j = some (it, ditO "dict_keyiterator" (.ref N) i es.size ep)) (jt : Nat) (ht : nth σ jt = some (N, dictO es ep)) (hv : es[i]? = some e) (hc : againOf t = some (.builtin "dict_keyiterator.__next__" ⟨[.ref it], []⟩)) (hr : isRet κ = true)
    (x : ∀ h', Rep h₀ h' F (setNth σ j (it, ditO "dict_keyiterator" (.ref N) (i + 1) es.size ep)) → Mn prog w A R (kc κ) (kr κ) (kk κ (.ok (.ret e.key))) ⟨h', g, d, tk, os⟩) : Mn prog w A R c κ t ⟨h, g, d, tk, os⟩ :=
  use_bi PySem.F.entry_dict_keyiterator_next p_dict_keyiterator_next (m_knext it N es ep i e hv) hc hr ⟨D.cell j hj, D.cell jt ht, x _ (D.update (f := Obj.mapFields fun x => x.setIfInBounds 1 (.int (i + 1 : Int) 0)) hj rfl)⟩
theorem u_kstop (D : Rep h₀ h F σ) (j : Nat) {it N : Addr} {es : Array DictEntry} {ep i : Nat} (hj : nth σ j = some (it, ditO "dict_keyiterator" (.ref N) i es.size ep)) (jt : Nat) (ht : nth σ jt = some (N, dictO es ep)) (hv : es[i]? = none) (hA : A.handled = none) (hk : hnd none κ = none) (hc : againOf t = some (.builtin "dict_keyiterator.__next__" ⟨[.ref it], []⟩)) (hr : isRet κ = true)
    (x : ∀ h' E E0, Rep h₀ h' F ((E, stopO E0) :: (E0, tupO #[] 0) :: setNth σ j (it, ditO "dict_keyiterator" .none i es.size ep)) → Mn prog w A R (kc κ) (kr κ) (kk κ (.error (.ref E))) ⟨h', g, d, tk, os⟩) : Mn prog w A R c κ t ⟨h, g, d, tk, os⟩ := by
  refine use_bi PySem.F.entry_dict_keyiterator_next p_dict_keyiterator_next (m_kstop it N es ep i hv) hc hr ⟨by rw [arnd_hnd, hA]; exact hk, D.cell j hj, D.cell jt ht, ?_⟩
  have D1 := D.update (f := Obj.mapFields fun x => x.setIfInBounds 0 .none) hj rfl
  have D2 := D1.alloc (o := tupO #[] 0) rfl
  have D3 := D2.alloc (o := stopO h.objs.size) rfl
  have e1 : (h.update it (Obj.mapFields fun x => x.setIfInBounds 0 Value.none)).objs.size = h.objs.size := Heap.size_update ..
  have e2 : ((h.update it (Obj.mapFields fun x => x.setIfInBounds 0 Value.none)).push (tupO #[] 0)).objs.size = h.objs.size + 1 := by rw [Heap.size_push, e1]
  rw [e2, e1] at D3
  exact x _ _ _ D3
end
end Mine
end
section
open PySem PySem.W PySem.W.X PyProof.Rows
set_option Elab.async false
set_option maxRecDepth 100000
set_option maxHeartbeats 1000000
namespace Mine
variable {prog : Program} {w : World} {w₀ : World} {b1 b2 b3 : Bool} {A : Around} {R : Result → Shared → Prop} {h₀ h : Heap} {F : List Addr} {ρ σ : Cells} {g : Array GenState} {d : Drawn} {tk : Nat} {os : OsState}
noncomputable def fcE' (q : FQ) (S N Ls Li Sn Ns : Addr) : Option Value → Array DictEntry
  | none => #[fe q.q0 s_self (.ref S), fe q.q1 s_n2i (.ref N), fe q.q2 s_stack (.ref Ls), fe q.q3 s_itstack (.ref Li), fe q.q4 s_seen (.ref Sn), fe q.q5 s_node2stacki (.ref Ns)]
  | some nv => fcE q S N Ls Li Sn Ns nv
noncomputable def fcN : Option Value → Nat
  | none => 6
  | some _ => 7
noncomputable def fcP (ps : List PN) (fuel : Nat) : List Int → List Int → Option Bool
  | [], _ => some false
  | k :: r, seen => if seen.contains k then fcP ps fuel r seen else match w1P ps fuel k seen [] with
    | none => none
    | some (true, _) => some true
    | some (false, seen') => fcP ps fuel r seen'
theorem ents_at (dn rest : List Nd) (n : Nd) : (ents (dn ++ n :: rest))[dn.length]? = some n.ent := by simp [ents]
theorem ents_end (dn : List Nd) : (ents (dn ++ []))[dn.length]? = none := by simp [ents]
theorem lf134 {S Dd N Ls Li Sn Ns L it : Addr} {a : SA} {r np nf : Value} {epn fuel : Nat} {ns : List Nd} {outer : List Env} (o : Ok A 6) : ∀ (rest : List Nd) (b1 : Bool) (_ : Gd (wF b1 b2 b3 w₀) h₀) (_ : A.frames = some (fenv (wF b1 b2 b3 w₀).params 134 L :: outer)) (dn : List Nd) (q : FQ) (nv : Option Value) (seen : List Int) (Sf : Int → Bool) (sn : Nat) (se : Array (Int × Value)) (sep : Nat) (stb : SetTable) (frs : Cells) (sl : Array (Option Value)) (es : Array DictEntry) (ep e1 e2 : Nat) (h : Heap) (tk : Nat) (b : Bool),
    ns = dn ++ rest → fcP (pns ns) fuel (rest.map (·.k)) seen = some b → (∀ k, Sf k = seen.contains k) → sn = seen.length → SPs prog (wF b1 b2 b3 w₀) se stb Sf sn → DPs prog (wF b1 b2 b3 w₀) es [] → FrOk outer frs →
    Rep h₀ h F ((it, ditO "dict_keyiterator" (.ref N) dn.length (ents ns).size epn) :: (Ls, listO #[] e1) :: (Li, listO #[] e2) :: (Sn, setO se sep stb) :: (Ns, dictO es ep) :: (L, frF (fcE' q S N Ls Li Sn Ns nv) (fcN nv) sl) :: sC S Dd a N r np nf (ents ns) epn (icells ns ++ (lcells ns ++ (frs ++ ρ)))) →
    (b = true → ∀ h' tk' frs' sl' q' nv' T items e', 0 < items.size ∧ items.size ≤ 1000 → FrSame frs frs' → Rep h₀ h' F ((T, listO items e') :: (L, frF (fcE q' S N Ls Li Sn Ns nv') 7 sl') :: sC S Dd a N r np nf (ents ns) epn (icells ns ++ (lcells ns ++ (frs' ++ ρ)))) → R (.ok (.ret (.ref T))) ⟨h', g, d, tk', os⟩) →
    (b = false → ∀ h' tk' frs' sl' q' nv', True → FrSame frs frs' → Rep h₀ h' F ((L, frF (fcE' q' S N Ls Li Sn Ns nv') (fcN nv') sl') :: sC S Dd a N r np nf (ents ns) epn (icells ns ++ (lcells ns ++ (frs' ++ ρ)))) → R (.ok .next) ⟨h', g, d, tk', os⟩) →
    codeAny (model prog (wF b1 b2 b3 w₀)) A (forC (wF b1 b2 b3 w₀).params 134 5 it L) R ⟨h, g, d, tk, os⟩
  | [] => by
    intro b1 G hfr dn q nv seen Sf sn se sep stb frs sl es ep e1 e2 h tk b hns hm hS hsn hSP hkv hF D xf xn
    subst hns
    have hm' : false = b := by
      have z : some false = some b := hm
      injection z
    refine code_start ?_
    refine sgL 1000 [.s 0, .e, .s 0] [] G o.hd D ?_; intro oh1; refine ⟨by kernel_rfl, fun h1 tk1 D1 => ?_⟩
    refine u_kstop D1 0 (it := it) (N := N) (es := ents (dn ++ [])) (ep := epn) (i := dn.length) (by kernel_rfl) 8 (by kernel_rfl) (ents_end dn) o.hd (by kernel_rfl) (by kernel_rfl) (by kernel_rfl) fun h2 E E0 D2 => ?_
    refine sgL 1000 [.s 0, .e] [false, false, false, false, false, false, false] G o.hd D2 ?_; intro oh3; refine ⟨by kernel_rfl, fun h3 tk3 D3 => ?_⟩
    exact end_done (f := .next) (by kernel_rfl) (by kernel_rfl) (xn hm'.symm h3 tk3 frs sl q nv trivial (FrSame.refl _) (D3.eq (by kernel_rfl)))
  | n :: rest => by
    intro b1 G hfr dn q nv seen Sf sn se sep stb frs sl es ep e1 e2 h tk b hns hm hS hsn hSP hkv hF D xf xn
    subst hns
    rw [List.map_cons] at hm
    unfold fcP at hm
    refine code_start ?_
    refine sgL 1000 [.s 0, .e, .s 0] [] G o.hd D ?_; intro oh1; refine ⟨by kernel_rfl, fun h1 tk1 D1 => ?_⟩
    refine u_knext D1 0 (it := it) (N := N) (es := ents (dn ++ n :: rest)) (ep := epn) (i := dn.length) (e := n.ent) (by kernel_rfl) 8 (by kernel_rfl) (ents_at dn rest n) (by kernel_rfl) (by kernel_rfl) fun h2 D2 => ?_
    rcases nv with _ | nv
    · refine sgL 1000 [.s 5, .s 5, .s 5, .s 5, .s 3, .s 3, .e, .s 3] [] G o.hd D2 ?_; intro oh3; refine ⟨by kernel_rfl, fun h3 tk3 D3 => ?_⟩
      refine u_shas D3 3 (a := Sn) (es := se) (ep := sep) (tb := stb) (S := Sf) (n := sn) (k := n.k) (u := n.kt) (by kernel_rfl) hSP (by kernel_rfl) (by kernel_rfl) ?_
      rw [hS]
      have D4 : Rep h₀ h3 F (cat ([[(it, ditO "dict_keyiterator" (.ref N) (dn.length + 1) (ents (dn ++ n :: rest)).size epn)]] ++ [[(Ls, listO ⟨[]⟩ e1)], [(Li, listO ⟨[]⟩ e2)], [(Sn, (setO se sep stb))], [(Ns, dictO es ep)], [(L, frF (fcE { q with q6 := (Mine.hS w₀.params s_node, tk1) } S N Ls Li Sn Ns (iv (n.k, n.kt))) 7 sl)], [(S, instO 144 Dd)], [(Dd, dictO (attrs a N r np nf) 4)], [(N, dictO (ents (dn ++ n :: rest)) epn)], icells (dn ++ n :: rest), lcells (dn ++ n :: rest), frs, ρ])) := D3.eq (by kernel_rfl)
      cases hin : seen.contains n.k with
      | true =>
        rw [hin] at hm
        simp only [if_true] at hm
        refine sgL 1000 [] [] G o.hd D4 ?_; intro oh5; refine ⟨by kernel_rfl, fun h5 tk5 D5 => ?_⟩
        refine end_again (c' := forC (gdW G).params 134 5 it L) (by kernel_rfl) (by kernel_rfl) (by kernel_rfl) ?_
        refine lf134 (S := S) (Dd := Dd) (N := N) (Ls := Ls) (Li := Li) (Sn := Sn) (Ns := Ns) (L := L) (a := a) (r := r) (np := np) (nf := nf) (epn := epn) (ns := dn ++ n :: rest) (outer := outer) (it := it) (fuel := fuel) o rest _ G hfr (dn ++ [n]) { q with q6 := (Mine.hS w₀.params s_node, tk1) } (some (iv (n.k, n.kt))) seen Sf sn se sep stb frs sl es ep e1 e2 h5 tk5 b (by simp) hm hS hsn hSP hkv hF ?_ xf xn
        rw [List.length_append]
        exact D5.eq (by kernel_rfl)
      | false =>
        rw [hin] at hm
        simp only [Bool.false_eq_true, if_false] at hm
        refine sgL 1000 [] [] G o.hd D4 ?_; intro oh5; refine ⟨by kernel_rfl, fun h5 tk5 D5 => ?_⟩
        refine use_call (c' := fcW1 (gdW G).params L) (hd := none) (by kernel_rfl) rfl ?_
        cases hw : w1P (pns (dn ++ n :: rest)) fuel n.k seen [] with
        | none => rw [hw] at hm; cases hm
        | some x =>
        obtain ⟨fnd, seen'⟩ := x
        rw [hw] at hm
        have D6 : Rep h₀ h5 F (cat ([[(it, ditO "dict_keyiterator" (.ref N) (dn.length + 1) (ents (dn ++ n :: rest)).size epn)]] ++ [[(Ls, listO ⟨[]⟩ e1)], [(Li, listO ⟨[]⟩ e2)], [(Sn, (setO se sep stb))], [(Ns, dictO es ep)], [(L, frF (fcE { q with q6 := (Mine.hS w₀.params s_node, tk1) } S N Ls Li Sn Ns (iv (n.k, n.kt))) 7 sl)], [(S, instO 144 Dd)], [(Dd, dictO (attrs a N r np nf) 4)], [(N, dictO (ents (dn ++ n :: rest)) epn)], icells (dn ++ n :: rest), lcells (dn ++ n :: rest), frs, ρ])) := D5.eq (by kernel_rfl)
        have D7 := Rep.shuf _ [12, 1, 12, 12, 12, 12, 12, 12, 12, 12, 12, 12, 12] D6
        refine lw1 (S := S) (Dd := Dd) (N := N) (Ls := Ls) (Li := Li) (Sn := Sn) (Ns := Ns) (L := L) (a := a) (r := r) (np := np) (nf := nf) (epn := epn) (ns := dn ++ n :: rest) (outer := outer) (q := { q with q6 := (Mine.hS w₀.params s_node, tk1) }) (F := F) (ρ := [(it, ditO "dict_keyiterator" (.ref N) (dn.length + 1) (ents (dn ++ n :: rest)).size epn)] ++ ρ) (o.call (by kernel_rfl) (by kernel_rfl)) fuel _ G (frames_of hfr (by kernel_rfl)) (n.k, n.kt) seen Sf sn se sep stb [] frs sl es ep e1 e2 h5 tk5 fnd seen' hw hS hsn hSP (fun v hv => by cases hv) hkv hF (fun v hv => by cases hv) (fun v hv => by cases hv) D7 ?_ ?_
        · intro hb h' tk' frs' sl' nv' T items e' hpos hs D'
          subst hb
          simp only at hm
          injection hm with hm
          refine sgL 1000 [] [] G o.hd D' ?_; intro oh''; refine ⟨by kernel_rfl, fun h'' tk'' D'' => ?_⟩
          refine end_done (f := .ret (.ref T)) (by kernel_rfl) (by kernel_rfl) ?_
          refine xf hm.symm h'' tk'' frs' sl' { q with q6 := (Mine.hS w₀.params s_node, tk1) } nv' T items e' hpos hs ?_
          let S8 : List Cells := [[(T, listO items e')], [(L, frF (fcE { q with q6 := (Mine.hS w₀.params s_node, tk1) } S N Ls Li Sn Ns nv') 7 sl')], [(S, instO 144 Dd)], [(Dd, dictO (attrs a N r np nf) 4)], [(N, dictO (ents (dn ++ n :: rest)) epn)], icells (dn ++ n :: rest), lcells (dn ++ n :: rest), frs', [(it, ditO "dict_keyiterator" (.ref N) (dn.length + 1) (ents (dn ++ n :: rest)).size epn)], ρ]; have D8 : Rep h₀ h'' F (cat S8) := D''.eq (by kernel_rfl)
          exact (Rep.shuf _ [9, 8, 8, 8, 8, 8, 8, 8, 8, 9] D8).mask [false]
        · intro hb h' tk' frs' sl' nv' es' ep' e1' e2' Sf' sn' se' sep' stb' y1 y2 y3 y4 hs D'
          subst hb
          simp only at hm
          refine sgL 1000 [] [] G o.hd D' ?_; intro oh''; refine ⟨by kernel_rfl, fun h'' tk'' D'' => ?_⟩
          refine end_again (c' := forC (gdW G).params 134 5 it L) (by kernel_rfl) (by kernel_rfl) (by kernel_rfl) ?_
          refine lf134 (S := S) (Dd := Dd) (N := N) (Ls := Ls) (Li := Li) (Sn := Sn) (Ns := Ns) (L := L) (a := a) (r := r) (np := np) (nf := nf) (epn := epn) (ns := dn ++ n :: rest) (outer := outer) (it := it) (fuel := fuel) o rest _ G hfr (dn ++ [n]) { q with q6 := (Mine.hS w₀.params s_node, tk1) } (some nv') seen' Sf' sn' se' sep' stb' frs' sl' es' ep' e1' e2' h'' tk'' b (by simp) hm y1 y2 y3 y4 (hF.same hs) ?_ ?_ ?_
          · have D8 : Rep h₀ h'' F (cat ([[(Ls, listO ⟨[]⟩ e1')], [(Li, listO ⟨[]⟩ e2')], [(Sn, (setO se' sep' stb'))], [(Ns, dictO es' ep')], [(L, frF (fcE { q with q6 := (Mine.hS w₀.params s_node, tk1) } S N Ls Li Sn Ns nv') 7 sl')], [(S, instO 144 Dd)], [(Dd, dictO (attrs a N r np nf) 4)], [(N, dictO (ents (dn ++ n :: rest)) epn)], icells (dn ++ n :: rest), lcells (dn ++ n :: rest), frs', [(it, ditO "dict_keyiterator" (.ref N) (dn.length + 1) (ents (dn ++ n :: rest)).size epn)], ρ])) := D''.eq (by kernel_rfl)
            rw [List.length_append]
            exact Rep.shuf _ [12, 11, 11, 11, 11, 11, 11, 11, 11, 11, 11, 11, 12] D8
          · intro hb h3 tk3 frs3 sl3 q3 nv3 T items e3 hpos hs3 D3
            exact xf hb h3 tk3 frs3 sl3 q3 nv3 T items e3 hpos (hs.trans hs3) D3
          · intro hb h3 tk3 frs3 sl3 q3 nv3 D3s hs3 D3
            exact xn hb h3 tk3 frs3 sl3 q3 nv3 D3s (hs.trans hs3) D3
    · refine sgL 1000 [.s 5, .s 5, .s 5, .s 5, .s 3, .s 3, .e, .s 3] [] G o.hd D2 ?_; intro oh3; refine ⟨by kernel_rfl, fun h3 tk3 D3 => ?_⟩
      refine u_shas D3 3 (a := Sn) (es := se) (ep := sep) (tb := stb) (S := Sf) (n := sn) (k := n.k) (u := n.kt) (by kernel_rfl) hSP (by kernel_rfl) (by kernel_rfl) ?_
      rw [hS]
      have D4 : Rep h₀ h3 F (cat ([[(it, ditO "dict_keyiterator" (.ref N) (dn.length + 1) (ents (dn ++ n :: rest)).size epn)]] ++ [[(Ls, listO ⟨[]⟩ e1)], [(Li, listO ⟨[]⟩ e2)], [(Sn, (setO se sep stb))], [(Ns, dictO es ep)], [(L, frF (fcE q S N Ls Li Sn Ns (iv (n.k, n.kt))) 7 sl)], [(S, instO 144 Dd)], [(Dd, dictO (attrs a N r np nf) 4)], [(N, dictO (ents (dn ++ n :: rest)) epn)], icells (dn ++ n :: rest), lcells (dn ++ n :: rest), frs, ρ])) := D3.eq (by kernel_rfl)
      cases hin : seen.contains n.k with
      | true =>
        rw [hin] at hm
        simp only [if_true] at hm
        refine sgL 1000 [] [] G o.hd D4 ?_; intro oh5; refine ⟨by kernel_rfl, fun h5 tk5 D5 => ?_⟩
        refine end_again (c' := forC (gdW G).params 134 5 it L) (by kernel_rfl) (by kernel_rfl) (by kernel_rfl) ?_
        refine lf134 (S := S) (Dd := Dd) (N := N) (Ls := Ls) (Li := Li) (Sn := Sn) (Ns := Ns) (L := L) (a := a) (r := r) (np := np) (nf := nf) (epn := epn) (ns := dn ++ n :: rest) (outer := outer) (it := it) (fuel := fuel) o rest _ G hfr (dn ++ [n]) q (some (iv (n.k, n.kt))) seen Sf sn se sep stb frs sl es ep e1 e2 h5 tk5 b (by simp) hm hS hsn hSP hkv hF ?_ xf xn
        rw [List.length_append]
        exact D5.eq (by kernel_rfl)
      | false =>
        rw [hin] at hm
        simp only [Bool.false_eq_true, if_false] at hm
        refine sgL 1000 [] [] G o.hd D4 ?_; intro oh5; refine ⟨by kernel_rfl, fun h5 tk5 D5 => ?_⟩
        refine use_call (c' := fcW1 (gdW G).params L) (hd := none) (by kernel_rfl) rfl ?_
        cases hw : w1P (pns (dn ++ n :: rest)) fuel n.k seen [] with
        | none => rw [hw] at hm; cases hm
        | some x =>
        obtain ⟨fnd, seen'⟩ := x
        rw [hw] at hm
        have D6 : Rep h₀ h5 F (cat ([[(it, ditO "dict_keyiterator" (.ref N) (dn.length + 1) (ents (dn ++ n :: rest)).size epn)]] ++ [[(Ls, listO ⟨[]⟩ e1)], [(Li, listO ⟨[]⟩ e2)], [(Sn, (setO se sep stb))], [(Ns, dictO es ep)], [(L, frF (fcE q S N Ls Li Sn Ns (iv (n.k, n.kt))) 7 sl)], [(S, instO 144 Dd)], [(Dd, dictO (attrs a N r np nf) 4)], [(N, dictO (ents (dn ++ n :: rest)) epn)], icells (dn ++ n :: rest), lcells (dn ++ n :: rest), frs, ρ])) := D5.eq (by kernel_rfl)
        have D7 := Rep.shuf _ [12, 1, 12, 12, 12, 12, 12, 12, 12, 12, 12, 12, 12] D6
        refine lw1 (S := S) (Dd := Dd) (N := N) (Ls := Ls) (Li := Li) (Sn := Sn) (Ns := Ns) (L := L) (a := a) (r := r) (np := np) (nf := nf) (epn := epn) (ns := dn ++ n :: rest) (outer := outer) (q := q) (F := F) (ρ := [(it, ditO "dict_keyiterator" (.ref N) (dn.length + 1) (ents (dn ++ n :: rest)).size epn)] ++ ρ) (o.call (by kernel_rfl) (by kernel_rfl)) fuel _ G (frames_of hfr (by kernel_rfl)) (n.k, n.kt) seen Sf sn se sep stb [] frs sl es ep e1 e2 h5 tk5 fnd seen' hw hS hsn hSP (fun v hv => by cases hv) hkv hF (fun v hv => by cases hv) (fun v hv => by cases hv) D7 ?_ ?_
        · intro hb h' tk' frs' sl' nv' T items e' hpos hs D'
          subst hb
          simp only at hm
          injection hm with hm
          refine sgL 1000 [] [] G o.hd D' ?_; intro oh''; refine ⟨by kernel_rfl, fun h'' tk'' D'' => ?_⟩
          refine end_done (f := .ret (.ref T)) (by kernel_rfl) (by kernel_rfl) ?_
          refine xf hm.symm h'' tk'' frs' sl' q nv' T items e' hpos hs ?_
          let S8 : List Cells := [[(T, listO items e')], [(L, frF (fcE q S N Ls Li Sn Ns nv') 7 sl')], [(S, instO 144 Dd)], [(Dd, dictO (attrs a N r np nf) 4)], [(N, dictO (ents (dn ++ n :: rest)) epn)], icells (dn ++ n :: rest), lcells (dn ++ n :: rest), frs', [(it, ditO "dict_keyiterator" (.ref N) (dn.length + 1) (ents (dn ++ n :: rest)).size epn)], ρ]; have D8 : Rep h₀ h'' F (cat S8) := D''.eq (by kernel_rfl)
          exact (Rep.shuf _ [9, 8, 8, 8, 8, 8, 8, 8, 8, 9] D8).mask [false]
        · intro hb h' tk' frs' sl' nv' es' ep' e1' e2' Sf' sn' se' sep' stb' y1 y2 y3 y4 hs D'
          subst hb
          simp only at hm
          refine sgL 1000 [] [] G o.hd D' ?_; intro oh''; refine ⟨by kernel_rfl, fun h'' tk'' D'' => ?_⟩
          refine end_again (c' := forC (gdW G).params 134 5 it L) (by kernel_rfl) (by kernel_rfl) (by kernel_rfl) ?_
          refine lf134 (S := S) (Dd := Dd) (N := N) (Ls := Ls) (Li := Li) (Sn := Sn) (Ns := Ns) (L := L) (a := a) (r := r) (np := np) (nf := nf) (epn := epn) (ns := dn ++ n :: rest) (outer := outer) (it := it) (fuel := fuel) o rest _ G hfr (dn ++ [n]) q (some nv') seen' Sf' sn' se' sep' stb' frs' sl' es' ep' e1' e2' h'' tk'' b (by simp) hm y1 y2 y3 y4 (hF.same hs) ?_ ?_ ?_
          · have D8 : Rep h₀ h'' F (cat ([[(Ls, listO ⟨[]⟩ e1')], [(Li, listO ⟨[]⟩ e2')], [(Sn, (setO se' sep' stb'))], [(Ns, dictO es' ep')], [(L, frF (fcE q S N Ls Li Sn Ns nv') 7 sl')], [(S, instO 144 Dd)], [(Dd, dictO (attrs a N r np nf) 4)], [(N, dictO (ents (dn ++ n :: rest)) epn)], icells (dn ++ n :: rest), lcells (dn ++ n :: rest), frs', [(it, ditO "dict_keyiterator" (.ref N) (dn.length + 1) (ents (dn ++ n :: rest)).size epn)], ρ])) := D''.eq (by kernel_rfl)
            rw [List.length_append]
            exact Rep.shuf _ [12, 11, 11, 11, 11, 11, 11, 11, 11, 11, 11, 11, 12] D8
          · intro hb h3 tk3 frs3 sl3 q3 nv3 T items e3 hpos hs3 D3
            exact xf hb h3 tk3 frs3 sl3 q3 nv3 T items e3 hpos (hs.trans hs3) D3
          · intro hb h3 tk3 frs3 sl3 q3 nv3 D3s hs3 D3
            exact xn hb h3 tk3 frs3 sl3 q3 nv3 D3s (hs.trans hs3) D3
end Mine
end
section
open PySem PySem.W PySem.W.X PyProof.Rows
set_option Elab.async false
set_option maxRecDepth 100000
set_option maxHeartbeats 1000000
namespace Mine
theorem p_dict_iter : plainId "dict.__iter__" = true := by decide +kernel
theorem m_diter (N : Addr) (es : Array DictEntry) (ep : Nat) (hd : (N == sysModules) = false) :
    Meets (Builtin.«dict.__iter__» ⟨[.ref N], []⟩) (fun _ R s => s.heap.get? N = some (dictO es ep) ∧ R (.ok (.ret (.ref s.heap.objs.size))) { s with heap := s.heap.push (ditO "dict_keyiterator" (.ref N) 0 es.size ep) }) :=
  .of_wp fun prog w A R s h => by
    obtain ⟨ho, h⟩ := h
    have hT : s.TypeIs (.ref N) "dict" := ⟨_, ho, rfl⟩
    unfold Builtin.«dict.__iter__»
    refine wpAny_bind ?_
    unfold Builtin.Dict.dictSlotNone
    refine wpAny_bind (wpAny_notOrdered_dict hT ?_)
    show wpAny _ _ (pure (Value.ref N)) _ _ s
    refine wpAny_pure ?_
    show wpAny _ _ (Builtin.Dict.showsAll N >>= _) _ _ s
    unfold Builtin.Dict.showsAll
    rw [if_neg (by rw [hd]; exact Bool.false_ne_true)]
    refine wpAny_bind (wpAny_pure ?_)
    refine wpAny_bind (wpAny_dictEntries ho rfl ?_)
    refine wpAny_bind (wpAny_dictEpoch ho rfl ?_)
    exact wpAny_bind (wpAny_newObj_type (wpAny_pure ⟨_, rfl, h⟩))
section
variable {prog : Program} {w : World} {A : Around} {R : Result → Shared → Prop} {h₀ h : Heap} {F : List Addr} {σ : Cells} {g : Array GenState} {d : Drawn} {tk : Nat} {os : OsState} {c : Code} {κ : Kn} {t : Sem Fin}
theorem u_diter (D : Rep h₀ h F σ) (j : Nat) {N : Addr} {es : Array DictEntry} {ep : Nat} (hj : nth σ j = some (N, dictO es ep)) (hc : againOf t = some (.builtin "dict.__iter__" ⟨[.ref N], []⟩)) (hr : isRet κ = true)
    (x : ∀ h' it, Rep h₀ h' F ((it, ditO "dict_keyiterator" (.ref N) 0 es.size ep) :: σ) → Mn prog w A R (kc κ) (kr κ) (kk κ (.ok (.ret (.ref it)))) ⟨h', g, d, tk, os⟩) : Mn prog w A R c κ t ⟨h, g, d, tk, os⟩ :=
  use_bi PySem.F.entry_dict_iter p_dict_iter (m_diter N es ep (D.ne_sys j hj)) hc hr ⟨D.cell j hj, x _ _ (D.alloc rfl)⟩
end
end Mine
end
section
open PySem PySem.W PySem.W.X PyProof.Rows
set_option Elab.async false
set_option maxRecDepth 100000
set_option maxHeartbeats 1000000
namespace Mine
variable {prog : Program} {w : World} {w₀ : World} {b1 b2 b3 : Bool} {A : Around} {R : Result → Shared → Prop} {h₀ h : Heap} {F : List Addr} {ρ σ : Cells} {g : Array GenState} {d : Drawn} {tk : Nat} {os : OsState}
theorem frames_fn {A : Around} {κ : Kn} {c : Code} {env : Env} {fs : List Env} (hA : A.frames = some fs) (h : kenvs κ c = [env]) : ((arnd A κ).under c).frames = some (env :: fs) := by
  rw [arnd_frames hA, h]; rfl
theorem c134 {S Dd N : Addr} {a : SA} {r np nf : Value} {epn fuel : Nat} {ns : List Nd} {outer : List Env} {frs : Cells} {b : Bool} (G : Gd (wF b1 b2 b3 w₀) h₀) (o : Ok A 8) (hfr : A.frames = some outer) (hF : FrOk outer frs) (hm : fcP (pns ns) fuel (ns.map (·.k)) [] = some b)
    (D : Rep h₀ h F (sC S Dd a N r np nf (ents ns) epn (icells ns ++ (lcells ns ++ (frs ++ ρ)))))
    (xf : b = true → ∀ h' tk' frs' T items e', 0 < items.size ∧ items.size ≤ 1000 → FrSame frs frs' → Rep h₀ h' F ((T, listO items e') :: sC S Dd a N r np nf (ents ns) epn (icells ns ++ (lcells ns ++ (frs' ++ ρ)))) → R (.ok (.ret (.ref T))) ⟨h', g, d, tk', os⟩)
    (xn : b = false → ∀ h' tk' frs', FrSame frs frs' → Rep h₀ h' F (sC S Dd a N r np nf (ents ns) epn (icells ns ++ (lcells ns ++ (frs' ++ ρ)))) → R (.ok (.ret .none)) ⟨h', g, d, tk', os⟩) :
    codeAny (model prog (wF b1 b2 b3 w₀)) A (.call (.ref 134) ⟨[.ref S], []⟩) R ⟨h, g, d, tk, os⟩ := by
  all_goals
    refine code_start ?_
    refine sg2L 1000 [.t, .t, .s 0, .s 0] [] G o.hd D ?_; intro fh1 oh1; refine ⟨by kernel_rfl, fun h1 tk1 D1 => ?_⟩
    refine enter (c2 := fcode w₀.params 134 h.objs.size) (by kernel_rfl) (by kernel_rfl) (D1.gd G).lim (o.room (by kernel_rfl)) ?_
    refine sg2L 1000 [.s 0, .s 1, .t, .t, .t, .e, .s 1, .t, .t, .t, .s 1, .s 1, .t, .s 2, .s 0, .s 0, .s 1, .s 1, .s 2, .s 2, .t, .t, .e, .e, .e, .e, .s 0, .s 0, .e, .s 0, .s 0, .e, .s 0, .s 0, .s 3, .s 3, .s 4, .s 4, .s 4, .s 7, .s 7, .e, .s 7] [] G o.hd D1 ?_; intro fh2 oh2; refine ⟨by kernel_rfl, fun h2 tk2 D2 => ?_⟩
    refine u_diter D2 7 (N := N) (es := ents ns) (ep := epn) (by kernel_rfl) (by kernel_rfl) (by kernel_rfl) fun h3 it D3 => ?_
    refine sg2L 1000 [.s 0] [] G o.hd D3 ?_; intro fh4 oh4; refine ⟨by kernel_rfl, fun h4 tk4 D4 => ?_⟩
    refine use_call (c' := forC (gdW G).params 134 5 it h.objs.size) (hd := none) (by kernel_rfl) rfl ?_
    let S5 : List Cells := [[(it, ditO "dict_keyiterator" (.ref N) 0 (ents ns).size epn)], [(h1.objs.size + 3, dictO #[] 0)], [(h1.objs.size + 2, setO #[] 0 (SetTable.fresh 0 0 (!b3)))], [(h1.objs.size + 1, listO #[] 0)], [(h1.objs.size, listO #[] 0)], [(h.objs.size, frF (fcE' ⟨(hS w₀.params s_self, tk), (hS w₀.params s_n2i, tk1 + 1), (hS w₀.params s_stack, tk1 + 2), (hS w₀.params s_itstack, tk1 + 3), (hS w₀.params s_seen, tk1 + 4), (hS w₀.params s_node2stacki, tk1 + 5), (0, 0)⟩ S N h1.objs.size (h1.objs.size + 1) (h1.objs.size + 2) (h1.objs.size + 3) none) 6 #[])], [(S, instO 144 Dd)], [(Dd, dictO (attrs a N r np nf) 4)], [(N, dictO (ents ns) epn)], icells ns, lcells ns, frs, ρ]; have D5 : Rep h₀ h4 F (cat S5) := D4.eq (by kernel_rfl)
    have D6 := Rep.shuf _ [12, 12, 12, 12, 12, 12, 12, 12, 9, 10, 11, 12, 12] D5
    have hSP : SPs prog (gdW G) #[] (SetTable.fresh 0 0 (!b3)) (fun _ => false) 0 := ⟨(fun e he => by simp at he), fun k => ⟨(fun x => by cases x), (fun ⟨e, he, _⟩ => by simp at he)⟩, by decide, (by cases b3 <;> decide), rfl⟩
    refine lf134 (S := S) (Dd := Dd) (N := N) (L := h.objs.size) (it := it) (a := a) (r := r) (np := np) (nf := nf) (epn := epn) (ns := ns) (outer := outer) (fuel := fuel) (F := F) (ρ := ρ) (o.call (by kernel_rfl) (by kernel_rfl)) ns _ G (frames_fn hfr (by kernel_rfl)) [] ⟨(hS w₀.params s_self, tk), (hS w₀.params s_n2i, tk1 + 1), (hS w₀.params s_stack, tk1 + 2), (hS w₀.params s_itstack, tk1 + 3), (hS w₀.params s_seen, tk1 + 4), (hS w₀.params s_node2stacki, tk1 + 5), (0, 0)⟩ none [] (fun _ => false) 0 #[] 0 (SetTable.fresh 0 0 (!b3)) frs #[] #[] 0 0 0 h4 tk4 b rfl hm (fun _ => rfl) rfl hSP (DPs.nil _ _) hF D6 ?_ ?_
    · intro hb h' tk' frs' sl' q' nv' T items e' hpos hs D'
      refine sg2L 1000 [] [] G o.hd D' ?_; intro fh'' oh''; refine ⟨by kernel_rfl, fun h'' tk'' D'' => ?_⟩
      refine end_done (f := .ret (.ref T)) (by kernel_rfl) (by kernel_rfl) ?_
      exact xf hb h'' tk'' frs' T items e' hpos hs ((D''.mask [true, false]).eq (by kernel_rfl))
    · intro hb h' tk' frs' sl' q' nv' _ hs D'
      refine sg2L 1000 [] [false] G o.hd D' ?_; intro fh'' oh''; refine ⟨by kernel_rfl, fun h'' tk'' D'' => ?_⟩
      refine end_done (f := .ret .none) (by kernel_rfl) (by kernel_rfl) ?_
      exact xn hb h'' tk'' frs' hs (D''.eq (by kernel_rfl))
end Mine
end
section
open PySem PySem.W PySem.W.X PyProof.Rows
set_option Elab.async false
set_option maxRecDepth 100000
set_option maxHeartbeats 1000000
namespace Mine
theorem p_dict_values : plainId "dict.values" = true := by decide +kernel
theorem p_dict_values_iter : plainId "dict_values.__iter__" = true := by decide +kernel
theorem m_dvalues (N : Addr) (es : Array DictEntry) (ep : Nat) (hd : (N == sysModules) = false) :
    Meets (Builtin.«dict.values» ⟨[.ref N], []⟩) (fun _ R s => s.heap.get? N = some (dictO es ep) ∧ R (.ok (.ret (.ref s.heap.objs.size))) { s with heap := s.heap.push (fieldsO "dict_values" #[.ref N]) }) :=
  .of_wp fun prog w A R s h => by
    obtain ⟨ho, h⟩ := h
    have hT : s.TypeIs (.ref N) "dict" := ⟨_, ho, rfl⟩
    refine wpAny_bind ?_
    unfold Builtin.Dict.noArgs
    refine wpAny_bind (wpAny_notOrdered_dict hT ?_)
    show wpAny _ _ (pure N) _ _ s
    refine wpAny_pure ?_
    show wpAny _ _ (Builtin.Dict.showsAll N >>= _) _ _ s
    unfold Builtin.Dict.showsAll
    rw [if_neg (by rw [hd]; exact Bool.false_ne_true)]
    refine wpAny_bind (wpAny_pure ?_)
    exact wpAny_bind (wpAny_newObj_type (wpAny_pure ⟨_, rfl, h⟩))
theorem m_viter (v N : Addr) (es : Array DictEntry) (ep : Nat) :
    Meets (Builtin.«dict_values.__iter__» ⟨[.ref v], []⟩) (fun _ R s => s.heap.get? v = some (fieldsO "dict_values" #[.ref N]) ∧ s.heap.get? N = some (dictO es ep) ∧ R (.ok (.ret (.ref s.heap.objs.size))) { s with heap := s.heap.push (ditO "dict_valueiterator" (.ref N) 0 es.size ep) }) :=
  .of_wp fun prog w A R s h => by
    obtain ⟨hov, ho, h⟩ := h
    unfold Builtin.«dict_values.__iter__»
    refine wpAny_bind (wpAny_pure ?_)
    refine wpAny_bind ?_
    unfold Builtin.Dict_items.dictOf
    refine wpAny_bind (wpAny_field hov rfl (x := .ref N) rfl (wpAny_pure ?_))
    refine wpAny_bind ?_
    unfold Builtin.Dict_items.newIterator
    refine wpAny_bind (wpAny_dictEntries ho rfl ?_)
    refine wpAny_bind (wpAny_dictEpoch ho rfl ?_)
    have hown : Builtin.Dict_items.ownsTuple "dict_valueiterator" = false := by decide
    simp only [hown, Bool.false_eq_true, if_false]
    exact wpAny_newObj_type (wpAny_pure ⟨_, rfl, h⟩)
theorem m_vnext (it N : Addr) (es : Array DictEntry) (ep i : Nat) (e : DictEntry) (he : es[i]? = some e) :
    Meets (Builtin.«dict_valueiterator.__next__» ⟨[.ref it], []⟩) (fun _ R s => s.heap.get? it = some (ditO "dict_valueiterator" (.ref N) i es.size ep) ∧ s.heap.get? N = some (dictO es ep) ∧
      R (.ok (.ret e.val)) { s with heap := s.heap.update it (Obj.mapFields fun x => x.setIfInBounds 1 (.int (i + 1 : Int) 0)) }) :=
  .of_wp fun prog w A R s h => by
    obtain ⟨ho, hod, h⟩ := h
    have hT : s.TypeIs (.ref it) "dict_valueiterator" := ⟨_, ho, rfl⟩
    have hlt : i < es.size := by
      rcases Nat.lt_or_ge i es.size with h | h
      · exact h
      · simp [Array.getElem?_eq_none h] at he
    have hee : es[i] = e := by
      rw [Array.getElem?_eq_getElem hlt] at he
      injection he
    refine wpAny_bind (wpAny_pure ?_)
    refine wpAny_bind ?_
    refine wpAny_bind ?_
    first | refine wpAny_bind (wpAny_typeNameOfWhole_valiter hT (wpAny_pure ?_)) | refine wpAny_bind (wpAny_typeNameOf_valiter hT (wpAny_pure ?_))
    refine wpAny_bind (wpAny_fieldsOf ho rfl ?_)
    have hown : Builtin.Dict_items.ownsTuple "dict_valueiterator" = false := by decide
    simp only [hown, Bool.false_eq_true, if_false]
    show wpAny _ _ (if (Value.ref N == Value.none) = true then _ else _) _ _ s
    rw [if_neg (show ¬ ((Value.ref N == Value.none) = true) from Bool.false_ne_true)]
    refine wpAny_bind (wpAny_pure ?_)
    refine wpAny_bind (wpAny_dictEntries hod rfl ?_)
    rw [if_neg (by simp)]
    refine wpAny_bind (wpAny_pure ?_)
    refine wpAny_bind (wpAny_dictEpoch hod rfl ?_)
    rw [if_neg (by simp)]
    refine wpAny_pure ?_
    simp only [show ¬ ((i : Int) < 0) from by omega, if_false, Int.toNat_natCast, Array.getElem?_eq_getElem hlt]
    refine wpAny_bind ?_
    first | refine wpAny_bind (wpAny_typeNameOfWhole_valiter hT (wpAny_pure ?_)) | refine wpAny_bind (wpAny_typeNameOf_valiter hT (wpAny_pure ?_))
    refine wpAny_bind (wpAny_isOneOf_valiter hT ?_)
    show wpAny _ _ (setField (.ref it) 1 (rawInt ((i : Int) + 1)) >>= _) _ _ s
    refine wpAny_bind (wpAny_setField ho rfl (show 1 < 4 from by decide) ?_)
    have ho2 : (s.heap.update it (Obj.mapFields (·.setIfInBounds 1 (rawInt ((i : Int) + 1))))).get? it = some (Obj.mapFields (·.setIfInBounds 1 (rawInt ((i : Int) + 1))) (ditO "dict_valueiterator" (.ref N) i es.size ep)) := Heap.get?_update_self _ ho rfl
    refine wpAny_bind (wpAny_holding ?_)
    refine wpAny_bind (wpAny_isOneOf_valiter (s := { s with heap := s.heap.update it (Obj.mapFields (·.setIfInBounds 1 (rawInt ((i : Int) + 1)))) }) ⟨_, ho2, rfl⟩ ?_)
    refine wpAny_bind (wpAny_isOneOf_valiter (s := { s with heap := s.heap.update it (Obj.mapFields (·.setIfInBounds 1 (rawInt ((i : Int) + 1)))) }) ⟨_, ho2, rfl⟩ ?_)
    show wpAny _ _ (pure es[i].val) _ _ _
    rw [hee]
    exact wpAny_pure (wpAny_pure ⟨_, rfl, h⟩)
theorem m_vstop (it N : Addr) (es : Array DictEntry) (ep i : Nat) (he : es[i]? = none) :
    Meets (Builtin.«dict_valueiterator.__next__» ⟨[.ref it], []⟩) (fun A R s => A.handled = none ∧ s.heap.get? it = some (ditO "dict_valueiterator" (.ref N) i es.size ep) ∧ s.heap.get? N = some (dictO es ep) ∧
      R (.error (.ref (s.heap.objs.size + 1))) { s with heap := ((s.heap.update it (Obj.mapFields fun x => x.setIfInBounds 0 .none)).push (tupO #[] 0)).push (stopO s.heap.objs.size) }) :=
  .of_wp fun prog w A R s h => by
    obtain ⟨hh, ho, hod, h⟩ := h
    have hT : s.TypeIs (.ref it) "dict_valueiterator" := ⟨_, ho, rfl⟩
    refine wpAny_bind (wpAny_pure ?_)
    refine wpAny_bind ?_
    refine wpAny_bind ?_
    first | refine wpAny_bind (wpAny_typeNameOfWhole_valiter hT (wpAny_pure ?_)) | refine wpAny_bind (wpAny_typeNameOf_valiter hT (wpAny_pure ?_))
    refine wpAny_bind (wpAny_fieldsOf ho rfl ?_)
    have hown : Builtin.Dict_items.ownsTuple "dict_valueiterator" = false := by decide
    simp only [hown, Bool.false_eq_true, if_false]
    show wpAny _ _ (if (Value.ref N == Value.none) = true then _ else _) _ _ s
    rw [if_neg (show ¬ ((Value.ref N == Value.none) = true) from Bool.false_ne_true)]
    refine wpAny_bind (wpAny_pure ?_)
    refine wpAny_bind (wpAny_dictEntries hod rfl ?_)
    rw [if_neg (by simp)]
    refine wpAny_bind (wpAny_pure ?_)
    refine wpAny_bind (wpAny_dictEpoch hod rfl ?_)
    rw [if_neg (by simp)]
    refine wpAny_pure ?_
    have hge : es.size ≤ i := by simpa using he
    simp only [show ¬ ((i : Int) < 0) from by omega, if_false, Int.toNat_natCast, Array.getElem?_eq_none hge]
    refine wpAny_bind ?_
    first | refine wpAny_bind (wpAny_typeNameOfWhole_valiter hT (wpAny_pure ?_)) | refine wpAny_bind (wpAny_typeNameOf_valiter hT (wpAny_pure ?_))
    show wpAny _ _ (setField (.ref it) 0 .none >>= _) _ _ s
    refine wpAny_bind (wpAny_setField ho rfl (show 0 < 4 from by decide) ?_)
    show wpAny _ _ (newExc (.type "StopIteration") [] >>= _) _ _ _
    refine wpAny_bind ?_
    simp only [newExc, newTuple]
    refine wpAny_bind (wpAny_newObj_type ?_ (by size_fits))
    refine wpAny_bind (m := firstArgMember _ _) (wpAny_of_eq (a := Value.none) (by first | rfl | (simp only [firstArgMember]; rfl)) ?_)
    refine wpAny_newObj_type ?_ (by size_fits)
    simp only [raiseNew]
    refine wpAny_bind (wpAny_handled ?_)
    rw [show A.in1.handled = none from hh]
    refine wpAny_bind (wpAny_pure (wpAny_throw ?_))
    have e1 : (s.heap.update it (Obj.mapFields fun x => x.setIfInBounds 0 Value.none)).objs.size = s.heap.objs.size := Heap.size_update ..
    have e2 : ((s.heap.update it (Obj.mapFields fun x => x.setIfInBounds 0 Value.none)).push { cls := Value.type "tuple", data := Data.seq #[] }).objs.size = s.heap.objs.size + 1 := by rw [Heap.size_push, e1]
    rw [e1, e2]
    first
      | exact h
      | (rw [stop_fields]; exact h)
      | (simp only [stop_fields]; exact h)
section
variable {prog : Program} {w : World} {A : Around} {R : Result → Shared → Prop} {h₀ h : Heap} {F : List Addr} {σ : Cells} {g : Array GenState} {d : Drawn} {tk : Nat} {os : OsState} {c : Code} {κ : Kn} {t : Sem Fin}
theorem u_vnext (D : Rep h₀ h F σ) (j : Nat) {it N : Addr} {es : Array DictEntry} {ep i : Nat} {e : DictEntry} (hj : nth σ j = some (it, ditO "dict_valueiterator" (.ref N) i es.size ep)) (jt : Nat) (ht : nth σ jt = some (N, dictO es ep)) (hv : es[i]? = some e) (hc : againOf t = some (.builtin "dict_valueiterator.__next__" ⟨[.ref it], []⟩)) (hr : isRet κ = true)
    (x : ∀ h', Rep h₀ h' F (setNth σ j (it, ditO "dict_valueiterator" (.ref N) (i + 1) es.size ep)) → Mn prog w A R (kc κ) (kr κ) (kk κ (.ok (.ret e.val))) ⟨h', g, d, tk, os⟩) : Mn prog w A R c κ t ⟨h, g, d, tk, os⟩ :=
  use_bi PySem.F.entry_dict_valueiterator_next p_dict_valueiterator_next (m_vnext it N es ep i e hv) hc hr ⟨D.cell j hj, D.cell jt ht, x _ (D.update (f := Obj.mapFields fun x => x.setIfInBounds 1 (.int (i + 1 : Int) 0)) hj rfl)⟩
theorem u_vstop (D : Rep h₀ h F σ) (j : Nat) {it N : Addr} {es : Array DictEntry} {ep i : Nat} (hj : nth σ j = some (it, ditO "dict_valueiterator" (.ref N) i es.size ep)) (jt : Nat) (ht : nth σ jt = some (N, dictO es ep)) (hv : es[i]? = none) (hA : A.handled = none) (hk : hnd none κ = none) (hc : againOf t = some (.builtin "dict_valueiterator.__next__" ⟨[.ref it], []⟩)) (hr : isRet κ = true)
    (x : ∀ h' E E0, Rep h₀ h' F ((E, stopO E0) :: (E0, tupO #[] 0) :: setNth σ j (it, ditO "dict_valueiterator" .none i es.size ep)) → Mn prog w A R (kc κ) (kr κ) (kk κ (.error (.ref E))) ⟨h', g, d, tk, os⟩) : Mn prog w A R c κ t ⟨h, g, d, tk, os⟩ := by
  refine use_bi PySem.F.entry_dict_valueiterator_next p_dict_valueiterator_next (m_vstop it N es ep i hv) hc hr ⟨by rw [arnd_hnd, hA]; exact hk, D.cell j hj, D.cell jt ht, ?_⟩
  have D1 := D.update (f := Obj.mapFields fun x => x.setIfInBounds 0 .none) hj rfl
  have D2 := D1.alloc (o := tupO #[] 0) rfl
  have D3 := D2.alloc (o := stopO h.objs.size) rfl
  have e1 : (h.update it (Obj.mapFields fun x => x.setIfInBounds 0 Value.none)).objs.size = h.objs.size := Heap.size_update ..
  have e2 : ((h.update it (Obj.mapFields fun x => x.setIfInBounds 0 Value.none)).push (tupO #[] 0)).objs.size = h.objs.size + 1 := by rw [Heap.size_push, e1]
  rw [e2, e1] at D3
  exact x _ _ _ D3
theorem u_dvalues (D : Rep h₀ h F σ) (j : Nat) {N : Addr} {es : Array DictEntry} {ep : Nat} (hj : nth σ j = some (N, dictO es ep)) (hc : againOf t = some (.builtin "dict.values" ⟨[.ref N], []⟩)) (hr : isRet κ = true)
    (x : ∀ h' v, Rep h₀ h' F ((v, fieldsO "dict_values" #[.ref N]) :: σ) → Mn prog w A R (kc κ) (kr κ) (kk κ (.ok (.ret (.ref v)))) ⟨h', g, d, tk, os⟩) : Mn prog w A R c κ t ⟨h, g, d, tk, os⟩ :=
  use_bi PySem.F.entry_dict_values p_dict_values (m_dvalues N es ep (D.ne_sys j hj)) hc hr ⟨D.cell j hj, x _ _ (D.alloc rfl)⟩
theorem u_viter (D : Rep h₀ h F σ) (jv : Nat) {v N : Addr} (hv : nth σ jv = some (v, fieldsO "dict_values" #[.ref N])) (j : Nat) {es : Array DictEntry} {ep : Nat} (hj : nth σ j = some (N, dictO es ep)) (hc : againOf t = some (.builtin "dict_values.__iter__" ⟨[.ref v], []⟩)) (hr : isRet κ = true)
    (x : ∀ h' it, Rep h₀ h' F ((it, ditO "dict_valueiterator" (.ref N) 0 es.size ep) :: σ) → Mn prog w A R (kc κ) (kr κ) (kk κ (.ok (.ret (.ref it)))) ⟨h', g, d, tk, os⟩) : Mn prog w A R c κ t ⟨h, g, d, tk, os⟩ :=
  use_bi PySem.F.entry_dict_values_iter p_dict_values_iter (m_viter v N es ep) hc hr ⟨D.cell jv hv, D.cell j hj, x _ _ (D.alloc rfl)⟩
end
end Mine
end
section
open PySem PySem.W PySem.W.X PyProof.Rows
set_option Elab.async false
set_option maxRecDepth 100000
set_option maxHeartbeats 1000000
namespace Mine
/-- the value of an assignment, of a return, of a for's iter -/
noncomputable def valE : Option Stmt → Option Expr
  | some (.Assign _ v _) => some v
  | some (.Return v _) => v
  | _ => none
noncomputable def ownN : List (Str × NameKind) → List (Str × NameKind)
  | [] => []
  | (n, k) :: r => (n, match k with | .free => .cell | k => k) :: ownN r
noncomputable def cenvOf (P : Params) (fn : Addr) (s : Scope) (sc L : Addr) (cl : List (Str × Addr)) : Env := { scope := { s with names := ownN s.names }, locals := sc, globals := 3, cells := cl, qual := (fd P fn).qualname ++ ".<locals>.", func := none, code := (fd P fn).code, frame := some L, builtins := 0 }
/-- a list comprehension at work -/
noncomputable def compC (P : Params) (fn : Addr) (e : Option Expr) (it acc sc L : Addr) (cl : List (Str × Addr)) : Code := match e with
  | some (.ListComp elt gens s pos) => .compLoop (.ListComp elt gens s pos) 0 (.ref it) (.ref acc) (cenvOf P fn s sc L cl)
  | _ => default
noncomputable def compS (P : Params) (fn : Addr) (e : Option Expr) (it acc sc L : Addr) (cl : List (Str × Addr)) : Code := match e with
  | some (.ListComp elt gens s pos) => .compStart (.ListComp elt gens s pos) 0 (.ref it) (.ref acc) (cenvOf P fn s sc L cl)
  | _ => default
/-- the comprehension's own variable, once it is set -/
noncomputable def scE (s : Str) : Option (Q2 × Value) → Array DictEntry
  | none => #[]
  | some (q, v) => #[fe q s v]
noncomputable def scN : Option (Q2 × Value) → Nat
  | none => 0
  | some _ => 1
end Mine
end
section
open PySem PySem.W PySem.W.X PyProof.Rows
set_option Elab.async false
set_option maxRecDepth 100000
set_option maxHeartbeats 1000000
namespace Mine
variable {prog : Program} {w : World} {w₀ : World} {b1 b2 b3 : Bool} {A : Around} {R : Result → Shared → Prop} {h₀ h : Heap} {F : List Addr} {ρ σ : Cells} {g : Array GenState} {d : Drawn} {tk : Nat} {os : OsState}
/-- the keys of the nodes that need nothing -/
noncomputable def rd0 : List PN → List Int
  | [] => []
  | n :: r => if n.p = 0 then n.k :: rd0 r else rd0 r
theorem l99 {N L it acc sc : Addr} {epn : Nat} {ns : List Nd} (o : Ok A 3) : ∀ (rest : List Nd) (b1 : Bool) (_ : Gd (wF b1 b2 b3 w₀) h₀) (dn : List Nd) (v : Option (Q2 × Value)) (rs : List IT) (er : Nat) (h : Heap) (tk : Nat),
    ns = dn ++ rest → rs.length + rest.length ≤ 1000 →
    Rep h₀ h F ((it, ditO "dict_valueiterator" (.ref N) dn.length (ents ns).size epn) :: (acc, listO ⟨rs.map iv⟩ er) :: (sc, dictO (scE s_i v) (scN v)) :: (N, dictO (ents ns) epn) :: (icells ns ++ ρ)) →
    (∀ h' tk' (rs' : List IT) er' v', rs'.map (·.1) = rs.map (·.1) ++ rd0 (pns rest) → Rep h₀ h' F ((acc, listO ⟨rs'.map iv⟩ er') :: (sc, dictO (scE s_i v') (scN v')) :: (N, dictO (ents ns) epn) :: (icells ns ++ ρ)) → R (.ok .next) ⟨h', g, d, tk', os⟩) →
    codeAny (model prog (wF b1 b2 b3 w₀)) A (compC (wF b1 b2 b3 w₀).params 99 (valE (fstmt (wF b1 b2 b3 w₀).params 99 1)) it acc sc L []) R ⟨h, g, d, tk, os⟩
  | [] => by
    intro b1 G dn v rs er h tk hns hz D x
    subst hns
    refine code_start ?_
    refine sg2L 1000 [.s 0, .e, .s 0] [] G o.hd D ?_; intro fh1 oh1; refine ⟨by kernel_rfl, fun h1 tk1 D1 => ?_⟩
    refine u_vstop D1 0 (it := it) (N := N) (es := ents (dn ++ [])) (ep := epn) (i := dn.length) (by kernel_rfl) 3 (by kernel_rfl) (ents_end dn) o.hd (by kernel_rfl) (by kernel_rfl) (by kernel_rfl) fun h2 E E0 D2 => ?_
    refine sg2L 1000 [.s 0] [false, false, false] G o.hd D2 ?_; intro fh3 oh3; refine ⟨by kernel_rfl, fun h3 tk3 D3 => ?_⟩
    exact end_done (f := .next) (by kernel_rfl) (by kernel_rfl) (x h3 tk3 rs er v (by simp [rd0, pns]) (D3.eq (by kernel_rfl)))
  | n :: rest => by
    intro b1 G dn v rs er h tk hns hz D x
    subst hns
    simp only [List.length_cons] at hz
    refine code_start ?_
    refine sg2L 1000 [.s 0, .e, .s 0] [] G o.hd D ?_; intro fh1 oh1; refine ⟨by kernel_rfl, fun h1 tk1 D1 => ?_⟩
    refine u_vnext D1 0 (it := it) (N := N) (es := ents (dn ++ n :: rest)) (ep := epn) (i := dn.length) (e := n.ent) (by kernel_rfl) 3 (by kernel_rfl) (ents_at dn rest n) (by kernel_rfl) (by kernel_rfl) fun h2 D2 => ?_
    have D3 := D2.tail 4 (rest := icells (dn ++ n :: rest) ++ ρ) (by kernel_rfl)
    rw [icells_mid] at D3
    have D4 := Rep.shuf [takeC 4 _, icells dn, [n.info], icells rest ++ ρ] [3, 2, 2, 3] D3
    rcases v with _ | ⟨q, v⟩
    · all_goals
        refine sg2L 1000 [.s 3, .s 3, .s 3, .s 0, .t, .t, .t, .e, .s 0, .t, .t, .t, .t, .t, .t, .t, .t, .e, .t, .e, .t, .t, .s 0, .t, .t, .t, .e, .t, .t, .s 0, .t, .s 0, .e] [] G o.hd D4 ?_; intro fh5 oh5; refine ⟨by kernel_rfl, fun h5 tk5 D5 => ?_⟩
        refine use_again (c' := .builtin "int.__eq__" ⟨[.int n.p n.pt, .int 0 (tk1 + 2)], []⟩) (by kernel_rfl) (by kernel_rfl) (by kernel_rfl) ?_
        refine c_eq G (by rw [arnd_hnd, o.hd]; kernel_rfl) D5 ?_
        intro h6 tk6 D6
        by_cases h0 : n.p = 0
        · rw [decide_eq_true h0]
          refine sg2L 1000 [.s 3, .s 0, .t, .t, .t, .e, .s 0, .t, .t, .t, .t, .t, .t, .t, .t, .e, .t, .e, .t, .t, .s 0, .t, .t, .t, .e, .t, .t, .s 0, .t, .s 0, .e, .s 2] [] G o.hd D6 ?_; intro fh7 oh7; refine ⟨by kernel_rfl, fun h7 tk7 D7 => ?_⟩
          refine u_append (l := acc) (items := ⟨rs.map iv⟩) (n := er) (v := .int n.k n.kt) D7 2 (by kernel_rfl) (line_of (n := rs.length) (by omega) (by simp)) (by kernel_rfl) (by kernel_rfl) fun h8 D8 => ?_
          refine sg2L 1000 [] [] G o.hd D8 ?_; intro fh9 oh9; refine ⟨by kernel_rfl, fun h9 tk9 D9 => ?_⟩
          refine end_again (c' := compC (gdW G).params 99 (valE (fstmt (gdW G).params 99 1)) it acc sc L []) (by kernel_rfl) (by kernel_rfl) (by kernel_rfl) ?_
          have D10 : Rep h₀ h9 F (cat [[n.info], [(it, ditO "dict_valueiterator" (.ref N) (dn.length + 1) (ents (dn ++ n :: rest)).size epn)], [(acc, listO ⟨(rs ++ [(n.k, n.kt)]).map iv⟩ (er + 1))], [(sc, dictO (scE s_i (some ((hS w₀.params s_i, tk1), .ref n.a))) 1)], [(N, dictO (ents (dn ++ n :: rest)) epn)], icells dn, icells rest, ρ]) := by rw [show (⟨(rs ++ [(n.k, n.kt)]).map iv⟩ : Array Value) = (⟨rs.map iv⟩ : Array Value).push (.int n.k n.kt) from by simp]; exact D9.eq (by kernel_rfl)
          have D11 := Rep.shuf _ [7, 7, 2, 7, 7, 7, 7, 7] D10
          refine l99 (N := N) (it := it) (acc := acc) (sc := sc) (L := L) (epn := epn) (ns := dn ++ n :: rest) o rest _ G (dn ++ [n]) (some ((hS w₀.params s_i, tk1), .ref n.a)) (rs ++ [(n.k, n.kt)]) (er + 1) h9 tk9 (by simp) ?_ ?_ ?_
          · try simp only [List.length_append, List.length_cons, List.length_nil]
            omega
          · rw [icells_mid, List.length_append]; exact D11
          · intro h' tk' rs' er' v' hr D'
            refine x h' tk' rs' er' v' ?_ D'
            rw [hr]; simp [rd0, pns, Nd.pn, h0]
        · rw [decide_eq_false h0]
          refine sg2L 1000 [] [] G o.hd D6 ?_; intro fh9 oh9; refine ⟨by kernel_rfl, fun h9 tk9 D9 => ?_⟩
          refine end_again (c' := compC (gdW G).params 99 (valE (fstmt (gdW G).params 99 1)) it acc sc L []) (by kernel_rfl) (by kernel_rfl) (by kernel_rfl) ?_
          let S10 : List Cells := [[n.info], [(it, ditO "dict_valueiterator" (.ref N) (dn.length + 1) (ents (dn ++ n :: rest)).size epn)], [(acc, listO ⟨(rs).map iv⟩ er)], [(sc, dictO (scE s_i (some ((hS w₀.params s_i, tk1), .ref n.a))) 1)], [(N, dictO (ents (dn ++ n :: rest)) epn)], icells dn, icells rest, ρ]; have D10 : Rep h₀ h9 F (cat S10) := D9.eq (by kernel_rfl)
          have D11 := Rep.shuf _ [7, 7, 2, 7, 7, 7, 7, 7] D10
          refine l99 (N := N) (it := it) (acc := acc) (sc := sc) (L := L) (epn := epn) (ns := dn ++ n :: rest) o rest _ G (dn ++ [n]) (some ((hS w₀.params s_i, tk1), .ref n.a)) (rs) er h9 tk9 (by simp) ?_ ?_ ?_
          · try simp only [List.length_append, List.length_cons, List.length_nil]
            omega
          · rw [icells_mid, List.length_append]; exact D11
          · intro h' tk' rs' er' v' hr D'
            refine x h' tk' rs' er' v' ?_ D'
            rw [hr]; simp [rd0, pns, Nd.pn, h0]
    · all_goals
        refine sg2L 1000 [.s 3, .s 3, .s 3, .s 0, .t, .t, .t, .e, .s 0, .t, .t, .t, .t, .t, .t, .t, .t, .e, .t, .e, .t, .t, .s 0, .t, .t, .t, .e, .t, .t, .s 0, .t, .s 0, .e] [] G o.hd D4 ?_; intro fh5 oh5; refine ⟨by kernel_rfl, fun h5 tk5 D5 => ?_⟩
        refine use_again (c' := .builtin "int.__eq__" ⟨[.int n.p n.pt, .int 0 (tk1 + 2)], []⟩) (by kernel_rfl) (by kernel_rfl) (by kernel_rfl) ?_
        refine c_eq G (by rw [arnd_hnd, o.hd]; kernel_rfl) D5 ?_
        intro h6 tk6 D6
        by_cases h0 : n.p = 0
        · rw [decide_eq_true h0]
          refine sg2L 1000 [.s 3, .s 0, .t, .t, .t, .e, .s 0, .t, .t, .t, .t, .t, .t, .t, .t, .e, .t, .e, .t, .t, .s 0, .t, .t, .t, .e, .t, .t, .s 0, .t, .s 0, .e, .s 2] [] G o.hd D6 ?_; intro fh7 oh7; refine ⟨by kernel_rfl, fun h7 tk7 D7 => ?_⟩
          refine u_append (l := acc) (items := ⟨rs.map iv⟩) (n := er) (v := .int n.k n.kt) D7 2 (by kernel_rfl) (line_of (n := rs.length) (by omega) (by simp)) (by kernel_rfl) (by kernel_rfl) fun h8 D8 => ?_
          refine sg2L 1000 [] [] G o.hd D8 ?_; intro fh9 oh9; refine ⟨by kernel_rfl, fun h9 tk9 D9 => ?_⟩
          refine end_again (c' := compC (gdW G).params 99 (valE (fstmt (gdW G).params 99 1)) it acc sc L []) (by kernel_rfl) (by kernel_rfl) (by kernel_rfl) ?_
          have D10 : Rep h₀ h9 F (cat [[n.info], [(it, ditO "dict_valueiterator" (.ref N) (dn.length + 1) (ents (dn ++ n :: rest)).size epn)], [(acc, listO ⟨(rs ++ [(n.k, n.kt)]).map iv⟩ (er + 1))], [(sc, dictO (scE s_i (some (q, .ref n.a))) 1)], [(N, dictO (ents (dn ++ n :: rest)) epn)], icells dn, icells rest, ρ]) := by rw [show (⟨(rs ++ [(n.k, n.kt)]).map iv⟩ : Array Value) = (⟨rs.map iv⟩ : Array Value).push (.int n.k n.kt) from by simp]; exact D9.eq (by kernel_rfl)
          have D11 := Rep.shuf _ [7, 7, 2, 7, 7, 7, 7, 7] D10
          refine l99 (N := N) (it := it) (acc := acc) (sc := sc) (L := L) (epn := epn) (ns := dn ++ n :: rest) o rest _ G (dn ++ [n]) (some (q, .ref n.a)) (rs ++ [(n.k, n.kt)]) (er + 1) h9 tk9 (by simp) ?_ ?_ ?_
          · try simp only [List.length_append, List.length_cons, List.length_nil]
            omega
          · rw [icells_mid, List.length_append]; exact D11
          · intro h' tk' rs' er' v' hr D'
            refine x h' tk' rs' er' v' ?_ D'
            rw [hr]; simp [rd0, pns, Nd.pn, h0]
        · rw [decide_eq_false h0]
          refine sg2L 1000 [] [] G o.hd D6 ?_; intro fh9 oh9; refine ⟨by kernel_rfl, fun h9 tk9 D9 => ?_⟩
          refine end_again (c' := compC (gdW G).params 99 (valE (fstmt (gdW G).params 99 1)) it acc sc L []) (by kernel_rfl) (by kernel_rfl) (by kernel_rfl) ?_
          let S10 : List Cells := [[n.info], [(it, ditO "dict_valueiterator" (.ref N) (dn.length + 1) (ents (dn ++ n :: rest)).size epn)], [(acc, listO ⟨(rs).map iv⟩ er)], [(sc, dictO (scE s_i (some (q, .ref n.a))) 1)], [(N, dictO (ents (dn ++ n :: rest)) epn)], icells dn, icells rest, ρ]; have D10 : Rep h₀ h9 F (cat S10) := D9.eq (by kernel_rfl)
          have D11 := Rep.shuf _ [7, 7, 2, 7, 7, 7, 7, 7] D10
          refine l99 (N := N) (it := it) (acc := acc) (sc := sc) (L := L) (epn := epn) (ns := dn ++ n :: rest) o rest _ G (dn ++ [n]) (some (q, .ref n.a)) (rs) er h9 tk9 (by simp) ?_ ?_ ?_
          · try simp only [List.length_append, List.length_cons, List.length_nil]
            omega
          · rw [icells_mid, List.length_append]; exact D11
          · intro h' tk' rs' er' v' hr D'
            refine x h' tk' rs' er' v' ?_ D'
            rw [hr]; simp [rd0, pns, Nd.pn, h0]
end Mine
end
section
open PySem PySem.W PySem.W.X PyProof.Rows
set_option Elab.async false
set_option maxRecDepth 100000
set_option maxHeartbeats 1000000
namespace Mine
variable {prog : Program} {w : World} {w₀ : World} {b1 b2 b3 : Bool} {A : Around} {R : Result → Shared → Prop} {h₀ h : Heap} {F : List Addr} {ρ σ : Cells} {g : Array GenState} {d : Drawn} {tk : Nat} {os : OsState}
theorem kind99 (P : Params) (L : Addr) : (fenv P 99 L).scope.kind ≠ .module := by
  have e : (fenv P 99 L).scope.kind = .function := by kernel_rfl
  rw [e]; decide
noncomputable def s_cyc : Str := ⟨#[110, 111, 100, 101, 115, 32, 97, 114, 101, 32, 105, 110, 32, 97, 32, 99, 121, 99, 108, 101]⟩
/-- an exception leaves a function -/
noncomputable def lvΦ (E : Value) (m : Sem Unit) : Sem Fin :=
  PySem.W.R.bindR (PySem.W.R.bindR (PySem.W.R.bindR m (fun _ => ZFast.zw5670386056902412789 E none)) (fun _ => (Sem.raise E : Sem Flow)))
    (fun f => match f with | .ret v => Sem.pure (.done (.ret v)) | _ => Sem.pure (.done (.ret .none)))
theorem lvΦ_lay (E : Value) : LayT (lvΦ E) := ((LayT.hole _).bind _).bind _
noncomputable abbrev cycO (E0 tb : Addr) : Obj := fldO (.ref 62) #[.ref E0, .ref tb, .none, .none, .bool false, .none]
theorem s99 {N L it acc sc : Addr} {epn : Nat} {ns : List Nd} (o : Ok A 3) (G : Gd (wF b1 b2 b3 w₀) h₀) (hz : ns.length ≤ 1000)
    (D : Rep h₀ h F ((it, ditO "dict_valueiterator" (.ref N) 0 (ents ns).size epn) :: (acc, listO #[] 0) :: (sc, dictO #[] 0) :: (N, dictO (ents ns) epn) :: (icells ns ++ ρ)))
    (x : ∀ h' tk' (rs' : List IT) er' v', rs'.map (·.1) = rd0 (pns ns) → Rep h₀ h' F ((acc, listO ⟨rs'.map iv⟩ er') :: (sc, dictO (scE s_i v') (scN v')) :: (N, dictO (ents ns) epn) :: (icells ns ++ ρ)) → R (.ok .next) ⟨h', g, d, tk', os⟩) :
    codeAny (model prog (wF b1 b2 b3 w₀)) A (compS (wF b1 b2 b3 w₀).params 99 (valE (fstmt (wF b1 b2 b3 w₀).params 99 1)) it acc sc L []) R ⟨h, g, d, tk, os⟩ := by
  refine code_start ?_
  cases b2
  · all_goals
     refine sg2L 1000 [.s 0, .s 0, .e, .s 0, .e, .s 0] [] G o.hd D ?_; intro fh5 oh5; refine ⟨by kernel_rfl, fun h5 tk5 D5 => ?_⟩
     refine end_again (c' := compC (gdW G).params 99 (valE (fstmt (gdW G).params 99 1)) it acc sc L []) (by kernel_rfl) (by kernel_rfl) (by kernel_rfl) ?_
     exact l99 (N := N) (L := L) (it := it) (acc := acc) (sc := sc) (epn := epn) (ns := ns) o ns _ G [] none [] 0 h5 tk5 rfl (by simpa using hz) (D5.eq (by kernel_rfl)) (by simpa using x)
  · all_goals
     refine sg2L 1000 [] [] G o.hd D ?_; intro fh5 oh5; refine ⟨by kernel_rfl, fun h5 tk5 D5 => ?_⟩
     refine end_again (c' := compC (gdW G).params 99 (valE (fstmt (gdW G).params 99 1)) it acc sc L []) (by kernel_rfl) (by kernel_rfl) (by kernel_rfl) ?_
     exact l99 (N := N) (L := L) (it := it) (acc := acc) (sc := sc) (epn := epn) (ns := ns) o ns _ G [] none [] 0 h5 tk5 rfl (by simpa using hz) (D5.eq (by kernel_rfl)) (by simpa using x)
theorem c99 {S Dd N : Addr} {a : SA} {np nf : Value} {epn fuel : Nat} {ns : List Nd} {outer : List Env} {frs : Cells} {b : Bool} (G : Gd (wF b1 b2 b3 w₀) h₀) (o : Ok A 10) (hfr : A.frames = some outer) (hF : FrOk outer frs) (hz : ns.length ≤ 1000) (hm : fcP (pns ns) fuel (ns.map (·.k)) [] = some b)
    (D : Rep h₀ h F (sC S Dd a N .none np nf (ents ns) epn (icells ns ++ (lcells ns ++ (frs ++ ρ)))))
    (xe : b = true → ∀ h' tk' frs' Rl (rs : List IT) er E E0 tb L c0 c1 c2 c3 c4 c5, rs.map (·.1) = rd0 (pns ns) → FrSame frs frs' → Rep h₀ h' F ((tb, tbO .none L .none c0 c1 c2 c3 c4 c5) :: (E, cycO E0 tb) :: sC S Dd a N (.ref Rl) np nf (ents ns) epn ((Rl, listO ⟨rs.map iv⟩ er) :: (icells ns ++ (lcells ns ++ (frs' ++ ρ))))) → R (.error (.ref E)) ⟨h', g, d, tk', os⟩)
    (xn : b = false → ∀ h' tk' frs' Rl (rs : List IT) er, rs.map (·.1) = rd0 (pns ns) → FrSame frs frs' → Rep h₀ h' F (sC S Dd a N (.ref Rl) np nf (ents ns) epn ((Rl, listO ⟨rs.map iv⟩ er) :: (icells ns ++ (lcells ns ++ (frs' ++ ρ))))) → R (.ok (.ret .none)) ⟨h', g, d, tk', os⟩) :
    codeAny (model prog (wF b1 b2 b3 w₀)) A (.call (.ref 99) ⟨[.ref S], []⟩) R ⟨h, g, d, tk, os⟩ := by
  all_goals
    refine code_start ?_
    refine sg2L 1000 [.t, .t, .s 0, .s 0] [] G o.hd D ?_; intro fh1 oh1; refine ⟨by kernel_rfl, fun h1 tk1 D1 => ?_⟩
    refine enter (c2 := fcode w₀.params 99 h.objs.size) (by kernel_rfl) (by kernel_rfl) (D1.gd G).lim (o.room (by kernel_rfl)) ?_
    refine sg2L 1000 [.s 0, .s 1, .t, .t, .t, .e, .s 1, .t, .t, .t, .s 1, .s 1, .t, .s 2, .s 0, .s 1, .t, .t, .t, .e, .s 1, .t, .t, .t, .s 1, .s 1, .t, .s 2, .s 3, .s 3, .s 3, .s 3, .e, .s 3] [] G o.hd D1 ?_; intro fh2 oh2; refine ⟨by kernel_rfl, fun h2 tk2 D2 => ?_⟩
    refine u_dvalues D2 3 (N := N) (es := ents ns) (ep := epn) (by kernel_rfl) (by kernel_rfl) (by kernel_rfl) fun h2v v D2v => ?_
    refine sg2L 1000 [.s 0, .s 0, .e, .s 0] [] G o.hd D2v ?_; intro fh3 oh3; refine ⟨by kernel_rfl, fun h3 tk3 D3 => ?_⟩
    refine u_viter D3 0 (v := v) (N := N) (by kernel_rfl) 4 (es := ents ns) (ep := epn) (by kernel_rfl) (by kernel_rfl) (by kernel_rfl) fun h3v it D3v => ?_
    refine sg2L 1000 [.s 0] [] G o.hd D3v ?_; intro fh4 oh4; refine ⟨by kernel_rfl, fun h4 tk4 D4 => ?_⟩
    refine use_call (c' := compS (gdW G).params 99 (valE (fstmt (gdW G).params 99 1)) it h3v.objs.size (h3v.objs.size + 1) h.objs.size []) (hd := none) (by kernel_rfl) rfl ?_
    let S6 : List Cells := [[(h3v.objs.size + 1, dictO #[] 0)], [(h3v.objs.size, listO #[] 0)], [(it, ditO "dict_valueiterator" (.ref N) 0 (ents ns).size epn)], [(v, fieldsO "dict_values" #[.ref N])], [(h.objs.size, frF #[fe (hS w₀.params s_self, tk) s_self (.ref S)] 1 #[])], [(S, instO 144 Dd)], [(Dd, dictO (attrs a N .none np nf) 4)], [(N, dictO (ents ns) epn)], icells ns, lcells ns, frs, ρ]; have D6 : Rep h₀ h4 F (cat S6) := D4.eq (by kernel_rfl)
    have D7 := Rep.shuf _ [11, 11, 11, 9, 9, 9, 9, 11, 11, 9, 10, 11] D6
    refine s99 (N := N) (L := h.objs.size) (it := it) (acc := h3v.objs.size) (sc := h3v.objs.size + 1) (epn := epn) (ns := ns) (o.call (by kernel_rfl) (by kernel_rfl)) G hz D7 ?_
    intro h8 tk8 rs er v' hr D8
    let S9 : List Cells := [[(h3v.objs.size, listO ⟨rs.map iv⟩ er)], [(h3v.objs.size + 1, dictO (scE s_i v') (scN v'))], [(N, dictO (ents ns) epn)], icells ns, [(v, fieldsO "dict_values" #[.ref N])], [(h.objs.size, frF #[fe (hS w₀.params s_self, tk) s_self (.ref S)] 1 #[])], [(S, instO 144 Dd)], [(Dd, dictO (attrs a N .none np nf) 4)], lcells ns, frs, ρ]; have D9 : Rep h₀ h8 F (cat S9) := D8.eq (by kernel_rfl)
    have D10 := Rep.shuf _ [10, 5, 10, 10, 7, 7, 10, 10, 10, 10, 10] D9
    have hr' : rs.map (·.1) = rd0 (pns ns) := hr
    rcases v' with _ | ⟨qv, vv⟩
    · refine sg2L 1000 [.s 1, .s 2, .s 3, .t, .t, .t, .e, .s 3, .t, .e, .s 3, .t, .s 3, .t, .t, .t, .s 3, .t, .s 4, .s 4, .s 4, .s 2, .s 3, .t, .t, .t, .s 3, .t, .t, .t, .s 3, .t, .t, .t, .t, .s 3, .s 4, .t] [] G o.hd D10 ?_; intro fh11 oh11; refine ⟨by kernel_rfl, fun h11 tk11 D11 => ?_⟩
      refine use_call (c' := .call (.ref 134) ⟨[.ref S], []⟩) (hd := none) (by kernel_rfl) rfl ?_
      let S12 : List Cells := [[(h3v.objs.size, listO ⟨rs.map iv⟩ er)], [(h3v.objs.size + 1, dictO #[] 0)], [(h.objs.size, frF #[fe (hS w₀.params s_self, tk) s_self (.ref S)] 1 #[])], [(S, instO 144 Dd)], [(Dd, dictO (attrs a N (.ref h3v.objs.size) np nf) 4)], [(N, dictO (ents ns) epn)], icells ns, lcells ns, frs, [(v, fieldsO "dict_values" #[.ref N])], ρ]; have D12 : Rep h₀ h11 F (cat S12) := D11.eq (by kernel_rfl)
      have D13 := Rep.shuf _ [10, 10, 3, 3, 10, 5, 10, 10, 10, 10, 10] D12
      refine c134 (S := S) (Dd := Dd) (N := N) (a := a) (r := .ref h3v.objs.size) (np := np) (nf := nf) (epn := epn) (fuel := fuel) (ns := ns) (outer := fenv (gdW G).params 99 h.objs.size :: outer) (frs := (h.objs.size, frF #[fe (hS w₀.params s_self, tk) s_self (.ref S)] 1 #[]) :: frs) (ρ := (h3v.objs.size, listO ⟨rs.map iv⟩ er) :: (h3v.objs.size + 1, dictO #[] 0) :: (v, fieldsO "dict_values" #[.ref N]) :: ρ) G (o.call (by kernel_rfl) (by kernel_rfl)) (frames_fn hfr (by kernel_rfl)) ⟨kind99 _ _, by kernel_rfl, (fun vs hv => by cases hv), hF⟩ hm (D13.eq (by kernel_rfl)) ?_ ?_
      · intro hb h14 tk14 frs14 T items e14 hpos hs D14
        cases hs with
        | cons _ _ sl hs =>
        rename_i frs15
        obtain ⟨items⟩ := items
        rcases items with _ | ⟨i0, items⟩
        · exact absurd hpos.1 (by simp)
        let S15 : List Cells := [[(T, listO ⟨i0 :: items⟩ e14)], [(S, instO 144 Dd)], [(Dd, dictO (attrs a N (.ref h3v.objs.size) np nf) 4)], [(N, dictO (ents ns) epn)], icells ns, lcells ns, [(h.objs.size, frF #[fe (hS w₀.params s_self, tk) s_self (.ref S)] 1 sl)], frs15, [(h3v.objs.size, listO ⟨rs.map iv⟩ er)], [(h3v.objs.size + 1, dictO #[] 0)], [(v, fieldsO "dict_values" #[.ref N])], ρ]; have D15 : Rep h₀ h14 F (cat S15) := D14.eq (by kernel_rfl)
        have D16 := Rep.shuf _ [10, 10, 11, 10, 9, 9, 11, 10, 10, 10, 11, 11] D15
        refine sg2L 1000 [.s 1, .s 1, .s 1, .s 0, .s 0] [] G o.hd D16 ?_; intro fh17 oh17; refine ⟨by kernel_rfl, fun h17 tk17 D17 => ?_⟩
        refine use_call (c' := .builtin "len" ⟨[.ref T], []⟩) (hd := none) (by kernel_rfl) rfl ?_
        refine c_lenL D17 0 (l := T) (items := ⟨i0 :: items⟩) (n := e14) (by kernel_rfl) hpos.2 ?_
        refine sgS2L 1000 [.t, .s 1, .t, .t, .e, .t, .t, .e, .t, .e, .t, .t, .t, .e, .t, .t, .t, .t, .t, .t, .t, .e, .t, .t, .t, .t, .t, .t, .t, .t, .t, .t, .s 0, .t, .s 0, .t, .t, .t, .e, .s 0, .t, .s 0, .t, .e, .s 1, .s 1, .s 1, .s 1, .s 1, .t, .s 1, .s 1, .t, .s 1] [] G o.hd D17 ?_; intro y fh18 oh18; refine ⟨by kernel_rfl, fun h18 tk18 D18 => ?_⟩
        let S19 : List Cells := [[(h17.objs.size + 2, tupO #[.str s_cyc (tk17 + 2 + 0), .ref T] 0)], [(h17.objs.size + 1, fldO (.ref 62) #[.ref (h17.objs.size + 2), .none, .none, .none, .bool false, .none])], [(h17.objs.size, tupO #[.str s_cyc (tk17 + 2 + 0), .ref T] 0)], [(T, listO ⟨i0 :: items⟩ e14)], [(h.objs.size, frF #[fe (hS w₀.params s_self, tk) s_self (.ref S), fe (hS w₀.params s_cycle, tk14) s_cycle (.ref T)] 2 sl)], [(S, instO 144 Dd)], [(Dd, dictO (attrs a N (.ref h3v.objs.size) np nf) 4)], [(N, dictO (ents ns) epn)], [(h3v.objs.size, listO ⟨rs.map iv⟩ er)], icells ns, lcells ns, frs15, ρ, [(h3v.objs.size + 1, dictO #[] 0)], [(v, fieldsO "dict_values" #[.ref N])]]; have D19 : Rep h₀ h18 F (cat S19) := D18.eq (by kernel_rfl)
        have D20 := Rep.shuf _ [14, 14, 5, 5, 4, 14, 13, 13, 13, 13, 13, 13, 14, 14, 14] D19
        refine note_new (frs := (h.objs.size, frF #[fe (hS w₀.params s_self, tk) s_self (.ref S), fe (hS w₀.params s_cycle, tk14) s_cycle (.ref T)] 2 sl) :: frs15) (L := h.objs.size) (outer := outer) (lvΦ_lay (.ref (h17.objs.size + 1))) (env := fenv (gdW G).params 99 h.objs.size) (by kernel_rfl) (frames_fn hfr (by kernel_rfl)) (by kernel_rfl) ⟨kind99 _ _, by kernel_rfl, (fun vs hv => by cases hv), hF.same hs⟩ D20 fun h21 frs21 tb c0 c1 c2 c3 c4 c5 hs21 D21 => ?_
        cases hs21 with
        | cons _ _ sl21 hs21 =>
        rename_i frs22
        refine sg2L 1000 [.s 1, .s 0, .s 0] [] G o.hd D21 ?_; intro fh23 oh23; refine ⟨by kernel_rfl, fun h23 tk23 D23 => ?_⟩
        refine end_raise (e := .ref (h17.objs.size + 1)) (by kernel_rfl) (by kernel_rfl) ?_
        let S24 : List Cells := [[(tb, tbO .none h.objs.size .none c0 c1 c2 c3 c4 c5)], [(h17.objs.size + 1, cycO (h17.objs.size + 2) tb)], [(h.objs.size, frF #[fe (hS w₀.params s_self, tk) s_self (.ref S), fe (hS w₀.params s_cycle, tk14) s_cycle (.ref T)] 2 sl21)], frs22, [(S, instO 144 Dd)], [(Dd, dictO (attrs a N (.ref h3v.objs.size) np nf) 4)], [(N, dictO (ents ns) epn)], [(h3v.objs.size, listO ⟨rs.map iv⟩ er)], icells ns, lcells ns, ρ, [(h17.objs.size + 2, tupO #[.str s_cyc (tk17 + 2 + 0), .ref T] 0)], [(h17.objs.size, tupO #[.str s_cyc (tk17 + 2 + 0), .ref T] 0)], [(T, listO ⟨i0 :: items⟩ e14)], [(h3v.objs.size + 1, dictO #[] 0)], [(v, fieldsO "dict_values" #[.ref N])]]; have D24 : Rep h₀ h23 F (cat S24) := D23.eq (by kernel_rfl)
        have D25 := Rep.shuf _ [10, 4, 10, 10, 10, 10, 10, 10, 9, 9, 15, 15, 15, 15, 15, 15] D24
        exact xe hb h23 tk23 frs22 h3v.objs.size rs er (h17.objs.size + 1) (h17.objs.size + 2) tb h.objs.size c0 c1 c2 c3 c4 c5 hr' (hs.trans hs21) (D25.mask [false, false, false, false, false, false])
      · intro hb h14 tk14 frs14 hs D14
        cases hs with
        | cons _ _ sl hs =>
        rename_i frs15
        let S15 : List Cells := [[(S, instO 144 Dd)], [(Dd, dictO (attrs a N (.ref h3v.objs.size) np nf) 4)], [(N, dictO (ents ns) epn)], icells ns, lcells ns, [(h.objs.size, frF #[fe (hS w₀.params s_self, tk) s_self (.ref S)] 1 sl)], frs15, [(h3v.objs.size, listO ⟨rs.map iv⟩ er)], [(h3v.objs.size + 1, dictO #[] 0)], [(v, fieldsO "dict_values" #[.ref N])], ρ]; have D15 : Rep h₀ h14 F (cat S15) := D14.eq (by kernel_rfl)
        have D16 := Rep.shuf _ [10, 7, 6, 6, 8, 7, 7, 7, 10, 10, 10] D15
        refine sg2L 1000 [.s 0, .s 0, .s 0] [false, false, false] G o.hd D16 ?_; intro fh17 oh17; refine ⟨by kernel_rfl, fun h17 tk17 D17 => ?_⟩
        refine end_done (f := .ret .none) (by kernel_rfl) (by kernel_rfl) ?_
        exact xn hb h17 tk17 frs15 h3v.objs.size rs er hr' hs (D17.eq (by kernel_rfl))
    · refine sg2L 1000 [.s 1, .s 1, .s 1, .s 2, .s 3, .t, .t, .t, .e, .s 3, .t, .e, .s 3, .t, .s 3, .t, .t, .t, .s 3, .t, .s 4, .s 4, .s 4, .s 2, .s 3, .t, .t, .t, .s 3, .t, .t, .t, .s 3, .t, .t, .t, .t, .s 3, .s 4, .t] [] G o.hd D10 ?_; intro fh11 oh11; refine ⟨by kernel_rfl, fun h11 tk11 D11 => ?_⟩
      refine use_call (c' := .call (.ref 134) ⟨[.ref S], []⟩) (hd := none) (by kernel_rfl) rfl ?_
      let S12 : List Cells := [[(h3v.objs.size, listO ⟨rs.map iv⟩ er)], [(h3v.objs.size + 1, dictO #[] 2)], [(h.objs.size, frF #[fe (hS w₀.params s_self, tk) s_self (.ref S)] 1 #[])], [(S, instO 144 Dd)], [(Dd, dictO (attrs a N (.ref h3v.objs.size) np nf) 4)], [(N, dictO (ents ns) epn)], icells ns, lcells ns, frs, [(v, fieldsO "dict_values" #[.ref N])], ρ]; have D12 : Rep h₀ h11 F (cat S12) := D11.eq (by kernel_rfl)
      have D13 := Rep.shuf _ [10, 10, 3, 3, 10, 5, 10, 10, 10, 10, 10] D12
      refine c134 (S := S) (Dd := Dd) (N := N) (a := a) (r := .ref h3v.objs.size) (np := np) (nf := nf) (epn := epn) (fuel := fuel) (ns := ns) (outer := fenv (gdW G).params 99 h.objs.size :: outer) (frs := (h.objs.size, frF #[fe (hS w₀.params s_self, tk) s_self (.ref S)] 1 #[]) :: frs) (ρ := (h3v.objs.size, listO ⟨rs.map iv⟩ er) :: (h3v.objs.size + 1, dictO #[] 2) :: (v, fieldsO "dict_values" #[.ref N]) :: ρ) G (o.call (by kernel_rfl) (by kernel_rfl)) (frames_fn hfr (by kernel_rfl)) ⟨kind99 _ _, by kernel_rfl, (fun vs hv => by cases hv), hF⟩ hm (D13.eq (by kernel_rfl)) ?_ ?_
      · intro hb h14 tk14 frs14 T items e14 hpos hs D14
        cases hs with
        | cons _ _ sl hs =>
        rename_i frs15
        obtain ⟨items⟩ := items
        rcases items with _ | ⟨i0, items⟩
        · exact absurd hpos.1 (by simp)
        let S15 : List Cells := [[(T, listO ⟨i0 :: items⟩ e14)], [(S, instO 144 Dd)], [(Dd, dictO (attrs a N (.ref h3v.objs.size) np nf) 4)], [(N, dictO (ents ns) epn)], icells ns, lcells ns, [(h.objs.size, frF #[fe (hS w₀.params s_self, tk) s_self (.ref S)] 1 sl)], frs15, [(h3v.objs.size, listO ⟨rs.map iv⟩ er)], [(h3v.objs.size + 1, dictO #[] 2)], [(v, fieldsO "dict_values" #[.ref N])], ρ]; have D15 : Rep h₀ h14 F (cat S15) := D14.eq (by kernel_rfl)
        have D16 := Rep.shuf _ [10, 10, 11, 10, 9, 9, 11, 10, 10, 10, 11, 11] D15
        refine sg2L 1000 [.s 1, .s 1, .s 1, .s 0, .s 0] [] G o.hd D16 ?_; intro fh17 oh17; refine ⟨by kernel_rfl, fun h17 tk17 D17 => ?_⟩
        refine use_call (c' := .builtin "len" ⟨[.ref T], []⟩) (hd := none) (by kernel_rfl) rfl ?_
        refine c_lenL D17 0 (l := T) (items := ⟨i0 :: items⟩) (n := e14) (by kernel_rfl) hpos.2 ?_
        refine sgS2L 1000 [.t, .s 1, .t, .t, .e, .t, .t, .e, .t, .e, .t, .t, .t, .e, .t, .t, .t, .t, .t, .t, .t, .e, .t, .t, .t, .t, .t, .t, .t, .t, .t, .t, .s 0, .t, .s 0, .t, .t, .t, .e, .s 0, .t, .s 0, .t, .e, .s 1, .s 1, .s 1, .s 1, .s 1, .t, .s 1, .s 1, .t, .s 1] [] G o.hd D17 ?_; intro y fh18 oh18; refine ⟨by kernel_rfl, fun h18 tk18 D18 => ?_⟩
        let S19 : List Cells := [[(h17.objs.size + 2, tupO #[.str s_cyc (tk17 + 2 + 0), .ref T] 0)], [(h17.objs.size + 1, fldO (.ref 62) #[.ref (h17.objs.size + 2), .none, .none, .none, .bool false, .none])], [(h17.objs.size, tupO #[.str s_cyc (tk17 + 2 + 0), .ref T] 0)], [(T, listO ⟨i0 :: items⟩ e14)], [(h.objs.size, frF #[fe (hS w₀.params s_self, tk) s_self (.ref S), fe (hS w₀.params s_cycle, tk14) s_cycle (.ref T)] 2 sl)], [(S, instO 144 Dd)], [(Dd, dictO (attrs a N (.ref h3v.objs.size) np nf) 4)], [(N, dictO (ents ns) epn)], [(h3v.objs.size, listO ⟨rs.map iv⟩ er)], icells ns, lcells ns, frs15, ρ, [(h3v.objs.size + 1, dictO #[] 2)], [(v, fieldsO "dict_values" #[.ref N])]]; have D19 : Rep h₀ h18 F (cat S19) := D18.eq (by kernel_rfl)
        have D20 := Rep.shuf _ [14, 14, 5, 5, 4, 14, 13, 13, 13, 13, 13, 13, 14, 14, 14] D19
        refine note_new (frs := (h.objs.size, frF #[fe (hS w₀.params s_self, tk) s_self (.ref S), fe (hS w₀.params s_cycle, tk14) s_cycle (.ref T)] 2 sl) :: frs15) (L := h.objs.size) (outer := outer) (lvΦ_lay (.ref (h17.objs.size + 1))) (env := fenv (gdW G).params 99 h.objs.size) (by kernel_rfl) (frames_fn hfr (by kernel_rfl)) (by kernel_rfl) ⟨kind99 _ _, by kernel_rfl, (fun vs hv => by cases hv), hF.same hs⟩ D20 fun h21 frs21 tb c0 c1 c2 c3 c4 c5 hs21 D21 => ?_
        cases hs21 with
        | cons _ _ sl21 hs21 =>
        rename_i frs22
        refine sg2L 1000 [.s 1, .s 0, .s 0] [] G o.hd D21 ?_; intro fh23 oh23; refine ⟨by kernel_rfl, fun h23 tk23 D23 => ?_⟩
        refine end_raise (e := .ref (h17.objs.size + 1)) (by kernel_rfl) (by kernel_rfl) ?_
        let S24 : List Cells := [[(tb, tbO .none h.objs.size .none c0 c1 c2 c3 c4 c5)], [(h17.objs.size + 1, cycO (h17.objs.size + 2) tb)], [(h.objs.size, frF #[fe (hS w₀.params s_self, tk) s_self (.ref S), fe (hS w₀.params s_cycle, tk14) s_cycle (.ref T)] 2 sl21)], frs22, [(S, instO 144 Dd)], [(Dd, dictO (attrs a N (.ref h3v.objs.size) np nf) 4)], [(N, dictO (ents ns) epn)], [(h3v.objs.size, listO ⟨rs.map iv⟩ er)], icells ns, lcells ns, ρ, [(h17.objs.size + 2, tupO #[.str s_cyc (tk17 + 2 + 0), .ref T] 0)], [(h17.objs.size, tupO #[.str s_cyc (tk17 + 2 + 0), .ref T] 0)], [(T, listO ⟨i0 :: items⟩ e14)], [(h3v.objs.size + 1, dictO #[] 2)], [(v, fieldsO "dict_values" #[.ref N])]]; have D24 : Rep h₀ h23 F (cat S24) := D23.eq (by kernel_rfl)
        have D25 := Rep.shuf _ [10, 4, 10, 10, 10, 10, 10, 10, 9, 9, 15, 15, 15, 15, 15, 15] D24
        exact xe hb h23 tk23 frs22 h3v.objs.size rs er (h17.objs.size + 1) (h17.objs.size + 2) tb h.objs.size c0 c1 c2 c3 c4 c5 hr' (hs.trans hs21) (D25.mask [false, false, false, false, false, false])
      · intro hb h14 tk14 frs14 hs D14
        cases hs with
        | cons _ _ sl hs =>
        rename_i frs15
        let S15 : List Cells := [[(S, instO 144 Dd)], [(Dd, dictO (attrs a N (.ref h3v.objs.size) np nf) 4)], [(N, dictO (ents ns) epn)], icells ns, lcells ns, [(h.objs.size, frF #[fe (hS w₀.params s_self, tk) s_self (.ref S)] 1 sl)], frs15, [(h3v.objs.size, listO ⟨rs.map iv⟩ er)], [(h3v.objs.size + 1, dictO #[] 2)], [(v, fieldsO "dict_values" #[.ref N])], ρ]; have D15 : Rep h₀ h14 F (cat S15) := D14.eq (by kernel_rfl)
        have D16 := Rep.shuf _ [10, 7, 6, 6, 8, 7, 7, 7, 10, 10, 10] D15
        refine sg2L 1000 [.s 0, .s 0, .s 0] [false, false, false] G o.hd D16 ?_; intro fh17 oh17; refine ⟨by kernel_rfl, fun h17 tk17 D17 => ?_⟩
        refine end_done (f := .ret .none) (by kernel_rfl) (by kernel_rfl) ?_
        exact xn hb h17 tk17 frs15 h3v.objs.size rs er hr' hs (D17.eq (by kernel_rfl))
end Mine
end
section
open PySem PySem.W PySem.W.X PyProof.Rows
set_option Elab.async false
set_option maxRecDepth 100000
set_option maxHeartbeats 1000000
namespace Mine
variable {prog : Program} {w : World} {w₀ : World} {b1 b2 b3 : Bool} {A : Around} {R : Result → Shared → Prop} {h₀ h : Heap} {F : List Addr} {ρ σ : Cells} {g : Array GenState} {d : Drawn} {tk : Nat} {os : OsState}
theorem c80 {S Dd : Addr} (G : Gd w h₀) (o : Ok A 1)
    (D : Rep h₀ h F ((S, instO 144 Dd) :: (Dd, dictO #[] 0) :: ρ))
    (x : ∀ h' tk' a N t1 t2, Rep h₀ h' F (sC S Dd a N .none (.int 0 t1) (.int 0 t2) #[] 0 ρ) → R (.ok (.ret .none)) ⟨h', g, d, tk', os⟩) :
    codeAny (model prog w) A (.call (.ref 80) ⟨[.ref S], []⟩) R ⟨h, g, d, tk, os⟩ := by
  refine code_start ?_
  refine sgL 1000 [.t, .t, .t, .s 0, .s 0, .s 0, .s 0] [] G o.hd D ?_; intro oh1; refine ⟨by kernel_rfl, fun h1 tk1 D1 => ?_⟩
  refine enter (c2 := fcode w.params 80 h.objs.size) (by kernel_rfl) (by kernel_rfl) (D1.gd G).lim (o.room (by kernel_rfl)) ?_
  refine sgL 1000 [.s 1, .s 2, .t, .t, .t, .e, .s 2, .t, .e, .s 2, .t, .s 2, .t, .t, .t, .s 2, .t, .s 3, .s 3, .s 3, .s 1, .s 2, .t, .t, .t, .e, .s 2, .t, .e, .s 2, .t, .s 2, .t, .t, .t, .s 2, .t, .s 3, .s 3, .s 3, .s 1, .s 2, .t, .t, .t, .e, .s 2, .t, .e, .s 2, .t, .s 2, .t, .t, .t, .s 2, .t, .s 3, .s 3, .s 3, .s 1, .s 2, .t, .t, .t, .e, .s 2, .t, .e, .s 2, .t, .s 2, .t, .t, .t, .s 2, .t, .s 3, .s 3, .s 3, .s 1] [] G o.hd D1 ?_; intro oh2; refine ⟨by kernel_rfl, fun h2 tk2 D2 => ?_⟩
  let S3 : List Cells := [[(h1.objs.size, dictO #[] 0)], [(h.objs.size, frameO #[fe (hS w.params s_self, tk) s_self (.ref S), fe (hS w.params s_graph, tk + 1) s_graph .none] 2)], [(S, instO 144 Dd)], [(Dd, dictO (attrs ⟨hS w.params s_node2info, hS w.params s_ready, hS w.params s_npassed, hS w.params s_nfin, tk1 + 1, tk1 + 3, tk1 + 6, tk1 + 9⟩ h1.objs.size .none (.int 0 (tk1 + 4)) (.int 0 (tk1 + 7))) 4)], ρ]; have D3 : Rep h₀ h2 F (cat S3) := D2.eq (by kernel_rfl)
  have D4 := (Rep.shuf _ [4, 1, 4, 4, 4] D3).mask [false]
  exact end_done (f := .ret .none) (by kernel_rfl) (by kernel_rfl) (x h2 tk2 _ _ _ _ D4)
end Mine
end
section
open PySem PySem.W PySem.W.X PyProof.Rows
set_option Elab.async false
set_option maxRecDepth 100000
set_option maxHeartbeats 1000000
namespace Mine
section
variable {prog : Program} {w : World} {A : Around} {R : Result → Shared → Prop} {h₀ h : Heap} {F : List Addr} {σ : Cells} {g : Array GenState} {d : Drawn} {tk : Nat} {os : OsState} {c : Code} {κ : Kn} {t : Sem Fin}
theorem mapSeq_new (items : Array Value) : ∃ n', Obj.mapSeq (fun x => x ++ items) (listO #[] 0) = listO items n' := by
  obtain ⟨n', e⟩ := mapSeq_any (fun x => x ++ items) #[] 0
  exact ⟨n', by rw [e, Array.empty_append]⟩
theorem u_iadd (D : Rep h₀ h F σ) (j : Nat) {l b : Addr} {items2 : Array Value} {n2 : Nat} (hj : nth σ j = some (l, listO #[] 0)) (jb : Nat) (hb : nth σ jb = some (b, listO items2 n2)) (hz : items2.size ≤ sizeLine) (hc : againOf t = some (.builtin "list.__iadd__" ⟨[.ref l, .ref b], []⟩)) (hr : isRet κ = true)
    (x : ∀ h' n', Rep h₀ h' F (setNth σ j (l, listO items2 n')) → Mn prog w A R (kc κ) (kr κ) (kk κ (.ok (.ret (.ref l)))) ⟨h', g, d, tk, os⟩) : Mn prog w A R c κ t ⟨h, g, d, tk, os⟩ := by
  refine use_bi e_list_iadd p_list_iadd (PySem.AutoSeq1.list___iadd___list_list_0 l #[] 0 b items2 n2 (by simp) (by simp) (by simp only [Array.size_empty]; omega)) hc hr ⟨D.cell j hj, D.cell jb hb, ?_⟩
  obtain ⟨n', e⟩ := mapSeq_new items2
  have z := D.update (f := Obj.mapSeq fun x => x ++ items2) hj rfl
  rw [e] at z
  exact x _ n' z
end
end Mine
end
section
open PySem PySem.W PySem.W.X PyProof.Rows
set_option Elab.async false
set_option maxRecDepth 100000
set_option maxHeartbeats 1000000
namespace Mine
variable {prog : Program} {w : World} {w₀ : World} {b1 b2 b3 : Bool} {A : Around} {R : Result → Shared → Prop} {h₀ h : Heap} {F : List Addr} {ρ σ : Cells} {g : Array GenState} {d : Drawn} {tk : Nat} {os : OsState}
noncomputable def kdepA : Kn → Nat
  | .base => 0
  | .ret c _ _ κ => kdep κ c
theorem Ok.ret {A : Around} {n m : Nat} {κ : Kn} (o : Ok A n) (h1 : hnd none κ = none) (h2 : Nat.ble (kdepA κ + m) n = true) : Ok (arnd A κ) m := by
  refine ⟨?_, ?_⟩
  · rw [arnd_hnd, o.hd, h1]
  · have hb := Nat.le_of_ble_eq_true h2
    have := o.dp
    cases κ with
    | base => show A.depth + m < recursionLimit; simp only [kdepA] at hb; omega
    | ret c hd k κ =>
      show ((arnd A κ).under c).depth + m < recursionLimit
      rw [arnd_depth]
      simp only [kdepA] at hb
      omega
/-- a row of needs as it lies in the heap -/
structure Rw where
  a : Addr
  k : IT
  q : Option IT
  e : Nat
noncomputable def Rw.p (r : Rw) : Int × Option Int := (r.k.1, r.q.map (·.1))
noncomputable def rwI : Rw → Array Value
  | ⟨_, k, none, _⟩ => #[iv k]
  | ⟨_, k, some q, _⟩ => #[iv k, iv q]
noncomputable def rwV (r : Rw) : Value := .ref r.a
noncomputable def rcells (rs : List Rw) : Cells := rs.map fun r => (r.a, listO (rwI r) r.e)
noncomputable def adds : List (Int × Option Int) → List PN → Option (List PN)
  | [], ps => some ps
  | r :: rs, ps => if ps.length ≤ 900 ∧ (ps.all fun n => decide (n.su.length ≤ 900)) = true then adds rs (addM ps r.1 r.2) else none
theorem adds_cons {r : Int × Option Int} {rs : List (Int × Option Int)} {ns : List Nd} {ps' : List PN} (h : adds (r :: rs) (pns ns) = some ps') : (ns.length ≤ 900 ∧ ∀ m ∈ ns, m.su.length ≤ 900) ∧ adds rs (addM (pns ns) r.1 r.2) = some ps' := by
  unfold adds at h
  split at h
  · rename_i hc
    refine ⟨⟨by simpa [pns] using hc.1, fun m hm => ?_⟩, h⟩
    have := List.all_eq_true.mp hc.2 m.pn (List.mem_map.mpr ⟨m, hm, rfl⟩)
    simpa [Nd.pn] using this
  · cases h
structure RQ where
  q0 : Q2
  q1 : Q2
  q2 : Q2
  q3 : Q2
noncomputable def rdE (q : RQ) (Ln Rn S : Addr) : Option (Q2 × Value) → Array DictEntry
  | none => #[fe q.q0 s_needs (.ref Ln), fe q.q1 s_refused (.bool false), fe q.q2 s_rounds (.ref Rn), fe q.q3 s_sorter (.ref S)]
  | some v => #[fe q.q0 s_needs (.ref Ln), fe q.q1 s_refused (.bool false), fe q.q2 s_rounds (.ref Rn), fe q.q3 s_sorter (.ref S), fe v.1 s_row v.2]
noncomputable def rdN : Option (Q2 × Value) → Nat
  | none => 4
  | some _ => 5
theorem rwV_at (dn rest : List Rw) (r : Rw) : (⟨(dn ++ r :: rest).map rwV⟩ : Array Value)[dn.length]? = some (.ref r.a) := by simp [rwV]
theorem rwV_end (dn : List Rw) : (⟨(dn ++ []).map rwV⟩ : Array Value)[dn.length]? = none := by simp
theorem l160a {S Dd N L it Ln Rn : Addr} {a : SA} {np nf : Value} {en : Nat} {q' : RQ} (o : Ok A 8) : ∀ (rest : List Rw) (b1 : Bool) (_ : Gd (wF b1 b2 b3 w₀) h₀) (dn : List Rw) (ns : List Nd) (ep : Nat) (v : Option (Q2 × Value)) (h : Heap) (tk : Nat) (ps' : List PN),
    adds (rest.map Rw.p) (pns ns) = some ps' →
    Rep h₀ h F ((it, itO "list_iterator" (.ref Ln) dn.length) :: (L, frF (rdE q' Ln Rn S v) (rdN v) #[]) :: (Ln, listO ⟨(dn ++ rest).map rwV⟩ en) :: sC S Dd a N .none np nf (ents ns) ep (ncells ns ++ (rcells rest ++ ρ))) →
    (∀ h' tk' ns' ep' v', (rest ≠ [] ∨ v.isSome = true → v'.isSome = true) → pns ns' = ps' → Rep h₀ h' F ((L, frF (rdE q' Ln Rn S v') (rdN v') #[]) :: (Ln, listO ⟨(dn ++ rest).map rwV⟩ en) :: sC S Dd a N .none np nf (ents ns') ep' (ncells ns' ++ ρ)) → R (.ok .next) ⟨h', g, d, tk', os⟩) →
    codeAny (model prog (wF b1 b2 b3 w₀)) A (forC (wF b1 b2 b3 w₀).params 160 1 it L) R ⟨h, g, d, tk, os⟩
  | [] => by
    intro b1 G dn ns ep v h tk ps' hm D x
    refine code_start ?_
    refine sg2L 1000 [.s 0, .e, .s 0] [] G o.hd D ?_; intro fh1 oh1; refine ⟨by kernel_rfl, fun h1 tk1 D1 => ?_⟩
    refine u_lstop D1 0 (it := it) (T := Ln) (items := ⟨(dn ++ []).map rwV⟩) (n := en) (i := dn.length) (by kernel_rfl) 2 (by kernel_rfl) (rwV_end dn) o.hd (by kernel_rfl) (by kernel_rfl) (by kernel_rfl) fun h2 E E0 D2 => ?_
    refine sg2L 1000 [.s 0, .e] [false, false, false] G o.hd D2 ?_; intro fh3 oh3; refine ⟨by kernel_rfl, fun h3 tk3 D3 => ?_⟩
    have hm' : pns ns = ps' := by
      have z : some (pns ns) = some ps' := hm
      injection z
    exact end_done (f := .next) (by kernel_rfl) (by kernel_rfl) (x h3 tk3 ns ep v (fun y => y.elim (fun y => absurd rfl y) id) hm' (D3.eq (by kernel_rfl)))
  | ⟨ra, k, q, re⟩ :: rest => by
    intro b1 G dn ns ep v h tk ps' hm D x
    obtain ⟨hz, hm⟩ := adds_cons hm
    refine code_start ?_
    refine sg2L 1000 [.s 0, .e, .s 0] [] G o.hd D ?_; intro fh1 oh1; refine ⟨by kernel_rfl, fun h1 tk1 D1 => ?_⟩
    refine u_lnext D1 0 (it := it) (T := Ln) (items := ⟨(dn ++ ⟨ra, k, q, re⟩ :: rest).map rwV⟩) (n := en) (i := dn.length) (v := .ref ra) (by kernel_rfl) 2 (by kernel_rfl) (rwV_at dn rest _) (by kernel_rfl) (by kernel_rfl) fun h2 D2 => ?_
    let S3 : List Cells := [[(it, itO "list_iterator" (.ref Ln) (dn.length + 1))], [(L, frF (rdE q' Ln Rn S v) (rdN v) #[])], [(Ln, listO ⟨(dn ++ ⟨ra, k, q, re⟩ :: rest).map rwV⟩ en)], [(S, instO 144 Dd)], [(Dd, dictO (attrs a N .none np nf) 4)], [(N, dictO (ents ns) ep)], ncells ns, [(ra, listO (rwI ⟨ra, k, q, re⟩) re)], rcells rest, ρ]; have D3 : Rep h₀ h2 F (cat S3) := D2.eq (by kernel_rfl)
    have D4 := Rep.shuf _ [9, 9, 8, 8, 8, 8, 9, 9, 9, 9] D3
    rcases v with _ | ⟨vq, vv⟩
    · all_goals
        rcases q with _ | q
        ·
          refine sg2L 1000 [.s 1, .s 1, .s 1, .s 4, .t, .t, .t, .e, .s 4, .t, .t, .t, .t, .t, .t, .s 4, .s 4, .t, .s 5, .t, .t, .t, .e, .t, .e, .s 2, .s 4, .e] [] G o.hd D4 ?_; intro fh4 oh4; refine ⟨by kernel_rfl, fun h4 tk4 D4' => ?_⟩
          refine u_iadd D4' 0 (l := h2.objs.size + 1) (b := ra) (items2 := #[iv k]) (n2 := re) (by kernel_rfl) 5 (by kernel_rfl) (Nat.le_of_ble_eq_true (by kernel_rfl)) (by kernel_rfl) (by kernel_rfl) fun h4a n4 D4a => ?_
          refine sg2L 1000 [.s 0, .s 1, .t, .e, .s 1] [] G o.hd D4a ?_; intro fh5 oh5; refine ⟨by kernel_rfl, fun h5 tk5 D5 => ?_⟩
          refine use_again (c' := .call (.ref 94) ⟨[.ref S, .int k.1 k.2], []⟩) (by kernel_rfl) (by kernel_rfl) (by kernel_rfl) ?_
          let S6 : List Cells := [[(h2.objs.size + 1, listO #[iv k] n4)], [(h2.objs.size, fieldsO "method" #[.ref 94, .ref S])], [(it, itO "list_iterator" (.ref Ln) (dn.length + 1))], [(L, frF (rdE q' Ln Rn S (some ((hS w₀.params s_row, tk1), .ref ra))) 5 #[])], [(Ln, listO ⟨(dn ++ ⟨ra, k, none, re⟩ :: rest).map rwV⟩ en)], [(ra, listO #[iv k] re)], [(S, instO 144 Dd)], [(Dd, dictO (attrs a N .none np nf) 4)], [(N, dictO (ents ns) ep)], ncells ns, rcells rest, ρ]; have D6 : Rep h₀ h5 F (cat S6) := D5.eq (by kernel_rfl)
          have D7 := Rep.shuf _ [5, 2, 2, 11, 11, 7, 7, 7, 11, 11, 11, 11] D6
          refine c94_0 (S := S) (Dd := Dd) (N := N) (a := a) (np := np) (nf := nf) (ns := ns) (ep := ep) (k := k.1) (q := 0) (t := k.2) (u := 0) G (o.ret (by kernel_rfl) (by kernel_rfl)) hz.1 hz.2 (ρ := cat [[(it, itO "list_iterator" (.ref Ln) (dn.length + 1))], [(L, frF (rdE q' Ln Rn S (some ((hS w₀.params s_row, tk1), .ref ra))) 5 #[])], [(Ln, listO ⟨(dn ++ ⟨ra, k, none, re⟩ :: rest).map rwV⟩ en)], rcells rest, ρ, [(h2.objs.size + 1, listO #[iv k] n4)], [(h2.objs.size, fieldsO "method" #[.ref 94, .ref S])], [(ra, listO #[iv k] re)]]) D7 ?_
          intro h8 tk8 ns8 ep8 hp8 D8
          refine sg2L 1000 [] [] G o.hd D8 ?_; intro fh9 oh9; refine ⟨by kernel_rfl, fun h9 tk9 D9 => ?_⟩
          refine end_again (c' := forC (gdW G).params 160 1 it L) (by kernel_rfl) (by kernel_rfl) (by kernel_rfl) ?_
          let S10 : List Cells := [[(S, instO 144 Dd)], [(Dd, dictO (attrs a N .none np nf) 4)], [(N, dictO (ents ns8) ep8)], ncells ns8, [(it, itO "list_iterator" (.ref Ln) (dn.length + 1))], [(L, frF (rdE q' Ln Rn S (some ((hS w₀.params s_row, tk1), .ref ra))) 5 #[])], [(Ln, listO ⟨(dn ++ ⟨ra, k, none, re⟩ :: rest).map rwV⟩ en)], rcells rest, ρ, [(h2.objs.size + 1, listO #[iv k] n4)], [(h2.objs.size, fieldsO "method" #[.ref 94, .ref S])], [(ra, listO #[iv k] re)]]; have D10 : Rep h₀ h9 F (cat S10) := D9.eq (by kernel_rfl)
          have D11 := (Rep.shuf _ [8, 8, 5, 5, 5, 5, 8, 8, 8, 11, 11, 11] D10).mask [false, false, false]
          refine l160a (S := S) (Dd := Dd) (N := N) (L := L) (it := it) (Ln := Ln) (Rn := Rn) (a := a) (np := np) (nf := nf) (en := en) (q' := q') o rest _ G (dn ++ [⟨ra, k, none, re⟩]) ns8 ep8 (some ((hS w₀.params s_row, tk1), .ref ra)) h9 tk9 ps' (by rw [hp8]; exact hm) ?_ ?_
          · rw [List.append_assoc, List.length_append]; exact D11
          · intro h' tk' ns' ep' v' hv' hp' D'
            rw [List.append_assoc] at D'
            exact x h' tk' ns' ep' v' (fun _ => hv' (.inr rfl)) hp' D'
        ·
          refine sg2L 1000 [.s 1, .s 1, .s 1, .s 4, .t, .t, .t, .e, .s 4, .t, .t, .t, .t, .t, .t, .s 4, .s 4, .t, .s 5, .t, .t, .t, .e, .t, .e, .s 2, .s 4, .e] [] G o.hd D4 ?_; intro fh4 oh4; refine ⟨by kernel_rfl, fun h4 tk4 D4' => ?_⟩
          refine u_iadd D4' 0 (l := h2.objs.size + 1) (b := ra) (items2 := #[iv k, iv q]) (n2 := re) (by kernel_rfl) 5 (by kernel_rfl) (Nat.le_of_ble_eq_true (by kernel_rfl)) (by kernel_rfl) (by kernel_rfl) fun h4a n4 D4a => ?_
          refine sg2L 1000 [.s 0, .s 1, .t, .e, .s 1] [] G o.hd D4a ?_; intro fh5 oh5; refine ⟨by kernel_rfl, fun h5 tk5 D5 => ?_⟩
          refine use_again (c' := .call (.ref 94) ⟨[.ref S, .int k.1 k.2, .int q.1 q.2], []⟩) (by kernel_rfl) (by kernel_rfl) (by kernel_rfl) ?_
          let S6 : List Cells := [[(h2.objs.size + 1, listO #[iv k, iv q] n4)], [(h2.objs.size, fieldsO "method" #[.ref 94, .ref S])], [(it, itO "list_iterator" (.ref Ln) (dn.length + 1))], [(L, frF (rdE q' Ln Rn S (some ((hS w₀.params s_row, tk1), .ref ra))) 5 #[])], [(Ln, listO ⟨(dn ++ ⟨ra, k, (some q), re⟩ :: rest).map rwV⟩ en)], [(ra, listO #[iv k, iv q] re)], [(S, instO 144 Dd)], [(Dd, dictO (attrs a N .none np nf) 4)], [(N, dictO (ents ns) ep)], ncells ns, rcells rest, ρ]; have D6 : Rep h₀ h5 F (cat S6) := D5.eq (by kernel_rfl)
          have D7 := Rep.shuf _ [5, 2, 2, 11, 11, 7, 7, 7, 11, 11, 11, 11] D6
          refine c94_1 (S := S) (Dd := Dd) (N := N) (a := a) (np := np) (nf := nf) (ns := ns) (ep := ep) (k := k.1) (q := q.1) (t := k.2) (u := q.2) G (o.ret (by kernel_rfl) (by kernel_rfl)) hz.1 hz.2 (ρ := cat [[(it, itO "list_iterator" (.ref Ln) (dn.length + 1))], [(L, frF (rdE q' Ln Rn S (some ((hS w₀.params s_row, tk1), .ref ra))) 5 #[])], [(Ln, listO ⟨(dn ++ ⟨ra, k, (some q), re⟩ :: rest).map rwV⟩ en)], rcells rest, ρ, [(h2.objs.size + 1, listO #[iv k, iv q] n4)], [(h2.objs.size, fieldsO "method" #[.ref 94, .ref S])], [(ra, listO #[iv k, iv q] re)]]) D7 ?_
          intro h8 tk8 ns8 ep8 hp8 D8
          refine sg2L 1000 [] [] G o.hd D8 ?_; intro fh9 oh9; refine ⟨by kernel_rfl, fun h9 tk9 D9 => ?_⟩
          refine end_again (c' := forC (gdW G).params 160 1 it L) (by kernel_rfl) (by kernel_rfl) (by kernel_rfl) ?_
          let S10 : List Cells := [[(S, instO 144 Dd)], [(Dd, dictO (attrs a N .none np nf) 4)], [(N, dictO (ents ns8) ep8)], ncells ns8, [(it, itO "list_iterator" (.ref Ln) (dn.length + 1))], [(L, frF (rdE q' Ln Rn S (some ((hS w₀.params s_row, tk1), .ref ra))) 5 #[])], [(Ln, listO ⟨(dn ++ ⟨ra, k, (some q), re⟩ :: rest).map rwV⟩ en)], rcells rest, ρ, [(h2.objs.size + 1, listO #[iv k, iv q] n4)], [(h2.objs.size, fieldsO "method" #[.ref 94, .ref S])], [(ra, listO #[iv k, iv q] re)]]; have D10 : Rep h₀ h9 F (cat S10) := D9.eq (by kernel_rfl)
          have D11 := (Rep.shuf _ [8, 8, 5, 5, 5, 5, 8, 8, 8, 11, 11, 11] D10).mask [false, false, false]
          refine l160a (S := S) (Dd := Dd) (N := N) (L := L) (it := it) (Ln := Ln) (Rn := Rn) (a := a) (np := np) (nf := nf) (en := en) (q' := q') o rest _ G (dn ++ [⟨ra, k, (some q), re⟩]) ns8 ep8 (some ((hS w₀.params s_row, tk1), .ref ra)) h9 tk9 ps' (by rw [hp8]; exact hm) ?_ ?_
          · rw [List.append_assoc, List.length_append]; exact D11
          · intro h' tk' ns' ep' v' hv' hp' D'
            rw [List.append_assoc] at D'
            exact x h' tk' ns' ep' v' (fun _ => hv' (.inr rfl)) hp' D'
    · all_goals
        rcases q with _ | q
        ·
          refine sg2L 1000 [.s 1, .s 1, .s 1, .s 4, .t, .t, .t, .e, .s 4, .t, .t, .t, .t, .t, .t, .s 4, .s 4, .t, .s 5, .t, .t, .t, .e, .t, .e, .s 2, .s 4, .e] [] G o.hd D4 ?_; intro fh4 oh4; refine ⟨by kernel_rfl, fun h4 tk4 D4' => ?_⟩
          refine u_iadd D4' 0 (l := h2.objs.size + 1) (b := ra) (items2 := #[iv k]) (n2 := re) (by kernel_rfl) 5 (by kernel_rfl) (Nat.le_of_ble_eq_true (by kernel_rfl)) (by kernel_rfl) (by kernel_rfl) fun h4a n4 D4a => ?_
          refine sg2L 1000 [.s 0, .s 1, .t, .e, .s 1] [] G o.hd D4a ?_; intro fh5 oh5; refine ⟨by kernel_rfl, fun h5 tk5 D5 => ?_⟩
          refine use_again (c' := .call (.ref 94) ⟨[.ref S, .int k.1 k.2], []⟩) (by kernel_rfl) (by kernel_rfl) (by kernel_rfl) ?_
          let S6 : List Cells := [[(h2.objs.size + 1, listO #[iv k] n4)], [(h2.objs.size, fieldsO "method" #[.ref 94, .ref S])], [(it, itO "list_iterator" (.ref Ln) (dn.length + 1))], [(L, frF (rdE q' Ln Rn S (some (vq, .ref ra))) 5 #[])], [(Ln, listO ⟨(dn ++ ⟨ra, k, none, re⟩ :: rest).map rwV⟩ en)], [(ra, listO #[iv k] re)], [(S, instO 144 Dd)], [(Dd, dictO (attrs a N .none np nf) 4)], [(N, dictO (ents ns) ep)], ncells ns, rcells rest, ρ]; have D6 : Rep h₀ h5 F (cat S6) := D5.eq (by kernel_rfl)
          have D7 := Rep.shuf _ [5, 2, 2, 11, 11, 7, 7, 7, 11, 11, 11, 11] D6
          refine c94_0 (S := S) (Dd := Dd) (N := N) (a := a) (np := np) (nf := nf) (ns := ns) (ep := ep) (k := k.1) (q := 0) (t := k.2) (u := 0) G (o.ret (by kernel_rfl) (by kernel_rfl)) hz.1 hz.2 (ρ := cat [[(it, itO "list_iterator" (.ref Ln) (dn.length + 1))], [(L, frF (rdE q' Ln Rn S (some (vq, .ref ra))) 5 #[])], [(Ln, listO ⟨(dn ++ ⟨ra, k, none, re⟩ :: rest).map rwV⟩ en)], rcells rest, ρ, [(h2.objs.size + 1, listO #[iv k] n4)], [(h2.objs.size, fieldsO "method" #[.ref 94, .ref S])], [(ra, listO #[iv k] re)]]) D7 ?_
          intro h8 tk8 ns8 ep8 hp8 D8
          refine sg2L 1000 [] [] G o.hd D8 ?_; intro fh9 oh9; refine ⟨by kernel_rfl, fun h9 tk9 D9 => ?_⟩
          refine end_again (c' := forC (gdW G).params 160 1 it L) (by kernel_rfl) (by kernel_rfl) (by kernel_rfl) ?_
          let S10 : List Cells := [[(S, instO 144 Dd)], [(Dd, dictO (attrs a N .none np nf) 4)], [(N, dictO (ents ns8) ep8)], ncells ns8, [(it, itO "list_iterator" (.ref Ln) (dn.length + 1))], [(L, frF (rdE q' Ln Rn S (some (vq, .ref ra))) 5 #[])], [(Ln, listO ⟨(dn ++ ⟨ra, k, none, re⟩ :: rest).map rwV⟩ en)], rcells rest, ρ, [(h2.objs.size + 1, listO #[iv k] n4)], [(h2.objs.size, fieldsO "method" #[.ref 94, .ref S])], [(ra, listO #[iv k] re)]]; have D10 : Rep h₀ h9 F (cat S10) := D9.eq (by kernel_rfl)
          have D11 := (Rep.shuf _ [8, 8, 5, 5, 5, 5, 8, 8, 8, 11, 11, 11] D10).mask [false, false, false]
          refine l160a (S := S) (Dd := Dd) (N := N) (L := L) (it := it) (Ln := Ln) (Rn := Rn) (a := a) (np := np) (nf := nf) (en := en) (q' := q') o rest _ G (dn ++ [⟨ra, k, none, re⟩]) ns8 ep8 (some (vq, .ref ra)) h9 tk9 ps' (by rw [hp8]; exact hm) ?_ ?_
          · rw [List.append_assoc, List.length_append]; exact D11
          · intro h' tk' ns' ep' v' hv' hp' D'
            rw [List.append_assoc] at D'
            exact x h' tk' ns' ep' v' (fun _ => hv' (.inr rfl)) hp' D'
        ·
          refine sg2L 1000 [.s 1, .s 1, .s 1, .s 4, .t, .t, .t, .e, .s 4, .t, .t, .t, .t, .t, .t, .s 4, .s 4, .t, .s 5, .t, .t, .t, .e, .t, .e, .s 2, .s 4, .e] [] G o.hd D4 ?_; intro fh4 oh4; refine ⟨by kernel_rfl, fun h4 tk4 D4' => ?_⟩
          refine u_iadd D4' 0 (l := h2.objs.size + 1) (b := ra) (items2 := #[iv k, iv q]) (n2 := re) (by kernel_rfl) 5 (by kernel_rfl) (Nat.le_of_ble_eq_true (by kernel_rfl)) (by kernel_rfl) (by kernel_rfl) fun h4a n4 D4a => ?_
          refine sg2L 1000 [.s 0, .s 1, .t, .e, .s 1] [] G o.hd D4a ?_; intro fh5 oh5; refine ⟨by kernel_rfl, fun h5 tk5 D5 => ?_⟩
          refine use_again (c' := .call (.ref 94) ⟨[.ref S, .int k.1 k.2, .int q.1 q.2], []⟩) (by kernel_rfl) (by kernel_rfl) (by kernel_rfl) ?_
          let S6 : List Cells := [[(h2.objs.size + 1, listO #[iv k, iv q] n4)], [(h2.objs.size, fieldsO "method" #[.ref 94, .ref S])], [(it, itO "list_iterator" (.ref Ln) (dn.length + 1))], [(L, frF (rdE q' Ln Rn S (some (vq, .ref ra))) 5 #[])], [(Ln, listO ⟨(dn ++ ⟨ra, k, (some q), re⟩ :: rest).map rwV⟩ en)], [(ra, listO #[iv k, iv q] re)], [(S, instO 144 Dd)], [(Dd, dictO (attrs a N .none np nf) 4)], [(N, dictO (ents ns) ep)], ncells ns, rcells rest, ρ]; have D6 : Rep h₀ h5 F (cat S6) := D5.eq (by kernel_rfl)
          have D7 := Rep.shuf _ [5, 2, 2, 11, 11, 7, 7, 7, 11, 11, 11, 11] D6
          refine c94_1 (S := S) (Dd := Dd) (N := N) (a := a) (np := np) (nf := nf) (ns := ns) (ep := ep) (k := k.1) (q := q.1) (t := k.2) (u := q.2) G (o.ret (by kernel_rfl) (by kernel_rfl)) hz.1 hz.2 (ρ := cat [[(it, itO "list_iterator" (.ref Ln) (dn.length + 1))], [(L, frF (rdE q' Ln Rn S (some (vq, .ref ra))) 5 #[])], [(Ln, listO ⟨(dn ++ ⟨ra, k, (some q), re⟩ :: rest).map rwV⟩ en)], rcells rest, ρ, [(h2.objs.size + 1, listO #[iv k, iv q] n4)], [(h2.objs.size, fieldsO "method" #[.ref 94, .ref S])], [(ra, listO #[iv k, iv q] re)]]) D7 ?_
          intro h8 tk8 ns8 ep8 hp8 D8
          refine sg2L 1000 [] [] G o.hd D8 ?_; intro fh9 oh9; refine ⟨by kernel_rfl, fun h9 tk9 D9 => ?_⟩
          refine end_again (c' := forC (gdW G).params 160 1 it L) (by kernel_rfl) (by kernel_rfl) (by kernel_rfl) ?_
          let S10 : List Cells := [[(S, instO 144 Dd)], [(Dd, dictO (attrs a N .none np nf) 4)], [(N, dictO (ents ns8) ep8)], ncells ns8, [(it, itO "list_iterator" (.ref Ln) (dn.length + 1))], [(L, frF (rdE q' Ln Rn S (some (vq, .ref ra))) 5 #[])], [(Ln, listO ⟨(dn ++ ⟨ra, k, (some q), re⟩ :: rest).map rwV⟩ en)], rcells rest, ρ, [(h2.objs.size + 1, listO #[iv k, iv q] n4)], [(h2.objs.size, fieldsO "method" #[.ref 94, .ref S])], [(ra, listO #[iv k, iv q] re)]]; have D10 : Rep h₀ h9 F (cat S10) := D9.eq (by kernel_rfl)
          have D11 := (Rep.shuf _ [8, 8, 5, 5, 5, 5, 8, 8, 8, 11, 11, 11] D10).mask [false, false, false]
          refine l160a (S := S) (Dd := Dd) (N := N) (L := L) (it := it) (Ln := Ln) (Rn := Rn) (a := a) (np := np) (nf := nf) (en := en) (q' := q') o rest _ G (dn ++ [⟨ra, k, (some q), re⟩]) ns8 ep8 (some (vq, .ref ra)) h9 tk9 ps' (by rw [hp8]; exact hm) ?_ ?_
          · rw [List.append_assoc, List.length_append]; exact D11
          · intro h' tk' ns' ep' v' hv' hp' D'
            rw [List.append_assoc] at D'
            exact x h' tk' ns' ep' v' (fun _ => hv' (.inr rfl)) hp' D'
end Mine
end
section
open PySem PySem.W PySem.W.X PyProof.Rows
set_option Elab.async false
set_option maxRecDepth 100000
set_option maxHeartbeats 1000000
namespace Mine
theorem wp_extT {prog : Program} {w : World} {A : Around} {P : Fin → Shared → Prop} {E : Value → Shared → Prop} {s : Shared} {l T : Addr} {items : Array Value} {n : Nat} (hz : items.size ≤ sizeLine) (h1 : s.heap.get? l = some (listO #[] 0)) (h2 : s.heap.get? T = some (tupO items n))
    (h : P (.done (.ret (.ref l))) { s with heap := s.heap.update l (Obj.mapSeq fun x => x ++ items) }) : wpAny (model prog w) A (Builtin.List.listExtendWith (.ref l) (.ref T) (.ref l)) P E s := by
  unfold Builtin.List.listExtendWith
  refine wpAny_bind (wpAny_typeOf (T := "tuple") ⟨_, h2, rfl⟩ ?_)
  rw [if_pos (by simp)]
  refine wpAny_bind (listItems_at h2 rfl ?_)
  refine wpAny_bind (listItems_at h1 rfl ?_)
  rw [if_neg (by simp)]
  refine wpAny_bind (listUpdate_at h1 rfl ?_ (Nat.zero_le _) (by show (#[] ++ items).size ≤ sizeLine + 1; rw [Array.empty_append]; omega))
  exact wpAny_pure h
theorem m_iaddT (l T : Addr) (items : Array Value) (n : Nat) (hz : items.size ≤ sizeLine) :
    Meets (Builtin.«list.__iadd__» ⟨[.ref l, .ref T], []⟩) (fun _ R s => s.heap.get? l = some (listO #[] 0) ∧ s.heap.get? T = some (tupO items n) ∧ R (.ok (.ret (.ref l))) { s with heap := s.heap.update l (Obj.mapSeq fun x => x ++ items) }) :=
  .of_wp fun prog w A R s h => wp_extT hz h.1 h.2.1 ⟨_, rfl, h.2.2⟩
theorem ints_iv : ∀ rs : List IT, IntsAre (rs.map iv) (rs.map (·.1))
  | [] => .nil
  | (k, t) :: r => .cons k t (ints_iv r)
theorem iv_ints : ∀ {vs : List Value} {ns : List Int}, IntsAre vs ns → ∃ rs : List IT, vs = rs.map iv ∧ rs.map (·.1) = ns
  | _, _, .nil => ⟨[], rfl, rfl⟩
  | _, _, .cons n t h => by
    obtain ⟨rs, e1, e2⟩ := iv_ints h
    exact ⟨(n, t) :: rs, by rw [e1]; rfl, by rw [← e2]; rfl⟩
section
variable {prog : Program} {w : World} {A : Around} {R : Result → Shared → Prop} {h₀ h : Heap} {F : List Addr} {σ : Cells} {g : Array GenState} {d : Drawn} {tk : Nat} {os : OsState} {c : Code} {κ : Kn} {t : Sem Fin}
theorem u_iaddT (D : Rep h₀ h F σ) (j : Nat) {l b : Addr} {items2 : Array Value} {n2 : Nat} (hj : nth σ j = some (l, listO #[] 0)) (jb : Nat) (hb : nth σ jb = some (b, tupO items2 n2)) (hz : items2.size ≤ sizeLine) (hc : againOf t = some (.builtin "list.__iadd__" ⟨[.ref l, .ref b], []⟩)) (hr : isRet κ = true)
    (x : ∀ h' n', Rep h₀ h' F (setNth σ j (l, listO items2 n')) → Mn prog w A R (kc κ) (kr κ) (kk κ (.ok (.ret (.ref l)))) ⟨h', g, d, tk, os⟩) : Mn prog w A R c κ t ⟨h, g, d, tk, os⟩ := by
  refine use_bi e_list_iadd p_list_iadd (m_iaddT l b items2 n2 hz) hc hr ⟨D.cell j hj, D.cell jb hb, ?_⟩
  obtain ⟨n', e⟩ := mapSeq_new items2
  have z := D.update (f := Obj.mapSeq fun x => x ++ items2) hj rfl
  rw [e] at z
  exact x _ n' z
theorem collect_tup {E : Value → Shared → Prop} {s : Shared} {T : Addr} {items : Array Value} {n : Nat} {Q : List Value → Shared → Prop} (hz : items.size ≤ sizeLine) (hT : s.heap.get? T = some (tupO items n))
    (x : Q items.toList { s with heap := (s.heap.push (listO #[] 0)).update s.heap.objs.size (Obj.mapSeq fun y => y ++ items) }) : wpAny (model prog w) A (collect (.ref T)) Q E s := by
  have g1 : (s.heap.push (listO #[] 0)).get? s.heap.objs.size = some (listO #[] 0) := Heap.get?_push_size _ rfl
  obtain ⟨n', en⟩ := mapSeq_new items
  unfold collect
  refine wpAny_bind (wpAny_runValue (codeAny_builtin F.entry_proto_collect ?_))
  show wpAny _ _ (newList [] >>= fun l => again (.builtin "list.__iadd__" ⟨[l, .ref T], []⟩)) _ _ s
  refine wpAny_bind (wpAny_newList (wpAny_pure ⟨plainId_quiet p_list_iadd _, codeAny_builtin e_list_iadd ?_⟩))
  show wpAny _ _ (Builtin.List.listExtendWith (.ref s.heap.objs.size) (.ref T) (.ref s.heap.objs.size)) _ _ { s with heap := s.heap.push (listO #[] 0) }
  refine wp_extT (n := n) hz g1 (Heap.get?_push_of_some _ hT) ?_
  refine wpAny_bind (wpAny_load (o := listO items n') (by rw [← en]; exact Heap.get?_update_self _ g1 rfl) ?_)
  exact wpAny_pure x
/-- what sorted leaves in the heap -/
theorem Rep.sorted (D : Rep h₀ h F σ) (rs rs' : List IT) : ∃ n1 n2 a b, Rep h₀ (sortedAll h (rs.map iv) ⟨rs'.map iv⟩) F ((b, listO #[] 0) :: (a, tupO ⟨rs.map iv⟩ 0) :: (h.objs.size + 1, listO ⟨rs'.map iv⟩ n2) :: (h.objs.size, listO ⟨rs.map iv⟩ n1) :: σ) := by
  obtain ⟨n1, en1⟩ := mapSeq_new (⟨rs.map iv⟩ : Array Value)
  have D1 := D.alloc (o := listO #[] 0) rfl
  have D2 := D1.update (j := 0) (f := Obj.mapSeq fun y => y ++ (rs.map iv).toArray) rfl rfl
  have D3 := D2.alloc (o := listO ⟨rs.map iv⟩ 0) rfl
  have es : ((h.push (listO #[] 0)).update h.objs.size (Obj.mapSeq fun y => y ++ (rs.map iv).toArray)).objs.size = h.objs.size + 1 := by rw [Heap.size_update, Heap.size_push]
  rw [es] at D3
  obtain ⟨n2, en2⟩ := mapSeq_any (fun _ => #[]) (⟨rs.map iv⟩ : Array Value) 0
  have D4 := D3.update (j := 0) (f := Obj.mapSeq fun _ => #[]) rfl rfl
  have D5 := D4.alloc (o := tupO ⟨rs.map iv⟩ 0) rfl
  have D6 := D5.alloc (o := listO #[] 0) rfl
  have D7 := D6.update (j := 2) (a := h.objs.size + 1) (f := Obj.mapSeq fun _ => (⟨rs'.map iv⟩ : Array Value)) rfl rfl
  obtain ⟨n3, en3⟩ := mapSeq_any (fun _ => (⟨rs'.map iv⟩ : Array Value)) #[] n2
  have D8 : Rep h₀ (sortedAll h (rs.map iv) ⟨rs'.map iv⟩) F ((_, listO #[] 0) :: (_, tupO ⟨rs.map iv⟩ 0) :: (h.objs.size + 1, Obj.mapSeq (fun _ => (⟨rs'.map iv⟩ : Array Value)) (Obj.mapSeq (fun _ => #[]) (listO ⟨rs.map iv⟩ 0))) :: (h.objs.size, Obj.mapSeq (fun y => y ++ (⟨rs.map iv⟩ : Array Value)) (listO #[] 0)) :: σ) := D7
  rw [en2, en3, en1] at D8
  exact ⟨n1, n3, _, _, D8⟩
theorem u_sortedL (D : Rep h₀ h F σ) (j : Nat) {T : Addr} {rs : List IT} {n : Nat} (hj : nth σ j = some (T, listO ⟨rs.map iv⟩ n)) (h64 : rs.length < 64) (hc : callOf t = some (.call (.builtin "sorted") ⟨[.ref T], []⟩, none))
    (x : ∀ h' l n' (rs' : List IT), rs'.map (·.1) = sortI (rs.map (·.1)) → Rep h₀ h' F ((l, listO ⟨rs'.map iv⟩ n') :: σ) → Mn prog w A R c κ (contOf t (.ok (.ret (.ref l)))) ⟨h', g, d, tk, os⟩) : Mn prog w A R c κ t ⟨h, g, d, tk, os⟩ := by
  refine use_any hc (sorted_ints (s := ⟨h, g, d, tk, os⟩) (vs := rs.map iv) ⟨_, D.cell j hj, rfl, n, rfl⟩ (ints_iv rs) (by simpa using h64) fun out ns' hI hp hs => ?_)
  obtain ⟨rs', e1, e2⟩ := iv_ints hI
  obtain ⟨out⟩ := out
  have e1' : out = rs'.map iv := e1
  subst e1'
  obtain ⟨n1, n2, a, b, D1⟩ := D.sorted rs rs'
  exact x _ _ n2 rs' (by rw [e2]; exact eq_sortI hp hs) (D1.mask [false, false, true, false])
theorem u_sortedT (D : Rep h₀ h F σ) (j : Nat) {T : Addr} {rs : List IT} {n : Nat} (hj : nth σ j = some (T, tupO ⟨rs.map iv⟩ n)) (h64 : rs.length < 64) (hc : callOf t = some (.call (.builtin "sorted") ⟨[.ref T], []⟩, none))
    (x : ∀ h' l n' (rs' : List IT), rs'.map (·.1) = sortI (rs.map (·.1)) → Rep h₀ h' F ((l, listO ⟨rs'.map iv⟩ n') :: σ) → Mn prog w A R c κ (contOf t (.ok (.ret (.ref l)))) ⟨h', g, d, tk, os⟩) : Mn prog w A R c κ t ⟨h, g, d, tk, os⟩ := by
  refine use_any hc (Calls.call_function_entry kind_sorted plain_sorted entry_sorted (args_sorted1 _) ?_)
  unfold Builtin.«sorted»
  refine wpAny_bind (m := checkCount "sorted" 1 1 _) (wpAny_pure ?_)
  have hlen : (rs.map iv).length ≤ sizeLine := by rw [List.length_map]; exact Nat.le_trans (Nat.le_of_lt h64) (by decide)
  refine wpAny_bind (collect_tup (items := ⟨rs.map iv⟩) (n := n) hlen (D.cell j hj) ?_)
  have es : ((h.push (listO #[] 0)).update h.objs.size (Obj.mapSeq fun y => y ++ (⟨rs.map iv⟩ : Array Value))).objs.size = h.objs.size + 1 := by rw [Heap.size_update, Heap.size_push]
  refine wpAny_bind (wpAny_newList ?_ hlen)
  have hoL : (((h.push (listO #[] 0)).update h.objs.size (Obj.mapSeq fun y => y ++ (⟨rs.map iv⟩ : Array Value))).push (listO ⟨rs.map iv⟩ 0)).get? (h.objs.size + 1) = some (listO ⟨rs.map iv⟩ 0) := by
    rw [← es]; exact Heap.get?_push_size _ rfl
  show wpAny _ _ _ _ _ (⟨((h.push (listO #[] 0)).update h.objs.size (Obj.mapSeq fun y => y ++ (⟨rs.map iv⟩ : Array Value))).push (listO ⟨rs.map iv⟩ 0), g, d, tk, os⟩ : Shared)
  rw [es]
  refine wpAny_bind (wpAny_holding (wpAny_call_entry slot_list_sort ⟨_, hoL, rfl⟩ entry_list_sort (list_sort_tree (vs := rs.map iv) hoL (ints_iv rs) (by simpa using h64) fun out ns' hI hp hs => ⟨_, rfl, ?_⟩) (args_list_sort _)))
  refine wpAny_pure ⟨_, rfl, ?_⟩
  obtain ⟨rs', e1, e2⟩ := iv_ints hI
  obtain ⟨out⟩ := out
  have e1' : out = rs'.map iv := e1
  subst e1'
  obtain ⟨n1, n2, a, b, D1⟩ := D.sorted rs rs'
  exact x _ _ n2 rs' (by rw [e2]; exact eq_sortI hp hs) (D1.mask [false, false, true, false])
end
end Mine
end
section
open PySem PySem.W PySem.W.X PyProof.Rows
set_option Elab.async false
set_option maxRecDepth 100000
set_option maxHeartbeats 1000000
namespace Mine
variable {prog : Program} {w : World} {w₀ : World} {b1 b2 b3 : Bool} {A : Around} {R : Result → Shared → Prop} {h₀ h : Heap} {F : List Addr} {ρ σ : Cells} {g : Array GenState} {d : Drawn} {tk : Nat} {os : OsState}
/-- a round as it lies in the heap -/
structure Rd where
  a : Addr
  xs : List IT
  e : Nat
noncomputable def Rd.p (r : Rd) : List Int := r.xs.map (·.1)
noncomputable def rdV (r : Rd) : Value := .ref r.a
noncomputable def dcells (rds : List Rd) : Cells := rds.map fun r => (r.a, listO ⟨r.xs.map iv⟩ r.e)
theorem dcells_snoc (rds : List Rd) (r : Rd) : dcells (rds ++ [r]) ++ ρ = dcells rds ++ ((r.a, listO ⟨r.xs.map iv⟩ r.e) :: ρ) := by simp [dcells]
theorem rdV_snoc (rds : List Rd) (r : Rd) : (⟨(rds ++ [r]).map rdV⟩ : Array Value) = (⟨rds.map rdV⟩ : Array Value).push (.ref r.a) := by simp [rdV]
theorem Rep.ofN {X : Cells} {ns : List Nd} (D : Rep h₀ h F (X ++ (ncells ns ++ ρ))) : Rep h₀ h F (X ++ (icells ns ++ (lcells ns ++ ρ))) :=
  D.perm (by rw [← List.append_assoc (icells ns)]; exact ((ncells_perm ns).symm.append_right ρ).append_left X)
theorem Rep.toN {X : Cells} {ns : List Nd} (D : Rep h₀ h F (X ++ (icells ns ++ (lcells ns ++ ρ)))) : Rep h₀ h F (X ++ (ncells ns ++ ρ)) :=
  D.perm (by rw [← List.append_assoc (icells ns)]; exact ((ncells_perm ns).append_right ρ).append_left X)
structure RF where
  q0 : Q2
  q1 : Q2
  q2 : Q2
  q3 : Q2
  q4 : Q2
noncomputable def rfE (q : RF) (Ln : Addr) (bv : Value) (Rn S : Addr) (rowv : Value) : Option (Q2 × Value) → Array DictEntry
  | none => #[fe q.q0 s_needs (.ref Ln), fe q.q1 s_refused bv, fe q.q2 s_rounds (.ref Rn), fe q.q3 s_sorter (.ref S), fe q.q4 s_row rowv]
  | some v => #[fe q.q0 s_needs (.ref Ln), fe q.q1 s_refused bv, fe q.q2 s_rounds (.ref Rn), fe q.q3 s_sorter (.ref S), fe q.q4 s_row rowv, fe v.1 s_rdy v.2]
noncomputable def rfN : Option (Q2 × Value) → Nat
  | none => 5
  | some _ => 6
/-- the rounds -/
noncomputable def rnds : Nat → List PN × List Int → Option (List (List Int))
  | 0, _ => none
  | _ + 1, (_, []) => some []
  | f + 1, (ps, r :: rs) => if (r :: rs).length ≤ 16 ∧ ((r :: rs).all fun x => ps.any fun n => decide (n.k = x)) = true then
      match dones (r :: rs) (outM ps (r :: rs), []) with
      | none => none
      | some st' => match rnds f st' with
        | none => none
        | some o => some (sortI (r :: rs) :: o)
    else none
theorem rnds_len {fuel : Nat} {ps : List PN} {rs : List IT} {out : List (List Int)} (h : rnds fuel (ps, rs.map (·.1)) = some out) : rs.length ≤ 16 := by
  cases fuel with
  | zero => cases h
  | succ f =>
    cases rs with
    | nil => exact Nat.zero_le _
    | cons r rs =>
      rw [List.map_cons] at h
      unfold rnds at h
      split at h
      · rename_i hc
        have := hc.1
        simp only [List.length_cons, List.length_map] at this ⊢
        exact this
      · cases h
theorem rnds_nil {fuel : Nat} {ps : List PN} {out : List (List Int)} (h : rnds (fuel + 1) (ps, ([] : List IT).map (·.1)) = some out) : out = [] := by
  have z : some [] = some out := h
  injection z with z
  exact z.symm
theorem rnds_cons {fuel : Nat} {ns : List Nd} {r : IT} {rs : List IT} {out : List (List Int)} (h : rnds (fuel + 1) (pns ns, (r :: rs).map (·.1)) = some out) :
    (r :: rs).length ≤ 16 ∧ (∀ x ∈ r :: rs, ∃ m ∈ ns, m.k = x.1) ∧ ∃ st' out', dones ((r :: rs).map (·.1)) (outM (pns ns) ((r :: rs).map (·.1)), []) = some st' ∧ rnds fuel st' = some out' ∧ out = sortI ((r :: rs).map (·.1)) :: out' := by
  rw [List.map_cons] at h ⊢
  unfold rnds at h
  split at h
  · rename_i hc
    refine ⟨by have := hc.1; simpa using this, fun x hx => ?_, ?_⟩
    · have h1 := List.all_eq_true.mp hc.2 x.1 (by rw [← List.map_cons (f := fun (x : IT) => x.1)]; exact List.mem_map.mpr ⟨x, hx, rfl⟩)
      obtain ⟨n, hn, e⟩ := List.any_eq_true.mp h1
      obtain ⟨m, hm, rfl⟩ := List.mem_map.mp hn
      exact ⟨m, hm, of_decide_eq_true e⟩
    · split at h
      · cases h
      · rename_i st' hd
        split at h
        · cases h
        · rename_i o ho
          injection h with h
          exact ⟨st', o, hd, ho, h.symm⟩
  · cases h
theorem c127v {S Dd N Rl : Addr} {a : SA} {np : Value} {f : Int} {ft : Tok} {ns : List Nd} {rs0 rs : List IT} {ep er : Nat} {st' : List PN × List Int} {vs : List Value} (hvs : vs = rs0.map iv) (G : Gd (wF b1 b2 b3 w₀) h₀) (o : Ok A 4) (hz : rs0.length ≤ 16)
    (hm : dones (rs0.map (·.1)) (pns ns, rs.map (·.1)) = some st')
    (D : Rep h₀ h F (sC S Dd a N (.ref Rl) np (.int f ft) (ents ns) ep ((Rl, listO ⟨rs.map iv⟩ er) :: (icells ns ++ (lcells ns ++ ρ)))))
    (x : ∀ h' tk' (ns' : List Nd) (rs' : List IT) er' ft', ns'.map strip = ns.map strip → pns ns' = st'.1 → rs'.map (·.1) = st'.2 → Rep h₀ h' F (sC S Dd a N (.ref Rl) np (.int (f + rs0.length) ft') (ents ns') ep ((Rl, listO ⟨rs'.map iv⟩ er') :: (icells ns' ++ (lcells ns' ++ ρ)))) → R (.ok (.ret .none)) ⟨h', g, d, tk', os⟩) :
    codeAny (model prog (wF b1 b2 b3 w₀)) A (.call (.ref 127) ⟨.ref S :: vs, []⟩) R ⟨h, g, d, tk, os⟩ := by
  subst hvs
  exact c127 G o hz hm D x
theorem ints16 {P : List Value → Prop} (h0 : P []) (hs : ∀ rs : List IT, rs.length ≤ 16 → P [] → P (rs.map iv)) (vs : List Value) (hI : ∃ rs : List IT, rs.length ≤ 16 ∧ vs = rs.map iv) : P vs := by
  obtain ⟨rs, hl, rfl⟩ := hI
  exact hs rs hl h0
theorem l160w {S Dd N Rl L Ln Rn : Addr} {a : SA} {ep : Nat} {q : RF} {bv rowv : Value} {sl : Array (Option Value)} (o : Ok A 6) : ∀ (fuel : Nat) (b1 : Bool) (_ : Gd (wF b1 b2 b3 w₀) h₀) (ns : List Nd) (rs : List IT) (er : Nat) (c : Int) (t1 t2 : Tok) (rds : List Rd) (en : Nat) (rv : Option (Q2 × Value)) (h : Heap) (tk : Nat) (out : List (List Int)),
    rnds fuel (pns ns, rs.map (·.1)) = some out → rds.length + fuel ≤ 1000 →
    Rep h₀ h F ((L, frF (rfE q Ln bv Rn S rowv rv) (rfN rv) sl) :: sC S Dd a N (.ref Rl) (.int c t1) (.int c t2) (ents ns) ep ((Rl, listO ⟨rs.map iv⟩ er) :: (Rn, listO ⟨rds.map rdV⟩ en) :: (icells ns ++ (lcells ns ++ (dcells rds ++ ρ))))) →
    (∀ h' tk' (rds' : List Rd) en' rv', rds'.map Rd.p = rds.map Rd.p ++ out → Rep h₀ h' F ((L, frF (rfE q Ln bv Rn S rowv rv') (rfN rv') sl) :: (Rn, listO ⟨rds'.map rdV⟩ en') :: (dcells rds' ++ ρ)) → R (.ok .next) ⟨h', g, d, tk', os⟩) →
    codeAny (model prog (wF b1 b2 b3 w₀)) A (whS (wF b1 b2 b3 w₀).params 160 (fstmt (wF b1 b2 b3 w₀).params 160 3) L) R ⟨h, g, d, tk, os⟩
  | 0 => by intro b1 G ns rs er c t1 t2 rds en rv h tk out hm hb D z; cases hm
  | fuel + 1 => by
    intro b1 G ns rs er c t1 t2 rds en rv h tk out hm hb D z
    all_goals
      rcases rv with _ | ⟨vq, vv⟩
      ·
        refine code_start ?_
        refine sg2L 1000 [.s 0, .s 1, .t, .t, .t, .s 1, .t, .t, .t, .s 1, .t, .t, .t, .t, .s 1, .s 2, .t] [] G o.hd D ?_; intro fh1 oh1; refine ⟨by kernel_rfl, fun h1 tk1 D1 => ?_⟩
        refine use_call (c' := .call (.ref 113) ⟨[.ref S], []⟩) (hd := none) (by kernel_rfl) rfl ?_
        let S2 : List Cells := [[(L, frF (rfE q Ln bv Rn S rowv none) (rfN none) sl)], [(S, instO 144 Dd)], [(Dd, dictO (attrs a N (.ref Rl) (.int c t1) (.int c t2)) 4)], [(N, dictO (ents ns) ep)], [(Rl, listO ⟨rs.map iv⟩ er)], [(Rn, listO ⟨rds.map rdV⟩ en)], icells ns, lcells ns, dcells rds, ρ]; have D2 : Rep h₀ h1 F (cat S2) := D1.eq (by kernel_rfl)
        have D3 := Rep.shuf _ [9, 9, 9, 9, 9, 5, 9, 9, 9, 9] D2
        refine c113 (S := S) (Dd := Dd) (N := N) (Rl := Rl) (a := a) (c := c) (t1 := t1) (t2 := t2) (es := ents ns) (ep := ep) (e := er) (rs := rs) (ρ := cat [[(L, frF (rfE q Ln bv Rn S rowv none) (rfN none) sl)], [(Rn, listO ⟨rds.map rdV⟩ en)], icells ns, lcells ns, dcells rds, ρ]) G (o.call (by kernel_rfl) (by kernel_rfl)) (Nat.le_trans (rnds_len hm) (by decide)) D3 ?_
        intro h4 tk4 D4
        let S5 : List Cells := [[(S, instO 144 Dd)], [(Dd, dictO (attrs a N (.ref Rl) (.int c t1) (.int c t2)) 4)], [(N, dictO (ents ns) ep)], [(Rl, listO ⟨rs.map iv⟩ er)], [(L, frF (rfE q Ln bv Rn S rowv none) (rfN none) sl)], [(Rn, listO ⟨rds.map rdV⟩ en)], icells ns, lcells ns, dcells rds, ρ]; have D5 : Rep h₀ h4 F (cat S5) := D4
        rcases rs with _ | ⟨r0, rs⟩
        · have D6 := Rep.shuf _ [9, 9, 7, 7, 9, 9, 9, 9, 9, 9] D5
          refine sg2L 1000 [] [] G o.hd D6 ?_; intro fh7 oh7; refine ⟨by kernel_rfl, fun h7 tk7 D7 => ?_⟩
          refine end_done (f := .next) (by kernel_rfl) (by kernel_rfl) ?_
          have D8 : Rep h₀ h7 F ([(S, instO 144 Dd), (Dd, dictO (attrs a N (.ref Rl) (.int c t1) (.int c t2)) 4), (N, dictO (ents ns) ep), (Rl, listO ⟨([] : List IT).map iv⟩ er)] ++ (icells ns ++ (lcells ns ++ ((L, frF (rfE q Ln bv Rn S rowv none) (rfN none) sl) :: (Rn, listO ⟨rds.map rdV⟩ en) :: (dcells rds ++ ρ))))) := D7.eq (by kernel_rfl)
          exact z h7 tk7 rds en none (by rw [rnds_nil hm, List.append_nil]) D8.dropL.dropL.dropL
        obtain ⟨hz1, hk1, st', out', hm1, hm2, he⟩ := rnds_cons hm
        have D6 := Rep.shuf _ [9, 9, 9, 9, 9, 8, 8, 8, 8, 9] D5
        refine sg2L 1000 [.s 0, .s 1, .t, .t, .t, .s 1, .t, .t, .t, .s 1, .t, .t, .t, .t, .s 1, .s 2, .t] [] G o.hd D6 ?_; intro fh7 oh7; refine ⟨by kernel_rfl, fun h7 tk7 D7 => ?_⟩
        refine use_call (c' := .call (.ref 106) ⟨[.ref S], []⟩) (hd := none) (by kernel_rfl) rfl ?_
        let S7a : List Cells := [[(L, frF (rfE q Ln bv Rn S rowv none) (rfN none) sl)], [(S, instO 144 Dd)], [(Dd, dictO (attrs a N (.ref Rl) (.int c t1) (.int c t2)) 4)], [(N, dictO (ents ns) ep)], [(Rl, listO ⟨(r0 :: rs).map iv⟩ er)], [(Rn, listO ⟨rds.map rdV⟩ en)], icells ns, lcells ns, dcells rds, ρ]; have D7a : Rep h₀ h7 F (cat S7a) := D7.eq (by kernel_rfl)
        have D7b := Rep.shuf _ [9, 9, 7, 3, 9, 9, 9, 9, 9, 9] D7a
        have D7c : Rep h₀ h7 F ([(S, instO 144 Dd), (Dd, dictO (attrs a N (.ref Rl) (.int c t1) (.int c t2)) 4), (N, dictO (ents ns) ep), (Rl, listO ⟨(r0 :: rs).map iv⟩ er)] ++ (icells ns ++ (lcells ns ++ ((L, frF (rfE q Ln bv Rn S rowv none) (rfN none) sl) :: (Rn, listO ⟨rds.map rdV⟩ en) :: (dcells rds ++ ρ))))) := D7b
        refine c106 (S := S) (Dd := Dd) (N := N) (Rl := Rl) (a := a) (c := c) (t1 := t1) (nf := (.int c t2)) (ns := ns) (ep := ep) (e := er) (rs := r0 :: rs) (ρ := (L, frF (rfE q Ln bv Rn S rowv none) (rfN none) sl) :: (Rn, listO ⟨rds.map rdV⟩ en) :: (dcells rds ++ ρ)) G (o.call (by kernel_rfl) (by kernel_rfl)) (Nat.le_trans hz1 (by decide)) hk1 D7c.toN ?_
        intro h8 tk8 ns8 T t3 e8 hns8 D8
        have D8a : Rep h₀ h8 F ([(T, tupO ⟨(r0 :: rs).map iv⟩ 0), (S, instO 144 Dd), (Dd, dictO (attrs a N (.ref Rl) (.int (c + ((r0 :: rs).length : Nat)) t3) (.int c t2)) 4), (N, dictO (ents ns8) ep), (Rl, listO ⟨([] : List IT).map iv⟩ e8)] ++ (ncells ns8 ++ ((L, frF (rfE q Ln bv Rn S rowv none) (rfN none) sl) :: (Rn, listO ⟨rds.map rdV⟩ en) :: (dcells rds ++ ρ)))) := D8
        let S8b : List Cells := [[(T, tupO ⟨(r0 :: rs).map iv⟩ 0)], [(S, instO 144 Dd)], [(Dd, dictO (attrs a N (.ref Rl) (.int (c + ((r0 :: rs).length : Nat)) t3) (.int c t2)) 4)], [(N, dictO (ents ns8) ep)], [(Rl, listO ⟨([] : List IT).map iv⟩ e8)], icells ns8, lcells ns8, [(L, frF (rfE q Ln bv Rn S rowv none) (rfN none) sl)], [(Rn, listO ⟨rds.map rdV⟩ en)], dcells rds, ρ]; have D8b := Rep.shuf S8b [10, 10, 8, 8, 10, 9, 9, 9, 9, 10, 10] D8a.ofN
        obtain ⟨vs, hvs⟩ : ∃ vs : List Value, vs = (r0 :: rs).map iv := ⟨_, rfl⟩
        · have D9 : Rep h₀ h8 F (cat [[(T, tupO ⟨vs⟩ 0)], [(L, frF (rfE q Ln bv Rn S rowv none) (rfN none) sl)], [(S, instO 144 Dd)], [(Dd, dictO (attrs a N (.ref Rl) (.int (c + ((r0 :: rs).length : Nat)) t3) (.int c t2)) 4)], [(N, dictO (ents ns8) ep)], [(Rl, listO ⟨([] : List IT).map iv⟩ e8)], [(Rn, listO ⟨rds.map rdV⟩ en)], icells ns8, lcells ns8, dcells rds, ρ]) := by rw [hvs]; exact D8b
          refine sg2 1000 [.s 1, .s 1, .s 1, .s 2, .t, .t, .t, .e, .s 2, .t, .t, .t, .t, .t, .t, .s 2, .s 2, .t, .s 3, .t, .t, .t, .e, .t, .e, .s 2, .s 1, .e] [] G o.hd D9 (by kernel_rfl) fun h10 tk10 D10 => ?_
          refine u_iaddT D10 0 (l := h8.objs.size + 1) (b := T) (items2 := ⟨vs⟩) (n2 := 0) (by kernel_rfl) 2 (by kernel_rfl) (by rw [hvs, List.size_toArray, List.length_map]; exact Nat.le_trans hz1 (by decide)) (by kernel_rfl) (by kernel_rfl) fun h11 n11 D11 => ?_
          refine sg2 1000 [.s 0, .s 1, .t, .e, .s 1] [] G o.hd D11 (by kernel_rfl) fun h12 tk12 D12 => ?_
          refine use_again (c' := .call (.ref 127) ⟨.ref S :: vs, []⟩) (by kernel_rfl) (by kernel_rfl) (by kernel_rfl) ?_
          let S13 : List Cells := [[(h8.objs.size + 1, listO ⟨vs⟩ n11)], [(h8.objs.size, fieldsO "method" #[.ref 127, .ref S])], [(T, tupO ⟨vs⟩ 0)], [(L, frF (rfE q Ln bv Rn S rowv (some ((hS w₀.params s_rdy, tk8), .ref T))) 6 sl)], [(S, instO 144 Dd)], [(Dd, dictO (attrs a N (.ref Rl) (.int (c + ((r0 :: rs).length : Nat)) t3) (.int c t2)) 4)], [(N, dictO (ents ns8) ep)], [(Rl, listO ⟨([] : List IT).map iv⟩ e8)], [(Rn, listO ⟨rds.map rdV⟩ en)], icells ns8, lcells ns8, dcells rds, ρ]; have D13 : Rep h₀ h12 F (cat S13) := D12.eq (by kernel_rfl)
          have D14 := Rep.shuf _ [1, 1, 12, 12, 10, 6, 6, 12, 12, 12, 12, 12, 12] D13
          refine c127v (S := S) (Dd := Dd) (N := N) (Rl := Rl) (a := a) (np := .int (c + ((r0 :: rs).length : Nat)) t3) (f := c) (ft := t2) (ns := ns8) (rs0 := r0 :: rs) (rs := []) (ep := ep) (er := e8) (st' := st') (ρ := cat [[(T, tupO ⟨vs⟩ 0)], [(L, frF (rfE q Ln bv Rn S rowv (some ((hS w₀.params s_rdy, tk8), .ref T))) 6 sl)], [(Rn, listO ⟨rds.map rdV⟩ en)], dcells rds, ρ, [(h8.objs.size + 1, listO ⟨vs⟩ n11)], [(h8.objs.size, fieldsO "method" #[.ref 127, .ref S])]]) hvs G (o.ret (by kernel_rfl) (by kernel_rfl)) hz1 (by rw [hns8]; exact hm1) D14 ?_
          intro h15 tk15 ns15 rs15 e15 t15 hst hpn hrs D15
          have D16 : Rep h₀ h15 F (cat [[(S, instO 144 Dd)], [(Dd, dictO (attrs a N (.ref Rl) (.int (c + ((r0 :: rs).length : Nat)) t3) (.int (c + ((r0 :: rs).length : Nat)) t15)) 4)], [(N, dictO (ents ns15) ep)], [(Rl, listO ⟨rs15.map iv⟩ e15)], icells ns15, lcells ns15, [(T, tupO ⟨(r0 :: rs).map iv⟩ 0)], [(L, frF (rfE q Ln bv Rn S rowv (some ((hS w₀.params s_rdy, tk8), .ref T))) 6 sl)], [(Rn, listO ⟨rds.map rdV⟩ en)], dcells rds, ρ, [(h8.objs.size + 1, listO ⟨(r0 :: rs).map iv⟩ n11)], [(h8.objs.size, fieldsO "method" #[.ref 127, .ref S])]]) := by rw [← hvs]; exact D15
          have D17 := (Rep.shuf _ [10, 10, 7, 7, 10, 8, 8, 8, 8, 10, 10, 12, 12] D16).mask [false, false]
          have hI : ∃ rs' : List IT, rs'.length ≤ 16 ∧ vs = rs'.map iv := ⟨r0 :: rs, hz1, hvs⟩
          clear D15 D14 D13 D12 D11 D10 D9
          generalize vs = vs' at hI ⊢
          revert vs'
          refine ints16 ?_ ?_
          rotate_left
          · intro rs' hl hp
            rcases rs' with _ | ⟨a1, _ | ⟨a2, _ | ⟨a3, _ | ⟨a4, _ | ⟨a5, _ | ⟨a6, _ | ⟨a7, _ | ⟨a8, _ | ⟨a9, _ | ⟨a10, _ | ⟨a11, _ | ⟨a12, _ | ⟨a13, _ | ⟨a14, _ | ⟨a15, _ | ⟨a16, _ | ⟨a17, rs'⟩⟩⟩⟩⟩⟩⟩⟩⟩⟩⟩⟩⟩⟩⟩⟩⟩
            all_goals first | (exfalso; simp only [List.length_cons, List.length_nil] at hl; omega) | exact Eq.mp (by kernel_rfl) hp
          refine sg2L 1000 [.s 1, .s 6, .s 6, .s 6, .s 6, .t, .t, .s 1] [] G o.hd D17 ?_; intro fh18 oh18; refine ⟨by kernel_rfl, fun h18 tk18 D18 => ?_⟩
          refine u_sortedT D18 0 (T := T) (rs := r0 :: rs) (n := 0) (by kernel_rfl) (Nat.lt_of_le_of_lt hz1 (by decide)) (by kernel_rfl) fun h19 l19 n19 rs19 hs19 D19 => ?_
          refine sg2L 1000 [.e, .s 7] [] G o.hd D19 ?_; intro fh20 oh20; refine ⟨by kernel_rfl, fun h20 tk20 D20 => ?_⟩
          refine u_append D20 7 (l := Rn) (items := ⟨rds.map rdV⟩) (n := en) (v := .ref l19) (by kernel_rfl) (line_of (n := rds.length) (by omega) (by simp)) (by kernel_rfl) (by kernel_rfl) fun h21 D21 => ?_
          refine sg2L 1000 [] [] G o.hd D21 ?_; intro fh22 oh22; refine ⟨by kernel_rfl, fun h22 tk22 D22 => ?_⟩
          refine end_again (c' := whS (gdW G).params 160 (fstmt (gdW G).params 160 3) L) (by kernel_rfl) (by kernel_rfl) (by kernel_rfl) ?_
          let S23 : List Cells := [[(l19, listO ⟨rs19.map iv⟩ n19)], [(T, tupO ⟨(r0 :: rs).map iv⟩ 0)], [(L, frF (rfE q Ln bv Rn S rowv (some ((hS w₀.params s_rdy, tk8), .ref T))) 6 sl)], [(S, instO 144 Dd)], [(Dd, dictO (attrs a N (.ref Rl) (.int (c + ((r0 :: rs).length : Nat)) t3) (.int (c + ((r0 :: rs).length : Nat)) t15)) 4)], [(N, dictO (ents ns15) ep)], [(Rl, listO ⟨rs15.map iv⟩ e15)], [(Rn, listO ((⟨rds.map rdV⟩ : Array Value).push (.ref l19)) (en + 1))], icells ns15, lcells ns15, dcells rds, ρ]; have D23 : Rep h₀ h22 F (cat S23) := D22.eq (by kernel_rfl)
          have D24 := (Rep.shuf _ [11, 1, 11, 11, 11, 11, 11, 11, 11, 11, 11, 11] D23).mask [false]
          refine l160w (S := S) (Dd := Dd) (N := N) (Rl := Rl) (L := L) (Ln := Ln) (Rn := Rn) (a := a) (ep := ep) (q := q) (bv := bv) (rowv := rowv) (sl := sl) o fuel _ G ns15 rs15 e15 (c + ((r0 :: rs).length : Nat)) t3 t15 (rds ++ [⟨l19, rs19, n19⟩]) (en + 1) (some ((hS w₀.params s_rdy, tk8), .ref T)) h22 tk22 out' (by rw [hpn, hrs]; exact hm2) (by rw [List.length_append, List.length_singleton]; omega) ?_ ?_
          · rw [rdV_snoc, dcells_snoc]
            exact D24
          · intro h' tk' rds' en' rv' hr' D'
            refine z h' tk' rds' en' rv' ?_ D'
            rw [hr', he, List.map_append, List.append_assoc]
            congr 1
            show [rs19.map (·.1)] ++ out' = _
            rw [hs19]; rfl
      ·
        refine code_start ?_
        refine sg2L 1000 [.s 0, .s 1, .t, .t, .t, .s 1, .t, .t, .t, .s 1, .t, .t, .t, .t, .s 1, .s 2, .t] [] G o.hd D ?_; intro fh1 oh1; refine ⟨by kernel_rfl, fun h1 tk1 D1 => ?_⟩
        refine use_call (c' := .call (.ref 113) ⟨[.ref S], []⟩) (hd := none) (by kernel_rfl) rfl ?_
        let S2 : List Cells := [[(L, frF (rfE q Ln bv Rn S rowv (some (vq, vv))) (rfN (some (vq, vv))) sl)], [(S, instO 144 Dd)], [(Dd, dictO (attrs a N (.ref Rl) (.int c t1) (.int c t2)) 4)], [(N, dictO (ents ns) ep)], [(Rl, listO ⟨rs.map iv⟩ er)], [(Rn, listO ⟨rds.map rdV⟩ en)], icells ns, lcells ns, dcells rds, ρ]; have D2 : Rep h₀ h1 F (cat S2) := D1.eq (by kernel_rfl)
        have D3 := Rep.shuf _ [9, 9, 9, 9, 9, 5, 9, 9, 9, 9] D2
        refine c113 (S := S) (Dd := Dd) (N := N) (Rl := Rl) (a := a) (c := c) (t1 := t1) (t2 := t2) (es := ents ns) (ep := ep) (e := er) (rs := rs) (ρ := cat [[(L, frF (rfE q Ln bv Rn S rowv (some (vq, vv))) (rfN (some (vq, vv))) sl)], [(Rn, listO ⟨rds.map rdV⟩ en)], icells ns, lcells ns, dcells rds, ρ]) G (o.call (by kernel_rfl) (by kernel_rfl)) (Nat.le_trans (rnds_len hm) (by decide)) D3 ?_
        intro h4 tk4 D4
        let S5 : List Cells := [[(S, instO 144 Dd)], [(Dd, dictO (attrs a N (.ref Rl) (.int c t1) (.int c t2)) 4)], [(N, dictO (ents ns) ep)], [(Rl, listO ⟨rs.map iv⟩ er)], [(L, frF (rfE q Ln bv Rn S rowv (some (vq, vv))) (rfN (some (vq, vv))) sl)], [(Rn, listO ⟨rds.map rdV⟩ en)], icells ns, lcells ns, dcells rds, ρ]; have D5 : Rep h₀ h4 F (cat S5) := D4
        rcases rs with _ | ⟨r0, rs⟩
        · have D6 := Rep.shuf _ [9, 9, 7, 7, 9, 9, 9, 9, 9, 9] D5
          refine sg2L 1000 [] [] G o.hd D6 ?_; intro fh7 oh7; refine ⟨by kernel_rfl, fun h7 tk7 D7 => ?_⟩
          refine end_done (f := .next) (by kernel_rfl) (by kernel_rfl) ?_
          have D8 : Rep h₀ h7 F ([(S, instO 144 Dd), (Dd, dictO (attrs a N (.ref Rl) (.int c t1) (.int c t2)) 4), (N, dictO (ents ns) ep), (Rl, listO ⟨([] : List IT).map iv⟩ er)] ++ (icells ns ++ (lcells ns ++ ((L, frF (rfE q Ln bv Rn S rowv (some (vq, vv))) (rfN (some (vq, vv))) sl) :: (Rn, listO ⟨rds.map rdV⟩ en) :: (dcells rds ++ ρ))))) := D7.eq (by kernel_rfl)
          exact z h7 tk7 rds en (some (vq, vv)) (by rw [rnds_nil hm, List.append_nil]) D8.dropL.dropL.dropL
        obtain ⟨hz1, hk1, st', out', hm1, hm2, he⟩ := rnds_cons hm
        have D6 := Rep.shuf _ [9, 9, 9, 9, 9, 8, 8, 8, 8, 9] D5
        refine sg2L 1000 [.s 0, .s 1, .t, .t, .t, .s 1, .t, .t, .t, .s 1, .t, .t, .t, .t, .s 1, .s 2, .t] [] G o.hd D6 ?_; intro fh7 oh7; refine ⟨by kernel_rfl, fun h7 tk7 D7 => ?_⟩
        refine use_call (c' := .call (.ref 106) ⟨[.ref S], []⟩) (hd := none) (by kernel_rfl) rfl ?_
        let S7a : List Cells := [[(L, frF (rfE q Ln bv Rn S rowv (some (vq, vv))) (rfN (some (vq, vv))) sl)], [(S, instO 144 Dd)], [(Dd, dictO (attrs a N (.ref Rl) (.int c t1) (.int c t2)) 4)], [(N, dictO (ents ns) ep)], [(Rl, listO ⟨(r0 :: rs).map iv⟩ er)], [(Rn, listO ⟨rds.map rdV⟩ en)], icells ns, lcells ns, dcells rds, ρ]; have D7a : Rep h₀ h7 F (cat S7a) := D7.eq (by kernel_rfl)
        have D7b := Rep.shuf _ [9, 9, 7, 3, 9, 9, 9, 9, 9, 9] D7a
        have D7c : Rep h₀ h7 F ([(S, instO 144 Dd), (Dd, dictO (attrs a N (.ref Rl) (.int c t1) (.int c t2)) 4), (N, dictO (ents ns) ep), (Rl, listO ⟨(r0 :: rs).map iv⟩ er)] ++ (icells ns ++ (lcells ns ++ ((L, frF (rfE q Ln bv Rn S rowv (some (vq, vv))) (rfN (some (vq, vv))) sl) :: (Rn, listO ⟨rds.map rdV⟩ en) :: (dcells rds ++ ρ))))) := D7b
        refine c106 (S := S) (Dd := Dd) (N := N) (Rl := Rl) (a := a) (c := c) (t1 := t1) (nf := (.int c t2)) (ns := ns) (ep := ep) (e := er) (rs := r0 :: rs) (ρ := (L, frF (rfE q Ln bv Rn S rowv (some (vq, vv))) (rfN (some (vq, vv))) sl) :: (Rn, listO ⟨rds.map rdV⟩ en) :: (dcells rds ++ ρ)) G (o.call (by kernel_rfl) (by kernel_rfl)) (Nat.le_trans hz1 (by decide)) hk1 D7c.toN ?_
        intro h8 tk8 ns8 T t3 e8 hns8 D8
        have D8a : Rep h₀ h8 F ([(T, tupO ⟨(r0 :: rs).map iv⟩ 0), (S, instO 144 Dd), (Dd, dictO (attrs a N (.ref Rl) (.int (c + ((r0 :: rs).length : Nat)) t3) (.int c t2)) 4), (N, dictO (ents ns8) ep), (Rl, listO ⟨([] : List IT).map iv⟩ e8)] ++ (ncells ns8 ++ ((L, frF (rfE q Ln bv Rn S rowv (some (vq, vv))) (rfN (some (vq, vv))) sl) :: (Rn, listO ⟨rds.map rdV⟩ en) :: (dcells rds ++ ρ)))) := D8
        let S8b : List Cells := [[(T, tupO ⟨(r0 :: rs).map iv⟩ 0)], [(S, instO 144 Dd)], [(Dd, dictO (attrs a N (.ref Rl) (.int (c + ((r0 :: rs).length : Nat)) t3) (.int c t2)) 4)], [(N, dictO (ents ns8) ep)], [(Rl, listO ⟨([] : List IT).map iv⟩ e8)], icells ns8, lcells ns8, [(L, frF (rfE q Ln bv Rn S rowv (some (vq, vv))) (rfN (some (vq, vv))) sl)], [(Rn, listO ⟨rds.map rdV⟩ en)], dcells rds, ρ]; have D8b := Rep.shuf S8b [10, 10, 8, 8, 10, 9, 9, 9, 9, 10, 10] D8a.ofN
        obtain ⟨vs, hvs⟩ : ∃ vs : List Value, vs = (r0 :: rs).map iv := ⟨_, rfl⟩
        · have D9 : Rep h₀ h8 F (cat [[(T, tupO ⟨vs⟩ 0)], [(L, frF (rfE q Ln bv Rn S rowv (some (vq, vv))) (rfN (some (vq, vv))) sl)], [(S, instO 144 Dd)], [(Dd, dictO (attrs a N (.ref Rl) (.int (c + ((r0 :: rs).length : Nat)) t3) (.int c t2)) 4)], [(N, dictO (ents ns8) ep)], [(Rl, listO ⟨([] : List IT).map iv⟩ e8)], [(Rn, listO ⟨rds.map rdV⟩ en)], icells ns8, lcells ns8, dcells rds, ρ]) := by rw [hvs]; exact D8b
          refine sg2 1000 [.s 1, .s 1, .s 1, .s 2, .t, .t, .t, .e, .s 2, .t, .t, .t, .t, .t, .t, .s 2, .s 2, .t, .s 3, .t, .t, .t, .e, .t, .e, .s 2, .s 1, .e] [] G o.hd D9 (by kernel_rfl) fun h10 tk10 D10 => ?_
          refine u_iaddT D10 0 (l := h8.objs.size + 1) (b := T) (items2 := ⟨vs⟩) (n2 := 0) (by kernel_rfl) 2 (by kernel_rfl) (by rw [hvs, List.size_toArray, List.length_map]; exact Nat.le_trans hz1 (by decide)) (by kernel_rfl) (by kernel_rfl) fun h11 n11 D11 => ?_
          refine sg2 1000 [.s 0, .s 1, .t, .e, .s 1] [] G o.hd D11 (by kernel_rfl) fun h12 tk12 D12 => ?_
          refine use_again (c' := .call (.ref 127) ⟨.ref S :: vs, []⟩) (by kernel_rfl) (by kernel_rfl) (by kernel_rfl) ?_
          let S13 : List Cells := [[(h8.objs.size + 1, listO ⟨vs⟩ n11)], [(h8.objs.size, fieldsO "method" #[.ref 127, .ref S])], [(T, tupO ⟨vs⟩ 0)], [(L, frF (rfE q Ln bv Rn S rowv (some (vq, .ref T))) 6 sl)], [(S, instO 144 Dd)], [(Dd, dictO (attrs a N (.ref Rl) (.int (c + ((r0 :: rs).length : Nat)) t3) (.int c t2)) 4)], [(N, dictO (ents ns8) ep)], [(Rl, listO ⟨([] : List IT).map iv⟩ e8)], [(Rn, listO ⟨rds.map rdV⟩ en)], icells ns8, lcells ns8, dcells rds, ρ]; have D13 : Rep h₀ h12 F (cat S13) := D12.eq (by kernel_rfl)
          have D14 := Rep.shuf _ [1, 1, 12, 12, 10, 6, 6, 12, 12, 12, 12, 12, 12] D13
          refine c127v (S := S) (Dd := Dd) (N := N) (Rl := Rl) (a := a) (np := .int (c + ((r0 :: rs).length : Nat)) t3) (f := c) (ft := t2) (ns := ns8) (rs0 := r0 :: rs) (rs := []) (ep := ep) (er := e8) (st' := st') (ρ := cat [[(T, tupO ⟨vs⟩ 0)], [(L, frF (rfE q Ln bv Rn S rowv (some (vq, .ref T))) 6 sl)], [(Rn, listO ⟨rds.map rdV⟩ en)], dcells rds, ρ, [(h8.objs.size + 1, listO ⟨vs⟩ n11)], [(h8.objs.size, fieldsO "method" #[.ref 127, .ref S])]]) hvs G (o.ret (by kernel_rfl) (by kernel_rfl)) hz1 (by rw [hns8]; exact hm1) D14 ?_
          intro h15 tk15 ns15 rs15 e15 t15 hst hpn hrs D15
          have D16 : Rep h₀ h15 F (cat [[(S, instO 144 Dd)], [(Dd, dictO (attrs a N (.ref Rl) (.int (c + ((r0 :: rs).length : Nat)) t3) (.int (c + ((r0 :: rs).length : Nat)) t15)) 4)], [(N, dictO (ents ns15) ep)], [(Rl, listO ⟨rs15.map iv⟩ e15)], icells ns15, lcells ns15, [(T, tupO ⟨(r0 :: rs).map iv⟩ 0)], [(L, frF (rfE q Ln bv Rn S rowv (some (vq, .ref T))) 6 sl)], [(Rn, listO ⟨rds.map rdV⟩ en)], dcells rds, ρ, [(h8.objs.size + 1, listO ⟨(r0 :: rs).map iv⟩ n11)], [(h8.objs.size, fieldsO "method" #[.ref 127, .ref S])]]) := by rw [← hvs]; exact D15
          have D17 := (Rep.shuf _ [10, 10, 7, 7, 10, 8, 8, 8, 8, 10, 10, 12, 12] D16).mask [false, false]
          have hI : ∃ rs' : List IT, rs'.length ≤ 16 ∧ vs = rs'.map iv := ⟨r0 :: rs, hz1, hvs⟩
          clear D15 D14 D13 D12 D11 D10 D9
          generalize vs = vs' at hI ⊢
          revert vs'
          refine ints16 ?_ ?_
          rotate_left
          · intro rs' hl hp
            rcases rs' with _ | ⟨a1, _ | ⟨a2, _ | ⟨a3, _ | ⟨a4, _ | ⟨a5, _ | ⟨a6, _ | ⟨a7, _ | ⟨a8, _ | ⟨a9, _ | ⟨a10, _ | ⟨a11, _ | ⟨a12, _ | ⟨a13, _ | ⟨a14, _ | ⟨a15, _ | ⟨a16, _ | ⟨a17, rs'⟩⟩⟩⟩⟩⟩⟩⟩⟩⟩⟩⟩⟩⟩⟩⟩⟩
            all_goals first | (exfalso; simp only [List.length_cons, List.length_nil] at hl; omega) | exact Eq.mp (by kernel_rfl) hp
          refine sg2L 1000 [.s 1, .s 6, .s 6, .s 6, .s 6, .t, .t, .s 1] [] G o.hd D17 ?_; intro fh18 oh18; refine ⟨by kernel_rfl, fun h18 tk18 D18 => ?_⟩
          refine u_sortedT D18 0 (T := T) (rs := r0 :: rs) (n := 0) (by kernel_rfl) (Nat.lt_of_le_of_lt hz1 (by decide)) (by kernel_rfl) fun h19 l19 n19 rs19 hs19 D19 => ?_
          refine sg2L 1000 [.e, .s 7] [] G o.hd D19 ?_; intro fh20 oh20; refine ⟨by kernel_rfl, fun h20 tk20 D20 => ?_⟩
          refine u_append D20 7 (l := Rn) (items := ⟨rds.map rdV⟩) (n := en) (v := .ref l19) (by kernel_rfl) (line_of (n := rds.length) (by omega) (by simp)) (by kernel_rfl) (by kernel_rfl) fun h21 D21 => ?_
          refine sg2L 1000 [] [] G o.hd D21 ?_; intro fh22 oh22; refine ⟨by kernel_rfl, fun h22 tk22 D22 => ?_⟩
          refine end_again (c' := whS (gdW G).params 160 (fstmt (gdW G).params 160 3) L) (by kernel_rfl) (by kernel_rfl) (by kernel_rfl) ?_
          let S23 : List Cells := [[(l19, listO ⟨rs19.map iv⟩ n19)], [(T, tupO ⟨(r0 :: rs).map iv⟩ 0)], [(L, frF (rfE q Ln bv Rn S rowv (some (vq, .ref T))) 6 sl)], [(S, instO 144 Dd)], [(Dd, dictO (attrs a N (.ref Rl) (.int (c + ((r0 :: rs).length : Nat)) t3) (.int (c + ((r0 :: rs).length : Nat)) t15)) 4)], [(N, dictO (ents ns15) ep)], [(Rl, listO ⟨rs15.map iv⟩ e15)], [(Rn, listO ((⟨rds.map rdV⟩ : Array Value).push (.ref l19)) (en + 1))], icells ns15, lcells ns15, dcells rds, ρ]; have D23 : Rep h₀ h22 F (cat S23) := D22.eq (by kernel_rfl)
          have D24 := (Rep.shuf _ [11, 1, 11, 11, 11, 11, 11, 11, 11, 11, 11, 11] D23).mask [false]
          refine l160w (S := S) (Dd := Dd) (N := N) (Rl := Rl) (L := L) (Ln := Ln) (Rn := Rn) (a := a) (ep := ep) (q := q) (bv := bv) (rowv := rowv) (sl := sl) o fuel _ G ns15 rs15 e15 (c + ((r0 :: rs).length : Nat)) t3 t15 (rds ++ [⟨l19, rs19, n19⟩]) (en + 1) (some (vq, .ref T)) h22 tk22 out' (by rw [hpn, hrs]; exact hm2) (by rw [List.length_append, List.length_singleton]; omega) ?_ ?_
          · rw [rdV_snoc, dcells_snoc]
            exact D24
          · intro h' tk' rds' en' rv' hr' D'
            refine z h' tk' rds' en' rv' ?_ D'
            rw [hr', he, List.map_append, List.append_assoc]
            congr 1
            show [rs19.map (·.1)] ++ out' = _
            rw [hs19]; rfl
end Mine
end
section
open PySem PySem.W PySem.W.X PyProof.Rows
set_option Elab.async false
set_option maxRecDepth 100000
set_option maxHeartbeats 1000000
namespace Mine
variable {prog : Program} {w : World} {w₀ : World} {b1 b2 b3 : Bool} {A : Around} {R : Result → Shared → Prop} {h₀ h : Heap} {F : List Addr} {ρ σ : Cells} {g : Array GenState} {d : Drawn} {tk : Nat} {os : OsState}
theorem kind160 (P : Params) (L : Addr) : (fenv P 160 L).scope.kind ≠ .module := by
  have e : (fenv P 160 L).scope.kind = .function := by kernel_rfl
  rw [e]; decide
noncomputable def bodyFrom (P : Params) (a : Addr) (n : Nat) : List Stmt := match (fd P a).body with
  | .stmts b => b.drop n
  | .expr _ => []
noncomputable def leaveT (env : Env) (x : Value) : Sem Unit := PySem.W.R.bindR (ZFast.noteFrameY x env) (fun _ => ZFast.zw5670386056902412789 x none)
/-- a try statement of a function's body, at its except -/
noncomputable def tryΦ (E : Value) (env : Env) (hs : List ExceptHandler) (rest : List Stmt) (m : Sem Unit) : Sem Fin :=
  PySem.W.R.bindR (PySem.W.R.onRaiseR (PySem.W.R.bindR (PySem.W.R.bindR m (fun _ => tailH E env hs))
    (fun f => match f with | .next => ZFast.zw12563942051412417395 rest env | f => Sem.pure f)) (leaveT env))
    (fun f => match f with | .ret v => Sem.pure (.done (.ret v)) | _ => Sem.pure (.done (.ret .none)))
theorem tryΦ_lay (E : Value) (env : Env) (hs : List ExceptHandler) (rest : List Stmt) : LayT (tryΦ E env hs rest) := (((LayT.hole _).bind _).onRaise _).bind _
theorem c160 {Ln : Addr} {rows : List Rw} {en fuel fuel2 : Nat} {outer : List Env} {frs : Cells} {b : Bool} {ps : List PN} {out : List (List Int)} (G : Gd (wF b1 b2 b3 w₀) h₀) (o : Ok A 12) (hfr : A.frames = some outer) (hF : FrOk outer frs) (hne : rows ≠ [])
    (hadd : adds (rows.map Rw.p) [] = some ps) (hlen : ps.length ≤ 1000) (hfc : fcP ps fuel (ps.map (·.k)) [] = some b) (hrd : rnds fuel2 (ps, rd0 ps) = some out) (hf2 : fuel2 ≤ 1000)
    (D : Rep h₀ h F ((Ln, listO ⟨rows.map rwV⟩ en) :: (rcells rows ++ (frs ++ ρ))))
    (x : ∀ h' tk' frs' T Rn (rds : List Rd) en', rds.map Rd.p = out → FrSame frs frs' → Rep h₀ h' F ((T, tupO #[.bool b, .ref Rn] 0) :: (Rn, listO ⟨rds.map rdV⟩ en') :: (dcells rds ++ (frs' ++ ρ))) → R (.ok (.ret (.ref T))) ⟨h', g, d, tk', os⟩) :
    codeAny (model prog (wF b1 b2 b3 w₀)) A (.call (.ref 160) ⟨[.ref Ln], []⟩) R ⟨h, g, d, tk, os⟩ := by
  all_goals
    refine code_start ?_
    refine sg2L 1000 [.t, .t, .s 0, .s 0] [] G o.hd D ?_; intro fh1 oh1; refine ⟨by kernel_rfl, fun h1 tk1 D1 => ?_⟩
    refine enter (c2 := fcode w₀.params 160 h.objs.size) (by kernel_rfl) (by kernel_rfl) (D1.gd G).lim (o.room (by kernel_rfl)) ?_
    refine sg2L 1000 [.t, .t, .t, .e, .t, .t, .e, .t, .e, .t, .t, .t, .e, .t, .t, .t, .t, .t, .t, .t, .e, .t, .t, .t, .t, .t, .t, .t, .t, .s 0, .t, .s 0, .t, .t, .t, .t] [] G o.hd D1 ?_; intro fh2 oh2; refine ⟨by kernel_rfl, fun h2 tk2 D2 => ?_⟩
    refine use_call (c' := .call (.ref 80) ⟨[.ref (h1.objs.size + 1)], []⟩) (hd := none) (by kernel_rfl) rfl ?_
    refine c80 (S := (h1.objs.size + 1)) (Dd := h1.objs.size) (ρ := (h.objs.size, frF #[fe (hS w₀.params s_needs, tk) s_needs (.ref Ln)] 1 #[]) :: (Ln, listO ⟨rows.map rwV⟩ en) :: (rcells rows ++ (frs ++ ρ))) G (o.call (by kernel_rfl) (by kernel_rfl)) (D2.eq (by kernel_rfl)) ?_
    intro h3 tk3 a N t1 t2 D3
    refine sg2L 1000 [.s 0, .s 0, .s 0, .e, .s 0, .e, .s 0, .s 0, .e, .s 0, .e, .s 0, .s 0, .s 1, .s 0, .s 0, .s 0, .e, .s 0, .e, .s 0, .s 0, .s 1, .s 0, .s 0, .s 0, .e, .s 0, .e, .s 0, .s 0, .s 1, .s 0, .s 0, .s 0, .e, .s 0, .e, .s 0, .s 0, .s 1, .s 0, .s 0, .s 0, .s 8, .s 8, .s 8, .s 8, .s 8, .s 8, .s 8, .s 9, .s 9, .e, .s 9, .e, .s 0] [] G o.hd D3 ?_; intro fh4 oh4; refine ⟨by kernel_rfl, fun h4 tk4 D4 => ?_⟩
    refine use_call (c' := forC (gdW G).params 160 1 (h3.objs.size + 5) h.objs.size) (hd := none) (by kernel_rfl) rfl ?_
    let S5 : List Cells := [[(h3.objs.size + 5, itO "list_iterator" (.ref Ln) 0)], [(h3.objs.size + 4, stopO (h3.objs.size + 3))], [(h3.objs.size + 3, tupO #[] 0)], [(h3.objs.size + 2, itO "tuple_iterator" .none 3)], [(h3.objs.size + 1, tupO #[.ref (h1.objs.size + 1), .ref h3.objs.size, .bool false] 0)], [(h3.objs.size, listO #[] 0)], [((h1.objs.size + 1), instO 144 h1.objs.size)], [(h1.objs.size, dictO (attrs a N .none (.int 0 t1) (.int 0 t2)) 4)], [(N, dictO #[] 0)], [(h.objs.size, frF (rdE ⟨(hS w₀.params s_needs, tk), (hS w₀.params s_refused, tk3), (hS w₀.params s_rounds, tk3 + 1), (hS w₀.params s_sorter, tk3 + 2)⟩ Ln h3.objs.size (h1.objs.size + 1) none) 4 #[])], [(Ln, listO ⟨rows.map rwV⟩ en)], rcells rows, frs, ρ]; have D5 : Rep h₀ h4 F (cat S5) := D4.eq (by kernel_rfl)
    have D6 := Rep.shuf _ [13, 13, 7, 13, 11, 11, 11, 13, 13, 9, 13, 13, 13, 13] D5
    refine l160a (S := (h1.objs.size + 1)) (Dd := h1.objs.size) (N := N) (L := h.objs.size) (it := h3.objs.size + 5) (Ln := Ln) (Rn := h3.objs.size) (a := a) (np := .int 0 t1) (nf := .int 0 t2) (en := en) (q' := ⟨(hS w₀.params s_needs, tk), (hS w₀.params s_refused, tk3), (hS w₀.params s_rounds, tk3 + 1), (hS w₀.params s_sorter, tk3 + 2)⟩) (ρ := (h3.objs.size, listO #[] 0) :: (frs ++ ρ)) (o.call (by kernel_rfl) (by kernel_rfl)) rows _ G [] [] 0 none h4 tk4 ps hadd (D6.mask [false, false, false, false]) ?_
    intro h6 tk6 ns6 ep6 v6 hv6 hns6 D6
    obtain ⟨⟨vq, vv⟩, rfl⟩ := Option.isSome_iff_exists.mp (hv6 (.inl hne))
    have D7 : Rep h₀ h6 F ([(h.objs.size, frF (rdE ⟨(hS w₀.params s_needs, tk), (hS w₀.params s_refused, tk3), (hS w₀.params s_rounds, tk3 + 1), (hS w₀.params s_sorter, tk3 + 2)⟩ Ln h3.objs.size (h1.objs.size + 1) (some (vq, vv))) 5 #[]), (Ln, listO ⟨rows.map rwV⟩ en), ((h1.objs.size + 1), instO 144 h1.objs.size), (h1.objs.size, dictO (attrs a N .none (.int 0 t1) (.int 0 t2)) 4), (N, dictO (ents ns6) ep6)] ++ (ncells ns6 ++ ((h3.objs.size, listO #[] 0) :: (frs ++ ρ)))) := D6
    let S8 : List Cells := [[(h.objs.size, frF (rdE ⟨(hS w₀.params s_needs, tk), (hS w₀.params s_refused, tk3), (hS w₀.params s_rounds, tk3 + 1), (hS w₀.params s_sorter, tk3 + 2)⟩ Ln h3.objs.size (h1.objs.size + 1) (some (vq, vv))) 5 #[])], [(Ln, listO ⟨rows.map rwV⟩ en)], [((h1.objs.size + 1), instO 144 h1.objs.size)], [(h1.objs.size, dictO (attrs a N .none (.int 0 t1) (.int 0 t2)) 4)], [(N, dictO (ents ns6) ep6)], icells ns6, lcells ns6, [(h3.objs.size, listO #[] 0)], frs, ρ]; have D8 := Rep.shuf S8 [9, 8, 3, 9, 9, 9, 9, 9, 9, 9] D7.ofN
    refine sg2L 1000 [.s 0, .s 1, .t, .t, .t, .s 1, .t, .t, .t, .s 1, .t, .t, .t, .t, .s 1, .s 2, .t] [] G o.hd D8 ?_; intro fh9 oh9; refine ⟨by kernel_rfl, fun h9 tk9 D9 => ?_⟩
    refine use_call (c' := .call (.ref 99) ⟨[.ref (h1.objs.size + 1)], []⟩) (hd := none) (by kernel_rfl) rfl ?_
    let S10 : List Cells := [[(h.objs.size, frF (rdE ⟨(hS w₀.params s_needs, tk), (hS w₀.params s_refused, tk3), (hS w₀.params s_rounds, tk3 + 1), (hS w₀.params s_sorter, tk3 + 2)⟩ Ln h3.objs.size (h1.objs.size + 1) (some (vq, vv))) 5 #[])], [((h1.objs.size + 1), instO 144 h1.objs.size)], [(h1.objs.size, dictO (attrs a N .none (.int 0 t1) (.int 0 t2)) 4)], [(N, dictO (ents ns6) ep6)], icells ns6, lcells ns6, frs, [(Ln, listO ⟨rows.map rwV⟩ en)], [(h3.objs.size, listO #[] 0)], ρ]; have D10 : Rep h₀ h9 F (cat S10) := D9.eq (by kernel_rfl)
    have D11 := Rep.shuf _ [9, 9, 9, 9, 4, 9, 9, 9, 9, 9] D10
    have hpk : ns6.map (·.k) = ps.map (·.k) := by rw [← hns6]; simp [pns, Nd.pn]
    refine c99 (S := (h1.objs.size + 1)) (Dd := h1.objs.size) (N := N) (a := a) (np := .int 0 t1) (nf := .int 0 t2) (epn := ep6) (fuel := fuel) (ns := ns6) (b := b) (outer := fenv (gdW G).params 160 h.objs.size :: outer) (frs := (h.objs.size, frF (rdE ⟨(hS w₀.params s_needs, tk), (hS w₀.params s_refused, tk3), (hS w₀.params s_rounds, tk3 + 1), (hS w₀.params s_sorter, tk3 + 2)⟩ Ln h3.objs.size (h1.objs.size + 1) (some (vq, vv))) 5 #[]) :: frs) (ρ := (Ln, listO ⟨rows.map rwV⟩ en) :: (h3.objs.size, listO #[] 0) :: ρ) G (o.call (by kernel_rfl) (by kernel_rfl)) (frames_fn hfr (by kernel_rfl)) ⟨kind160 _ _, by kernel_rfl, (fun vs hv => by cases hv), hF⟩ (by rw [← hns6] at hlen; simpa [pns] using hlen) (by rw [hns6, hpk]; exact hfc) D11 ?_ ?_
    · intro hb h12 tk12 frs12 Rl rs er E E0 tb0 L0 d0 d1 d2 d3 d4 d5 hrs hs D12
      subst hb
      cases hs with
      | cons _ _ sl hs =>
      rename_i frs13
      let S13 : List Cells := [[(tb0, tbO .none L0 .none d0 d1 d2 d3 d4 d5)], [(E, cycO E0 tb0)], [((h1.objs.size + 1), instO 144 h1.objs.size)], [(h1.objs.size, dictO (attrs a N (.ref Rl) (.int 0 t1) (.int 0 t2)) 4)], [(N, dictO (ents ns6) ep6)], [(Rl, listO ⟨rs.map iv⟩ er)], icells ns6, lcells ns6, [(h.objs.size, frF (rdE ⟨(hS w₀.params s_needs, tk), (hS w₀.params s_refused, tk3), (hS w₀.params s_rounds, tk3 + 1), (hS w₀.params s_sorter, tk3 + 2)⟩ Ln h3.objs.size (h1.objs.size + 1) (some (vq, vv))) 5 sl)], frs13, [(Ln, listO ⟨rows.map rwV⟩ en)], [(h3.objs.size, listO #[] 0)], ρ]; have D13 : Rep h₀ h12 F (cat S13) := D12
      have D14 := Rep.shuf _ [12, 11, 9, 9, 12, 10, 10, 10, 10, 12, 12, 12, 12] D13
      refine note_more (frs := (h.objs.size, frF (rdE ⟨(hS w₀.params s_needs, tk), (hS w₀.params s_refused, tk3), (hS w₀.params s_rounds, tk3 + 1), (hS w₀.params s_sorter, tk3 + 2)⟩ Ln h3.objs.size (h1.objs.size + 1) (some (vq, vv))) 5 sl) :: frs13) (L := h.objs.size) (L0 := L0) (outer := outer) (hd0 := .none) (tryΦ_lay (.ref E) (fenv (gdW G).params 160 h.objs.size) (handsOf (fstmt (gdW G).params 160 2)) (bodyFrom (gdW G).params 160 3)) (env := fenv (gdW G).params 160 h.objs.size) (by kernel_rfl) (frames_fn hfr (by kernel_rfl)) (by kernel_rfl) ⟨kind160 _ _, by kernel_rfl, (fun vs hv => by cases hv), hF.same hs⟩ D14 fun h15 frs15 tb c0 c1 c2 c3 c4 c5 hs15 D15 => ?_
      cases hs15 with
      | cons _ _ sl15 hs15 =>
      rename_i frs16
      let S16 : List Cells := [[(tb, tbO (.ref tb0) h.objs.size (rawInt h.objs.size) c0 c1 c2 c3 c4 c5)], [(tb0, tbO .none L0 .none d0 d1 d2 d3 d4 d5)], [(E, cycO E0 tb)], [(h.objs.size, frF (rdE ⟨(hS w₀.params s_needs, tk), (hS w₀.params s_refused, tk3), (hS w₀.params s_rounds, tk3 + 1), (hS w₀.params s_sorter, tk3 + 2)⟩ Ln h3.objs.size (h1.objs.size + 1) (some (vq, vv))) 5 sl15)], frs16, [((h1.objs.size + 1), instO 144 h1.objs.size)], [(h1.objs.size, dictO (attrs a N (.ref Rl) (.int 0 t1) (.int 0 t2)) 4)], [(N, dictO (ents ns6) ep6)], [(Rl, listO ⟨rs.map iv⟩ er)], [(h3.objs.size, listO #[] 0)], icells ns6, lcells ns6, [(Ln, listO ⟨rows.map rwV⟩ en)], ρ]; have D16 : Rep h₀ h15 F (cat S16) := D15
      have D17 := Rep.shuf _ [13, 13, 6, 13, 13, 13, 13, 13, 13, 13, 13, 13, 13, 13] D16
      refine sg2L 1000 [.s 2, .s 0, .s 0, .e, .t, .t, .t, .t, .s 2, .t, .e, .s 2, .s 0, .s 0, .s 3, .s 3] [false, false, false] G o.hd D17 ?_; intro fh18 oh18; refine ⟨by kernel_rfl, fun h18 tk18 D18 => ?_⟩
      let S19 : List Cells := [[(h.objs.size, frF (rfE ⟨(hS w₀.params s_needs, tk), (hS w₀.params s_refused, tk3), (hS w₀.params s_rounds, tk3 + 1), (hS w₀.params s_sorter, tk3 + 2), vq⟩ Ln (.bool true) h3.objs.size (h1.objs.size + 1) vv none) 5 sl15)], [((h1.objs.size + 1), instO 144 h1.objs.size)], [(h1.objs.size, dictO (attrs a N (.ref Rl) (.int 0 t1) (.int 0 t2)) 4)], [(N, dictO (ents ns6) ep6)], [(Rl, listO ⟨rs.map iv⟩ er)], [(h3.objs.size, listO #[] 0)], icells ns6, lcells ns6, frs16, [(Ln, listO ⟨rows.map rwV⟩ en)], ρ]; have D19 : Rep h₀ h18 F (cat S19) := D18.eq (by kernel_rfl)
      refine use_call (c' := whS (gdW G).params 160 (fstmt (gdW G).params 160 3) h.objs.size) (hd := none) (by kernel_rfl) rfl ?_
      refine l160w (S := (h1.objs.size + 1)) (Dd := h1.objs.size) (N := N) (Rl := Rl) (L := h.objs.size) (Ln := Ln) (Rn := h3.objs.size) (a := a) (ep := ep6) (q := ⟨(hS w₀.params s_needs, tk), (hS w₀.params s_refused, tk3), (hS w₀.params s_rounds, tk3 + 1), (hS w₀.params s_sorter, tk3 + 2), vq⟩) (bv := (.bool true)) (rowv := vv) (sl := sl15) (ρ := frs16 ++ ((Ln, listO ⟨rows.map rwV⟩ en) :: ρ)) (o.call (by kernel_rfl) (by kernel_rfl)) fuel2 _ G ns6 rs er 0 t1 t2 [] 0 none h18 tk18 out (by rw [hrs, hns6]; exact hrd) (by simpa using hf2) D19 ?_
      intro h20 tk20 rds en20 rv hrds D20
      rcases rv with _ | ⟨rq, rvv⟩
      all_goals
        refine sg2L 1000 [.s 0, .s 0] [] G o.hd D20 ?_; intro fh21 oh21; refine ⟨by kernel_rfl, fun h21 tk21 D21 => ?_⟩
        refine end_done (f := .ret (.ref h20.objs.size)) (by kernel_rfl) (by kernel_rfl) ?_
        refine x h21 tk21 _ h20.objs.size h3.objs.size rds en20 hrds (hs.trans hs15) ?_
  
        have D22 := D21.mask [true, false]
        let S23 : List Cells := [[(h20.objs.size, tupO #[.bool true, .ref h3.objs.size] 0)], [(h3.objs.size, listO ⟨rds.map rdV⟩ en20)], dcells rds, frs16, [(Ln, listO ⟨rows.map rwV⟩ en)], ρ]; have D23 : Rep h₀ h21 F (cat S23) := D22.eq (by kernel_rfl)
        exact (Rep.shuf _ [5, 4, 4, 4, 4, 5] D23).mask [false]

    · intro hb h12 tk12 frs12 Rl rs er hrs hs D12
      subst hb
      cases hs with
      | cons _ _ sl hs =>
      rename_i frs13
      let S13 : List Cells := [[((h1.objs.size + 1), instO 144 h1.objs.size)], [(h1.objs.size, dictO (attrs a N (.ref Rl) (.int 0 t1) (.int 0 t2)) 4)], [(N, dictO (ents ns6) ep6)], [(Rl, listO ⟨rs.map iv⟩ er)], icells ns6, lcells ns6, [(h.objs.size, frF (rdE ⟨(hS w₀.params s_needs, tk), (hS w₀.params s_refused, tk3), (hS w₀.params s_rounds, tk3 + 1), (hS w₀.params s_sorter, tk3 + 2)⟩ Ln h3.objs.size (h1.objs.size + 1) (some (vq, vv))) 5 sl)], frs13, [(Ln, listO ⟨rows.map rwV⟩ en)], [(h3.objs.size, listO #[] 0)], ρ]; have D13 : Rep h₀ h12 F (cat S13) := D12
      have D14 := Rep.shuf _ [10, 9, 9, 8, 8, 10, 9, 9, 9, 9, 10] D13
      refine sg2L 1000 [] [] G o.hd D14 ?_; intro fh18 oh18; refine ⟨by kernel_rfl, fun h18 tk18 D18 => ?_⟩
      let S19 : List Cells := [[(h.objs.size, frF (rfE ⟨(hS w₀.params s_needs, tk), (hS w₀.params s_refused, tk3), (hS w₀.params s_rounds, tk3 + 1), (hS w₀.params s_sorter, tk3 + 2), vq⟩ Ln (.bool false) h3.objs.size (h1.objs.size + 1) vv none) 5 sl)], [((h1.objs.size + 1), instO 144 h1.objs.size)], [(h1.objs.size, dictO (attrs a N (.ref Rl) (.int 0 t1) (.int 0 t2)) 4)], [(N, dictO (ents ns6) ep6)], [(Rl, listO ⟨rs.map iv⟩ er)], [(h3.objs.size, listO #[] 0)], icells ns6, lcells ns6, frs13, [(Ln, listO ⟨rows.map rwV⟩ en)], ρ]; have D19 : Rep h₀ h18 F (cat S19) := D18.eq (by kernel_rfl)
      refine use_call (c' := whS (gdW G).params 160 (fstmt (gdW G).params 160 3) h.objs.size) (hd := none) (by kernel_rfl) rfl ?_
      refine l160w (S := (h1.objs.size + 1)) (Dd := h1.objs.size) (N := N) (Rl := Rl) (L := h.objs.size) (Ln := Ln) (Rn := h3.objs.size) (a := a) (ep := ep6) (q := ⟨(hS w₀.params s_needs, tk), (hS w₀.params s_refused, tk3), (hS w₀.params s_rounds, tk3 + 1), (hS w₀.params s_sorter, tk3 + 2), vq⟩) (bv := (.bool false)) (rowv := vv) (sl := sl) (ρ := frs13 ++ ((Ln, listO ⟨rows.map rwV⟩ en) :: ρ)) (o.call (by kernel_rfl) (by kernel_rfl)) fuel2 _ G ns6 rs er 0 t1 t2 [] 0 none h18 tk18 out (by rw [hrs, hns6]; exact hrd) (by simpa using hf2) D19 ?_
      intro h20 tk20 rds en20 rv hrds D20
      rcases rv with _ | ⟨rq, rvv⟩
      all_goals
        refine sg2L 1000 [.s 0, .s 0] [] G o.hd D20 ?_; intro fh21 oh21; refine ⟨by kernel_rfl, fun h21 tk21 D21 => ?_⟩
        refine end_done (f := .ret (.ref h20.objs.size)) (by kernel_rfl) (by kernel_rfl) ?_
        refine x h21 tk21 _ h20.objs.size h3.objs.size rds en20 hrds hs ?_
  
        have D22 := D21.mask [true, false]
        let S23 : List Cells := [[(h20.objs.size, tupO #[.bool false, .ref h3.objs.size] 0)], [(h3.objs.size, listO ⟨rds.map rdV⟩ en20)], dcells rds, frs13, [(Ln, listO ⟨rows.map rwV⟩ en)], ρ]; have D23 : Rep h₀ h21 F (cat S23) := D22.eq (by kernel_rfl)
        exact (Rep.shuf _ [5, 4, 4, 4, 4, 5] D23).mask [false]

end Mine
end
section
open PySem PySem.W PySem.W.X PyProof.Rows
set_option Elab.async false
set_option maxRecDepth 100000
set_option maxHeartbeats 1000000
namespace Mine
section
variable {prog : Program} {w : World} {A : Around} {R : Result → Shared → Prop} {h : Heap} {g : Array GenState} {d : Drawn} {tk : Nat} {os : OsState} {c : Code} {κ : Kn} {t : Sem Fin} {a b : Int} {ta tb : Tok}
theorem u_and (hc : callOf t = some (.call (.builtin "int.__and__") ⟨[.int a ta, .int b tb], []⟩, none))
    (x : Mn prog w A R c κ (contOf t (.ok (.ret (.int (Builtin.bitAnd a b) tk)))) ⟨h, g, d, tk + 1, os⟩) : Mn prog w A R c κ t ⟨h, g, d, tk, os⟩ :=
  use_any hc (wpAny_mono (call_int_and (s := ⟨h, g, d, tk, os⟩) (Q := fun v s' => Mn prog w A R c κ (contOf t (.ok (.ret v))) s') x) (fun _ _ q => q.2) fun _ _ q => q)
theorem u_or (hc : callOf t = some (.call (.builtin "int.__or__") ⟨[.int a ta, .int b tb], []⟩, none))
    (x : Mn prog w A R c κ (contOf t (.ok (.ret (.int (Builtin.bitOr a b) tk)))) ⟨h, g, d, tk + 1, os⟩) : Mn prog w A R c κ t ⟨h, g, d, tk, os⟩ :=
  use_any hc (wpAny_mono (call_int_or (s := ⟨h, g, d, tk, os⟩) (Q := fun v s' => Mn prog w A R c κ (contOf t (.ok (.ret v))) s') x) (fun _ _ q => q.2) fun _ _ q => q)
theorem u_shl (hc : callOf t = some (.call (.builtin "int.__lshift__") ⟨[.int a ta, .int b tb], []⟩, none)) (hn : 0 ≤ b) (hsz : (Builtin.Int.intBits a : Int) + b ≤ 2 ^ 27)
    (x : Mn prog w A R c κ (contOf t (.ok (.ret (.int (a * 2 ^ b.toNat) tk)))) ⟨h, g, d, tk + 1, os⟩) : Mn prog w A R c κ t ⟨h, g, d, tk, os⟩ :=
  use_any hc (wpAny_mono (call_int_lshift (s := ⟨h, g, d, tk, os⟩) (Q := fun v s' => Mn prog w A R c κ (contOf t (.ok (.ret v))) s') hn hsz x) (fun _ _ q => q.2) fun _ _ q => q)
theorem u_mod (hc : callOf t = some (.call (.builtin "int.__mod__") ⟨[.int a ta, .int b tb], []⟩, none)) (hb : b ≠ 0)
    (x : Mn prog w A R c κ (contOf t (.ok (.ret (.int (a.fmod b) tk)))) ⟨h, g, d, tk + 1, os⟩) : Mn prog w A R c κ t ⟨h, g, d, tk, os⟩ :=
  use_any hc (wpAny_mono (call_int_mod (s := ⟨h, g, d, tk, os⟩) (Q := fun v s' => Mn prog w A R c κ (contOf t (.ok (.ret v))) s') hb x) (fun _ _ q => q.2) fun _ _ q => q)
theorem u_fdiv (hc : callOf t = some (.call (.builtin "int.__floordiv__") ⟨[.int a ta, .int b tb], []⟩, none)) (hb : b ≠ 0) (hs : b.natAbs < 1073741824)
    (x : Mn prog w A R c κ (contOf t (.ok (.ret (.int (a.fdiv b) tk)))) ⟨h, g, d, tk + 1, os⟩) : Mn prog w A R c κ t ⟨h, g, d, tk, os⟩ :=
  use_any hc (wpAny_mono (call_int_floordiv (s := ⟨h, g, d, tk, os⟩) (Q := fun v s' => Mn prog w A R c κ (contOf t (.ok (.ret v))) s') hb x (.inl (PyProof.noPylong_small hs))) (fun _ _ q => q.2) fun _ _ q => q)
theorem u_mul (hc : callOf t = some (.call (.builtin "int.__mul__") ⟨[.int a ta, .int b tb], []⟩, none)) (hm : IntMulOk a b)
    (x : Mn prog w A R c κ (contOf t (.ok (.ret (.int (a * b) tk)))) ⟨h, g, d, tk + 1, os⟩) : Mn prog w A R c κ t ⟨h, g, d, tk, os⟩ :=
  use_any hc (wpAny_mono (call_int_mul (s := ⟨h, g, d, tk, os⟩) (Q := fun v s' => Mn prog w A R c κ (contOf t (.ok (.ret v))) s') x hm) (fun _ _ q => q.2) fun _ _ q => q)
theorem u_pow (hc : callOf t = some (.call (.builtin "int.__pow__") ⟨[.int a ta, .int b tb], []⟩, none)) (hn : 0 ≤ b) (hsz : (Builtin.Int.intBits a : Int) * b ≤ 2 ^ 27)
    (x : Mn prog w A R c κ (contOf t (.ok (.ret (.int (a ^ b.toNat) tk)))) ⟨h, g, d, tk + 1, os⟩) : Mn prog w A R c κ t ⟨h, g, d, tk, os⟩ :=
  use_any hc (wpAny_mono (call_int_pow (s := ⟨h, g, d, tk, os⟩) (Q := fun v s' => Mn prog w A R c κ (contOf t (.ok (.ret v))) s') hn hsz x) (fun _ _ q => q.2) fun _ _ q => q)
end
theorem and63 (x : Int) : Builtin.bitAnd x 63 = x % 64 := by first | exact bitAnd_m6 x | exact PySem.W.bitAnd_m6 x
theorem and64 {x : Int} (h0 : 0 ≤ x) (h1 : x < 256) : Builtin.bitAnd x 64 = x / 64 % 2 * 64 := by
  obtain ⟨n, rfl⟩ := Int.eq_ofNat_of_zero_le h0
  have hn : n < 256 := by omega
  have key : ∀ m : Fin 256, Builtin.bitAnd ((m : Nat) : Int) 64 = ((m : Nat) : Int) / 64 % 2 * 64 := by decide +kernel
  exact key ⟨n, hn⟩
theorem nat_and_zero (v r : Nat) (hr : r < 64) : v * 64 &&& r = 0 := by
  apply Nat.eq_of_testBit_eq
  intro i
  rw [Nat.testBit_and, Nat.zero_testBit]
  by_cases hi : 6 ≤ i
  · have : r.testBit i = false := Nat.testBit_lt_two_pow (Nat.lt_of_lt_of_le hr (by show 2 ^ 6 ≤ 2 ^ i; exact Nat.pow_le_pow_right (by decide) hi))
    rw [this, Bool.and_false]
  · have e : v * 64 = 2 ^ 6 * v := by rw [Nat.mul_comm]
    rw [e, Nat.testBit_two_pow_mul]
    simp [hi]
theorem or64 {v r : Int} (hv : 0 ≤ v) (h0 : 0 ≤ r) (h1 : r < 64) : Builtin.bitOr (v * 2 ^ (6 : Int).toNat) r = v * 64 + r := by
  have e6 : (2 : Int) ^ (6 : Int).toNat = 64 := by decide
  rw [e6, bitOr_and, bitAnd_pp (by omega) h0]
  obtain ⟨n, rfl⟩ := Int.eq_ofNat_of_zero_le hv
  obtain ⟨m, rfl⟩ := Int.eq_ofNat_of_zero_le h0
  have e1 : ((n : Int) * 64).toNat = n * 64 := by omega
  have e2 : ((m : Int)).toNat = m := by omega
  rw [e1, e2, nat_and_zero n m (by omega)]
  omega
theorem bits_le {v : Int} {k : Nat} (h0 : 0 ≤ v) (h1 : v < 2 ^ k) : Builtin.Int.intBits v ≤ k := by
  unfold Builtin.Int.intBits
  split
  · exact Nat.zero_le _
  · rename_i hne
    have hn : v.natAbs ≠ 0 := by
      intro e
      apply hne
      have : v = 0 := by omega
      rw [this]; rfl
    have : v.natAbs < 2 ^ k := by
      have : (v.natAbs : Int) = v := Int.natAbs_of_nonneg h0
      have h2 : ((v.natAbs : Nat) : Int) < ((2 ^ k : Nat) : Int) := by rw [this]; simpa using h1
      exact Int.ofNat_lt.mp h2
    exact (Nat.log2_lt hn).mpr this
end Mine
end
section
open PySem PySem.W PySem.W.X PyProof.Rows
set_option Elab.async false
set_option maxRecDepth 100000
set_option maxHeartbeats 1000000
namespace Mine
variable {prog : Program} {w : World} {w₀ : World} {b1 b2 b3 : Bool} {A : Around} {R : Result → Shared → Prop} {h₀ h : Heap} {F : List Addr} {ρ σ : Cells} {g : Array GenState} {d : Drawn} {tk : Nat} {os : OsState}
noncomputable def pvL (v b : Int) : List Int → Option (Int × List Int)
  | [] => if b / 64 % 2 = 1 then none else some (v, [])
  | x :: r => if b / 64 % 2 = 1 then pvL (v * 64 + x % 64) x r else some (v, x :: r)
noncomputable def pv : List Int → Option (Int × List Int)
  | [] => none
  | x :: r => pvL (x % 64) x r
theorem kind28 (P : Params) (L : Addr) : (fenv P 28 L).scope.kind ≠ .module := by
  have e : (fenv P 28 L).scope.kind = .function := by kernel_rfl
  rw [e]; decide
/-- an exception leaves a loop's code -/
noncomputable def loΦ (E : Value) (m : Sem Unit) : Sem Fin :=
  PySem.W.R.bindR (PySem.W.R.bindR m (fun _ => ZFast.zw1623429502029203251 E)) (fun _ => (Sem.raise E : Sem Fin))
theorem loΦ_lay (E : Value) : LayT (loΦ E) := (LayT.hole _).bind _
theorem note_same {c : Code} {κ : Kn} {t : Sem Fin} {Φ : Sem Unit → Sem Fin} (hΦ : LayT Φ) {e L Lx tb0 : Addr} {env : Env} {T v0 v2 v3 v4 v5 hd0 d0 d1 d2 d3 d4 d5 : Value} (ht : t = Φ (ZFast.noteFrameY (.ref e) env)) (hL : env.frame = some L)
    (D : Rep h₀ h F ((tb0, tbO hd0 Lx (rawInt L) d0 d1 d2 d3 d4 d5) :: (e, fldO T #[v0, .ref tb0, v2, v3, v4, v5]) :: σ))
    (x : Mn prog w A R c κ (Φ (.pure ())) ⟨h, g, d, tk, os⟩) : Mn prog w A R c κ t ⟨h, g, d, tk, os⟩ := by
  subst ht
  rw [← ZFast.noteFrameY_eq]
  suffices z : wpAny (model prog w) ((arnd A κ).under c) (noteFrame (.ref e) env) (fun _ s' => Mn prog w A R c κ (Φ (.pure ())) s') (fun _ _ => False) ⟨h, g, d, tk, os⟩ by
    intro Γ p hc hΓ
    refine hΦ _ _ _ _ _ _ _ (Sem.wp_mono _ _ _ (fun u p' s' hu => ?_) (fun _ _ _ x => x) _ _ (z Γ p (hc ▸ hΓ.in)))
    exact hu Γ p' hc hΓ
  have he := D.cell 1 (a := e) rfl
  have ht0 := D.cell 0 (a := tb0) rfl
  unfold noteFrame
  simp only [hL]
  refine wpAny_bind (wpAny_field (s := ⟨h, g, d, tk, os⟩) (x := .ref tb0) he rfl rfl ?_)
  rw [if_pos (show (Value.ref tb0 != Value.none) = true from by simp)]
  refine wpAny_bind (wpAny_field (s := ⟨h, g, d, tk, os⟩) (x := rawInt L) ht0 rfl rfl ?_)
  rw [if_pos (show (rawInt L == rawInt L) = true from by simp)]
  exact wpAny_pure x
theorem l28 {it T L : Addr} {e : Nat} {q0 q1 q2 : Q2} {outer : List Env} {frs : Cells} (o : Ok A 3) : ∀ (rest : List IT) (b1 : Bool) (_ : Gd (wF b1 b2 b3 w₀) h₀) (_ : A.frames = some (fenv (wF b1 b2 b3 w₀).params 28 L :: outer)) (dn : List IT) (b : IT) (v : Int) (vt : Tok) (m : Nat) (h : Heap) (tk : Nat),
    FrOk outer frs → (0 ≤ b.1 ∧ b.1 < 256) → (∀ r ∈ rest, 0 ≤ r.1 ∧ r.1 < 256) → 0 ≤ v → v < 2 ^ (6 * m) → m + rest.length ≤ 100 →
    Rep h₀ h F ((L, frF #[fe q0 s_iterator (.ref it), fe q1 s_b (iv b), fe q2 s_val (.int v vt)] 3 #[]) :: (it, itO "list_iterator" (.ref T) dn.length) :: (T, listO ⟨(dn ++ rest).map iv⟩ e) :: (frs ++ ρ)) →
    (∀ h' tk' b' v' vt' dn' rest', pvL v b.1 (rest.map (·.1)) = some (v', rest'.map (·.1)) → dn ++ rest = dn' ++ rest' → Rep h₀ h' F ((L, frF #[fe q0 s_iterator (.ref it), fe q1 s_b b', fe q2 s_val (.int v' vt')] 3 #[]) :: (it, itO "list_iterator" (.ref T) dn'.length) :: (T, listO ⟨(dn ++ rest).map iv⟩ e) :: (frs ++ ρ)) → R (.ok .next) ⟨h', g, d, tk', os⟩) →
    (pvL v b.1 (rest.map (·.1)) = none → ∀ h' tk' frs' E E0 tb c0 c1 c2 c3 c4 c5 fo, FrSame frs frs' → Rep h₀ h' F ((tb, tbO .none L (rawInt L) c0 c1 c2 c3 c4 c5) :: (E, fldO (.type "StopIteration") #[.ref E0, .ref tb, .none, .none, .bool false, .none]) :: (L, fo) :: (T, listO ⟨(dn ++ rest).map iv⟩ e) :: (frs' ++ ρ)) → R (.error (.ref E)) ⟨h', g, d, tk', os⟩) →
    codeAny (model prog (wF b1 b2 b3 w₀)) A (whS (wF b1 b2 b3 w₀).params 28 (fstmt (wF b1 b2 b3 w₀).params 28 2) L) R ⟨h, g, d, tk, os⟩
  | [] => by
    intro b1 G hfr dn b v vt m h tk hF hb hr hv hvm hml D xr xe
    refine code_start ?_
    refine sgL 1000 [.s 0] [] G o.hd D ?_; intro oh1; refine ⟨by kernel_rfl, fun h1 tk1 D1 => ?_⟩
    refine u_and (a := b.1) (ta := b.2) (b := 64) (tb := tk) (by kernel_rfl) ?_
    rw [and64 hb.1 hb.2]
    by_cases hbit : b.1 / 64 % 2 = 1
    rotate_left
    · have h0 : b.1 / 64 % 2 = 0 := by omega
      rw [h0, show (0 : Int) * 64 = 0 from rfl]
      refine sgL 1000 [.e, .e] [] G o.hd D1 ?_; intro oh2; refine ⟨by kernel_rfl, fun h2 tk2 D2 => ?_⟩
      exact end_done (f := .next) (by kernel_rfl) (by kernel_rfl) (xr h2 tk2 (iv b) v vt dn [] (by simp [pvL, hbit]) rfl (D2.eq (by kernel_rfl)))
    rw [hbit, show (1 : Int) * 64 = 64 from rfl]
    refine sgL 1000 [.e, .e, .s 0] [] G o.hd D1 ?_; intro oh3; refine ⟨by kernel_rfl, fun h3 tk3 D3 => ?_⟩
    have hbl := bits_le hv hvm
    refine u_shl (a := v) (ta := vt) (b := 6) (tb := tk1 + 1) (by kernel_rfl) (by decide) (by omega) ?_
    refine sgL 1000 [.s 0, .s 0, .t, .t, .s 0, .e, .e, .s 1, .s 1, .e, .s 1] [] G o.hd D3 ?_; intro oh4; refine ⟨by kernel_rfl, fun h4 tk4 D4 => ?_⟩
    have hat : (⟨(dn ++ []).map iv⟩ : Array Value)[dn.length]? = none := by rw [List.append_nil]; exact getElem_end dn
    refine u_lstop D4 1 (it := it) (T := T) (items := ⟨(dn ++ []).map iv⟩) (n := e) (i := dn.length) (by kernel_rfl) 2 (by kernel_rfl) hat o.hd (by kernel_rfl) (by kernel_rfl) (by kernel_rfl) fun h5 E E0 D5 => ?_
    refine sgL 1000 [] [] G o.hd D5 ?_; intro oh6; refine ⟨by kernel_rfl, fun h6 tk6 D6 => ?_⟩
    let S7 : List Cells := [[(E, stopO E0)], [(E0, tupO #[] 0)], [(L, frF #[fe q0 s_iterator (.ref it), fe q1 s_b (iv b), fe q2 s_val (.int (v * 2 ^ (6 : Int).toNat) (tk3))] 3 #[])], [(it, itO "list_iterator" .none dn.length)], [(T, listO ⟨(dn ++ []).map iv⟩ e)], frs, ρ]; have D7 : Rep h₀ h6 F (cat S7) := D6.eq (by kernel_rfl)
    have D8 := Rep.shuf _ [3, 2, 6, 5, 6, 6, 6] D7
    refine note_new (frs := (L, frF #[fe q0 s_iterator (.ref it), fe q1 s_b (iv b), fe q2 s_val (.int (v * 2 ^ (6 : Int).toNat) (tk3))] 3 #[]) :: frs) (L := L) (outer := outer) (loΦ_lay (.ref E)) (env := fenv (gdW G).params 28 L) (by kernel_rfl) (frames_of hfr (by kernel_rfl)) (by kernel_rfl) ⟨kind28 _ _, by kernel_rfl, (fun vs hv => by cases hv), hF⟩ D8 fun h9 frs9 tb c0 c1 c2 c3 c4 c5 hs9 D9 => ?_
    cases hs9 with
    | cons _ _ sl9 hs9 =>
    rename_i frs10
    refine sgSL 1000 [] [] G o.hd D9 ?_; intro y oh11; refine ⟨by kernel_rfl, fun h11 tk11 D11 => ?_⟩
    refine end_raise (e := .ref E) (by kernel_rfl) (by kernel_rfl) ?_
    let S12 : List Cells := [[(tb, tbO .none L (rawInt L) c0 c1 c2 c3 c4 c5)], [(E, fldO (.type "StopIteration") #[.ref E0, .ref tb, .none, .none, .bool false, .none])], [(L, ((L, frF #[fe q0 s_iterator (.ref it), fe q1 s_b (iv b), fe q2 s_val (.int (v * 2 ^ (6 : Int).toNat) (tk3))] 3 sl9)).2)], frs10, [(T, listO ⟨(dn ++ []).map iv⟩ e)], ρ, [(E0, tupO #[] 0)], [(it, itO "list_iterator" .none dn.length)]]; have D12 : Rep h₀ h11 F (cat S12) := D11.eq (by kernel_rfl)
    have D13 := Rep.shuf _ [5, 4, 5, 5, 5, 5, 7, 7] D12
    exact xe (by simp [pvL, hbit]) h11 tk11 frs10 E E0 tb c0 c1 c2 c3 c4 c5 _ hs9 (D13.mask [false, false])
  | x :: rest => by
    intro b1 G hfr dn b v vt m h tk hF hb hr hv hvm hml D xr xe
    have hx := hr x (.head _)
    simp only [List.length_cons] at hml
    refine code_start ?_
    refine sgL 1000 [.s 0] [] G o.hd D ?_; intro oh1; refine ⟨by kernel_rfl, fun h1 tk1 D1 => ?_⟩
    refine u_and (a := b.1) (ta := b.2) (b := 64) (tb := tk) (by kernel_rfl) ?_
    rw [and64 hb.1 hb.2]
    by_cases hbit : b.1 / 64 % 2 = 1
    rotate_left
    · have h0 : b.1 / 64 % 2 = 0 := by omega
      rw [h0, show (0 : Int) * 64 = 0 from rfl]
      refine sgL 1000 [.e, .e] [] G o.hd D1 ?_; intro oh2; refine ⟨by kernel_rfl, fun h2 tk2 D2 => ?_⟩
      exact end_done (f := .next) (by kernel_rfl) (by kernel_rfl) (xr h2 tk2 (iv b) v vt dn (x :: rest) (by simp [pvL, hbit]) rfl (D2.eq (by kernel_rfl)))
    rw [hbit, show (1 : Int) * 64 = 64 from rfl]
    refine sgL 1000 [.e, .e, .s 0] [] G o.hd D1 ?_; intro oh3; refine ⟨by kernel_rfl, fun h3 tk3 D3 => ?_⟩
    have hbl := bits_le hv hvm
    refine u_shl (a := v) (ta := vt) (b := 6) (tb := tk1 + 1) (by kernel_rfl) (by decide) (by omega) ?_
    refine sgL 1000 [.s 0, .s 0, .t, .t, .s 0, .e, .e, .s 1, .s 1, .e, .s 1] [] G o.hd D3 ?_; intro oh4; refine ⟨by kernel_rfl, fun h4 tk4 D4 => ?_⟩
    refine u_lnext D4 1 (it := it) (T := T) (items := ⟨(dn ++ x :: rest).map iv⟩) (n := e) (i := dn.length) (v := iv x) (by kernel_rfl) 2 (by kernel_rfl) (getElem_mid dn rest x) (by kernel_rfl) (by kernel_rfl) fun h5 D5 => ?_
    refine sgL 1000 [.s 0, .s 0, .s 0, .s 0] [] G o.hd D5 ?_; intro oh6; refine ⟨by kernel_rfl, fun h6 tk6 D6 => ?_⟩
    refine u_and (a := x.1) (ta := x.2) (b := 63) (tb := tk4 + 1) (by kernel_rfl) ?_
    rw [and63]
    refine sgL 1000 [] [] G o.hd D6 ?_; intro oh7; refine ⟨by kernel_rfl, fun h7 tk7 D7 => ?_⟩
    refine u_or (a := v * 2 ^ (6 : Int).toNat) (ta := tk3) (b := x.1 % 64) (tb := tk6) (by kernel_rfl) ?_
    rw [or64 hv (by omega) (by omega)]
    refine sgL 1000 [.s 0, .s 0] [] G o.hd D7 ?_; intro oh8; refine ⟨by kernel_rfl, fun h8 tk8 D8 => ?_⟩
    refine end_again (c' := whS (gdW G).params 28 (fstmt (gdW G).params 28 2) L) (by kernel_rfl) (by kernel_rfl) (by kernel_rfl) ?_
    have ev : pvL v b.1 ((x :: rest).map (·.1)) = pvL (v * 64 + x.1 % 64) x.1 (rest.map (·.1)) := by simp [pvL, hbit]
    have hlt : v * 64 + x.1 % 64 < 2 ^ (6 * (m + 1)) := by
      have e1 : (2 : Int) ^ (6 * (m + 1)) = 2 ^ (6 * m) * 64 := by rw [Nat.mul_add, Int.pow_add]; rfl
      rw [e1]
      have : v + 1 ≤ 2 ^ (6 * m) := hvm
      omega
    refine l28 (it := it) (T := T) (L := L) (e := e) (q0 := q0) (q1 := q1) (q2 := q2) (outer := outer) (frs := frs) o rest _ G hfr (dn ++ [x]) x (v * 64 + x.1 % 64) tk7 (m + 1) h8 tk8 hF hx (fun r hr' => hr r (.tail _ hr')) (by omega) hlt (by omega) ?_ ?_ ?_
    · rw [List.append_assoc, List.length_append]
      exact D8.eq (by kernel_rfl)
    · intro h' tk' b' v' vt' dn' rest' hp hd' D'
      rw [List.append_assoc] at hd' D'
      exact xr h' tk' b' v' vt' dn' rest' (ev.trans hp) hd' D'
    · intro hp h' tk' frs' E E0 tb c0 c1 c2 c3 c4 c5 fo hs D'
      rw [List.append_assoc] at D'
      exact xe (ev.trans hp) h' tk' frs' E E0 tb c0 c1 c2 c3 c4 c5 fo hs D'
theorem c28 {it T : Addr} {e : Nat} {rest dn : List IT} {outer : List Env} {frs : Cells} (G : Gd (wF b1 b2 b3 w₀) h₀) (o : Ok A 5) (hfr : A.frames = some outer) (hF : FrOk outer frs) (hr : ∀ r ∈ rest, 0 ≤ r.1 ∧ r.1 < 256) (hl : rest.length ≤ 90)
    (D : Rep h₀ h F ((it, itO "list_iterator" (.ref T) dn.length) :: (T, listO ⟨(dn ++ rest).map iv⟩ e) :: (frs ++ ρ)))
    (xr : ∀ h' tk' v t (dn' rest' : List IT), pv (rest.map (·.1)) = some (v, rest'.map (·.1)) → dn ++ rest = dn' ++ rest' → Rep h₀ h' F ((it, itO "list_iterator" (.ref T) dn'.length) :: (T, listO ⟨(dn ++ rest).map iv⟩ e) :: (frs ++ ρ)) → R (.ok (.ret (.int v t))) ⟨h', g, d, tk', os⟩)
    (xe : pv (rest.map (·.1)) = none → ∀ h' tk' frs' E E0 tb L c0 c1 c2 c3 c4 c5, FrSame frs frs' → Rep h₀ h' F ((tb, tbO .none L .none c0 c1 c2 c3 c4 c5) :: (E, fldO (.type "StopIteration") #[.ref E0, .ref tb, .none, .none, .bool false, .none]) :: (T, listO ⟨(dn ++ rest).map iv⟩ e) :: (frs' ++ ρ)) → R (.error (.ref E)) ⟨h', g, d, tk', os⟩) :
    codeAny (model prog (wF b1 b2 b3 w₀)) A (.call (.ref 28) ⟨[.ref it], []⟩) R ⟨h, g, d, tk, os⟩ := by
  refine code_start ?_
  refine sgL 1000 [.t, .t, .s 0, .s 0] [] G o.hd D ?_; intro oh1; refine ⟨by kernel_rfl, fun h1 tk1 D1 => ?_⟩
  refine enter (c2 := fcode w₀.params 28 h.objs.size) (by kernel_rfl) (by kernel_rfl) (D1.gd G).lim (o.room (by kernel_rfl)) ?_
  refine sgL 1000 [.t, .t, .s 0, .e, .e, .s 1, .s 1, .e, .s 1] [] G o.hd D1 ?_; intro oh2; refine ⟨by kernel_rfl, fun h2 tk2 D2 => ?_⟩
  rcases rest with _ | ⟨x, rest⟩
  · have hat : (⟨(dn ++ []).map iv⟩ : Array Value)[dn.length]? = none := by rw [List.append_nil]; exact getElem_end dn
    refine u_lstop D2 1 (it := it) (T := T) (items := ⟨(dn ++ []).map iv⟩) (n := e) (i := dn.length) (by kernel_rfl) 2 (by kernel_rfl) hat o.hd (by kernel_rfl) (by kernel_rfl) (by kernel_rfl) fun h5 E E0 D5 => ?_
    refine sgL 1000 [] [] G o.hd D5 ?_; intro oh6; refine ⟨by kernel_rfl, fun h6 tk6 D6 => ?_⟩
    let S7 : List Cells := [[(E, stopO E0)], [(E0, tupO #[] 0)], [(h.objs.size, frF #[fe (hS w₀.params s_iterator, tk) s_iterator (.ref it)] 1 #[])], [(it, itO "list_iterator" .none dn.length)], [(T, listO ⟨(dn ++ []).map iv⟩ e)], frs, ρ]; have D7 : Rep h₀ h6 F (cat S7) := D6.eq (by kernel_rfl)
    have D8 := Rep.shuf _ [3, 2, 6, 5, 6, 6, 6] D7
    refine note_new (frs := (h.objs.size, frF #[fe (hS w₀.params s_iterator, tk) s_iterator (.ref it)] 1 #[]) :: frs) (L := h.objs.size) (outer := outer) (lvΦ_lay (.ref E)) (env := fenv (gdW G).params 28 h.objs.size) (by kernel_rfl) (frames_fn hfr (by kernel_rfl)) (by kernel_rfl) ⟨kind28 _ _, by kernel_rfl, (fun vs hv => by cases hv), hF⟩ D8 fun h9 frs9 tb c0 c1 c2 c3 c4 c5 hs9 D9 => ?_
    cases hs9 with
    | cons _ _ sl9 hs9 =>
    rename_i frs10
    refine sgL 1000 [.s 1, .s 0, .s 0] [] G o.hd D9 ?_; intro oh11; refine ⟨by kernel_rfl, fun h11 tk11 D11 => ?_⟩
    refine end_raise (e := .ref E) (by kernel_rfl) (by kernel_rfl) ?_
    let S12 : List Cells := [[(tb, tbO .none h.objs.size .none c0 c1 c2 c3 c4 c5)], [(E, fldO (.type "StopIteration") #[.ref E0, .ref tb, .none, .none, .bool false, .none])], [(h.objs.size, frF #[fe (hS w₀.params s_iterator, tk) s_iterator (.ref it)] 1 sl9)], frs10, [(T, listO ⟨(dn ++ []).map iv⟩ e)], ρ, [(E0, tupO #[] 0)], [(it, itO "list_iterator" .none dn.length)]]; have D12 : Rep h₀ h11 F (cat S12) := D11.eq (by kernel_rfl)
    have D13 := Rep.shuf _ [5, 4, 5, 4, 4, 5, 7, 7] D12
    exact xe rfl h11 tk11 frs10 E E0 tb h.objs.size c0 c1 c2 c3 c4 c5 hs9 (D13.mask [false, false, false])
  have hx := hr x (.head _)
  simp only [List.length_cons] at hl
  refine u_lnext D2 1 (it := it) (T := T) (items := ⟨(dn ++ x :: rest).map iv⟩) (n := e) (i := dn.length) (v := iv x) (by kernel_rfl) 2 (by kernel_rfl) (getElem_mid dn rest x) (by kernel_rfl) (by kernel_rfl) fun h5 D5 => ?_
  refine sgL 1000 [.s 0, .s 0, .s 0] [] G o.hd D5 ?_; intro oh6; refine ⟨by kernel_rfl, fun h6 tk6 D6 => ?_⟩
  refine u_and (a := x.1) (ta := x.2) (b := 63) (tb := tk2 + 1) (by kernel_rfl) ?_
  rw [and63]
  refine sgL 1000 [.s 0, .s 0] [] G o.hd D6 ?_; intro oh7; refine ⟨by kernel_rfl, fun h7 tk7 D7 => ?_⟩
  refine use_call (c' := whS (gdW G).params 28 (fstmt (gdW G).params 28 2) h.objs.size) (hd := none) (by kernel_rfl) rfl ?_
  let S8 : List Cells := [[(h.objs.size, frF #[fe (hS w₀.params s_iterator, tk) s_iterator (.ref it), fe (hS w₀.params s_b, tk2) s_b (iv x), fe (hS w₀.params s_val, tk6 + 1) s_val (.int (x.1 % 64) tk6)] 3 #[])], [(it, itO "list_iterator" (.ref T) (dn.length + 1))], [(T, listO ⟨(dn ++ x :: rest).map iv⟩ e)], frs, ρ]; have D8 : Rep h₀ h7 F (cat S8) := D7.eq (by kernel_rfl)
  refine l28 (it := it) (T := T) (L := h.objs.size) (e := e) (q0 := (hS w₀.params s_iterator, tk)) (q1 := (hS w₀.params s_b, tk2)) (q2 := (hS w₀.params s_val, tk6 + 1)) (outer := outer) (frs := frs) (F := F) (ρ := ρ) (o.call (by kernel_rfl) (by kernel_rfl)) rest _ G (frames_fn hfr (by kernel_rfl)) (dn ++ [x]) x (x.1 % 64) tk6 1 h7 tk7 hF hx (fun r hr' => hr r (.tail _ hr')) (by omega) (by show x.1 % 64 < 64; omega) (by omega) ?_ ?_ ?_
  · rw [List.append_assoc, List.length_append]
    exact D8
  · intro h' tk' b' v' vt' dn' rest' hp hd' D'
    rw [List.append_assoc] at hd' D'
    refine sgL 1000 [.s 0] [false] G o.hd D' ?_; intro oh''; refine ⟨by kernel_rfl, fun h'' tk'' D'' => ?_⟩
    exact end_done (f := .ret (.int v' vt')) (by kernel_rfl) (by kernel_rfl) (xr h'' tk'' v' vt' dn' rest' hp hd' (D''.eq (by kernel_rfl)))
  · intro hp h' tk' frs' E E0 tb c0 c1 c2 c3 c4 c5 fo hs D'
    rw [List.append_assoc] at D'
    refine sgL 1000 [.s 1, .s 1, .s 0, .s 0] [] G o.hd D' ?_; intro oh11; refine ⟨by kernel_rfl, fun h11 tk11 D11 => ?_⟩
    have D12 : Rep h₀ h11 F ((tb, tbO .none h.objs.size (rawInt h.objs.size) c0 c1 c2 c3 c4 c5) :: (E, fldO (.type "StopIteration") #[.ref E0, .ref tb, .none, .none, .bool false, .none]) :: (h.objs.size, fo) :: (T, listO ⟨(dn ++ x :: rest).map iv⟩ e) :: (frs' ++ ρ)) := D11.eq (by kernel_rfl)
    refine note_same (lvΦ_lay (.ref E)) (env := fenv (gdW G).params 28 h.objs.size) (by kernel_rfl) (by kernel_rfl) D12 ?_
    refine sgL 1000 [.s 1, .s 0, .s 0] [true, true, false] G o.hd D12 ?_; intro oh13; refine ⟨by kernel_rfl, fun h13 tk13 D13 => ?_⟩
    refine end_raise (e := .ref E) (by kernel_rfl) (by kernel_rfl) ?_
    exact xe hp h13 tk13 frs' E E0 tb h.objs.size c0 c1 c2 c3 c4 c5 hs (D13.eq (by kernel_rfl))
end Mine
end
section
open PySem PySem.W PySem.W.X PyProof.Rows
set_option Elab.async false
set_option maxRecDepth 100000
set_option maxHeartbeats 1000000
namespace Mine
theorem pick_from (l : List Value) (k : Nat) : slicePick ⟨l⟩ (some (k : Int)) none none = ⟨l.drop k⟩ := by
  rw [kms_pick_eq]
  have e1 : kms_lo (some (k : Int)) l.length = min k l.length := by
    unfold kms_lo
    simp only
    rw [if_neg (by omega)]
    rfl
  have e2 : kms_hi none l.length = l.length := rfl
  have e3 : kms_pick l (some (k : Int)) none = l.drop k := by
    unfold kms_pick
    rw [e1, e2, List.take_of_length_le (by rw [List.length_drop]; omega)]
    rcases Nat.lt_or_ge k l.length with h | h
    · rw [Nat.min_eq_left (Nat.le_of_lt h)]
    · rw [Nat.min_eq_right h, List.drop_eq_nil_of_le h, List.drop_eq_nil_of_le (Nat.le_refl _)]
  exact congrArg List.toArray e3
theorem pick_upto (l : List Value) (k : Nat) : slicePick ⟨l⟩ none (some (k : Int)) none = ⟨l.take k⟩ := by
  rw [kms_pick_eq]
  have e1 : kms_hi (some (k : Int)) l.length = min k l.length := by
    unfold kms_hi
    simp only
    rw [if_neg (by omega)]
    rfl
  have e2 : kms_lo none l.length = 0 := rfl
  have e3 : kms_pick l none (some (k : Int)) = l.take k := by
    unfold kms_pick
    rw [e1, e2, List.drop_zero, Nat.sub_zero]
    rcases Nat.lt_or_ge k l.length with h | h
    · rw [Nat.min_eq_left (Nat.le_of_lt h)]
    · rw [Nat.min_eq_right h, List.take_of_length_le h, List.take_of_length_le (Nat.le_refl _)]
  exact congrArg List.toArray e3
end Mine
end
section
open PySem PySem.W PySem.W.X PyProof.Rows
set_option Elab.async false
set_option maxRecDepth 100000
set_option maxHeartbeats 1000000
namespace Mine
variable {prog : Program} {w : World} {w₀ : World} {b1 b2 b3 : Bool} {A : Around} {R : Result → Shared → Prop} {h₀ h : Heap} {F : List Addr} {ρ σ : Cells} {g : Array GenState} {d : Drawn} {tk : Nat} {os : OsState}
noncomputable def e153 (P : Params) : Option Expr := match fstmt P 153 2 with
  | some (.Return (some (.List [_, .BinOp _ _ (.Call _ [x] _ _) _] _)) _) => some x
  | _ => none
theorem iv_snoc (ys : List IT) (x : IT) : (⟨(ys ++ [x]).map iv⟩ : Array Value) = (⟨ys.map iv⟩ : Array Value).push (iv x) := by simp
theorem l153 {it acc sc T L : Addr} {e : Nat} (G : Gd w h₀) (o : Ok A 2) : ∀ (rest dn : List IT) (v : Option (Q2 × Value)) (ys : List IT) (ey : Nat) (h : Heap) (tk : Nat),
    ys.length + rest.length ≤ 1000 →
    Rep h₀ h F ((it, itO "list_iterator" (.ref T) dn.length) :: (acc, listO ⟨ys.map iv⟩ ey) :: (sc, dictO (scE s_one v) (scN v)) :: (T, listO ⟨(dn ++ rest).map iv⟩ e) :: ρ) →
    (∀ h' tk' ey' v', Rep h₀ h' F ((acc, listO ⟨(ys ++ rest).map iv⟩ ey') :: (sc, dictO (scE s_one v') (scN v')) :: (T, listO ⟨(dn ++ rest).map iv⟩ e) :: ρ) → R (.ok .next) ⟨h', g, d, tk', os₀⟩) →
    codeAny (model prog w) A (compC w.params 153 (e153 w.params) it acc sc L []) R ⟨h, g, d, tk, os₀⟩
  | [] => by
    intro dn v ys ey h tk hz D z
    refine code_start ?_
    refine sgL 1000 [.s 0, .e, .s 0] [] G o.hd D ?_; intro oh1; refine ⟨by kernel_rfl, fun h1 tk1 D1 => ?_⟩
    have hat : (⟨(dn ++ []).map iv⟩ : Array Value)[dn.length]? = none := by rw [List.append_nil]; exact getElem_end dn
    refine u_lstop D1 0 (it := it) (T := T) (items := ⟨(dn ++ []).map iv⟩) (n := e) (i := dn.length) (by kernel_rfl) 3 (by kernel_rfl) hat o.hd (by kernel_rfl) (by kernel_rfl) (by kernel_rfl) fun h2 E E0 D2 => ?_
    refine sgL 1000 [.s 0] [false, false, false] G o.hd D2 ?_; intro oh3; refine ⟨by kernel_rfl, fun h3 tk3 D3 => ?_⟩
    exact end_done (f := .next) (by kernel_rfl) (by kernel_rfl) (z h3 tk3 ey v (by rw [List.append_nil ys]; exact D3.eq (by kernel_rfl)))
  | x :: rest => by
    intro dn v ys ey h tk hz D z
    simp only [List.length_cons] at hz
    refine code_start ?_
    refine sgL 1000 [.s 0, .e, .s 0] [] G o.hd D ?_; intro oh1; refine ⟨by kernel_rfl, fun h1 tk1 D1 => ?_⟩
    refine u_lnext D1 0 (it := it) (T := T) (items := ⟨(dn ++ x :: rest).map iv⟩) (n := e) (i := dn.length) (v := iv x) (by kernel_rfl) 3 (by kernel_rfl) (getElem_mid dn rest x) (by kernel_rfl) (by kernel_rfl) fun h2 D2 => ?_
    rcases v with _ | ⟨q, v⟩
    · refine sgL 1000 [.s 2, .s 2, .s 2, .e, .s 1] [] G o.hd D2 ?_; intro oh3; refine ⟨by kernel_rfl, fun h3 tk3 D3 => ?_⟩
      refine u_append D3 1 (l := acc) (items := ⟨ys.map iv⟩) (n := ey) (v := iv x) (by kernel_rfl) (line_of (n := ys.length) (by omega) (by simp)) (by kernel_rfl) (by kernel_rfl) fun h4 D4 => ?_
      refine sgL 1000 [] [] G o.hd D4 ?_; intro oh5; refine ⟨by kernel_rfl, fun h5 tk5 D5 => ?_⟩
      refine end_again (c' := compC w.params 153 (e153 w.params) it acc sc L []) (by kernel_rfl) (by kernel_rfl) (by kernel_rfl) ?_
      refine l153 (it := it) (acc := acc) (sc := sc) (T := T) (L := L) (e := e) G o rest (dn ++ [x]) (some ((hS w.params s_one, tk1), iv x)) (ys ++ [x]) (ey + 1) h5 tk5 (by rw [List.length_append, List.length_singleton]; omega) ?_ ?_
      · rw [List.append_assoc, List.length_append, iv_snoc]
        exact D5.eq (by kernel_rfl)
      · intro h' tk' ey' v' D'
        rw [List.append_assoc, List.append_assoc] at D'
        exact z h' tk' ey' v' D'
    · refine sgL 1000 [.s 2, .s 2, .s 2, .e, .s 1] [] G o.hd D2 ?_; intro oh3; refine ⟨by kernel_rfl, fun h3 tk3 D3 => ?_⟩
      refine u_append D3 1 (l := acc) (items := ⟨ys.map iv⟩) (n := ey) (v := iv x) (by kernel_rfl) (line_of (n := ys.length) (by omega) (by simp)) (by kernel_rfl) (by kernel_rfl) fun h4 D4 => ?_
      refine sgL 1000 [] [] G o.hd D4 ?_; intro oh5; refine ⟨by kernel_rfl, fun h5 tk5 D5 => ?_⟩
      refine end_again (c' := compC w.params 153 (e153 w.params) it acc sc L []) (by kernel_rfl) (by kernel_rfl) (by kernel_rfl) ?_
      refine l153 (it := it) (acc := acc) (sc := sc) (T := T) (L := L) (e := e) G o rest (dn ++ [x]) (some (q, iv x)) (ys ++ [x]) (ey + 1) h5 tk5 (by rw [List.length_append, List.length_singleton]; omega) ?_ ?_
      · rw [List.append_assoc, List.length_append, iv_snoc]
        exact D5.eq (by kernel_rfl)
      · intro h' tk' ey' v' D'
        rw [List.append_assoc, List.append_assoc] at D'
        exact z h' tk' ey' v' D'
theorem s153 {it acc sc T L : Addr} {e : Nat} {rest dn : List IT} (G : Gd (wF b1 b2 b3 w₀) h₀) (o : Ok A 2) (hz : rest.length ≤ 1000)
    (D : Rep h₀ h F ((it, itO "list_iterator" (.ref T) dn.length) :: (acc, listO #[] 0) :: (sc, dictO #[] 0) :: (T, listO ⟨(dn ++ rest).map iv⟩ e) :: ρ))
    (z : ∀ h' tk' ey' v', Rep h₀ h' F ((acc, listO ⟨rest.map iv⟩ ey') :: (sc, dictO (scE s_one v') (scN v')) :: (T, listO ⟨(dn ++ rest).map iv⟩ e) :: ρ) → R (.ok .next) ⟨h', g, d, tk', os₀⟩) :
    codeAny (model prog (wF b1 b2 b3 w₀)) A (compS (wF b1 b2 b3 w₀).params 153 (e153 (wF b1 b2 b3 w₀).params) it acc sc L []) R ⟨h, g, d, tk, os₀⟩ := by
  refine code_start ?_
  cases b2
  · all_goals
      refine sg2L 1000 [.s 0, .s 0, .e, .s 0, .e, .s 0] [] G o.hd D ?_; intro fh5 oh5; refine ⟨by kernel_rfl, fun h5 tk5 D5 => ?_⟩
      refine end_again (c' := compC (gdW G).params 153 (e153 (gdW G).params) it acc sc L []) (by kernel_rfl) (by kernel_rfl) (by kernel_rfl) ?_
      exact l153 (it := it) (acc := acc) (sc := sc) (T := T) (L := L) (e := e) G o rest dn none [] 0 h5 tk5 (by simpa using hz) (D5.eq (by kernel_rfl)) z
  · all_goals
      refine sg2L 1000 [] [] G o.hd D ?_; intro fh5 oh5; refine ⟨by kernel_rfl, fun h5 tk5 D5 => ?_⟩
      refine end_again (c' := compC (gdW G).params 153 (e153 (gdW G).params) it acc sc L []) (by kernel_rfl) (by kernel_rfl) (by kernel_rfl) ?_
      exact l153 (it := it) (acc := acc) (sc := sc) (T := T) (L := L) (e := e) G o rest dn none [] 0 h5 tk5 (by simpa using hz) (D5.eq (by kernel_rfl)) z
theorem kind153 (P : Params) (L : Addr) : (fenv P 153 L).scope.kind ≠ .module := by
  have e : (fenv P 153 L).scope.kind = .function := by kernel_rfl
  rw [e]; decide
/-- what a reader is told: the number and where it stands then -/
noncomputable def told (os : List Int) (k : Nat) : List Int := match pv (os.drop k) with
  | none => []
  | some (v, r) => [v, (os.length : Int) - (r.length : Int)]
theorem c153 {To : Addr} {os : List IT} {eo : Nat} {k : Int} {kt : Tok} {outer : List Env} {frs : Cells} (G : Gd (wF b1 b2 b3 w₀) h₀) (o : Ok A 8) (hfr : A.frames = some outer) (hF : FrOk outer frs) (hr : ∀ r ∈ os, 0 ≤ r.1 ∧ r.1 < 256) (hl : os.length ≤ 90) (hk : 0 ≤ k)
    (D : Rep h₀ h F ((To, listO ⟨os.map iv⟩ eo) :: (frs ++ ρ)))
    (z : ∀ h' tk' frs' T (ts : List IT), ts.map (·.1) = told (os.map (·.1)) k.toNat → FrSame frs frs' → Rep h₀ h' F ((T, listO ⟨ts.map iv⟩ 0) :: (To, listO ⟨os.map iv⟩ eo) :: (frs' ++ ρ)) → R (.ok (.ret (.ref T))) ⟨h', g, d, tk', os₀⟩) :
    codeAny (model prog (wF b1 b2 b3 w₀)) A (.call (.ref 153) ⟨[.ref To, .int k kt], []⟩) R ⟨h, g, d, tk, os₀⟩ := by
  have hdl : (os.drop k.toNat).length ≤ 90 := by rw [List.length_drop]; omega
  have hdr : ∀ r ∈ os.drop k.toNat, 0 ≤ r.1 ∧ r.1 < 256 := fun r h => hr r (List.mem_of_mem_drop h)
  all_goals
      refine code_start ?_
      refine sg2L 1000 [.t, .t, .s 0, .s 0, .s 0, .s 0] [] G o.hd D ?_; intro fh1 oh1; refine ⟨by kernel_rfl, fun h1 tk1 D1 => ?_⟩
      refine enter (c2 := fcode w₀.params 153 h.objs.size) (by kernel_rfl) (by kernel_rfl) (D1.gd G).lim (o.room (by kernel_rfl)) ?_
      refine sg2L 1000 [.t, .t, .s 0, .s 0, .s 2, .s 2, .s 2, .e, .s 2] [] G o.hd D1 ?_; intro fh2 oh2; refine ⟨by kernel_rfl, fun h2 tk2 D2 => ?_⟩
      refine u_lslice D2 2 (l := To) (sl := h1.objs.size) (items := ⟨os.map iv⟩) (n := eo) (vl := .int k kt) (vu := .none) (lo := some k) (hi := none) (by kernel_rfl) 0 (by kernel_rfl) (.int k kt) .none (line_of (n := os.length) (by omega) (by simp)) (by kernel_rfl) (by kernel_rfl) fun h3 T D3 => ?_
      rw [show slicePick (⟨os.map iv⟩ : Array Value) (some k) none none = ⟨(os.drop k.toNat).map iv⟩ from by
        have e := pick_from (os.map iv) k.toNat
        rw [Int.toNat_of_nonneg hk] at e
        rw [e, List.map_drop]] at D3
      let S3' : List Cells := [[(T, listO ⟨(os.drop k.toNat).map iv⟩ 0)], [(h1.objs.size, sliceO (.int k kt) .none .none)], [(h.objs.size, frF #[fe (hS w₀.params s_octets, tk) s_octets (.ref To), fe (hS w₀.params s_place, tk + 1) s_place (.int k kt)] 2 #[])], [(To, listO ⟨os.map iv⟩ eo)], frs, ρ]; have D3' : Rep h₀ h3 F (cat S3') := D3.eq (by kernel_rfl)
      refine sg2L 1000 [.e, .e, .s 0, .s 0, .e, .s 0, .e, .s 0, .s 3, .s 3, .t, .s 3, .t] [] G o.hd D3' ?_; intro fh4 oh4; refine ⟨by kernel_rfl, fun h4 tk4 D4 => ?_⟩
      refine use_call (c' := .call (.ref 28) ⟨[.ref h3.objs.size], []⟩) (hd := none) (by kernel_rfl) rfl ?_
      let S5 : List Cells := [[(h3.objs.size, itO "list_iterator" (.ref T) 0)], [(T, listO ⟨(os.drop k.toNat).map iv⟩ 0)], [(h1.objs.size, sliceO (.int k kt) .none .none)], [(h.objs.size, frF #[fe (hS w₀.params s_octets, tk) s_octets (.ref To), fe (hS w₀.params s_place, tk + 1) s_place (.int k kt), fe (hS w₀.params s_rest, tk2) s_rest (.ref h3.objs.size)] 3 #[])], [(To, listO ⟨os.map iv⟩ eo)], frs, ρ]; have D5 : Rep h₀ h4 F (cat S5) := D4.eq (by kernel_rfl)
      have D5' := Rep.shuf _ [6, 3, 5, 6, 6, 6, 6] D5
      refine c28 (it := h3.objs.size) (T := T) (e := 0) (rest := os.drop k.toNat) (dn := []) (outer := fenv (gdW G).params 153 h.objs.size :: outer) (frs := (h.objs.size, frF #[fe (hS w₀.params s_octets, tk) s_octets (.ref To), fe (hS w₀.params s_place, tk + 1) s_place (.int k kt), fe (hS w₀.params s_rest, tk2) s_rest (.ref h3.objs.size)] 3 #[]) :: frs) (ρ := (To, listO ⟨os.map iv⟩ eo) :: (h1.objs.size, sliceO (.int k kt) .none .none) :: ρ) G (o.call (by kernel_rfl) (by kernel_rfl)) (frames_fn hfr (by kernel_rfl)) ⟨kind153 _ _, by kernel_rfl, (fun vs hv => by cases hv), hF⟩ hdr hdl D5' ?_ ?_
      · intro h6 tk6 v vt dn' rest' hp hdn D6
        let S7 : List Cells := [[(h3.objs.size, itO "list_iterator" (.ref T) dn'.length)], [(T, listO ⟨(os.drop k.toNat).map iv⟩ 0)], [(h.objs.size, frF #[fe (hS w₀.params s_octets, tk) s_octets (.ref To), fe (hS w₀.params s_place, tk + 1) s_place (.int k kt), fe (hS w₀.params s_rest, tk2) s_rest (.ref h3.objs.size)] 3 #[])], frs, [(To, listO ⟨os.map iv⟩ eo)], [(h1.objs.size, sliceO (.int k kt) .none .none)], ρ]; have D7 : Rep h₀ h6 F (cat S7) := D6.eq (by kernel_rfl)
        have D8 := Rep.shuf _ [6, 4, 5, 5, 6, 6, 6] D7
        refine sg2L 1000 [.s 3, .s 3, .s 3, .t, .t, .s 3, .e] [] G o.hd D8 ?_; intro fh9 oh9; refine ⟨by kernel_rfl, fun h9 tk9 D9 => ?_⟩
        refine use_again (c' := .builtin "len" ⟨[.ref To], []⟩) (by kernel_rfl) (by kernel_rfl) (by kernel_rfl) ?_
        refine c_lenL D9 4 (l := To) (items := ⟨os.map iv⟩) (n := eo) (by kernel_rfl) (by simp; omega) ?_
        rw [show (⟨os.map iv⟩ : Array Value).size = os.length from by simp]
        refine sg2L 1000 [.t, .t, .s 3, .s 0, .s 0, .e, .s 0, .e, .s 0] [] G o.hd D9 ?_; intro fh10 oh10; refine ⟨by kernel_rfl, fun h10 tk10 D10 => ?_⟩
        refine use_call (c' := compS (gdW G).params 153 (e153 (gdW G).params) h3.objs.size h9.objs.size (h9.objs.size + 1) h.objs.size []) (hd := none) (by kernel_rfl) rfl ?_
        have hdn' : os.drop k.toNat = dn' ++ rest' := hdn
        have D11 : Rep h₀ h10 F (cat [[(h9.objs.size + 1, dictO #[] 0)], [(h9.objs.size, listO #[] 0)], [(h3.objs.size, itO "list_iterator" (.ref T) dn'.length)], [(T, listO ⟨(dn' ++ rest').map iv⟩ 0)], [(h1.objs.size, sliceO (.int k kt) .none .none)], [(h.objs.size, frF #[fe (hS w₀.params s_octets, tk) s_octets (.ref To), fe (hS w₀.params s_place, tk + 1) s_place (.int k kt), fe (hS w₀.params s_rest, tk2) s_rest (.ref h3.objs.size), fe (hS w₀.params s_value, tk6) s_value (.int v vt)] 4 #[])], [(To, listO ⟨os.map iv⟩ eo)], frs, ρ]) := by rw [← hdn']; exact D10.eq (by kernel_rfl)
        have D12 := Rep.shuf _ [8, 8, 8, 8, 8, 8, 6, 7, 8] D11
        have hrl : rest'.length ≤ 90 := by
          have := congrArg List.length hdn'
          rw [List.length_append] at this
          omega
        refine s153 (it := h3.objs.size) (acc := h9.objs.size) (sc := h9.objs.size + 1) (T := T) (L := h.objs.size) (e := 0) (rest := rest') (dn := dn') G (o.call (by kernel_rfl) (by kernel_rfl)) (by omega) D12 ?_
        intro h13 tk13 ey' v' D13
        let S14 : List Cells := [[(h9.objs.size, listO ⟨rest'.map iv⟩ ey')], [(h9.objs.size + 1, dictO (scE s_one v') (scN v'))], [(T, listO ⟨(dn' ++ rest').map iv⟩ 0)], [(h1.objs.size, sliceO (.int k kt) .none .none)], [(h.objs.size, frF #[fe (hS w₀.params s_octets, tk) s_octets (.ref To), fe (hS w₀.params s_place, tk + 1) s_place (.int k kt), fe (hS w₀.params s_rest, tk2) s_rest (.ref h3.objs.size), fe (hS w₀.params s_value, tk6) s_value (.int v vt)] 4 #[])], [(To, listO ⟨os.map iv⟩ eo)], frs, ρ]; have D14 : Rep h₀ h13 F (cat S14) := D13
        have D15 := Rep.shuf _ [7, 7, 7, 7, 7, 7, 6, 7] D14
        rcases v' with _ | ⟨vq, vv⟩
        · refine sg2L 1000 [.s 0, .e] [] G o.hd D15 ?_; intro fh16 oh16; refine ⟨by kernel_rfl, fun h16 tk16 D16 => ?_⟩
          refine use_again (c' := .builtin "len" ⟨[.ref h9.objs.size], []⟩) (by kernel_rfl) (by kernel_rfl) (by kernel_rfl) ?_
          refine c_lenL D16 1 (l := h9.objs.size) (items := ⟨rest'.map iv⟩) (n := ey') (by kernel_rfl) (by simp; omega) ?_
          rw [show (⟨rest'.map iv⟩ : Array Value).size = rest'.length from by simp]
          refine sg2L 1000 [.e, .e] [] G o.hd D16 ?_; intro fh17 oh17; refine ⟨by kernel_rfl, fun h17 tk17 D17 => ?_⟩
          refine end_done (f := .ret (.ref h16.objs.size)) (by kernel_rfl) (by kernel_rfl) ?_
          have D18 := D17.mask [true, false, false, false, false, false]
          let S19 : List Cells := [[(h16.objs.size, listO #[.int v vt, .int ((os.length : Int) - (rest'.length : Int)) (tk16 + 2)] 0)], [(To, listO ⟨os.map iv⟩ eo)], frs, ρ]; have D19 : Rep h₀ h17 F (cat S19) := D18.eq (by kernel_rfl)
          refine z h17 tk17 frs h16.objs.size [(v, vt), ((os.length : Int) - (rest'.length : Int), tk16 + 2)] ?_ (FrSame.refl _) D19
          rw [List.map_drop] at hp
          simp only [told, hp, List.map_cons, List.map_nil, List.length_map]
        · refine sg2L 1000 [.s 0, .s 0, .s 0, .e] [] G o.hd D15 ?_; intro fh16 oh16; refine ⟨by kernel_rfl, fun h16 tk16 D16 => ?_⟩
          refine use_again (c' := .builtin "len" ⟨[.ref h9.objs.size], []⟩) (by kernel_rfl) (by kernel_rfl) (by kernel_rfl) ?_
          refine c_lenL D16 1 (l := h9.objs.size) (items := ⟨rest'.map iv⟩) (n := ey') (by kernel_rfl) (by simp; omega) ?_
          rw [show (⟨rest'.map iv⟩ : Array Value).size = rest'.length from by simp]
          refine sg2L 1000 [.e, .e] [] G o.hd D16 ?_; intro fh17 oh17; refine ⟨by kernel_rfl, fun h17 tk17 D17 => ?_⟩
          refine end_done (f := .ret (.ref h16.objs.size)) (by kernel_rfl) (by kernel_rfl) ?_
          have D18 := D17.mask [true, false, false, false, false, false]
          let S19 : List Cells := [[(h16.objs.size, listO #[.int v vt, .int ((os.length : Int) - (rest'.length : Int)) (tk16 + 2)] 0)], [(To, listO ⟨os.map iv⟩ eo)], frs, ρ]; have D19 : Rep h₀ h17 F (cat S19) := D18.eq (by kernel_rfl)
          refine z h17 tk17 frs h16.objs.size [(v, vt), ((os.length : Int) - (rest'.length : Int), tk16 + 2)] ?_ (FrSame.refl _) D19
          rw [List.map_drop] at hp
          simp only [told, hp, List.map_cons, List.map_nil, List.length_map]
      · intro hp h6 tk6 frs6 E E0 tb0 L0 d0 d1 d2 d3 d4 d5 hs D6
        cases hs with
        | cons _ _ sl hs =>
        rename_i frs7
        let S7 : List Cells := [[(tb0, tbO .none L0 .none d0 d1 d2 d3 d4 d5)], [(E, fldO (.type "StopIteration") #[.ref E0, .ref tb0, .none, .none, .bool false, .none])], [(T, listO ⟨(os.drop k.toNat).map iv⟩ 0)], [(h.objs.size, frF #[fe (hS w₀.params s_octets, tk) s_octets (.ref To), fe (hS w₀.params s_place, tk + 1) s_place (.int k kt), fe (hS w₀.params s_rest, tk2) s_rest (.ref h3.objs.size)] 3 sl)], frs7, [(To, listO ⟨os.map iv⟩ eo)], [(h1.objs.size, sliceO (.int k kt) .none .none)], ρ]; have D7 : Rep h₀ h6 F (cat S7) := D6
        have D8 := Rep.shuf _ [6, 3, 7, 7, 7, 7, 7, 7] D7
        refine note_more (frs := (h.objs.size, frF #[fe (hS w₀.params s_octets, tk) s_octets (.ref To), fe (hS w₀.params s_place, tk + 1) s_place (.int k kt), fe (hS w₀.params s_rest, tk2) s_rest (.ref h3.objs.size)] 3 sl) :: frs7) (L := h.objs.size) (L0 := L0) (outer := outer) (hd0 := .none) (tryΦ_lay (.ref E) (fenv (gdW G).params 153 h.objs.size) (handsOf (fstmt (gdW G).params 153 1)) (bodyFrom (gdW G).params 153 2)) (env := fenv (gdW G).params 153 h.objs.size) (by kernel_rfl) (frames_fn hfr (by kernel_rfl)) (by kernel_rfl) ⟨kind153 _ _, by kernel_rfl, (fun vs hv => by cases hv), hF.same hs⟩ D8 fun h9 frs9 tb c0 c1 c2 c3 c4 c5 hs9 D9 => ?_
        cases hs9 with
        | cons _ _ sl9 hs9 =>
        rename_i frs10
        refine sg2L 1000 [.s 2, .s 0, .s 0, .e, .t, .t, .s 2, .e, .s 2, .s 0, .s 0] [] G o.hd D9 ?_; intro fh11 oh11; refine ⟨by kernel_rfl, fun h11 tk11 D11 => ?_⟩
        refine end_done (f := .ret (.ref h9.objs.size)) (by kernel_rfl) (by kernel_rfl) ?_
        let S12 : List Cells := [[(h9.objs.size, listO #[] 0)], [(tb, tbO (.ref tb0) h.objs.size .none c0 c1 c2 c3 c4 c5)], [(tb0, tbO .none L0 .none d0 d1 d2 d3 d4 d5)], [(E, fldO (.type "StopIteration") #[.ref E0, .ref tb, .none, .none, .bool false, .none])], [(h.objs.size, frF #[fe (hS w₀.params s_octets, tk) s_octets (.ref To), fe (hS w₀.params s_place, tk + 1) s_place (.int k kt), fe (hS w₀.params s_rest, tk2) s_rest (.ref h3.objs.size)] 3 sl9)], frs10, [(To, listO ⟨os.map iv⟩ eo)], ρ, [(T, listO ⟨(os.drop k.toNat).map iv⟩ 0)], [(h1.objs.size, sliceO (.int k kt) .none .none)]]; have D12 : Rep h₀ h11 F (cat S12) := D11.eq (by kernel_rfl)
        have D13 := Rep.shuf _ [7, 6, 7, 3, 9, 9, 9, 9, 9, 9] D12
        refine z h11 tk11 frs10 h9.objs.size [] ?_ (hs.trans hs9) (D13.mask [false, false, false, false, false, false])
        rw [List.map_drop] at hp
        simp only [told, hp, List.map_nil]
end Mine
end
section
open PySem PySem.W PySem.W.X PyProof.Rows
set_option Elab.async false
set_option maxRecDepth 100000
set_option maxHeartbeats 1000000
namespace Mine
noncomputable abbrev rgO (x : Int) (n : Nat) : Obj := fieldsO "range_iterator" #[.int x 0, .int (n : Int) 0, .int 1 0]
noncomputable abbrev rangeO (a b : Int) (t u v : Tok) : Obj := fieldsO "range" #[.int a t, .int b u, .int 1 v]
theorem p_range_iter : plainId "range.__iter__" = true := by decide +kernel
theorem m_rstop (it : Addr) (x : Int) :
    Meets (Builtin.«range_iterator.__next__» ⟨[.ref it], []⟩) (fun A R s => A.handled = none ∧ s.heap.get? it = some (rgO x 0) ∧
      R (.error (.ref (s.heap.objs.size + 1))) { s with heap := (s.heap.push (tupO #[] 0)).push (stopO s.heap.objs.size) }) :=
  .of_wp fun prog w A R s h => by
    obtain ⟨hp, g, d, tk, os⟩ := s; obtain ⟨hA, h1, h⟩ := h
    have hA' : A.in1.handled = none := hA
    have h0 : ((0 : Nat) : Int) ≤ 0 := by decide
    wp_walk using wpAny_loadPart' h1
    unfold raiseNew
    wp_walk using wpAny_loadPart' h1
    have e2 : (hp.push { cls := Value.type "tuple", data := Data.seq #[] }).objs.size = hp.objs.size + 1 := by rw [Heap.size_push]
    rw [e2, stop_fields]
    exact h
theorem range_size {a b : Int} (h : a ≤ b) : Builtin.Range.rangeSize a b 1 = b - a := by
  unfold Builtin.Range.rangeSize
  rw [if_pos (by decide)]
  split <;> omega
theorem fits_long {a : Int} (h0 : 0 ≤ a) (h1 : a ≤ 2000) : Builtin.Range.rangeFitsLong a = true := by
  unfold Builtin.Range.rangeFitsLong
  simp only [Bool.and_eq_true, decide_eq_true_eq]
  omega
theorem range_ok {a b : Int} (h0 : 0 ≤ a) (h1 : a ≤ b) (h2 : b ≤ 1000) : (Builtin.Range.rangeFitsLong a && Builtin.Range.rangeFitsLong b && Builtin.Range.rangeFitsLong 1 && Builtin.Range.rangeFitsLong (Builtin.Range.rangeSize a b 1) && (Builtin.Range.rangeSize a b 1 == 0 || if (1 : Int) > 0 then Builtin.Range.rangeFitsLong (b + (1 - 1)) else Builtin.Range.rangeFitsLong (b + (1 + 1)))) = true := by
  rw [range_size h1, fits_long h0 (by omega), fits_long (show 0 ≤ b by omega) (by omega), fits_long (show (0 : Int) ≤ 1 by decide) (by decide), fits_long (show 0 ≤ b - a by omega) (by omega), if_pos (by decide), fits_long (show 0 ≤ b + (1 - 1) by omega) (by omega)]
  simp
theorem rg_eq {a b : Int} (h1 : a ≤ b) : ({ cls := Value.type "range_iterator", data := Data.fields #[rawInt a, rawInt (b - a), rawInt 1] } : Obj) = rgO a (b - a).toNat := by
  show _ = fieldsO "range_iterator" #[.int a 0, .int (((b - a).toNat : Nat) : Int) 0, .int 1 0]
  rw [Int.toNat_of_nonneg (show 0 ≤ b - a by omega)]
  rfl
theorem m_riter (r : Addr) (a b : Int) (ta tb tc : Tok) (h0 : 0 ≤ a) (h1 : a ≤ b) (h2 : b ≤ 1000) :
    Meets (Builtin.«range.__iter__» ⟨[.ref r], []⟩) (fun _ R s => s.heap.get? r = some (rangeO a b ta tb tc) ∧ R (.ok (.ret (.ref s.heap.objs.size))) { s with heap := s.heap.push (rgO a (b - a).toNat) }) :=
  fun prog w A R s h => AutoRange.range___iter___range_1 r a b 1 ta tb tc (by rw [range_ok h0 h1 h2]; decide) prog w A R s ⟨h.1, by
    have h2' := h.2
    rw [← rg_eq h1] at h2'
    have e := range_ok h0 h1 h2
    rw [if_pos e, range_size h1]
    exact h2'⟩
section
variable {prog : Program} {w : World} {A : Around} {R : Result → Shared → Prop} {h₀ h : Heap} {F : List Addr} {σ : Cells} {g : Array GenState} {d : Drawn} {tk : Nat} {os : OsState} {c : Code} {κ : Kn} {t : Sem Fin}
theorem u_riter (D : Rep h₀ h F σ) (j : Nat) {r : Addr} {a b : Int} {ta tb tc : Tok} (hj : nth σ j = some (r, rangeO a b ta tb tc)) (h0 : 0 ≤ a) (h1 : a ≤ b) (h2 : b ≤ 1000) (hc : againOf t = some (.builtin "range.__iter__" ⟨[.ref r], []⟩)) (hr : isRet κ = true)
    (x : ∀ h' it, Rep h₀ h' F ((it, rgO a (b - a).toNat) :: σ) → Mn prog w A R (kc κ) (kr κ) (kk κ (.ok (.ret (.ref it)))) ⟨h', g, d, tk, os⟩) : Mn prog w A R c κ t ⟨h, g, d, tk, os⟩ := by
  exact use_bi PySem.F.entry_range_iter p_range_iter (m_riter r a b ta tb tc h0 h1 h2) hc hr ⟨D.cell j hj, x _ _ (D.alloc rfl)⟩
theorem u_rnext (D : Rep h₀ h F σ) (j : Nat) {it : Addr} {i : Int} {n : Nat} (hj : nth σ j = some (it, rgO i (n + 1))) (hc : againOf t = some (.builtin "range_iterator.__next__" ⟨[.ref it], []⟩)) (hr : isRet κ = true)
    (x : ∀ h', Rep h₀ h' F (setNth σ j (it, rgO (i + 1) n)) → Mn prog w A R (kc κ) (kr κ) (kk κ (.ok (.ret (.int i tk)))) ⟨h', g, d, tk + 1, os⟩) : Mn prog w A R c κ t ⟨h, g, d, tk, os⟩ := by
  refine use_bi PySem.F.entry_range_iterator_next p_range_iterator_next (AutoRange.range_iterator___next___range_iterator_1 it i ((n + 1 : Nat) : Int) 1 (by omega)) hc hr ⟨D.cell j hj, ?_⟩
  have g0 := D.cell j hj
  have D1 := D.same hj (o' := rgO (i + 1) n) (h' := (h.update it (Obj.mapFields fun x => x.setIfInBounds 0 (rawInt (i + 1)))).update it (Obj.mapFields fun x => x.setIfInBounds 1 (rawInt (((n + 1 : Nat) : Int) - 1)))) ?_ ?_
  · exact x _ D1
  · have s1 : Heap.SameBut it h (h.update it (Obj.mapFields fun x => x.setIfInBounds 0 (rawInt (i + 1)))) := Heap.SameBut.update ..
    have s2 : Heap.SameBut it (h.update it (Obj.mapFields fun x => x.setIfInBounds 0 (rawInt (i + 1)))) ((h.update it (Obj.mapFields fun x => x.setIfInBounds 0 (rawInt (i + 1)))).update it (Obj.mapFields fun x => x.setIfInBounds 1 (rawInt (((n + 1 : Nat) : Int) - 1)))) := Heap.SameBut.update ..
    exact ⟨s2.1.trans s1.1, fun b hb => (s2.2 b hb).trans (s1.2 b hb)⟩
  · have g1 : (h.update it (Obj.mapFields fun x => x.setIfInBounds 0 (rawInt (i + 1)))).get? it = some (Obj.mapFields (fun x => x.setIfInBounds 0 (rawInt (i + 1))) (rgO i (n + 1))) := Heap.get?_update_self _ g0 rfl
    rw [Heap.get?_update_self _ g1 rfl]
    have e : ((n + 1 : Nat) : Int) - 1 = (n : Int) := by omega
    rw [e]
    rfl
theorem u_rstop (D : Rep h₀ h F σ) (j : Nat) {it : Addr} {i : Int} (hj : nth σ j = some (it, rgO i 0)) (hA : A.handled = none) (hk : hnd none κ = none) (hc : againOf t = some (.builtin "range_iterator.__next__" ⟨[.ref it], []⟩)) (hr : isRet κ = true)
    (x : ∀ h' E E0, Rep h₀ h' F ((E, stopO E0) :: (E0, tupO #[] 0) :: σ) → Mn prog w A R (kc κ) (kr κ) (kk κ (.error (.ref E))) ⟨h', g, d, tk, os⟩) : Mn prog w A R c κ t ⟨h, g, d, tk, os⟩ := by
  refine use_bi PySem.F.entry_range_iterator_next p_range_iterator_next (m_rstop it i) hc hr ⟨by rw [arnd_hnd, hA]; exact hk, D.cell j hj, ?_⟩
  have D2 := D.alloc (o := tupO #[] 0) rfl
  have D3 := D2.alloc (o := stopO h.objs.size) rfl
  have e2 : (h.push (tupO #[] 0)).objs.size = h.objs.size + 1 := by rw [Heap.size_push]
  rw [e2] at D3
  exact x _ _ _ D3
end
end Mine
end
section
open PySem PySem.W PySem.W.X PyProof.Rows
set_option Elab.async false
set_option maxRecDepth 100000
set_option maxHeartbeats 1000000
namespace Mine
theorem fits_idx {i : Nat} (hi : i ≤ 1000) : Builtin.List.listFitsIndex (i : Int) = true := by
  unfold Builtin.List.listFitsIndex
  rw [Bool.and_eq_true, decide_eq_true_eq, decide_eq_true_eq]
  constructor <;> omega
theorem m_lget (l : Addr) (items : Array Value) (n : Nat) (x : Int) (u : Tok) (y : Value) (h0 : 0 ≤ x) (hi : x ≤ 1000) (hy : items[x.toNat]? = some y) :
    Meets (Builtin.«list.__getitem__» ⟨[.ref l, .int x u], []⟩) (fun _ R s => s.heap.get? l = some (listO items n) ∧ R (.ok (.ret y)) s) :=
  .of_wp fun prog w A R s h => by
    obtain ⟨hl, h⟩ := h
    have hf : Builtin.List.listFitsIndex x = true := by
      obtain ⟨j, rfl⟩ := Int.eq_ofNat_of_zero_le h0
      exact fits_idx (by omega)
    show wpAny _ _ (Builtin.List.listSubscript? (.int x u) >>= _) _ _ s
    refine wpAny_bind (wpAny_listSubscript_int hf ?_)
    clear hf hi
    obtain ⟨j, rfl⟩ := Int.eq_ofNat_of_zero_le h0
    have hy' : items[j]? = some y := hy
    show wpAny _ _ ((seqItemAt l j >>= fun r => pure (r.map (j, ·))) >>= _) _ _ s
    refine wpAny_bind (wpAny_bind (wpAny_seqItemAt hl rfl (wpAny_pure ?_)))
    rw [hy']
    first
      | exact wpAny_bind (wpAny_pure (wpAny_pure ⟨_, rfl, h⟩))
      | exact wpAny_pure ⟨_, rfl, h⟩
theorem p_list_contains : plainId "list.__contains__" = true := by decide +kernel
noncomputable def kun : Kn → Code → Nat
  | .base, c => c.cUnits
  | .ret c₀ _ _ κ, c => kun κ c₀ + c.cUnits
theorem arnd_units (A : Around) : ∀ (κ : Kn) (c : Code), ((arnd A κ).under c).units = A.units + kun κ c
  | .base, c => rfl
  | .ret c₀ hd k κ, c => by
    show (((arnd A κ).under c₀).mark hd).units + c.cUnits = A.units + (kun κ c₀ + c.cUnits)
    have e : (((arnd A κ).under c₀).mark hd).units = ((arnd A κ).under c₀).units := rfl
    rw [e, arnd_units A κ c₀, Nat.add_assoc]
/-- room on the C stack -/
structure Un (A : Around) (n : Nat) : Prop where
  un : A.units + n < 9000
theorem Un.call {A : Around} {n m : Nat} {κ : Kn} {c : Code} (o : Un A n) (h2 : Nat.ble (kun κ c + m) n = true) : Un (((arnd A κ).under c).mark none) m := by
  refine ⟨?_⟩
  have e : (((arnd A κ).under c).mark none).units = ((arnd A κ).under c).units := rfl
  rw [e, arnd_units]
  have := o.un
  have := Nat.le_of_ble_eq_true h2
  omega
theorem Un.mono {A : Around} {n m : Nat} (o : Un A n) (h : m ≤ n) : Un A m := ⟨by have := o.un; omega⟩
theorem Un.here {A : Around} {n : Nat} {κ : Kn} {c : Code} (o : Un A n) (h2 : Nat.ble (kun κ c) n = true) : ((arnd A κ).under c).units + 64 < cLine := by
  rw [arnd_units]
  have := o.un
  have := Nat.le_of_ble_eq_true h2
  have : cLine = 9900 := rfl
  omega
/-- a tree around a hole that gives a value and cannot raise -/
noncomputable def LayV {β : Type} (Φ : Sem Value → Sem β) : Prop := ∀ (M : Model) (Γ : Ctx) (m : Sem Value) (Q : β → Pos → Shared → Prop) (E : Value → Pos → Shared → Prop) (p : Pos) (s : Shared),
  Sem.wp M Γ m (fun u p' s' => Sem.wp M Γ (Φ (.pure u)) Q E p' s') (fun _ _ _ => False) p s → Sem.wp M Γ (Φ m) Q E p s
theorem LayV.operate (ops : List Value) : LayV (fun m => ZFast.zw8004119333741010377 ops m) := by
  intro M Γ m Q E p s h
  show Sem.wp M Γ (ZFast.zw8004119333741010377 ops m) Q E p s
  simp only [← ZFast.ze8004119333741010377] at h ⊢
  unfold PySem.operate at h ⊢
  show Sem.wp M Γ (Sem.bind (holding ops m) _) Q E p s
  rw [Sem.wp_bind, Sem.wp_holding]
  refine Sem.wp_mono M Γ m (fun u p' s' hu => ?_) (fun _ _ _ x => x.elim) p s h
  have hu' : Sem.wp M Γ (Sem.bind (holding ops (Sem.pure u)) (fun r => Sem.bind (release ops [r]) (fun _ => Sem.pure r))) Q E p' s' := hu
  rw [Sem.wp_bind, Sem.wp_holding] at hu'
  exact hu'
theorem LayV.bind {α β : Type} {Φ : Sem Value → Sem α} (H : LayV Φ) (k : α → Sem β) : LayV (fun m => PySem.W.R.bindR (Φ m) k) := by
  intro M Γ m Q E p s h
  show Sem.wp M Γ (PySem.W.R.bindR (Φ m) k) Q E p s
  rw [← PySem.W.R.bindR_eq, Sem.wp_bind]
  refine H M Γ m _ _ p s (Sem.wp_mono M Γ m (fun u p' s' hu => ?_) (fun _ _ _ x => x) p s h)
  rw [← PySem.W.R.bindR_eq, Sem.wp_bind] at hu
  exact hu
theorem LayV.onRaise {α : Type} {Φ : Sem Value → Sem α} (H : LayV Φ) (k : Value → Sem Unit) : LayV (fun m => PySem.W.R.onRaiseR (Φ m) k) := by
  intro M Γ m Q E p s h
  show Sem.wp M Γ (PySem.W.R.onRaiseR (Φ m) k) Q E p s
  rw [← PySem.W.R.onRaiseR_eq, Sem.wp_onRaise]
  refine H M Γ m _ _ p s (Sem.wp_mono M Γ m (fun u p' s' hu => ?_) (fun _ _ _ x => x) p s h)
  rw [← PySem.W.R.onRaiseR_eq, Sem.wp_onRaise] at hu
  exact hu
section
variable {prog : Program} {w : World} {A : Around} {R : Result → Shared → Prop} {h₀ h : Heap} {F : List Addr} {σ : Cells} {g : Array GenState} {d : Drawn} {tk : Nat} {os : OsState} {c : Code} {κ : Kn} {t : Sem Fin} {s : Shared}
theorem use_hole {Φ : Sem Value → Sem Fin} (hΦ : LayV Φ) {m : Sem Value} (ht : t = Φ m)
    (z : wpAny (model prog w) ((arnd A κ).under c) m (fun v s' => Mn prog w A R c κ (Φ (.pure v)) s') (fun _ _ => False) s) : Mn prog w A R c κ t s := by
  subst ht
  intro Γ p hc hΓ
  refine hΦ _ _ _ _ _ _ _ (Sem.wp_mono _ _ _ (fun u p' s' hu => ?_) (fun _ _ _ x => x) _ _ (z Γ p (hc ▸ hΓ.in)))
  exact hu Γ p' hc hΓ
theorem use_eq {Φ : Sem Value → Sem Fin} (hΦ : LayV Φ) {a b : Value} {da db : PyData} {as bs : List Addr} (ht : t = Φ (ZFast.zw12886488535604756494 .Eq a b)) {n : Nat} (o : Un A n) (hn : Nat.ble (kun κ c) n = true)
    (ra : Reads s.heap a da as) (rb : Reads s.heap b db bs) (ha : SeqAt.shaped da = true) (hb : SeqAt.shaped db = true)
    (z : Mn prog w A R c κ (Φ (.pure (.bool (PyData.eqv da db)))) s) : Mn prog w A R c κ t s := by
  refine use_hole hΦ ht ?_
  rw [← ZFast.ze12886488535604756494]
  exact SeqAt.compareEq_shaped ra rb ha hb (o.here hn) z
theorem use_ne {Φ : Sem Value → Sem Fin} (hΦ : LayV Φ) {a b : Value} {da db : PyData} {as bs : List Addr} (ht : t = Φ (ZFast.zw12886488535604756494 .NotEq a b)) {n : Nat} (o : Un A n) (hn : Nat.ble (kun κ c) n = true)
    (ra : Reads s.heap a da as) (rb : Reads s.heap b db bs) (ha : SeqAt.shaped da = true) (hb : SeqAt.shaped db = true)
    (z : Mn prog w A R c κ (Φ (.pure (.bool (!PyData.eqv da db)))) s) : Mn prog w A R c κ t s := by
  refine use_hole hΦ ht ?_
  rw [← ZFast.ze12886488535604756494]
  exact SeqAt.compareNe_shaped ra rb ha hb (o.here hn) z
theorem u_lget (D : Rep h₀ h F σ) (j : Nat) {l : Addr} {items : Array Value} {n : Nat} {x : Int} {u : Tok} {y : Value} (hj : nth σ j = some (l, listO items n)) (h0 : 0 ≤ x) (hi : x ≤ 1000) (hy : items[x.toNat]? = some y) (hc : againOf t = some (.builtin "list.__getitem__" ⟨[.ref l, .int x u], []⟩)) (hr : isRet κ = true)
    (z : Mn prog w A R (kc κ) (kr κ) (kk κ (.ok (.ret y))) ⟨h, g, d, tk, os⟩) : Mn prog w A R c κ t ⟨h, g, d, tk, os⟩ :=
  use_bi e_list_getitem p_list_getitem (m_lget l items n x u y h0 hi hy) hc hr ⟨D.cell j hj, z⟩
theorem u_lhas (D : Rep h₀ h F σ) (j : Nat) {l : Addr} {xs : List IT} {n : Nat} {k : Int} {u : Tok} (hj : nth σ j = some (l, listO ⟨xs.map iv⟩ n)) (hc : againOf t = some (.builtin "list.__contains__" ⟨[.ref l, .int k u], []⟩)) (hr : isRet κ = true)
    (x : Mn prog w A R (kc κ) (kr κ) (kk κ (.ok (.ret (.bool ((xs.map (·.1)).any (fun y => y == k)))))) ⟨h, g, d, tk, os⟩) : Mn prog w A R c κ t ⟨h, g, d, tk, os⟩ := by
  refine use_bi (by first | exact PySem.F.entry_list_contains | exact PySem.entry_list_contains) p_list_contains (SeqAt.list_containsAt l ⟨xs.map iv⟩ n none #[] (.int k u) (fun v => match v with | .int a _ => a == k | _ => false)) hc hr ⟨D.cell j hj, fun y hy => ?_, ?_⟩
  · have hy' : y ∈ xs.map iv := by simpa using hy
    obtain ⟨p, _, rfl⟩ := List.mem_map.mp hy'
    exact SeqAt.EqAt.int_int p.1 p.2 k u
  · have e : (⟨xs.map iv⟩ : Array Value).any (fun v => match v with | .int a _ => a == k | _ => false) = (xs.map (·.1)).any (fun y => y == k) := by
      rw [List.any_toArray, List.any_map, List.any_map]
      rfl
    rw [e]
    exact x
end
end Mine
end
section
open PySem PySem.W PySem.W.X PyProof.Rows
set_option Elab.async false
set_option maxRecDepth 100000
set_option maxHeartbeats 1000000
namespace Mine
variable {prog : Program} {w : World} {w₀ : World} {b1 b2 b3 : Bool} {A : Around} {R : Result → Shared → Prop} {h₀ h : Heap} {F : List Addr} {ρ σ : Cells} {g : Array GenState} {d : Drawn} {tk : Nat} {os₀ : OsState}
noncomputable abbrev cellO (v : Value) : Obj := ⟨.type "cell", none, .cell (some v), #[]⟩
noncomputable def flt (P : Nat → Bool) : Nat → Nat → List Int
  | _, 0 => []
  | i, n + 1 => if P i = true then (i : Int) :: flt P (i + 1) n else flt P (i + 1) n
noncomputable def bit0 (os : List Int) (k : Nat) : Bool := decide (os.getD k 0 / 64 % 2 = 0)
/-- the rounds in which k stands -/
noncomputable def turns (k : Int) : Nat → List (List Int) → List Int
  | _, [] => []
  | i, r :: rs => if (r.any fun y => y == k) = true then (i : Int) :: turns k (i + 1) rs else turns k (i + 1) rs
theorem fdiv64 (x : Int) : x.fdiv 64 = x / 64 := Int.fdiv_eq_ediv_of_nonneg x (by decide)
theorem fmod2 (x : Int) : x.fmod 2 = x % 2 := Int.fmod_eq_emod_of_nonneg x (by decide)
theorem iv_at (os : List IT) {i : Nat} (hi : i < os.length) : (⟨os.map iv⟩ : Array Value)[i]? = some (iv os[i]) := by simp [hi]
theorem getD_at (os : List IT) {i : Nat} (hi : i < os.length) : (os.map (·.1)).getD i 0 = os[i].1 := by simp [hi]
theorem dcells_mid (dn rest : List Rd) (r : Rd) : dcells (dn ++ r :: rest) ++ ρ = dcells dn ++ ((r.a, listO ⟨r.xs.map iv⟩ r.e) :: (dcells rest ++ ρ)) := by simp [dcells]
noncomputable def e165a (P : Params) : Option Expr := valE (fstmt P 165 0)
noncomputable def e165b (P : Params) : Option Expr := match subS (fstmt P 165 3) 0 with
  | some (.Assign _ (.BinOp _ _ (.BinOp _ _ (.BinOp _ _ (.Subscript x _ _) _) _) _) _) => some x
  | _ => none
theorem l165a {it acc sc Cl To L : Addr} {os : List IT} {eo : Nat} (o : Ok A 2) : ∀ (n : Nat) (b1 : Bool) (_ : Gd (wF b1 b2 b3 w₀) h₀) (i : Nat) (v : Option (Q2 × Value)) (ys : List IT) (ey : Nat) (h : Heap) (tk : Nat),
    i + n ≤ os.length → os.length ≤ 900 → ys.length + n ≤ 1000 →
    Rep h₀ h F ((it, rgO (i : Int) n) :: (acc, listO ⟨ys.map iv⟩ ey) :: (sc, dictO (scE s_k v) (scN v)) :: (Cl, cellO (.ref To)) :: (To, listO ⟨os.map iv⟩ eo) :: ρ) →
    (∀ h' tk' (ys' : List IT) ey' v', ys'.map (·.1) = ys.map (·.1) ++ flt (bit0 (os.map (·.1))) i n → Rep h₀ h' F ((acc, listO ⟨ys'.map iv⟩ ey') :: (sc, dictO (scE s_k v') (scN v')) :: (Cl, cellO (.ref To)) :: (To, listO ⟨os.map iv⟩ eo) :: ρ) → R (.ok .next) ⟨h', g, d, tk', os₀⟩) →
    codeAny (model prog (wF b1 b2 b3 w₀)) A (compC (wF b1 b2 b3 w₀).params 165 (e165a (wF b1 b2 b3 w₀).params) it acc sc L [(s_octets, Cl)]) R ⟨h, g, d, tk, os₀⟩
  | 0 => by
    intro b1 G i v ys ey h tk hn hl hz D z
    refine code_start ?_
    refine sg2L 1000 [.s 0, .e, .s 0] [] G o.hd D ?_; intro fh1 oh1; refine ⟨by kernel_rfl, fun h1 tk1 D1 => ?_⟩
    refine u_rstop D1 0 (it := it) (i := (i : Int)) (by kernel_rfl) o.hd (by kernel_rfl) (by kernel_rfl) (by kernel_rfl) fun h2 E E0 D2 => ?_
    refine sg2L 1000 [.s 0] [false, false, false] G o.hd D2 ?_; intro fh3 oh3; refine ⟨by kernel_rfl, fun h3 tk3 D3 => ?_⟩
    exact end_done (f := .next) (by kernel_rfl) (by kernel_rfl) (z h3 tk3 ys ey v (by simp [flt]) (D3.eq (by kernel_rfl)))
  | n + 1 => by
    intro b1 G i v ys ey h tk hn hl hz D z
    have hi : i < os.length := by omega
    refine code_start ?_
    refine sg2L 1000 [.s 0, .e, .s 0] [] G o.hd D ?_; intro fh1 oh1; refine ⟨by kernel_rfl, fun h1 tk1 D1 => ?_⟩
    refine u_rnext D1 0 (it := it) (i := (i : Int)) (n := n) (by kernel_rfl) (by kernel_rfl) (by kernel_rfl) fun h2 D2 => ?_
    rcases v with _ | ⟨q, v⟩
    · all_goals
        refine sg2L 1000 [.s 2, .s 2, .s 3, .s 2, .s 4, .s 4, .s 4, .e, .s 4] [] G o.hd D2 ?_; intro fh3 oh3; refine ⟨by kernel_rfl, fun h3 tk3 D3 => ?_⟩
        refine u_lget D3 4 (l := To) (items := ⟨os.map iv⟩) (n := eo) (x := (i : Int)) (u := tk1) (y := iv os[i]) (by kernel_rfl) (by omega) (by omega) (by rw [Int.toNat_natCast]; exact iv_at os hi) (by kernel_rfl) (by kernel_rfl) ?_
        refine sg2L 1000 [] [] G o.hd D3 ?_; intro fh4 oh4; refine ⟨by kernel_rfl, fun h4 tk4 D4 => ?_⟩
        refine u_fdiv (a := os[i].1) (ta := os[i].2) (b := 64) (tb := tk3) (by kernel_rfl) (by decide) (by decide) ?_
        rw [fdiv64]
        refine sg2L 1000 [] [] G o.hd D4 ?_; intro fh5 oh5; refine ⟨by kernel_rfl, fun h5 tk5 D5 => ?_⟩
        refine u_mod (a := os[i].1 / 64) (ta := tk4) (b := 2) (tb := tk4 + 1) (by kernel_rfl) (by decide) ?_
        rw [fmod2]
        refine sg2L 1000 [.e] [] G o.hd D5 ?_; intro fh6 oh6; refine ⟨by kernel_rfl, fun h6 tk6 D6 => ?_⟩
        refine use_again (c' := .builtin "int.__eq__" ⟨[.int (os[i].1 / 64 % 2) tk5, .int 0 (tk5 + 1)], []⟩) (by kernel_rfl) (by kernel_rfl) (by kernel_rfl) ?_
        refine c_eq G (by rw [arnd_hnd, o.hd]; kernel_rfl) D6 ?_
        intro h7 tk7 D7
        by_cases h0 : os[i].1 / 64 % 2 = 0
        · rw [decide_eq_true h0]
          refine sg2L 1000 [.s 2, .e, .s 1] [] G o.hd D7 ?_; intro fh8 oh8; refine ⟨by kernel_rfl, fun h8 tk8 D8 => ?_⟩
          refine u_append D8 1 (l := acc) (items := ⟨ys.map iv⟩) (n := ey) (v := .int (i : Int) tk1) (by kernel_rfl) (line_of (n := ys.length) (by omega) (by simp)) (by kernel_rfl) (by kernel_rfl) fun h9 D9 => ?_
          refine sg2L 1000 [] [] G o.hd D9 ?_; intro fh10 oh10; refine ⟨by kernel_rfl, fun h10 tk10 D10 => ?_⟩
          refine end_again (c' := compC (gdW G).params 165 (e165a (gdW G).params) it acc sc L [(s_octets, Cl)]) (by kernel_rfl) (by kernel_rfl) (by kernel_rfl) ?_
          refine l165a (it := it) (acc := acc) (sc := sc) (Cl := Cl) (To := To) (L := L) (os := os) (eo := eo) o n _ G (i + 1) (some ((hS w₀.params s_k, tk1 + 1), .int (i : Int) tk1)) (ys ++ [((i : Int), tk1)]) (ey + 1) h10 tk10 (by omega) hl (by rw [List.length_append, List.length_singleton]; omega) ?_ ?_
          · rw [iv_snoc]
            exact D10.eq (by kernel_rfl)
          · intro h' tk' ys' ey' v' hy D'
            refine z h' tk' ys' ey' v' ?_ D'
            rw [hy, flt, if_pos (by rw [bit0, getD_at os hi]; exact decide_eq_true h0)]
            simp
        · rw [decide_eq_false h0]
          refine sg2L 1000 [] [] G o.hd D7 ?_; intro fh10 oh10; refine ⟨by kernel_rfl, fun h10 tk10 D10 => ?_⟩
          refine end_again (c' := compC (gdW G).params 165 (e165a (gdW G).params) it acc sc L [(s_octets, Cl)]) (by kernel_rfl) (by kernel_rfl) (by kernel_rfl) ?_
          refine l165a (it := it) (acc := acc) (sc := sc) (Cl := Cl) (To := To) (L := L) (os := os) (eo := eo) o n _ G (i + 1) (some ((hS w₀.params s_k, tk1 + 1), .int (i : Int) tk1)) ys ey h10 tk10 (by omega) hl (by omega) (D10.eq (by kernel_rfl)) ?_
          intro h' tk' ys' ey' v' hy D'
          refine z h' tk' ys' ey' v' ?_ D'
          rw [hy, flt, if_neg (by rw [bit0, getD_at os hi]; simpa using h0)]
    · all_goals
        refine sg2L 1000 [.s 2, .s 2, .s 3, .s 2, .s 4, .s 4, .s 4, .e, .s 4] [] G o.hd D2 ?_; intro fh3 oh3; refine ⟨by kernel_rfl, fun h3 tk3 D3 => ?_⟩
        refine u_lget D3 4 (l := To) (items := ⟨os.map iv⟩) (n := eo) (x := (i : Int)) (u := tk1) (y := iv os[i]) (by kernel_rfl) (by omega) (by omega) (by rw [Int.toNat_natCast]; exact iv_at os hi) (by kernel_rfl) (by kernel_rfl) ?_
        refine sg2L 1000 [] [] G o.hd D3 ?_; intro fh4 oh4; refine ⟨by kernel_rfl, fun h4 tk4 D4 => ?_⟩
        refine u_fdiv (a := os[i].1) (ta := os[i].2) (b := 64) (tb := tk3) (by kernel_rfl) (by decide) (by decide) ?_
        rw [fdiv64]
        refine sg2L 1000 [] [] G o.hd D4 ?_; intro fh5 oh5; refine ⟨by kernel_rfl, fun h5 tk5 D5 => ?_⟩
        refine u_mod (a := os[i].1 / 64) (ta := tk4) (b := 2) (tb := tk4 + 1) (by kernel_rfl) (by decide) ?_
        rw [fmod2]
        refine sg2L 1000 [.e] [] G o.hd D5 ?_; intro fh6 oh6; refine ⟨by kernel_rfl, fun h6 tk6 D6 => ?_⟩
        refine use_again (c' := .builtin "int.__eq__" ⟨[.int (os[i].1 / 64 % 2) tk5, .int 0 (tk5 + 1)], []⟩) (by kernel_rfl) (by kernel_rfl) (by kernel_rfl) ?_
        refine c_eq G (by rw [arnd_hnd, o.hd]; kernel_rfl) D6 ?_
        intro h7 tk7 D7
        by_cases h0 : os[i].1 / 64 % 2 = 0
        · rw [decide_eq_true h0]
          refine sg2L 1000 [.s 2, .e, .s 1] [] G o.hd D7 ?_; intro fh8 oh8; refine ⟨by kernel_rfl, fun h8 tk8 D8 => ?_⟩
          refine u_append D8 1 (l := acc) (items := ⟨ys.map iv⟩) (n := ey) (v := .int (i : Int) tk1) (by kernel_rfl) (line_of (n := ys.length) (by omega) (by simp)) (by kernel_rfl) (by kernel_rfl) fun h9 D9 => ?_
          refine sg2L 1000 [] [] G o.hd D9 ?_; intro fh10 oh10; refine ⟨by kernel_rfl, fun h10 tk10 D10 => ?_⟩
          refine end_again (c' := compC (gdW G).params 165 (e165a (gdW G).params) it acc sc L [(s_octets, Cl)]) (by kernel_rfl) (by kernel_rfl) (by kernel_rfl) ?_
          refine l165a (it := it) (acc := acc) (sc := sc) (Cl := Cl) (To := To) (L := L) (os := os) (eo := eo) o n _ G (i + 1) (some (q, .int (i : Int) tk1)) (ys ++ [((i : Int), tk1)]) (ey + 1) h10 tk10 (by omega) hl (by rw [List.length_append, List.length_singleton]; omega) ?_ ?_
          · rw [iv_snoc]
            exact D10.eq (by kernel_rfl)
          · intro h' tk' ys' ey' v' hy D'
            refine z h' tk' ys' ey' v' ?_ D'
            rw [hy, flt, if_pos (by rw [bit0, getD_at os hi]; exact decide_eq_true h0)]
            simp
        · rw [decide_eq_false h0]
          refine sg2L 1000 [] [] G o.hd D7 ?_; intro fh10 oh10; refine ⟨by kernel_rfl, fun h10 tk10 D10 => ?_⟩
          refine end_again (c' := compC (gdW G).params 165 (e165a (gdW G).params) it acc sc L [(s_octets, Cl)]) (by kernel_rfl) (by kernel_rfl) (by kernel_rfl) ?_
          refine l165a (it := it) (acc := acc) (sc := sc) (Cl := Cl) (To := To) (L := L) (os := os) (eo := eo) o n _ G (i + 1) (some (q, .int (i : Int) tk1)) ys ey h10 tk10 (by omega) hl (by omega) (D10.eq (by kernel_rfl)) ?_
          intro h' tk' ys' ey' v' hy D'
          refine z h' tk' ys' ey' v' ?_ D'
          rw [hy, flt, if_neg (by rw [bit0, getD_at os hi]; simpa using h0)]
theorem s165a {it acc sc Cl To L : Addr} {os : List IT} {eo n i : Nat} (G : Gd (wF b1 b2 b3 w₀) h₀) (o : Ok A 2) (hn : i + n ≤ os.length) (hl : os.length ≤ 900)
    (D : Rep h₀ h F ((it, rgO (i : Int) n) :: (acc, listO #[] 0) :: (sc, dictO #[] 0) :: (Cl, cellO (.ref To)) :: (To, listO ⟨os.map iv⟩ eo) :: ρ))
    (z : ∀ h' tk' (ys' : List IT) ey' v', ys'.map (·.1) =  flt (bit0 (os.map (·.1))) i n → Rep h₀ h' F ((acc, listO ⟨ys'.map iv⟩ ey') :: (sc, dictO (scE s_k v') (scN v')) :: (Cl, cellO (.ref To)) :: (To, listO ⟨os.map iv⟩ eo) :: ρ) → R (.ok .next) ⟨h', g, d, tk', os₀⟩) :
    codeAny (model prog (wF b1 b2 b3 w₀)) A (compS (wF b1 b2 b3 w₀).params 165 (e165a (wF b1 b2 b3 w₀).params) it acc sc L [(s_octets, Cl)]) R ⟨h, g, d, tk, os₀⟩ := by
  refine code_start ?_
  cases b2
  · all_goals
      refine sg2L 1000 [.s 0, .s 0, .e, .s 0, .e, .s 0] [] G o.hd D ?_; intro fh5 oh5; refine ⟨by kernel_rfl, fun h5 tk5 D5 => ?_⟩
      refine end_again (c' := compC (gdW G).params 165 (e165a (gdW G).params) it acc sc L [(s_octets, Cl)]) (by kernel_rfl) (by kernel_rfl) (by kernel_rfl) ?_
      exact l165a (it := it) (acc := acc) (sc := sc) (Cl := Cl) (To := To) (L := L) (os := os) (eo := eo) o n _ G i none [] 0 h5 tk5 hn hl (by simp only [List.length_nil]; omega) (D5.eq (by kernel_rfl)) z
  · all_goals
      refine sg2L 1000 [] [] G o.hd D ?_; intro fh5 oh5; refine ⟨by kernel_rfl, fun h5 tk5 D5 => ?_⟩
      refine end_again (c' := compC (gdW G).params 165 (e165a (gdW G).params) it acc sc L [(s_octets, Cl)]) (by kernel_rfl) (by kernel_rfl) (by kernel_rfl) ?_
      exact l165a (it := it) (acc := acc) (sc := sc) (Cl := Cl) (To := To) (L := L) (os := os) (eo := eo) o n _ G i none [] 0 h5 tk5 hn hl (by simp only [List.length_nil]; omega) (D5.eq (by kernel_rfl)) z
theorem l165b {it acc sc Ck Cr Rn L : Addr} {k : Int} {kt : Tok} {en : Nat} (G : Gd w h₀) (o : Ok A 2) : ∀ (rest dn : List Rd) (v : Option (Q2 × Value)) (ys : List IT) (ey : Nat) (h : Heap) (tk : Nat),
    ys.length + rest.length ≤ 1000 → dn.length + rest.length ≤ 1000 →
    Rep h₀ h F ((it, rgO (dn.length : Int) rest.length) :: (acc, listO ⟨ys.map iv⟩ ey) :: (sc, dictO (scE s_turn v) (scN v)) :: (Ck, cellO (.int k kt)) :: (Cr, cellO (.ref Rn)) :: (Rn, listO ⟨(dn ++ rest).map rdV⟩ en) :: (dcells (dn ++ rest) ++ ρ)) →
    (∀ h' tk' (ys' : List IT) ey' v', ys'.map (·.1) = ys.map (·.1) ++ turns k dn.length (rest.map Rd.p) → Rep h₀ h' F ((acc, listO ⟨ys'.map iv⟩ ey') :: (sc, dictO (scE s_turn v') (scN v')) :: (Ck, cellO (.int k kt)) :: (Cr, cellO (.ref Rn)) :: (Rn, listO ⟨(dn ++ rest).map rdV⟩ en) :: (dcells (dn ++ rest) ++ ρ)) → R (.ok .next) ⟨h', g, d, tk', os₀⟩) →
    codeAny (model prog w) A (compC w.params 165 (e165b w.params) it acc sc L [(s_rounds, Cr), (s_k, Ck)]) R ⟨h, g, d, tk, os₀⟩
  | [] => by
    intro dn v ys ey h tk hz hz2 D z
    refine code_start ?_
    refine sgL 1000 [.s 0, .e, .s 0] [] G o.hd D ?_; intro oh1; refine ⟨by kernel_rfl, fun h1 tk1 D1 => ?_⟩
    refine u_rstop D1 0 (it := it) (i := (dn.length : Int)) (by kernel_rfl) o.hd (by kernel_rfl) (by kernel_rfl) (by kernel_rfl) fun h2 E E0 D2 => ?_
    refine sgL 1000 [.s 0] [false, false, false] G o.hd D2 ?_; intro oh3; refine ⟨by kernel_rfl, fun h3 tk3 D3 => ?_⟩
    exact end_done (f := .next) (by kernel_rfl) (by kernel_rfl) (z h3 tk3 ys ey v (by simp [turns]) (D3.eq (by kernel_rfl)))
  | r :: rest => by
    intro dn v ys ey h tk hz hz2 D z
    simp only [List.length_cons] at hz hz2
    refine code_start ?_
    refine sgL 1000 [.s 0, .e, .s 0] [] G o.hd D ?_; intro oh1; refine ⟨by kernel_rfl, fun h1 tk1 D1 => ?_⟩
    refine u_rnext D1 0 (it := it) (i := (dn.length : Int)) (n := rest.length) (by kernel_rfl) (by kernel_rfl) (by kernel_rfl) fun h2 D2 => ?_
    rcases v with _ | ⟨q, v⟩
    · refine sgL 1000 [.s 2, .s 2, .s 3, .s 4, .s 2, .s 5, .s 5, .s 5, .e, .s 5] [] G o.hd D2 ?_; intro oh3; refine ⟨by kernel_rfl, fun h3 tk3 D3 => ?_⟩
      refine u_lget D3 5 (l := Rn) (items := ⟨(dn ++ r :: rest).map rdV⟩) (n := en) (x := (dn.length : Int)) (u := tk1) (y := .ref r.a) (by kernel_rfl) (by omega) (by omega) (by rw [Int.toNat_natCast]; simp [rdV]) (by kernel_rfl) (by kernel_rfl) ?_
      let S4 : List Cells := [[(it, rgO ((dn.length : Int) + 1) rest.length)], [(acc, listO ⟨ys.map iv⟩ ey)], [(sc, dictO (scE s_turn (some ((hS w.params s_turn, tk1 + 1), .int (dn.length : Int) tk1))) 1)], [(Ck, cellO (.int k kt))], [(Cr, cellO (.ref Rn))], [(Rn, listO ⟨(dn ++ r :: rest).map rdV⟩ en)], dcells dn, [(r.a, listO ⟨r.xs.map iv⟩ r.e)], dcells rest, ρ]; have D4 : Rep h₀ h3 F (cat S4) := by
        have D4' := D3.tail 6 (rest := dcells (dn ++ r :: rest) ++ ρ) (by kernel_rfl)
        rw [dcells_mid] at D4'
        exact D4'.eq (by kernel_rfl)
      have D5 := Rep.shuf _ [9, 9, 8, 9, 9, 9, 9, 9, 9, 9] D4
      refine sgL 1000 [.s 6, .s 6, .e, .s 6] [] G o.hd D5 ?_; intro oh6; refine ⟨by kernel_rfl, fun h6 tk6 D6 => ?_⟩
      refine u_lhas D6 6 (l := r.a) (xs := r.xs) (n := r.e) (k := k) (u := kt) (by kernel_rfl) (by kernel_rfl) (by kernel_rfl) ?_
      cases hin : (r.xs.map (·.1)).any (fun y => y == k) with
      | true =>
        refine sgL 1000 [.s 2, .e, .s 1] [] G o.hd D6 ?_; intro oh8; refine ⟨by kernel_rfl, fun h8 tk8 D8 => ?_⟩
        refine u_append D8 1 (l := acc) (items := ⟨ys.map iv⟩) (n := ey) (v := .int (dn.length : Int) tk1) (by kernel_rfl) (line_of (n := ys.length) (by omega) (by simp)) (by kernel_rfl) (by kernel_rfl) fun h9 D9 => ?_
        refine sgL 1000 [] [] G o.hd D9 ?_; intro oh10; refine ⟨by kernel_rfl, fun h10 tk10 D10 => ?_⟩
        refine end_again (c' := compC w.params 165 (e165b w.params) it acc sc L [(s_rounds, Cr), (s_k, Ck)]) (by kernel_rfl) (by kernel_rfl) (by kernel_rfl) ?_
        let S11 : List Cells := [[(it, rgO ((dn.length : Int) + 1) rest.length)], [(acc, listO ((⟨ys.map iv⟩ : Array Value).push (.int (dn.length : Int) tk1)) (ey + 1))], [(sc, dictO (scE s_turn (some ((hS w.params s_turn, tk1 + 1), .int (dn.length : Int) tk1))) 1)], [(Ck, cellO (.int k kt))], [(Cr, cellO (.ref Rn))], [(Rn, listO ⟨(dn ++ r :: rest).map rdV⟩ en)], [(r.a, listO ⟨r.xs.map iv⟩ r.e)], dcells dn, dcells rest, ρ]; have D11 : Rep h₀ h10 F (cat S11) := D10.eq (by kernel_rfl)
        have D12 := Rep.shuf _ [9, 9, 8, 9, 9, 9, 9, 9, 9, 9] D11
        refine l165b (it := it) (acc := acc) (sc := sc) (Ck := Ck) (Cr := Cr) (Rn := Rn) (L := L) (k := k) (kt := kt) (en := en) G o rest (dn ++ [r]) (some ((hS w.params s_turn, tk1 + 1), .int (dn.length : Int) tk1)) (ys ++ [((dn.length : Int), tk1)]) (ey + 1) h10 tk10 (by simp only [List.length_append, List.length_cons, List.length_nil]; omega) (by simp only [List.length_append, List.length_cons, List.length_nil]; omega) ?_ ?_
        · rw [iv_snoc, List.append_assoc, List.length_append]
          refine Rep.eq D12 ?_
          show _ = _ :: _ :: _ :: _ :: _ :: _ :: (dcells (dn ++ r :: rest) ++ ρ)
          rw [dcells_mid]
          kernel_rfl
        · intro h' tk' ys' ey' v' hy D'
          rw [List.append_assoc] at D'
          refine z h' tk' ys' ey' v' ?_ D'
          rw [hy, List.length_append, List.map_cons, turns, if_pos (show (r.p.any fun y => y == k) = true from hin)]
          simp
      | false =>
        refine sgL 1000 [] [] G o.hd D6 ?_; intro oh10; refine ⟨by kernel_rfl, fun h10 tk10 D10 => ?_⟩
        refine end_again (c' := compC w.params 165 (e165b w.params) it acc sc L [(s_rounds, Cr), (s_k, Ck)]) (by kernel_rfl) (by kernel_rfl) (by kernel_rfl) ?_
        let S11 : List Cells := [[(it, rgO ((dn.length : Int) + 1) rest.length)], [(acc, listO ⟨ys.map iv⟩ ey)], [(sc, dictO (scE s_turn (some ((hS w.params s_turn, tk1 + 1), .int (dn.length : Int) tk1))) 1)], [(Ck, cellO (.int k kt))], [(Cr, cellO (.ref Rn))], [(Rn, listO ⟨(dn ++ r :: rest).map rdV⟩ en)], [(r.a, listO ⟨r.xs.map iv⟩ r.e)], dcells dn, dcells rest, ρ]; have D11 : Rep h₀ h10 F (cat S11) := D10.eq (by kernel_rfl)
        have D12 := Rep.shuf _ [9, 9, 8, 9, 9, 9, 9, 9, 9, 9] D11
        refine l165b (it := it) (acc := acc) (sc := sc) (Ck := Ck) (Cr := Cr) (Rn := Rn) (L := L) (k := k) (kt := kt) (en := en) G o rest (dn ++ [r]) (some ((hS w.params s_turn, tk1 + 1), .int (dn.length : Int) tk1)) ys ey h10 tk10 (by omega) (by simp only [List.length_append, List.length_cons, List.length_nil]; omega) ?_ ?_
        · rw [List.append_assoc, List.length_append]
          refine Rep.eq D12 ?_
          show _ = _ :: _ :: _ :: _ :: _ :: _ :: (dcells (dn ++ r :: rest) ++ ρ)
          rw [dcells_mid]
          kernel_rfl
        · intro h' tk' ys' ey' v' hy D'
          rw [List.append_assoc] at D'
          refine z h' tk' ys' ey' v' ?_ D'
          rw [hy, List.length_append, List.map_cons, turns, if_neg (show ¬ (r.p.any fun y => y == k) = true from by rw [show (r.p.any fun y => y == k) = false from hin]; decide)]
          simp
    · refine sgL 1000 [.s 2, .s 2, .s 3, .s 4, .s 2, .s 5, .s 5, .s 5, .e, .s 5] [] G o.hd D2 ?_; intro oh3; refine ⟨by kernel_rfl, fun h3 tk3 D3 => ?_⟩
      refine u_lget D3 5 (l := Rn) (items := ⟨(dn ++ r :: rest).map rdV⟩) (n := en) (x := (dn.length : Int)) (u := tk1) (y := .ref r.a) (by kernel_rfl) (by omega) (by omega) (by rw [Int.toNat_natCast]; simp [rdV]) (by kernel_rfl) (by kernel_rfl) ?_
      let S4 : List Cells := [[(it, rgO ((dn.length : Int) + 1) rest.length)], [(acc, listO ⟨ys.map iv⟩ ey)], [(sc, dictO (scE s_turn (some (q, .int (dn.length : Int) tk1))) 1)], [(Ck, cellO (.int k kt))], [(Cr, cellO (.ref Rn))], [(Rn, listO ⟨(dn ++ r :: rest).map rdV⟩ en)], dcells dn, [(r.a, listO ⟨r.xs.map iv⟩ r.e)], dcells rest, ρ]; have D4 : Rep h₀ h3 F (cat S4) := by
        have D4' := D3.tail 6 (rest := dcells (dn ++ r :: rest) ++ ρ) (by kernel_rfl)
        rw [dcells_mid] at D4'
        exact D4'.eq (by kernel_rfl)
      have D5 := Rep.shuf _ [9, 9, 8, 9, 9, 9, 9, 9, 9, 9] D4
      refine sgL 1000 [.s 6, .s 6, .e, .s 6] [] G o.hd D5 ?_; intro oh6; refine ⟨by kernel_rfl, fun h6 tk6 D6 => ?_⟩
      refine u_lhas D6 6 (l := r.a) (xs := r.xs) (n := r.e) (k := k) (u := kt) (by kernel_rfl) (by kernel_rfl) (by kernel_rfl) ?_
      cases hin : (r.xs.map (·.1)).any (fun y => y == k) with
      | true =>
        refine sgL 1000 [.s 2, .e, .s 1] [] G o.hd D6 ?_; intro oh8; refine ⟨by kernel_rfl, fun h8 tk8 D8 => ?_⟩
        refine u_append D8 1 (l := acc) (items := ⟨ys.map iv⟩) (n := ey) (v := .int (dn.length : Int) tk1) (by kernel_rfl) (line_of (n := ys.length) (by omega) (by simp)) (by kernel_rfl) (by kernel_rfl) fun h9 D9 => ?_
        refine sgL 1000 [] [] G o.hd D9 ?_; intro oh10; refine ⟨by kernel_rfl, fun h10 tk10 D10 => ?_⟩
        refine end_again (c' := compC w.params 165 (e165b w.params) it acc sc L [(s_rounds, Cr), (s_k, Ck)]) (by kernel_rfl) (by kernel_rfl) (by kernel_rfl) ?_
        let S11 : List Cells := [[(it, rgO ((dn.length : Int) + 1) rest.length)], [(acc, listO ((⟨ys.map iv⟩ : Array Value).push (.int (dn.length : Int) tk1)) (ey + 1))], [(sc, dictO (scE s_turn (some (q, .int (dn.length : Int) tk1))) 1)], [(Ck, cellO (.int k kt))], [(Cr, cellO (.ref Rn))], [(Rn, listO ⟨(dn ++ r :: rest).map rdV⟩ en)], [(r.a, listO ⟨r.xs.map iv⟩ r.e)], dcells dn, dcells rest, ρ]; have D11 : Rep h₀ h10 F (cat S11) := D10.eq (by kernel_rfl)
        have D12 := Rep.shuf _ [9, 9, 8, 9, 9, 9, 9, 9, 9, 9] D11
        refine l165b (it := it) (acc := acc) (sc := sc) (Ck := Ck) (Cr := Cr) (Rn := Rn) (L := L) (k := k) (kt := kt) (en := en) G o rest (dn ++ [r]) (some (q, .int (dn.length : Int) tk1)) (ys ++ [((dn.length : Int), tk1)]) (ey + 1) h10 tk10 (by simp only [List.length_append, List.length_cons, List.length_nil]; omega) (by simp only [List.length_append, List.length_cons, List.length_nil]; omega) ?_ ?_
        · rw [iv_snoc, List.append_assoc, List.length_append]
          refine Rep.eq D12 ?_
          show _ = _ :: _ :: _ :: _ :: _ :: _ :: (dcells (dn ++ r :: rest) ++ ρ)
          rw [dcells_mid]
          kernel_rfl
        · intro h' tk' ys' ey' v' hy D'
          rw [List.append_assoc] at D'
          refine z h' tk' ys' ey' v' ?_ D'
          rw [hy, List.length_append, List.map_cons, turns, if_pos (show (r.p.any fun y => y == k) = true from hin)]
          simp
      | false =>
        refine sgL 1000 [] [] G o.hd D6 ?_; intro oh10; refine ⟨by kernel_rfl, fun h10 tk10 D10 => ?_⟩
        refine end_again (c' := compC w.params 165 (e165b w.params) it acc sc L [(s_rounds, Cr), (s_k, Ck)]) (by kernel_rfl) (by kernel_rfl) (by kernel_rfl) ?_
        let S11 : List Cells := [[(it, rgO ((dn.length : Int) + 1) rest.length)], [(acc, listO ⟨ys.map iv⟩ ey)], [(sc, dictO (scE s_turn (some (q, .int (dn.length : Int) tk1))) 1)], [(Ck, cellO (.int k kt))], [(Cr, cellO (.ref Rn))], [(Rn, listO ⟨(dn ++ r :: rest).map rdV⟩ en)], [(r.a, listO ⟨r.xs.map iv⟩ r.e)], dcells dn, dcells rest, ρ]; have D11 : Rep h₀ h10 F (cat S11) := D10.eq (by kernel_rfl)
        have D12 := Rep.shuf _ [9, 9, 8, 9, 9, 9, 9, 9, 9, 9] D11
        refine l165b (it := it) (acc := acc) (sc := sc) (Ck := Ck) (Cr := Cr) (Rn := Rn) (L := L) (k := k) (kt := kt) (en := en) G o rest (dn ++ [r]) (some (q, .int (dn.length : Int) tk1)) ys ey h10 tk10 (by omega) (by simp only [List.length_append, List.length_cons, List.length_nil]; omega) ?_ ?_
        · rw [List.append_assoc, List.length_append]
          refine Rep.eq D12 ?_
          show _ = _ :: _ :: _ :: _ :: _ :: _ :: (dcells (dn ++ r :: rest) ++ ρ)
          rw [dcells_mid]
          kernel_rfl
        · intro h' tk' ys' ey' v' hy D'
          rw [List.append_assoc] at D'
          refine z h' tk' ys' ey' v' ?_ D'
          rw [hy, List.length_append, List.map_cons, turns, if_neg (show ¬ (r.p.any fun y => y == k) = true from by rw [show (r.p.any fun y => y == k) = false from hin]; decide)]
          simp
theorem s165b {it acc sc Ck Cr Rn L : Addr} {k : Int} {kt : Tok} {en : Nat} {rds : List Rd} (G : Gd (wF b1 b2 b3 w₀) h₀) (o : Ok A 2) (hz : rds.length ≤ 900)
    (D : Rep h₀ h F ((it, rgO 0 rds.length) :: (acc, listO #[] 0) :: (sc, dictO #[] 0) :: (Ck, cellO (.int k kt)) :: (Cr, cellO (.ref Rn)) :: (Rn, listO ⟨rds.map rdV⟩ en) :: (dcells rds ++ ρ)))
    (z : ∀ h' tk' (ys' : List IT) ey' v', ys'.map (·.1) =  turns k 0 (rds.map Rd.p) → Rep h₀ h' F ((acc, listO ⟨ys'.map iv⟩ ey') :: (sc, dictO (scE s_turn v') (scN v')) :: (Ck, cellO (.int k kt)) :: (Cr, cellO (.ref Rn)) :: (Rn, listO ⟨(rds).map rdV⟩ en) :: (dcells (rds) ++ ρ)) → R (.ok .next) ⟨h', g, d, tk', os₀⟩) :
    codeAny (model prog (wF b1 b2 b3 w₀)) A (compS (wF b1 b2 b3 w₀).params 165 (e165b (wF b1 b2 b3 w₀).params) it acc sc L [(s_rounds, Cr), (s_k, Ck)]) R ⟨h, g, d, tk, os₀⟩ := by
  refine code_start ?_
  cases b2
  · all_goals
      refine sg2L 1000 [.s 0, .s 0, .e, .s 0, .e, .s 0] [] G o.hd D ?_; intro fh5 oh5; refine ⟨by kernel_rfl, fun h5 tk5 D5 => ?_⟩
      refine end_again (c' := compC (gdW G).params 165 (e165b (gdW G).params) it acc sc L [(s_rounds, Cr), (s_k, Ck)]) (by kernel_rfl) (by kernel_rfl) (by kernel_rfl) ?_
      exact l165b (it := it) (acc := acc) (sc := sc) (Ck := Ck) (Cr := Cr) (Rn := Rn) (L := L) (k := k) (kt := kt) (en := en) G o rds [] none [] 0 h5 tk5 (by simp only [List.length_nil]; omega) (by simp only [List.length_nil]; omega) (D5.eq (by kernel_rfl)) z
  · all_goals
      refine sg2L 1000 [] [] G o.hd D ?_; intro fh5 oh5; refine ⟨by kernel_rfl, fun h5 tk5 D5 => ?_⟩
      refine end_again (c' := compC (gdW G).params 165 (e165b (gdW G).params) it acc sc L [(s_rounds, Cr), (s_k, Ck)]) (by kernel_rfl) (by kernel_rfl) (by kernel_rfl) ?_
      exact l165b (it := it) (acc := acc) (sc := sc) (Ck := Ck) (Cr := Cr) (Rn := Rn) (L := L) (k := k) (kt := kt) (en := en) G o rds [] none [] 0 h5 tk5 (by simp only [List.length_nil]; omega) (by simp only [List.length_nil]; omega) (D5.eq (by kernel_rfl)) z
end Mine
end
section
open PySem PySem.W PySem.W.X PyProof.Rows
set_option Elab.async false
set_option maxRecDepth 100000
set_option maxHeartbeats 1000000
namespace Mine
variable {prog : Program} {w : World} {w₀ : World} {b1 b2 b3 : Bool} {A : Around} {R : Result → Shared → Prop} {h₀ h : Heap} {F : List Addr} {ρ σ : Cells} {g : Array GenState} {d : Drawn} {tk : Nat} {os₀ : OsState}
noncomputable def fenvC (P : Params) (a L : Addr) (cl : List (Str × Addr)) : Env := { fenv P a L with cells := cl }
noncomputable def fcodeC (P : Params) (a L : Addr) (cl : List (Str × Addr)) : Code := match (fd P a).body with
  | .stmts b => .func b (fenvC P a L cl)
  | .expr e => .expr e default
noncomputable def forCC (P : Params) (a : Addr) (i : Nat) (it L : Addr) (cl : List (Str × Addr)) : Code := match fstmt P a i with
  | some (.For tgt _ body orelse _) => .forLoop tgt (.ref it) body orelse (fenvC P a L cl)
  | _ => default
noncomputable abbrev cellP (v : Option Value) : Obj := ⟨.type "cell", none, .cell v, #[]⟩
theorem fmod64 (x : Int) : x.fmod 64 = x % 64 := Int.fmod_eq_emod_of_nonneg x (by decide)
theorem bits64 : Builtin.Int.intBits 64 = 7 := by decide +kernel
theorem mul_small (x : Int) {b : Int} : IntMulOk (x % 64) b := by
  refine IntMulOk.of_left (Nat.le_trans (bits_le (k := 6) ?_ ?_) (by decide))
  · omega
  · show x % 64 < 64; omega
theorem turns_mem (k : Int) : ∀ (rs : List (List Int)) (i : Nat) (t : Int), t ∈ turns k i rs → (i : Int) ≤ t ∧ t < (i : Int) + (rs.length : Int)
  | [], i, t, h => by cases h
  | r :: rs, i, t, h => by
    unfold turns at h
    split at h
    · rcases List.mem_cons.mp h with rfl | h
      · simp only [List.length_cons]; omega
      · have := turns_mem k rs (i + 1) t h
        simp only [List.length_cons]; omega
    · have := turns_mem k rs (i + 1) t h
      simp only [List.length_cons]; omega
/-- the sum that is due -/
noncomputable def dueV (os : List Int) (rs : List (List Int)) : Nat → Nat → Int → Option Int
  | _, 0, v => some v
  | i, n + 1, v => match turns (i : Int) 0 rs with
    | [] => none
    | t :: _ => dueV os rs (i + 1) n (v + os.getD i 0 % 64 * 64 ^ t.toNat)
theorem l165f {it L Cl Cr Ck To Rn : Addr} {os : List IT} {rds : List Rd} {eo en : Nat} {pv ev : Value} {q0 q1 q2 : Q2} (o : Ok A 4) : ∀ (n : Nat) (b1 : Bool) (_ : Gd (wF b1 b2 b3 w₀) h₀) (i : Nat) (v : Int) (vt : Tok) (kv : Option Value) (h : Heap) (tk : Nat) (v' : Int),
    dueV (os.map (·.1)) (rds.map Rd.p) i n v = some v' → i + n ≤ os.length → os.length ≤ 900 → rds.length ≤ 900 →
    Rep h₀ h F ((it, rgO (i : Int) n) :: (L, frF #[fe q0 s_place pv, fe q1 s_ends ev, fe q2 s_value (.int v vt)] 3 #[]) :: (Cl, cellO (.ref To)) :: (Cr, cellO (.ref Rn)) :: (Ck, cellP kv) :: (To, listO ⟨os.map iv⟩ eo) :: (Rn, listO ⟨rds.map rdV⟩ en) :: (dcells rds ++ ρ)) →
    (∀ h' tk' vt' kv', Rep h₀ h' F ((L, frF #[fe q0 s_place pv, fe q1 s_ends ev, fe q2 s_value (.int v' vt')] 3 #[]) :: (Cl, cellO (.ref To)) :: (Cr, cellO (.ref Rn)) :: (Ck, cellP kv') :: (To, listO ⟨os.map iv⟩ eo) :: (Rn, listO ⟨rds.map rdV⟩ en) :: (dcells rds ++ ρ)) → R (.ok .next) ⟨h', g, d, tk', os₀⟩) →
    codeAny (model prog (wF b1 b2 b3 w₀)) A (forCC (wF b1 b2 b3 w₀).params 165 3 it L [(s_k, Ck), (s_rounds, Cr), (s_octets, Cl)]) R ⟨h, g, d, tk, os₀⟩
  | 0 => by
    intro b1 G i v vt kv h tk v' hm hn hl hz D z
    have hv : v = v' := by
      have e : some v = some v' := hm
      injection e
    subst hv
    refine code_start ?_
    refine sg2L 1000 [.s 0, .e, .s 0] [] G o.hd D ?_; intro fh1 oh1; refine ⟨by kernel_rfl, fun h1 tk1 D1 => ?_⟩
    refine u_rstop D1 0 (it := it) (i := (i : Int)) (by kernel_rfl) o.hd (by kernel_rfl) (by kernel_rfl) (by kernel_rfl) fun h2 E E0 D2 => ?_
    refine sg2L 1000 [.s 0, .e] [false, false, false] G o.hd D2 ?_; intro fh3 oh3; refine ⟨by kernel_rfl, fun h3 tk3 D3 => ?_⟩
    exact end_done (f := .next) (by kernel_rfl) (by kernel_rfl) (z h3 tk3 vt kv (D3.eq (by kernel_rfl)))
  | n + 1 => by
    intro b1 G i v vt kv h tk v' hm hn hl hz D z
    have hi : i < os.length := by omega
    all_goals
      refine code_start ?_
      refine sg2L 1000 [.s 0, .e, .s 0] [] G o.hd D ?_; intro fh1 oh1; refine ⟨by kernel_rfl, fun h1 tk1 D1 => ?_⟩
      refine u_rnext D1 0 (it := it) (i := (i : Int)) (n := n) (by kernel_rfl) (by kernel_rfl) (by kernel_rfl) fun h2 D2 => ?_
      refine sg2L 1000 [.s 4, .s 4, .s 1, .s 2, .s 4, .s 5, .s 5, .s 5, .e, .s 5] [] G o.hd D2 ?_; intro fh3 oh3; refine ⟨by kernel_rfl, fun h3 tk3 D3 => ?_⟩
      refine u_lget D3 5 (l := To) (items := ⟨os.map iv⟩) (n := eo) (x := (i : Int)) (u := tk1) (y := iv os[i]) (by kernel_rfl) (by omega) (by omega) (by rw [Int.toNat_natCast]; exact iv_at os hi) (by kernel_rfl) (by kernel_rfl) ?_
      refine sg2L 1000 [] [] G o.hd D3 ?_; intro fh4 oh4; refine ⟨by kernel_rfl, fun h4 tk5 D4 => ?_⟩
      refine u_mod (a := os[i].1) (ta := os[i].2) (b := 64) (tb := tk3) (by kernel_rfl) (by decide) ?_
      rw [fmod64]
      refine sg2L 1000 [.t, .t, .t, .t, .s 3, .e] [] G o.hd D4 ?_; intro fh5 oh5; refine ⟨by kernel_rfl, fun h5 tk6 D5 => ?_⟩
      refine use_again (c' := .builtin "len" ⟨[.ref Rn], []⟩) (by kernel_rfl) (by kernel_rfl) (by kernel_rfl) ?_
      refine c_lenL D5 6 (l := Rn) (items := ⟨rds.map rdV⟩) (n := en) (by kernel_rfl) (by simp; omega) ?_
      rw [show (⟨rds.map rdV⟩ : Array Value).size = rds.length from by simp]
      refine sg2L 1000 [.e, .e, .e, .e, .s 0, .s 0, .e, .s 0, .e, .s 0, .s 0, .s 0, .e, .s 0] [] G o.hd D5 ?_; intro fh6 oh6; refine ⟨by kernel_rfl, fun h6 tk7 D6 => ?_⟩
      refine u_riter D6 0 (r := h5.objs.size) (a := 0) (b := (rds.length : Int)) (ta := tk6 + 2) (tb := tk6 + 1) (tc := tk6 + 3) (by kernel_rfl) (by decide) (by omega) (by omega) (by kernel_rfl) (by kernel_rfl) fun h9 it2 D9 => ?_
      rw [show (((rds.length : Nat) : Int) - 0).toNat = rds.length from by omega] at D9
      refine sg2L 1000 [.s 0] [] G o.hd D9 ?_; intro fh10 oh10; refine ⟨by kernel_rfl, fun h10 tk10 D10 => ?_⟩
      refine use_call (c' := compS (gdW G).params 165 (e165b (gdW G).params) it2 h9.objs.size (h9.objs.size + 1) L [(s_rounds, Cr), (s_k, Ck)]) (hd := none) (by kernel_rfl) rfl ?_
      let S11 : List Cells := [[(h9.objs.size + 1, dictO #[] 0)], [(h9.objs.size, listO #[] 0)], [(it2, rgO 0 rds.length)], [(h5.objs.size, rangeO 0 (rds.length : Int) (tk6 + 2) (tk6 + 1) (tk6 + 3))], [(it, rgO ((i : Int) + 1) n)], [(L, frF #[fe q0 s_place pv, fe q1 s_ends ev, fe q2 s_value (.int v vt)] 3 #[])], [(Cl, cellO (.ref To))], [(Cr, cellO (.ref Rn))], [(Ck, cellO (.int (i : Int) tk1))], [(To, listO ⟨os.map iv⟩ eo)], [(Rn, listO ⟨rds.map rdV⟩ en)], dcells rds, ρ]; have D11 : Rep h₀ h10 F (cat S11) := D10.eq (by kernel_rfl)
      have D12 := Rep.shuf _ [12, 10, 8, 8, 8, 8, 12, 12, 11, 12, 10, 11, 12] D11
      refine s165b (it := it2) (acc := h9.objs.size) (sc := h9.objs.size + 1) (Ck := Ck) (Cr := Cr) (Rn := Rn) (L := L) (k := (i : Int)) (kt := tk1) (en := en) (rds := rds) G (o.call (by kernel_rfl) (by kernel_rfl)) hz D12 ?_
      intro h12 tk12 ys ey vs' hys D12'
      let S13 : List Cells := [[(h9.objs.size, listO ⟨ys.map iv⟩ ey)], [(h9.objs.size + 1, dictO (scE s_turn vs') (scN vs'))], [(Ck, cellO (.int (i : Int) tk1))], [(Cr, cellO (.ref Rn))], [(Rn, listO ⟨rds.map rdV⟩ en)], dcells rds, [(h5.objs.size, rangeO 0 (rds.length : Int) (tk6 + 2) (tk6 + 1) (tk6 + 3))], [(it, rgO ((i : Int) + 1) n)], [(L, frF #[fe q0 s_place pv, fe q1 s_ends ev, fe q2 s_value (.int v vt)] 3 #[])], [(Cl, cellO (.ref To))], [(To, listO ⟨os.map iv⟩ eo)], ρ]; have D13 := Rep.shuf S13 [11, 6, 6, 11, 6, 7, 11, 11, 11, 11, 10, 11] D12'
      obtain ⟨t0, ts, hty⟩ : ∃ t0 ts, turns (i : Int) 0 (rds.map Rd.p) = t0 :: ts := by
        cases ht : turns (i : Int) 0 (rds.map Rd.p) with
        | nil => rw [dueV, ht] at hm; cases hm
        | cons a b => exact ⟨a, b, rfl⟩
      have ht : 0 ≤ t0 ∧ t0 < 900 := by
        have := turns_mem (i : Int) (rds.map Rd.p) 0 t0 (by rw [hty]; exact .head _)
        rw [List.length_map] at this
        omega
      rw [hty] at hys
      rcases ys with _ | ⟨⟨y0, tt⟩, ys⟩
      · cases hys
      have hy0 : y0 = t0 := (List.cons.inj hys).1
      subst hy0
      rcases vs' with _ | ⟨vq, vv⟩
      · refine sg2L 1000 [.s 0, .s 1, .s 1, .s 1, .e, .s 1] [] G o.hd D13 ?_; intro fh14 oh14; refine ⟨by kernel_rfl, fun h14 tk14 D14 => ?_⟩
        refine u_lget D14 1 (l := h9.objs.size) (items := ⟨((y0, tt) :: ys).map iv⟩) (n := ey) (x := 0) (u := tk12) (y := .int y0 tt) (by kernel_rfl) (by decide) (by decide) (by rfl) (by kernel_rfl) (by kernel_rfl) ?_
        refine sg2L 1000 [.e] [] G o.hd D14 ?_; intro fh15 oh15; refine ⟨by kernel_rfl, fun h15 tk15 D15 => ?_⟩
        refine u_pow (a := 64) (ta := tk5 + 1) (b := y0) (tb := tt) (by kernel_rfl) ht.1 (by rw [bits64]; omega) ?_
        refine sg2L 1000 [] [] G o.hd D15 ?_; intro fh16 oh16; refine ⟨by kernel_rfl, fun h16 tk16 D16 => ?_⟩
        refine u_mul (a := os[i].1 % 64) (ta := tk5) (b := 64 ^ y0.toNat) (tb := tk15) (by kernel_rfl) (mul_small os[i].1) ?_
        refine sg2L 1000 [.e, .e, .s 4, .s 4] [false, false, false] G o.hd D16 ?_; intro fh17 oh17; refine ⟨by kernel_rfl, fun h17 tk17 D17 => ?_⟩
        refine end_again (c' := forCC (gdW G).params 165 3 it L [(s_k, Ck), (s_rounds, Cr), (s_octets, Cl)]) (by kernel_rfl) (by kernel_rfl) (by kernel_rfl) ?_
        refine l165f (it := it) (L := L) (Cl := Cl) (Cr := Cr) (Ck := Ck) (To := To) (Rn := Rn) (os := os) (rds := rds) (eo := eo) (en := en) (pv := pv) (ev := ev) (q0 := q0) (q1 := q1) (q2 := q2) o n _ G (i + 1) (v + os[i].1 % 64 * 64 ^ y0.toNat) (tk16 + 1) (some (.int (i : Int) tk1)) h17 tk17 v' (by rw [← hm, dueV, hty, getD_at os hi]) (by omega) hl hz (D17.eq (by kernel_rfl)) z
      · refine sg2L 1000 [.s 0, .s 0, .s 0, .s 1, .s 1, .s 1, .e, .s 1] [] G o.hd D13 ?_; intro fh14 oh14; refine ⟨by kernel_rfl, fun h14 tk14 D14 => ?_⟩
        refine u_lget D14 1 (l := h9.objs.size) (items := ⟨((y0, tt) :: ys).map iv⟩) (n := ey) (x := 0) (u := tk12) (y := .int y0 tt) (by kernel_rfl) (by decide) (by decide) (by rfl) (by kernel_rfl) (by kernel_rfl) ?_
        refine sg2L 1000 [.e] [] G o.hd D14 ?_; intro fh15 oh15; refine ⟨by kernel_rfl, fun h15 tk15 D15 => ?_⟩
        refine u_pow (a := 64) (ta := tk5 + 1) (b := y0) (tb := tt) (by kernel_rfl) ht.1 (by rw [bits64]; omega) ?_
        refine sg2L 1000 [] [] G o.hd D15 ?_; intro fh16 oh16; refine ⟨by kernel_rfl, fun h16 tk16 D16 => ?_⟩
        refine u_mul (a := os[i].1 % 64) (ta := tk5) (b := 64 ^ y0.toNat) (tb := tk15) (by kernel_rfl) (mul_small os[i].1) ?_
        refine sg2L 1000 [.e, .e, .s 4, .s 4] [false, false, false] G o.hd D16 ?_; intro fh17 oh17; refine ⟨by kernel_rfl, fun h17 tk17 D17 => ?_⟩
        refine end_again (c' := forCC (gdW G).params 165 3 it L [(s_k, Ck), (s_rounds, Cr), (s_octets, Cl)]) (by kernel_rfl) (by kernel_rfl) (by kernel_rfl) ?_
        refine l165f (it := it) (L := L) (Cl := Cl) (Cr := Cr) (Ck := Ck) (To := To) (Rn := Rn) (os := os) (rds := rds) (eo := eo) (en := en) (pv := pv) (ev := ev) (q0 := q0) (q1 := q1) (q2 := q2) o n _ G (i + 1) (v + os[i].1 % 64 * 64 ^ y0.toNat) (tk16 + 1) (some (.int (i : Int) tk1)) h17 tk17 v' (by rw [← hm, dueV, hty, getD_at os hi]) (by omega) hl hz (D17.eq (by kernel_rfl)) z
end Mine
end
section
open PySem PySem.W PySem.W.X PyProof.Rows
set_option Elab.async false
set_option maxRecDepth 100000
set_option maxHeartbeats 1000000
namespace Mine
variable {prog : Program} {w : World} {w₀ : World} {b1 b2 b3 : Bool} {A : Around} {R : Result → Shared → Prop} {h₀ h : Heap} {F : List Addr} {ρ σ : Cells} {g : Array GenState} {d : Drawn} {tk : Nat} {os₀ : OsState}
noncomputable def thenOf : Option Stmt → List Stmt
  | some (.If _ b _ _) => b
  | _ => []
noncomputable def elseOf : Option Stmt → List Stmt
  | some (.If _ _ b _) => b
  | _ => []
/-- an if statement of a function's body, at the comparison that is its test -/
noncomputable def ifΦ (l rv : Value) (bd orelse rest : List Stmt) (env : Env) (m : Sem Value) : Sem Fin :=
  PySem.W.R.bindR (PySem.W.R.onRaiseR (PySem.W.R.bindR (PySem.W.R.bindR (PySem.W.R.bindR (ZFast.zw8004119333741010377 [l, rv] m) (fun c => ZFast.zw17359229931016689406 [c] (ZFast.zw15245631507167962100 c)))
    (fun b => PySem.W.X.condFn (Sem Flow) b (ZFast.zw12563942051412417395 bd env) (ZFast.zw12563942051412417395 orelse env)))
    (fun f => match f with | .next => ZFast.zw12563942051412417395 rest env | f => Sem.pure f)) (leaveT env))
    (fun f => match f with | .ret v => Sem.pure (.done (.ret v)) | _ => Sem.pure (.done (.ret .none)))
theorem ifΦ_lay (l rv : Value) (bd orelse rest : List Stmt) (env : Env) : LayV (ifΦ l rv bd orelse rest env) := (((((LayV.operate _).bind _).bind _).bind _).onRaise _).bind _
theorem eqv_ints (ns ms : List Int) : PyData.eqv (.list (ns.map PyData.int)) (.list (ms.map PyData.int)) = decide (ns = ms) := by
  rw [← SeqAt.same_eq_eqv _ _ (by simp only [SeqAt.noMix]; exact noMix_ints ns ms)]
  exact ke_same ns ms
theorem flt_mem (P : Nat → Bool) : ∀ (n i : Nat) (y : Int), y ∈ flt P i n → (i : Int) ≤ y ∧ y < (i : Int) + (n : Int)
  | 0, _, _, h => by cases h
  | n + 1, i, y, h => by
    unfold flt at h
    split at h
    · rcases List.mem_cons.mp h with rfl | h
      · omega
      · have := flt_mem P n (i + 1) y h
        omega
    · have := flt_mem P n (i + 1) y h
      omega
/-- what is due -/
noncomputable def due (os : List Int) (rs : List (List Int)) (k : Nat) : Option (List Int) := match flt (bit0 os) k (os.length - k) with
  | [] => some []
  | y :: _ => match dueV os rs k (y + 1 - (k : Int)).toNat 0 with
    | none => none
    | some v => some [v, y + 1]
theorem c165 {To Rn : Addr} {os : List IT} {rds : List Rd} {eo en : Nat} {k : Int} {kt : Tok} {ds : List Int} (G : Gd (wF b1 b2 b3 w₀) h₀) (o : Ok A 6) (un : Un A 10) (hl : os.length ≤ 90) (hz : rds.length ≤ 900) (hk : 0 ≤ k) (hkl : k ≤ os.length) (hm : due (os.map (·.1)) (rds.map Rd.p) k.toNat = some ds)
    (D : Rep h₀ h F ((To, listO ⟨os.map iv⟩ eo) :: (Rn, listO ⟨rds.map rdV⟩ en) :: (dcells rds ++ ρ)))
    (z : ∀ h' tk' T (ts : List IT), ts.map (·.1) = ds → Rep h₀ h' F ((T, listO ⟨ts.map iv⟩ 0) :: (To, listO ⟨os.map iv⟩ eo) :: (Rn, listO ⟨rds.map rdV⟩ en) :: (dcells rds ++ ρ)) → R (.ok (.ret (.ref T))) ⟨h', g, d, tk', os₀⟩) :
    codeAny (model prog (wF b1 b2 b3 w₀)) A (.call (.ref 165) ⟨[.ref To, .int k kt, .ref Rn], []⟩) R ⟨h, g, d, tk, os₀⟩ := by
  all_goals
    refine code_start ?_
    refine sg2L 1000 [.t, .t, .s 2, .s 2, .s 3, .s 3, .s 1, .s 1] [] G o.hd D ?_; intro fh1 oh1; refine ⟨by kernel_rfl, fun h1 tk1 D1 => ?_⟩
    refine enter (c2 := fcodeC w₀.params 165 h.objs.size [(s_k, (h.objs.size + 3)), (s_rounds, (h.objs.size + 2)), (s_octets, (h.objs.size + 1))]) (by kernel_rfl) (by kernel_rfl) (D1.gd G).lim (o.room (by kernel_rfl)) ?_
    refine sg2L 1000 [.t, .t, .s 3, .t, .t, .s 2, .e] [] G o.hd D1 ?_; intro fh2 oh2; refine ⟨by kernel_rfl, fun h2 tk2 D2 => ?_⟩
    refine use_again (c' := .builtin "len" ⟨[.ref To], []⟩) (by kernel_rfl) (by kernel_rfl) (by kernel_rfl) ?_
    refine c_lenL D2 4 (l := To) (items := ⟨os.map iv⟩) (n := eo) (by kernel_rfl) (by simp; omega) ?_
    rw [show (⟨os.map iv⟩ : Array Value).size = os.length from by simp]
    refine sg2L 1000 [.e, .e, .e, .e, .s 0, .s 0, .e, .s 0, .e, .s 0, .s 0, .s 0, .e, .s 0] [] G o.hd D2 ?_; intro fh3 oh3; refine ⟨by kernel_rfl, fun h3 tk3 D3 => ?_⟩
    refine u_riter D3 0 (r := h2.objs.size) (a := k) (b := (os.length : Int)) (ta := kt) (tb := tk2 + 1) (tc := tk2 + 2) (by kernel_rfl) hk (by omega) (by omega) (by kernel_rfl) (by kernel_rfl) fun h5 it D5 => ?_
    refine sg2L 1000 [.s 0] [] G o.hd D5 ?_; intro fh6 oh6; refine ⟨by kernel_rfl, fun h6 tk6 D6 => ?_⟩
    refine use_call (c' := compS (gdW G).params 165 (e165a (gdW G).params) it h5.objs.size (h5.objs.size + 1) h.objs.size [(s_octets, (h.objs.size + 1))]) (hd := none) (by kernel_rfl) rfl ?_
    have D7 : Rep h₀ h6 F (cat [[(h5.objs.size + 1, dictO #[] 0)], [(h5.objs.size, listO #[] 0)], [(it, rgO k ((os.length : Int) - k).toNat)], [(h2.objs.size, rangeO k (os.length : Int) kt (tk2 + 1) (tk2 + 2))], [((h.objs.size + 3), cellP none)], [((h.objs.size + 2), cellO (.ref Rn))], [((h.objs.size + 1), cellO (.ref To))], [(h.objs.size, frF #[fe (hS w₀.params s_place, tk) s_place (.int k kt)] 1 #[])], [(To, listO ⟨os.map iv⟩ eo)], [(Rn, listO ⟨rds.map rdV⟩ en)], dcells rds, ρ]) := D6.eq (by kernel_rfl)
    have D8 := Rep.shuf _ [11, 11, 11, 10, 9, 9, 9, 11, 11, 9, 10, 11] D7
    have hk' : ((k.toNat : Nat) : Int) = k := Int.toNat_of_nonneg hk
    have hnn : ((os.length : Int) - k).toNat = (os.length - k.toNat) := by omega
    refine s165a (it := it) (acc := h5.objs.size) (sc := h5.objs.size + 1) (Cl := (h.objs.size + 1)) (To := To) (L := h.objs.size) (os := os) (eo := eo) (n := (os.length - k.toNat)) (i := k.toNat) G (o.call (by kernel_rfl) (by kernel_rfl)) (by omega) (by omega) (by rw [hk', ← hnn]; exact D8) ?_
    intro h7 tk7 ys ey vs' hys D8'
    have D9 := Rep.shuf [[(h5.objs.size, listO ⟨ys.map iv⟩ ey)], [(h5.objs.size + 1, dictO (scE s_k vs') (scN vs'))], [((h.objs.size + 1), cellO (.ref To))], [(To, listO ⟨os.map iv⟩ eo)], [(h2.objs.size, rangeO k (os.length : Int) kt (tk2 + 1) (tk2 + 2))], [((h.objs.size + 3), cellP none)], [((h.objs.size + 2), cellO (.ref Rn))], [(h.objs.size, frF #[fe (hS w₀.params s_place, tk) s_place (.int k kt)] 1 #[])], [(Rn, listO ⟨rds.map rdV⟩ en)], dcells rds, ρ] [10, 10, 10, 6, 10, 7, 10, 10, 10, 9, 10] D8'
    rcases vs' with _ | ⟨vq, vv⟩
    · refine sg2L 1000 [.s 6, .s 6, .s 0, .s 6] [] G o.hd D9 ?_; intro fh10 oh10; refine ⟨by kernel_rfl, fun h10 tk10 D10 => ?_⟩
      have D11 : Rep h₀ h10 F (cat [[(h7.objs.size, listO #[] 0)], [(h5.objs.size + 1, dictO #[] 0)], [(h5.objs.size, listO ⟨ys.map iv⟩ ey)], [(h2.objs.size, rangeO k (os.length : Int) kt (tk2 + 1) (tk2 + 2))], [((h.objs.size + 3), cellP none)], [((h.objs.size + 2), cellO (.ref Rn))], [((h.objs.size + 1), cellO (.ref To))], [(h.objs.size, frF #[fe (hS w₀.params s_place, tk) s_place (.int k kt), fe (hS w₀.params s_ends, tk7) s_ends (.ref h5.objs.size)] 2 #[])], [(To, listO ⟨os.map iv⟩ eo)], [(Rn, listO ⟨rds.map rdV⟩ en)], dcells rds, ρ]) := D10.eq (by kernel_rfl)
      have hra : Reads h10 (.ref h5.objs.size) (.list ((ys.map (·.1)).map PyData.int)) [h5.objs.size] := reads_of_ints (vs := ys.map iv) ⟨_, D11.cell 2 rfl, rfl, ey, rfl⟩ (ints_iv ys)
      have hrb : Reads h10 (.ref h7.objs.size) (.list (([] : List Int).map PyData.int)) [h7.objs.size] := reads_of_ints (vs := []) ⟨_, D11.cell 0 rfl, rfl, 0, rfl⟩ .nil
      refine use_eq (ifΦ_lay (.ref h5.objs.size) (.ref h7.objs.size) (thenOf (fstmt (gdW G).params 165 1)) (elseOf (fstmt (gdW G).params 165 1)) (bodyFrom (gdW G).params 165 2) (fenvC (gdW G).params 165 h.objs.size [(s_k, (h.objs.size + 3)), (s_rounds, (h.objs.size + 2)), (s_octets, (h.objs.size + 1))])) (by kernel_rfl) un (by kernel_rfl) hra hrb (ke_shaped_ints _) (ke_shaped_ints _) ?_
      rw [eqv_ints]
      rcases ys with _ | ⟨⟨y0, yt⟩, ys⟩
      · rw [show decide ((([] : List IT).map (·.1)) = ([] : List Int)) = true from by decide]
        refine sg2L 1000 [] [] G o.hd D11 ?_; intro fh12 oh12; refine ⟨by kernel_rfl, fun h12 tk12 D12 => ?_⟩
        refine end_done (f := .ret (.ref h10.objs.size)) (by kernel_rfl) (by kernel_rfl) ?_
        have D13 : Rep h₀ h12 F (cat [[(h10.objs.size, listO #[] 0)], [(h7.objs.size, listO #[] 0)], [(h5.objs.size + 1, dictO #[] 0)], [(h5.objs.size, listO #[] ey)], [(h2.objs.size, rangeO k (os.length : Int) kt (tk2 + 1) (tk2 + 2))], [((h.objs.size + 3), cellP none)], [((h.objs.size + 2), cellO (.ref Rn))], [((h.objs.size + 1), cellO (.ref To))], [(h.objs.size, frF #[fe (hS w₀.params s_place, tk) s_place (.int k kt), fe (hS w₀.params s_ends, tk7) s_ends (.ref h5.objs.size)] 2 #[])], [(To, listO ⟨os.map iv⟩ eo)], [(Rn, listO ⟨rds.map rdV⟩ en)], dcells rds, ρ]) := D12.eq (by kernel_rfl)
        refine z h12 tk12 h10.objs.size [] ?_ (D13.mask [true, false, false, false, false, false, false, false, false])
        have e : flt (bit0 (os.map (·.1))) k.toNat (os.length - k.toNat) = [] := hys.symm
        simp only [due, List.length_map, e] at hm
        injection hm with hm
      rw [show decide (((((y0, yt) :: ys : List IT)).map (·.1)) = ([] : List Int)) = false from by simp]
      refine sg2L 1000 [.s 7, .s 7, .t, .t, .s 7, .s 7, .s 2, .s 2, .s 2, .e, .s 2] [] G o.hd D11 ?_; intro fh12 oh12; refine ⟨by kernel_rfl, fun h12 tk12 D12 => ?_⟩
      have e : flt (bit0 (os.map (·.1))) k.toNat (os.length - k.toNat) = y0 :: ys.map (·.1) := hys.symm
      have hy0 := flt_mem (bit0 (os.map (·.1))) (os.length - k.toNat) k.toNat y0 (by rw [e]; exact .head _)
      simp only [due, List.length_map, e] at hm
      refine u_lget D12 2 (l := h5.objs.size) (items := ⟨((y0, yt) :: ys).map iv⟩) (n := ey) (x := 0) (u := tk10 + 2) (y := .int y0 yt) (by kernel_rfl) (by decide) (by decide) (by rfl) (by kernel_rfl) (by kernel_rfl) ?_
      refine sg2L 1000 [.e, .e, .e, .e, .e, .e, .s 0, .s 0, .e, .s 0, .e, .s 0, .s 0, .s 0, .e, .s 0] [] G o.hd D12 ?_; intro fh13 oh13; refine ⟨by kernel_rfl, fun h13 tk13 D13 => ?_⟩
      refine u_riter D13 0 (r := h12.objs.size) (a := k) (b := y0 + 1) (ta := kt) (tb := tk12 + 1) (tc := tk12 + 2) (by kernel_rfl) hk (by omega) (by omega) (by kernel_rfl) (by kernel_rfl) fun h14 it2 D14 => ?_
      refine sg2L 1000 [.s 0] [] G o.hd D14 ?_; intro fh15 oh15; refine ⟨by kernel_rfl, fun h15 tk15 D15 => ?_⟩
      refine use_call (c' := forCC (gdW G).params 165 3 it2 h.objs.size [(s_k, (h.objs.size + 3)), (s_rounds, (h.objs.size + 2)), (s_octets, (h.objs.size + 1))]) (hd := none) (by kernel_rfl) rfl ?_
      have D16 : Rep h₀ h15 F (cat [[(it2, rgO k (y0 + 1 - k).toNat)], [(h12.objs.size, rangeO k (y0 + 1) kt (tk12 + 1) (tk12 + 2))], [(h7.objs.size, listO #[] 0)], [(h5.objs.size + 1, dictO #[] 0)], [(h5.objs.size, listO ⟨((y0, yt) :: ys).map iv⟩ ey)], [(h2.objs.size, rangeO k (os.length : Int) kt (tk2 + 1) (tk2 + 2))], [((h.objs.size + 3), cellP none)], [((h.objs.size + 2), cellO (.ref Rn))], [((h.objs.size + 1), cellO (.ref To))], [(h.objs.size, frF #[fe (hS w₀.params s_place, tk) s_place (.int k kt), fe (hS w₀.params s_ends, tk7) s_ends (.ref h5.objs.size), fe (hS w₀.params s_value, tk10 + 1) s_value (.int 0 tk10)] 3 #[])], [(To, listO ⟨os.map iv⟩ eo)], [(Rn, listO ⟨rds.map rdV⟩ en)], dcells rds, ρ]) := D15.eq (by kernel_rfl)
      have D17 := Rep.shuf _ [13, 6, 6, 6, 6, 6, 13, 13, 13, 10, 11, 12, 13, 13] D16
      rw [show k = ((k.toNat : Nat) : Int) from (Int.toNat_of_nonneg hk).symm] at D17
      split at hm
      · cases hm
      rename_i v' hdv
      rw [Int.toNat_of_nonneg hk] at hdv
      injection hm with hm
      refine l165f (it := it2) (L := h.objs.size) (Cl := (h.objs.size + 1)) (Cr := (h.objs.size + 2)) (Ck := (h.objs.size + 3)) (To := To) (Rn := Rn) (os := os) (rds := rds) (eo := eo) (en := en) (pv := .int k kt) (ev := .ref h5.objs.size) (q0 := (hS w₀.params s_place, tk)) (q1 := (hS w₀.params s_ends, tk7)) (q2 := (hS w₀.params s_value, tk10 + 1)) (F := F) (ρ := (h12.objs.size, rangeO k (y0 + 1) kt (tk12 + 1) (tk12 + 2)) :: (h7.objs.size, listO #[] 0) :: (h5.objs.size + 1, dictO #[] 0) :: (h5.objs.size, listO ⟨((y0, yt) :: ys).map iv⟩ ey) :: (h2.objs.size, rangeO k (os.length : Int) kt (tk2 + 1) (tk2 + 2)) :: ρ) (o.call (by kernel_rfl) (by kernel_rfl)) (y0 + 1 - k).toNat _ G k.toNat 0 tk10 none h15 tk15 v' hdv (by omega) (by omega) hz ?_ ?_
      · refine Rep.eq D17 ?_
        rw [Int.toNat_of_nonneg hk]
        kernel_rfl
      intro h18 tk18 vt' kv' D18
      have D19 := Rep.shuf [[(h.objs.size, frF #[fe (hS w₀.params s_place, tk) s_place (.int k kt), fe (hS w₀.params s_ends, tk7) s_ends (.ref h5.objs.size), fe (hS w₀.params s_value, tk10 + 1) s_value (.int v' vt')] 3 #[])], [((h.objs.size + 1), cellO (.ref To))], [((h.objs.size + 2), cellO (.ref Rn))], [((h.objs.size + 3), cellP kv')], [(To, listO ⟨os.map iv⟩ eo)], [(Rn, listO ⟨rds.map rdV⟩ en)], dcells rds, [(h12.objs.size, rangeO k (y0 + 1) kt (tk12 + 1) (tk12 + 2))], [(h7.objs.size, listO #[] 0)], [(h5.objs.size + 1, dictO #[] 0)], [(h5.objs.size, listO ⟨((y0, yt) :: ys).map iv⟩ ey)], [(h2.objs.size, rangeO k (os.length : Int) kt (tk2 + 1) (tk2 + 2))], ρ] [12, 7, 7, 7, 4, 5, 6, 7, 12, 12, 12, 12, 12] (D18.eq (by kernel_rfl))
      refine sg2L 1000 [.s 8, .s 8, .s 3, .s 3, .s 3, .e, .s 3] [] G o.hd D19 ?_; intro fh20 oh20; refine ⟨by kernel_rfl, fun h20 tk20 D20 => ?_⟩
      refine u_lget D20 3 (l := h5.objs.size) (items := ⟨((y0, yt) :: ys).map iv⟩) (n := ey) (x := 0) (u := tk18) (y := .int y0 yt) (by kernel_rfl) (by decide) (by decide) (by rfl) (by kernel_rfl) (by kernel_rfl) ?_
      refine sg2L 1000 [.e, .e] [] G o.hd D20 ?_; intro fh21 oh21; refine ⟨by kernel_rfl, fun h21 tk21 D21 => ?_⟩
      refine end_done (f := .ret (.ref h20.objs.size)) (by kernel_rfl) (by kernel_rfl) ?_
      have D22 : Rep h₀ h21 F (cat [[(h20.objs.size, listO #[.int v' vt', .int (y0 + 1) (tk20 + 1)] 0)], [(h12.objs.size, rangeO k (y0 + 1) kt (tk12 + 1) (tk12 + 2))], [(h7.objs.size, listO #[] 0)], [(h5.objs.size + 1, dictO #[] 0)], [(h5.objs.size, listO ⟨((y0, yt) :: ys).map iv⟩ ey)], [(h2.objs.size, rangeO k (os.length : Int) kt (tk2 + 1) (tk2 + 2))], [((h.objs.size + 3), cellP kv')], [((h.objs.size + 2), cellO (.ref Rn))], [((h.objs.size + 1), cellO (.ref To))], [(h.objs.size, frF #[fe (hS w₀.params s_place, tk) s_place (.int k kt), fe (hS w₀.params s_ends, tk7) s_ends (.ref h5.objs.size), fe (hS w₀.params s_value, tk10 + 1) s_value (.int v' vt')] 3 #[])], [(To, listO ⟨os.map iv⟩ eo)], [(Rn, listO ⟨rds.map rdV⟩ en)], dcells rds, ρ]) := D21.eq (by kernel_rfl)
      exact z h21 tk21 h20.objs.size [(v', vt'), (y0 + 1, tk20 + 1)] (by rw [← hm]; rfl) (D22.mask [true, false, false, false, false, false, false, false, false, false])
    · refine sg2L 1000 [.s 6, .s 6, .s 0, .s 0, .s 0, .s 6] [] G o.hd D9 ?_; intro fh10 oh10; refine ⟨by kernel_rfl, fun h10 tk10 D10 => ?_⟩
      have D11 : Rep h₀ h10 F (cat [[(h7.objs.size, listO #[] 0)], [(h5.objs.size + 1, dictO #[] 2)], [(h5.objs.size, listO ⟨ys.map iv⟩ ey)], [(h2.objs.size, rangeO k (os.length : Int) kt (tk2 + 1) (tk2 + 2))], [((h.objs.size + 3), cellP none)], [((h.objs.size + 2), cellO (.ref Rn))], [((h.objs.size + 1), cellO (.ref To))], [(h.objs.size, frF #[fe (hS w₀.params s_place, tk) s_place (.int k kt), fe (hS w₀.params s_ends, tk7) s_ends (.ref h5.objs.size)] 2 #[])], [(To, listO ⟨os.map iv⟩ eo)], [(Rn, listO ⟨rds.map rdV⟩ en)], dcells rds, ρ]) := D10.eq (by kernel_rfl)
      have hra : Reads h10 (.ref h5.objs.size) (.list ((ys.map (·.1)).map PyData.int)) [h5.objs.size] := reads_of_ints (vs := ys.map iv) ⟨_, D11.cell 2 rfl, rfl, ey, rfl⟩ (ints_iv ys)
      have hrb : Reads h10 (.ref h7.objs.size) (.list (([] : List Int).map PyData.int)) [h7.objs.size] := reads_of_ints (vs := []) ⟨_, D11.cell 0 rfl, rfl, 0, rfl⟩ .nil
      refine use_eq (ifΦ_lay (.ref h5.objs.size) (.ref h7.objs.size) (thenOf (fstmt (gdW G).params 165 1)) (elseOf (fstmt (gdW G).params 165 1)) (bodyFrom (gdW G).params 165 2) (fenvC (gdW G).params 165 h.objs.size [(s_k, (h.objs.size + 3)), (s_rounds, (h.objs.size + 2)), (s_octets, (h.objs.size + 1))])) (by kernel_rfl) un (by kernel_rfl) hra hrb (ke_shaped_ints _) (ke_shaped_ints _) ?_
      rw [eqv_ints]
      rcases ys with _ | ⟨⟨y0, yt⟩, ys⟩
      · rw [show decide ((([] : List IT).map (·.1)) = ([] : List Int)) = true from by decide]
        refine sg2L 1000 [] [] G o.hd D11 ?_; intro fh12 oh12; refine ⟨by kernel_rfl, fun h12 tk12 D12 => ?_⟩
        refine end_done (f := .ret (.ref h10.objs.size)) (by kernel_rfl) (by kernel_rfl) ?_
        have D13 : Rep h₀ h12 F (cat [[(h10.objs.size, listO #[] 0)], [(h7.objs.size, listO #[] 0)], [(h5.objs.size + 1, dictO #[] 2)], [(h5.objs.size, listO #[] ey)], [(h2.objs.size, rangeO k (os.length : Int) kt (tk2 + 1) (tk2 + 2))], [((h.objs.size + 3), cellP none)], [((h.objs.size + 2), cellO (.ref Rn))], [((h.objs.size + 1), cellO (.ref To))], [(h.objs.size, frF #[fe (hS w₀.params s_place, tk) s_place (.int k kt), fe (hS w₀.params s_ends, tk7) s_ends (.ref h5.objs.size)] 2 #[])], [(To, listO ⟨os.map iv⟩ eo)], [(Rn, listO ⟨rds.map rdV⟩ en)], dcells rds, ρ]) := D12.eq (by kernel_rfl)
        refine z h12 tk12 h10.objs.size [] ?_ (D13.mask [true, false, false, false, false, false, false, false, false])
        have e : flt (bit0 (os.map (·.1))) k.toNat (os.length - k.toNat) = [] := hys.symm
        simp only [due, List.length_map, e] at hm
        injection hm with hm
      rw [show decide (((((y0, yt) :: ys : List IT)).map (·.1)) = ([] : List Int)) = false from by simp]
      refine sg2L 1000 [.s 7, .s 7, .t, .t, .s 7, .s 7, .s 2, .s 2, .s 2, .e, .s 2] [] G o.hd D11 ?_; intro fh12 oh12; refine ⟨by kernel_rfl, fun h12 tk12 D12 => ?_⟩
      have e : flt (bit0 (os.map (·.1))) k.toNat (os.length - k.toNat) = y0 :: ys.map (·.1) := hys.symm
      have hy0 := flt_mem (bit0 (os.map (·.1))) (os.length - k.toNat) k.toNat y0 (by rw [e]; exact .head _)
      simp only [due, List.length_map, e] at hm
      refine u_lget D12 2 (l := h5.objs.size) (items := ⟨((y0, yt) :: ys).map iv⟩) (n := ey) (x := 0) (u := tk10 + 2) (y := .int y0 yt) (by kernel_rfl) (by decide) (by decide) (by rfl) (by kernel_rfl) (by kernel_rfl) ?_
      refine sg2L 1000 [.e, .e, .e, .e, .e, .e, .s 0, .s 0, .e, .s 0, .e, .s 0, .s 0, .s 0, .e, .s 0] [] G o.hd D12 ?_; intro fh13 oh13; refine ⟨by kernel_rfl, fun h13 tk13 D13 => ?_⟩
      refine u_riter D13 0 (r := h12.objs.size) (a := k) (b := y0 + 1) (ta := kt) (tb := tk12 + 1) (tc := tk12 + 2) (by kernel_rfl) hk (by omega) (by omega) (by kernel_rfl) (by kernel_rfl) fun h14 it2 D14 => ?_
      refine sg2L 1000 [.s 0] [] G o.hd D14 ?_; intro fh15 oh15; refine ⟨by kernel_rfl, fun h15 tk15 D15 => ?_⟩
      refine use_call (c' := forCC (gdW G).params 165 3 it2 h.objs.size [(s_k, (h.objs.size + 3)), (s_rounds, (h.objs.size + 2)), (s_octets, (h.objs.size + 1))]) (hd := none) (by kernel_rfl) rfl ?_
      have D16 : Rep h₀ h15 F (cat [[(it2, rgO k (y0 + 1 - k).toNat)], [(h12.objs.size, rangeO k (y0 + 1) kt (tk12 + 1) (tk12 + 2))], [(h7.objs.size, listO #[] 0)], [(h5.objs.size + 1, dictO #[] 2)], [(h5.objs.size, listO ⟨((y0, yt) :: ys).map iv⟩ ey)], [(h2.objs.size, rangeO k (os.length : Int) kt (tk2 + 1) (tk2 + 2))], [((h.objs.size + 3), cellP none)], [((h.objs.size + 2), cellO (.ref Rn))], [((h.objs.size + 1), cellO (.ref To))], [(h.objs.size, frF #[fe (hS w₀.params s_place, tk) s_place (.int k kt), fe (hS w₀.params s_ends, tk7) s_ends (.ref h5.objs.size), fe (hS w₀.params s_value, tk10 + 1) s_value (.int 0 tk10)] 3 #[])], [(To, listO ⟨os.map iv⟩ eo)], [(Rn, listO ⟨rds.map rdV⟩ en)], dcells rds, ρ]) := D15.eq (by kernel_rfl)
      have D17 := Rep.shuf _ [13, 6, 6, 6, 6, 6, 13, 13, 13, 10, 11, 12, 13, 13] D16
      rw [show k = ((k.toNat : Nat) : Int) from (Int.toNat_of_nonneg hk).symm] at D17
      split at hm
      · cases hm
      rename_i v' hdv
      rw [Int.toNat_of_nonneg hk] at hdv
      injection hm with hm
      refine l165f (it := it2) (L := h.objs.size) (Cl := (h.objs.size + 1)) (Cr := (h.objs.size + 2)) (Ck := (h.objs.size + 3)) (To := To) (Rn := Rn) (os := os) (rds := rds) (eo := eo) (en := en) (pv := .int k kt) (ev := .ref h5.objs.size) (q0 := (hS w₀.params s_place, tk)) (q1 := (hS w₀.params s_ends, tk7)) (q2 := (hS w₀.params s_value, tk10 + 1)) (F := F) (ρ := (h12.objs.size, rangeO k (y0 + 1) kt (tk12 + 1) (tk12 + 2)) :: (h7.objs.size, listO #[] 0) :: (h5.objs.size + 1, dictO #[] 2) :: (h5.objs.size, listO ⟨((y0, yt) :: ys).map iv⟩ ey) :: (h2.objs.size, rangeO k (os.length : Int) kt (tk2 + 1) (tk2 + 2)) :: ρ) (o.call (by kernel_rfl) (by kernel_rfl)) (y0 + 1 - k).toNat _ G k.toNat 0 tk10 none h15 tk15 v' hdv (by omega) (by omega) hz ?_ ?_
      · refine Rep.eq D17 ?_
        rw [Int.toNat_of_nonneg hk]
        kernel_rfl
      intro h18 tk18 vt' kv' D18
      have D19 := Rep.shuf [[(h.objs.size, frF #[fe (hS w₀.params s_place, tk) s_place (.int k kt), fe (hS w₀.params s_ends, tk7) s_ends (.ref h5.objs.size), fe (hS w₀.params s_value, tk10 + 1) s_value (.int v' vt')] 3 #[])], [((h.objs.size + 1), cellO (.ref To))], [((h.objs.size + 2), cellO (.ref Rn))], [((h.objs.size + 3), cellP kv')], [(To, listO ⟨os.map iv⟩ eo)], [(Rn, listO ⟨rds.map rdV⟩ en)], dcells rds, [(h12.objs.size, rangeO k (y0 + 1) kt (tk12 + 1) (tk12 + 2))], [(h7.objs.size, listO #[] 0)], [(h5.objs.size + 1, dictO #[] 2)], [(h5.objs.size, listO ⟨((y0, yt) :: ys).map iv⟩ ey)], [(h2.objs.size, rangeO k (os.length : Int) kt (tk2 + 1) (tk2 + 2))], ρ] [12, 7, 7, 7, 4, 5, 6, 7, 12, 12, 12, 12, 12] (D18.eq (by kernel_rfl))
      refine sg2L 1000 [.s 8, .s 8, .s 3, .s 3, .s 3, .e, .s 3] [] G o.hd D19 ?_; intro fh20 oh20; refine ⟨by kernel_rfl, fun h20 tk20 D20 => ?_⟩
      refine u_lget D20 3 (l := h5.objs.size) (items := ⟨((y0, yt) :: ys).map iv⟩) (n := ey) (x := 0) (u := tk18) (y := .int y0 yt) (by kernel_rfl) (by decide) (by decide) (by rfl) (by kernel_rfl) (by kernel_rfl) ?_
      refine sg2L 1000 [.e, .e] [] G o.hd D20 ?_; intro fh21 oh21; refine ⟨by kernel_rfl, fun h21 tk21 D21 => ?_⟩
      refine end_done (f := .ret (.ref h20.objs.size)) (by kernel_rfl) (by kernel_rfl) ?_
      have D22 : Rep h₀ h21 F (cat [[(h20.objs.size, listO #[.int v' vt', .int (y0 + 1) (tk20 + 1)] 0)], [(h12.objs.size, rangeO k (y0 + 1) kt (tk12 + 1) (tk12 + 2))], [(h7.objs.size, listO #[] 0)], [(h5.objs.size + 1, dictO #[] 2)], [(h5.objs.size, listO ⟨((y0, yt) :: ys).map iv⟩ ey)], [(h2.objs.size, rangeO k (os.length : Int) kt (tk2 + 1) (tk2 + 2))], [((h.objs.size + 3), cellP kv')], [((h.objs.size + 2), cellO (.ref Rn))], [((h.objs.size + 1), cellO (.ref To))], [(h.objs.size, frF #[fe (hS w₀.params s_place, tk) s_place (.int k kt), fe (hS w₀.params s_ends, tk7) s_ends (.ref h5.objs.size), fe (hS w₀.params s_value, tk10 + 1) s_value (.int v' vt')] 3 #[])], [(To, listO ⟨os.map iv⟩ eo)], [(Rn, listO ⟨rds.map rdV⟩ en)], dcells rds, ρ]) := D21.eq (by kernel_rfl)
      exact z h21 tk21 h20.objs.size [(v', vt'), (y0 + 1, tk20 + 1)] (by rw [← hm]; rfl) (D22.mask [true, false, false, false, false, false, false, false, false, false])
end Mine
end
section
open PySem PySem.W PySem.W.X PyProof.Rows
set_option Elab.async false
set_option maxRecDepth 100000
set_option maxHeartbeats 1000000
namespace Mine
variable {prog : Program} {w : World} {w₀ : World} {b1 b2 b3 : Bool} {A : Around} {R : Result → Shared → Prop} {h₀ h : Heap} {F : List Addr} {ρ σ : Cells} {g : Array GenState} {d : Drawn} {tk : Nat} {os₀ : OsState}
theorem fmod256 (x : Int) : x.fmod 256 = x % 256 := Int.fmod_eq_emod_of_nonneg x (by decide)
noncomputable def e170x (P : Params) : Option Expr := match valE (fstmt P 170 0) with
  | some (.BinOp _ _ x _) => some x
  | _ => none
theorem l170x {it acc sc T L : Addr} {e : Nat} (o : Ok A 2) : ∀ (rest : List IT) (b1 : Bool) (_ : Gd (wF b1 b2 b3 w₀) h₀) (dn : List IT) (v : Option (Q2 × Value)) (ys : List IT) (ey : Nat) (h : Heap) (tk : Nat),
    ys.length + rest.length ≤ 1000 →
    Rep h₀ h F ((it, itO "list_iterator" (.ref T) dn.length) :: (acc, listO ⟨ys.map iv⟩ ey) :: (sc, dictO (scE s_x v) (scN v)) :: (T, listO ⟨(dn ++ rest).map iv⟩ e) :: ρ) →
    (∀ h' tk' (ys' : List IT) ey' v', ys'.map (·.1) = ys.map (·.1) ++ rest.map (fun x => x.1 % 256) → Rep h₀ h' F ((acc, listO ⟨ys'.map iv⟩ ey') :: (sc, dictO (scE s_x v') (scN v')) :: (T, listO ⟨(dn ++ rest).map iv⟩ e) :: ρ) → R (.ok .next) ⟨h', g, d, tk', os₀⟩) →
    codeAny (model prog (wF b1 b2 b3 w₀)) A (compC (wF b1 b2 b3 w₀).params 170 (e170x (wF b1 b2 b3 w₀).params) it acc sc L []) R ⟨h, g, d, tk, os₀⟩
  | [] => by
    intro b1 G dn v ys ey h tk hz D z
    refine code_start ?_
    refine sg2L 1000 [.s 0, .e, .s 0] [] G o.hd D ?_; intro fh1 oh1; refine ⟨by kernel_rfl, fun h1 tk1 D1 => ?_⟩
    have hat : (⟨(dn ++ []).map iv⟩ : Array Value)[dn.length]? = none := by rw [List.append_nil]; exact getElem_end dn
    refine u_lstop D1 0 (it := it) (T := T) (items := ⟨(dn ++ []).map iv⟩) (n := e) (i := dn.length) (by kernel_rfl) 3 (by kernel_rfl) hat o.hd (by kernel_rfl) (by kernel_rfl) (by kernel_rfl) fun h2 E E0 D2 => ?_
    refine sg2L 1000 [.s 0] [false, false, false] G o.hd D2 ?_; intro fh3 oh3; refine ⟨by kernel_rfl, fun h3 tk3 D3 => ?_⟩
    exact end_done (f := .next) (by kernel_rfl) (by kernel_rfl) (z h3 tk3 ys ey v (by simp) (D3.eq (by kernel_rfl)))
  | x :: rest => by
    intro b1 G dn v ys ey h tk hz D z
    simp only [List.length_cons] at hz
    refine code_start ?_
    refine sg2L 1000 [.s 0, .e, .s 0] [] G o.hd D ?_; intro fh1 oh1; refine ⟨by kernel_rfl, fun h1 tk1 D1 => ?_⟩
    refine u_lnext D1 0 (it := it) (T := T) (items := ⟨(dn ++ x :: rest).map iv⟩) (n := e) (i := dn.length) (v := iv x) (by kernel_rfl) 3 (by kernel_rfl) (getElem_mid dn rest x) (by kernel_rfl) (by kernel_rfl) fun h2 D2 => ?_
    rcases v with _ | ⟨q, v⟩
    · all_goals
        refine sg2L 1000 [.s 2, .s 2, .s 2] [] G o.hd D2 ?_; intro fh3 oh3; refine ⟨by kernel_rfl, fun h3 tk3 D3 => ?_⟩
        refine u_mod (a := x.1) (ta := x.2) (b := 256) (tb := tk1 + 1) (by kernel_rfl) (by decide) ?_
        rw [fmod256]
        refine sg2L 1000 [.e, .s 1] [] G o.hd D3 ?_; intro fh4 oh4; refine ⟨by kernel_rfl, fun h4 tk4 D4 => ?_⟩
        refine u_append D4 1 (l := acc) (items := ⟨ys.map iv⟩) (n := ey) (v := iv (x.1 % 256, tk3)) (by kernel_rfl) (line_of (n := ys.length) (by omega) (by simp)) (by kernel_rfl) (by kernel_rfl) fun h5 D5 => ?_
        refine sg2L 1000 [] [] G o.hd D5 ?_; intro fh6 oh6; refine ⟨by kernel_rfl, fun h6 tk6 D6 => ?_⟩
        refine end_again (c' := compC (gdW G).params 170 (e170x (gdW G).params) it acc sc L []) (by kernel_rfl) (by kernel_rfl) (by kernel_rfl) ?_
        refine l170x (it := it) (acc := acc) (sc := sc) (T := T) (L := L) (e := e) o rest _ G (dn ++ [x]) (some ((hS w₀.params s_x, tk1), iv x)) (ys ++ [(x.1 % 256, tk3)]) (ey + 1) h6 tk6 (by rw [List.length_append, List.length_singleton]; omega) ?_ ?_
        · rw [List.append_assoc, List.length_append, iv_snoc]
          exact D6.eq (by kernel_rfl)
        · intro h' tk' ys' ey' v' hy D'
          rw [List.append_assoc] at D'
          refine z h' tk' ys' ey' v' ?_ D'
          rw [hy]; simp
    · all_goals
        refine sg2L 1000 [.s 2, .s 2, .s 2] [] G o.hd D2 ?_; intro fh3 oh3; refine ⟨by kernel_rfl, fun h3 tk3 D3 => ?_⟩
        refine u_mod (a := x.1) (ta := x.2) (b := 256) (tb := tk1 + 1) (by kernel_rfl) (by decide) ?_
        rw [fmod256]
        refine sg2L 1000 [.e, .s 1] [] G o.hd D3 ?_; intro fh4 oh4; refine ⟨by kernel_rfl, fun h4 tk4 D4 => ?_⟩
        refine u_append D4 1 (l := acc) (items := ⟨ys.map iv⟩) (n := ey) (v := iv (x.1 % 256, tk3)) (by kernel_rfl) (line_of (n := ys.length) (by omega) (by simp)) (by kernel_rfl) (by kernel_rfl) fun h5 D5 => ?_
        refine sg2L 1000 [] [] G o.hd D5 ?_; intro fh6 oh6; refine ⟨by kernel_rfl, fun h6 tk6 D6 => ?_⟩
        refine end_again (c' := compC (gdW G).params 170 (e170x (gdW G).params) it acc sc L []) (by kernel_rfl) (by kernel_rfl) (by kernel_rfl) ?_
        refine l170x (it := it) (acc := acc) (sc := sc) (T := T) (L := L) (e := e) o rest _ G (dn ++ [x]) (some (q, iv x)) (ys ++ [(x.1 % 256, tk3)]) (ey + 1) h6 tk6 (by rw [List.length_append, List.length_singleton]; omega) ?_ ?_
        · rw [List.append_assoc, List.length_append, iv_snoc]
          exact D6.eq (by kernel_rfl)
        · intro h' tk' ys' ey' v' hy D'
          rw [List.append_assoc] at D'
          refine z h' tk' ys' ey' v' ?_ D'
          rw [hy]; simp
theorem s170x {it acc sc T L : Addr} {e : Nat} {rest : List IT} (G : Gd (wF b1 b2 b3 w₀) h₀) (o : Ok A 2) (hz : rest.length ≤ 1000)
    (D : Rep h₀ h F ((it, itO "list_iterator" (.ref T) 0) :: (acc, listO #[] 0) :: (sc, dictO #[] 0) :: (T, listO ⟨rest.map iv⟩ e) :: ρ))
    (z : ∀ h' tk' (ys' : List IT) ey' v', ys'.map (·.1) = rest.map (fun x => x.1 % 256) → Rep h₀ h' F ((acc, listO ⟨ys'.map iv⟩ ey') :: (sc, dictO (scE s_x v') (scN v')) :: (T, listO ⟨rest.map iv⟩ e) :: ρ) → R (.ok .next) ⟨h', g, d, tk', os₀⟩) :
    codeAny (model prog (wF b1 b2 b3 w₀)) A (compS (wF b1 b2 b3 w₀).params 170 (e170x (wF b1 b2 b3 w₀).params) it acc sc L []) R ⟨h, g, d, tk, os₀⟩ := by
  refine code_start ?_
  cases b2
  · all_goals
      refine sg2L 1000 [.s 0, .s 0, .e, .s 0, .e, .s 0] [] G o.hd D ?_; intro fh5 oh5; refine ⟨by kernel_rfl, fun h5 tk5 D5 => ?_⟩
      refine end_again (c' := compC (gdW G).params 170 (e170x (gdW G).params) it acc sc L []) (by kernel_rfl) (by kernel_rfl) (by kernel_rfl) ?_
      exact l170x (it := it) (acc := acc) (sc := sc) (T := T) (L := L) (e := e) o rest _ G [] none [] 0 h5 tk5 (by simpa using hz) (D5.eq (by kernel_rfl)) z
  · all_goals
      refine sg2L 1000 [] [] G o.hd D ?_; intro fh5 oh5; refine ⟨by kernel_rfl, fun h5 tk5 D5 => ?_⟩
      refine end_again (c' := compC (gdW G).params 170 (e170x (gdW G).params) it acc sc L []) (by kernel_rfl) (by kernel_rfl) (by kernel_rfl) ?_
      exact l170x (it := it) (acc := acc) (sc := sc) (T := T) (L := L) (e := e) o rest _ G [] none [] 0 h5 tk5 (by simpa using hz) (D5.eq (by kernel_rfl)) z
noncomputable def e170n (P : Params) : Option Expr := valE (fstmt P 170 2)
noncomputable def needsM (os : List Int) : Nat → Nat → List (Int × Option Int)
  | _, 0 => []
  | i, n + 1 => (if os.getD i 0 / 64 % 2 = 1 then ((i : Int), some ((i : Int) + 1)) else ((i : Int), none)) :: needsM os (i + 1) n
theorem rwV_snoc (rs : List Rw) (r : Rw) : (⟨(rs ++ [r]).map rwV⟩ : Array Value) = (⟨rs.map rwV⟩ : Array Value).push (.ref r.a) := by simp [rwV]
theorem rcells_snoc (rs : List Rw) (r : Rw) : rcells (rs ++ [r]) ++ ρ = rcells rs ++ ((r.a, listO (rwI r) r.e) :: ρ) := by simp [rcells]
theorem l170n {it acc sc Cl To L : Addr} {os : List IT} {eo : Nat} (o : Ok A 2) : ∀ (n : Nat) (b1 : Bool) (_ : Gd (wF b1 b2 b3 w₀) h₀) (i : Nat) (v : Option (Q2 × Value)) (rows : List Rw) (ea : Nat) (h : Heap) (tk : Nat),
    i + n ≤ os.length → os.length ≤ 900 → rows.length + n ≤ 1000 →
    Rep h₀ h F ((it, rgO (i : Int) n) :: (acc, listO ⟨rows.map rwV⟩ ea) :: (sc, dictO (scE s_k v) (scN v)) :: (Cl, cellO (.ref To)) :: (To, listO ⟨os.map iv⟩ eo) :: (rcells rows ++ ρ)) →
    (∀ h' tk' (rows' : List Rw) ea' v', (0 < n ∨ v.isSome = true → v'.isSome = true) → rows'.map Rw.p = rows.map Rw.p ++ needsM (os.map (·.1)) i n → Rep h₀ h' F ((acc, listO ⟨rows'.map rwV⟩ ea') :: (sc, dictO (scE s_k v') (scN v')) :: (Cl, cellO (.ref To)) :: (To, listO ⟨os.map iv⟩ eo) :: (rcells rows' ++ ρ)) → R (.ok .next) ⟨h', g, d, tk', os₀⟩) →
    codeAny (model prog (wF b1 b2 b3 w₀)) A (compC (wF b1 b2 b3 w₀).params 170 (e170n (wF b1 b2 b3 w₀).params) it acc sc L [(s_octets, Cl)]) R ⟨h, g, d, tk, os₀⟩
  | 0 => by
    intro b1 G i v rows ea h tk hn hl hz D z
    refine code_start ?_
    refine sg2L 1000 [.s 0, .e, .s 0] [] G o.hd D ?_; intro fh1 oh1; refine ⟨by kernel_rfl, fun h1 tk1 D1 => ?_⟩
    refine u_rstop D1 0 (it := it) (i := (i : Int)) (by kernel_rfl) o.hd (by kernel_rfl) (by kernel_rfl) (by kernel_rfl) fun h2 E E0 D2 => ?_
    refine sg2L 1000 [.s 0] [false, false, false] G o.hd D2 ?_; intro fh3 oh3; refine ⟨by kernel_rfl, fun h3 tk3 D3 => ?_⟩
    exact end_done (f := .next) (by kernel_rfl) (by kernel_rfl) (z h3 tk3 rows ea v (fun y => y.elim (fun y => absurd y (Nat.lt_irrefl 0)) id) (by simp [needsM]) (D3.eq (by kernel_rfl)))
  | n + 1 => by
    intro b1 G i v rows ea h tk hn hl hz D z
    have hi : i < os.length := by omega
    refine code_start ?_
    refine sg2L 1000 [.s 0, .e, .s 0] [] G o.hd D ?_; intro fh1 oh1; refine ⟨by kernel_rfl, fun h1 tk1 D1 => ?_⟩
    refine u_rnext D1 0 (it := it) (i := (i : Int)) (n := n) (by kernel_rfl) (by kernel_rfl) (by kernel_rfl) fun h2 D2 => ?_
    rcases v with _ | ⟨q, v⟩
    · all_goals
        refine sg2L 1000 [.s 2, .s 2, .s 3, .s 2, .s 4, .s 4, .s 4, .e, .s 4] [] G o.hd D2 ?_; intro fh3 oh3; refine ⟨by kernel_rfl, fun h3 tk3 D3 => ?_⟩
        refine u_lget D3 4 (l := To) (items := ⟨os.map iv⟩) (n := eo) (x := (i : Int)) (u := tk1) (y := iv os[i]) (by kernel_rfl) (by omega) (by omega) (by rw [Int.toNat_natCast]; exact iv_at os hi) (by kernel_rfl) (by kernel_rfl) ?_
        refine sg2L 1000 [] [] G o.hd D3 ?_; intro fh4 oh4; refine ⟨by kernel_rfl, fun h4 tk4 D4 => ?_⟩
        refine u_fdiv (a := os[i].1) (ta := os[i].2) (b := 64) (tb := tk3) (by kernel_rfl) (by decide) (by decide) ?_
        rw [fdiv64]
        refine sg2L 1000 [] [] G o.hd D4 ?_; intro fh5 oh5; refine ⟨by kernel_rfl, fun h5 tk5 D5 => ?_⟩
        refine u_mod (a := os[i].1 / 64) (ta := tk4) (b := 2) (tb := tk4 + 1) (by kernel_rfl) (by decide) ?_
        rw [fmod2]
        refine sg2L 1000 [.e] [] G o.hd D5 ?_; intro fh6 oh6; refine ⟨by kernel_rfl, fun h6 tk6 D6 => ?_⟩
        refine use_again (c' := .builtin "int.__eq__" ⟨[.int (os[i].1 / 64 % 2) tk5, .int 1 (tk5 + 1)], []⟩) (by kernel_rfl) (by kernel_rfl) (by kernel_rfl) ?_
        refine c_eq G (by rw [arnd_hnd, o.hd]; kernel_rfl) D6 ?_
        intro h7 tk7 D7
        by_cases h0 : os[i].1 / 64 % 2 = 1
        · rw [decide_eq_true h0]
          refine sg2L 1000 [.s 2, .s 2, .e, .e, .e, .s 2] [] G o.hd D7 ?_; intro fh9 oh9; refine ⟨by kernel_rfl, fun h9 tk9 D9 => ?_⟩
          refine u_append D9 2 (l := acc) (items := ⟨rows.map rwV⟩) (n := ea) (v := .ref h7.objs.size) (by kernel_rfl) (line_of (n := rows.length) (by omega) (by simp)) (by kernel_rfl) (by kernel_rfl) fun h10 D10 => ?_
          refine sg2L 1000 [] [] G o.hd D10 ?_; intro fh11 oh11; refine ⟨by kernel_rfl, fun h11 tk11 D11 => ?_⟩
          refine end_again (c' := compC (gdW G).params 170 (e170n (gdW G).params) it acc sc L [(s_octets, Cl)]) (by kernel_rfl) (by kernel_rfl) (by kernel_rfl) ?_
          let S12 : List Cells := [[(h7.objs.size, listO #[.int (i : Int) tk1, .int ((i : Int) + 1) (tk7 + 1)] 0)], [(it, rgO ((i : Int) + 1) n)], [(acc, listO ((⟨rows.map rwV⟩ : Array Value).push (.ref h7.objs.size)) (ea + 1))], [(sc, dictO (scE s_k (some ((hS w₀.params s_k, tk1 + 1), .int (i : Int) tk1))) 1)], [(Cl, cellO (.ref To))], [(To, listO ⟨os.map iv⟩ eo)], rcells rows, ρ]; have D12 : Rep h₀ h11 F (cat S12) := D11.eq (by kernel_rfl)
          have D13 := Rep.shuf _ [7, 1, 7, 7, 7, 7, 7, 7] D12
          refine l170n (it := it) (acc := acc) (sc := sc) (Cl := Cl) (To := To) (L := L) (os := os) (eo := eo) o n _ G (i + 1) (some ((hS w₀.params s_k, tk1 + 1), .int (i : Int) tk1)) (rows ++ [⟨h7.objs.size, ((i : Int), tk1), some ((i : Int) + 1, tk7 + 1), 0⟩]) (ea + 1) h11 tk11 (by omega) hl (by rw [List.length_append, List.length_singleton]; omega) ?_ ?_
          · rw [rwV_snoc, rcells_snoc]
            exact D13
          · intro h' tk' rows' ea' v' hv' hy D'
            refine z h' tk' rows' ea' v' (fun _ => hv' (.inr rfl)) ?_ D'
            rw [hy, needsM, getD_at os hi, if_pos h0]
            simp [Rw.p]
        · rw [decide_eq_false h0]
          refine sg2L 1000 [.s 2, .e, .s 2] [] G o.hd D7 ?_; intro fh9 oh9; refine ⟨by kernel_rfl, fun h9 tk9 D9 => ?_⟩
          refine u_append D9 2 (l := acc) (items := ⟨rows.map rwV⟩) (n := ea) (v := .ref h7.objs.size) (by kernel_rfl) (line_of (n := rows.length) (by omega) (by simp)) (by kernel_rfl) (by kernel_rfl) fun h10 D10 => ?_
          refine sg2L 1000 [] [] G o.hd D10 ?_; intro fh11 oh11; refine ⟨by kernel_rfl, fun h11 tk11 D11 => ?_⟩
          refine end_again (c' := compC (gdW G).params 170 (e170n (gdW G).params) it acc sc L [(s_octets, Cl)]) (by kernel_rfl) (by kernel_rfl) (by kernel_rfl) ?_
          let S12 : List Cells := [[(h7.objs.size, listO #[.int (i : Int) tk1] 0)], [(it, rgO ((i : Int) + 1) n)], [(acc, listO ((⟨rows.map rwV⟩ : Array Value).push (.ref h7.objs.size)) (ea + 1))], [(sc, dictO (scE s_k (some ((hS w₀.params s_k, tk1 + 1), .int (i : Int) tk1))) 1)], [(Cl, cellO (.ref To))], [(To, listO ⟨os.map iv⟩ eo)], rcells rows, ρ]; have D12 : Rep h₀ h11 F (cat S12) := D11.eq (by kernel_rfl)
          have D13 := Rep.shuf _ [7, 1, 7, 7, 7, 7, 7, 7] D12
          refine l170n (it := it) (acc := acc) (sc := sc) (Cl := Cl) (To := To) (L := L) (os := os) (eo := eo) o n _ G (i + 1) (some ((hS w₀.params s_k, tk1 + 1), .int (i : Int) tk1)) (rows ++ [⟨h7.objs.size, ((i : Int), tk1), none, 0⟩]) (ea + 1) h11 tk11 (by omega) hl (by rw [List.length_append, List.length_singleton]; omega) ?_ ?_
          · rw [rwV_snoc, rcells_snoc]
            exact D13
          · intro h' tk' rows' ea' v' hv' hy D'
            refine z h' tk' rows' ea' v' (fun _ => hv' (.inr rfl)) ?_ D'
            rw [hy, needsM, getD_at os hi, if_neg h0]
            simp [Rw.p]
    · all_goals
        refine sg2L 1000 [.s 2, .s 2, .s 3, .s 2, .s 4, .s 4, .s 4, .e, .s 4] [] G o.hd D2 ?_; intro fh3 oh3; refine ⟨by kernel_rfl, fun h3 tk3 D3 => ?_⟩
        refine u_lget D3 4 (l := To) (items := ⟨os.map iv⟩) (n := eo) (x := (i : Int)) (u := tk1) (y := iv os[i]) (by kernel_rfl) (by omega) (by omega) (by rw [Int.toNat_natCast]; exact iv_at os hi) (by kernel_rfl) (by kernel_rfl) ?_
        refine sg2L 1000 [] [] G o.hd D3 ?_; intro fh4 oh4; refine ⟨by kernel_rfl, fun h4 tk4 D4 => ?_⟩
        refine u_fdiv (a := os[i].1) (ta := os[i].2) (b := 64) (tb := tk3) (by kernel_rfl) (by decide) (by decide) ?_
        rw [fdiv64]
        refine sg2L 1000 [] [] G o.hd D4 ?_; intro fh5 oh5; refine ⟨by kernel_rfl, fun h5 tk5 D5 => ?_⟩
        refine u_mod (a := os[i].1 / 64) (ta := tk4) (b := 2) (tb := tk4 + 1) (by kernel_rfl) (by decide) ?_
        rw [fmod2]
        refine sg2L 1000 [.e] [] G o.hd D5 ?_; intro fh6 oh6; refine ⟨by kernel_rfl, fun h6 tk6 D6 => ?_⟩
        refine use_again (c' := .builtin "int.__eq__" ⟨[.int (os[i].1 / 64 % 2) tk5, .int 1 (tk5 + 1)], []⟩) (by kernel_rfl) (by kernel_rfl) (by kernel_rfl) ?_
        refine c_eq G (by rw [arnd_hnd, o.hd]; kernel_rfl) D6 ?_
        intro h7 tk7 D7
        by_cases h0 : os[i].1 / 64 % 2 = 1
        · rw [decide_eq_true h0]
          refine sg2L 1000 [.s 2, .s 2, .e, .e, .e, .s 2] [] G o.hd D7 ?_; intro fh9 oh9; refine ⟨by kernel_rfl, fun h9 tk9 D9 => ?_⟩
          refine u_append D9 2 (l := acc) (items := ⟨rows.map rwV⟩) (n := ea) (v := .ref h7.objs.size) (by kernel_rfl) (line_of (n := rows.length) (by omega) (by simp)) (by kernel_rfl) (by kernel_rfl) fun h10 D10 => ?_
          refine sg2L 1000 [] [] G o.hd D10 ?_; intro fh11 oh11; refine ⟨by kernel_rfl, fun h11 tk11 D11 => ?_⟩
          refine end_again (c' := compC (gdW G).params 170 (e170n (gdW G).params) it acc sc L [(s_octets, Cl)]) (by kernel_rfl) (by kernel_rfl) (by kernel_rfl) ?_
          let S12 : List Cells := [[(h7.objs.size, listO #[.int (i : Int) tk1, .int ((i : Int) + 1) (tk7 + 1)] 0)], [(it, rgO ((i : Int) + 1) n)], [(acc, listO ((⟨rows.map rwV⟩ : Array Value).push (.ref h7.objs.size)) (ea + 1))], [(sc, dictO (scE s_k (some (q, .int (i : Int) tk1))) 1)], [(Cl, cellO (.ref To))], [(To, listO ⟨os.map iv⟩ eo)], rcells rows, ρ]; have D12 : Rep h₀ h11 F (cat S12) := D11.eq (by kernel_rfl)
          have D13 := Rep.shuf _ [7, 1, 7, 7, 7, 7, 7, 7] D12
          refine l170n (it := it) (acc := acc) (sc := sc) (Cl := Cl) (To := To) (L := L) (os := os) (eo := eo) o n _ G (i + 1) (some (q, .int (i : Int) tk1)) (rows ++ [⟨h7.objs.size, ((i : Int), tk1), some ((i : Int) + 1, tk7 + 1), 0⟩]) (ea + 1) h11 tk11 (by omega) hl (by rw [List.length_append, List.length_singleton]; omega) ?_ ?_
          · rw [rwV_snoc, rcells_snoc]
            exact D13
          · intro h' tk' rows' ea' v' hv' hy D'
            refine z h' tk' rows' ea' v' (fun _ => hv' (.inr rfl)) ?_ D'
            rw [hy, needsM, getD_at os hi, if_pos h0]
            simp [Rw.p]
        · rw [decide_eq_false h0]
          refine sg2L 1000 [.s 2, .e, .s 2] [] G o.hd D7 ?_; intro fh9 oh9; refine ⟨by kernel_rfl, fun h9 tk9 D9 => ?_⟩
          refine u_append D9 2 (l := acc) (items := ⟨rows.map rwV⟩) (n := ea) (v := .ref h7.objs.size) (by kernel_rfl) (line_of (n := rows.length) (by omega) (by simp)) (by kernel_rfl) (by kernel_rfl) fun h10 D10 => ?_
          refine sg2L 1000 [] [] G o.hd D10 ?_; intro fh11 oh11; refine ⟨by kernel_rfl, fun h11 tk11 D11 => ?_⟩
          refine end_again (c' := compC (gdW G).params 170 (e170n (gdW G).params) it acc sc L [(s_octets, Cl)]) (by kernel_rfl) (by kernel_rfl) (by kernel_rfl) ?_
          let S12 : List Cells := [[(h7.objs.size, listO #[.int (i : Int) tk1] 0)], [(it, rgO ((i : Int) + 1) n)], [(acc, listO ((⟨rows.map rwV⟩ : Array Value).push (.ref h7.objs.size)) (ea + 1))], [(sc, dictO (scE s_k (some (q, .int (i : Int) tk1))) 1)], [(Cl, cellO (.ref To))], [(To, listO ⟨os.map iv⟩ eo)], rcells rows, ρ]; have D12 : Rep h₀ h11 F (cat S12) := D11.eq (by kernel_rfl)
          have D13 := Rep.shuf _ [7, 1, 7, 7, 7, 7, 7, 7] D12
          refine l170n (it := it) (acc := acc) (sc := sc) (Cl := Cl) (To := To) (L := L) (os := os) (eo := eo) o n _ G (i + 1) (some (q, .int (i : Int) tk1)) (rows ++ [⟨h7.objs.size, ((i : Int), tk1), none, 0⟩]) (ea + 1) h11 tk11 (by omega) hl (by rw [List.length_append, List.length_singleton]; omega) ?_ ?_
          · rw [rwV_snoc, rcells_snoc]
            exact D13
          · intro h' tk' rows' ea' v' hv' hy D'
            refine z h' tk' rows' ea' v' (fun _ => hv' (.inr rfl)) ?_ D'
            rw [hy, needsM, getD_at os hi, if_neg h0]
            simp [Rw.p]
theorem s170n {it acc sc Cl To L : Addr} {os : List IT} {eo n : Nat} (G : Gd (wF b1 b2 b3 w₀) h₀) (o : Ok A 2) (hn : n ≤ os.length) (hl : os.length ≤ 900)
    (D : Rep h₀ h F ((it, rgO 0 n) :: (acc, listO #[] 0) :: (sc, dictO #[] 0) :: (Cl, cellO (.ref To)) :: (To, listO ⟨os.map iv⟩ eo) :: ρ))
    (z : ∀ h' tk' (rows' : List Rw) ea' v', (0 < n ∨ (none : Option (Q2 × Value)).isSome = true → v'.isSome = true) → rows'.map Rw.p = needsM (os.map (·.1)) 0 n → Rep h₀ h' F ((acc, listO ⟨rows'.map rwV⟩ ea') :: (sc, dictO (scE s_k v') (scN v')) :: (Cl, cellO (.ref To)) :: (To, listO ⟨os.map iv⟩ eo) :: (rcells rows' ++ ρ)) → R (.ok .next) ⟨h', g, d, tk', os₀⟩) :
    codeAny (model prog (wF b1 b2 b3 w₀)) A (compS (wF b1 b2 b3 w₀).params 170 (e170n (wF b1 b2 b3 w₀).params) it acc sc L [(s_octets, Cl)]) R ⟨h, g, d, tk, os₀⟩ := by
  refine code_start ?_
  cases b2
  · all_goals
      refine sg2L 1000 [.s 0, .s 0, .e, .s 0, .e, .s 0] [] G o.hd D ?_; intro fh5 oh5; refine ⟨by kernel_rfl, fun h5 tk5 D5 => ?_⟩
      refine end_again (c' := compC (gdW G).params 170 (e170n (gdW G).params) it acc sc L [(s_octets, Cl)]) (by kernel_rfl) (by kernel_rfl) (by kernel_rfl) ?_
      exact l170n (it := it) (acc := acc) (sc := sc) (Cl := Cl) (To := To) (L := L) (os := os) (eo := eo) o n _ G 0 none [] 0 h5 tk5 (by omega) hl (by simp only [List.length_nil]; omega) (D5.eq (by kernel_rfl)) z
  · all_goals
      refine sg2L 1000 [] [] G o.hd D ?_; intro fh5 oh5; refine ⟨by kernel_rfl, fun h5 tk5 D5 => ?_⟩
      refine end_again (c' := compC (gdW G).params 170 (e170n (gdW G).params) it acc sc L [(s_octets, Cl)]) (by kernel_rfl) (by kernel_rfl) (by kernel_rfl) ?_
      exact l170n (it := it) (acc := acc) (sc := sc) (Cl := Cl) (To := To) (L := L) (os := os) (eo := eo) o n _ G 0 none [] 0 h5 tk5 (by omega) hl (by simp only [List.length_nil]; omega) (D5.eq (by kernel_rfl)) z
end Mine
end
section
open PySem PySem.W PySem.W.X PyProof.Rows
set_option Elab.async false
set_option maxRecDepth 100000
set_option maxHeartbeats 1000000
namespace Mine
variable {prog : Program} {w : World} {w₀ : World} {b1 b2 b3 : Bool} {A : Around} {R : Result → Shared → Prop} {h₀ h : Heap} {F : List Addr} {ρ σ : Cells} {g : Array GenState} {d : Drawn} {tk : Nat} {os₀ : OsState}
noncomputable def e170t (P : Params) : Option Expr := valE (fstmt P 170 4)
noncomputable def toldsM (os : List Int) : Nat → Nat → List (List Int)
  | _, 0 => []
  | i, n + 1 => told os i :: toldsM os (i + 1) n
theorem l170t {it acc sc Cl To L : Addr} {os : List IT} {eo : Nat} {outer : List Env} (o : Ok A 10) (hr : ∀ r ∈ os, 0 ≤ r.1 ∧ r.1 < 256) : ∀ (n : Nat) (b1 : Bool) (_ : Gd (wF b1 b2 b3 w₀) h₀) (i : Nat) (v : Option (Q2 × Value)) (tds : List Rd) (ea : Nat) (frs : Cells) (h : Heap) (tk : Nat),
    os.length ≤ 90 → tds.length + n ≤ 1000 → A.frames = some outer → FrOk outer frs →
    Rep h₀ h F ((it, rgO (i : Int) n) :: (acc, listO ⟨tds.map rdV⟩ ea) :: (sc, dictO (scE s_k v) (scN v)) :: (Cl, cellO (.ref To)) :: (To, listO ⟨os.map iv⟩ eo) :: (dcells tds ++ (frs ++ ρ))) →
    (∀ h' tk' frs' (tds' : List Rd) ea' v', (0 < n ∨ v.isSome = true → v'.isSome = true) → tds'.map Rd.p = tds.map Rd.p ++ toldsM (os.map (·.1)) i n → FrSame frs frs' → Rep h₀ h' F ((acc, listO ⟨tds'.map rdV⟩ ea') :: (sc, dictO (scE s_k v') (scN v')) :: (Cl, cellO (.ref To)) :: (To, listO ⟨os.map iv⟩ eo) :: (dcells tds' ++ (frs' ++ ρ))) → R (.ok .next) ⟨h', g, d, tk', os₀⟩) →
    codeAny (model prog (wF b1 b2 b3 w₀)) A (compC (wF b1 b2 b3 w₀).params 170 (e170t (wF b1 b2 b3 w₀).params) it acc sc L [(s_octets, Cl)]) R ⟨h, g, d, tk, os₀⟩
  | 0 => by
    intro b1 G i v tds ea frs h tk hl hz hfr hF D z
    refine code_start ?_
    refine sg2L 1000 [.s 0, .e, .s 0] [] G o.hd D ?_; intro fh1 oh1; refine ⟨by kernel_rfl, fun h1 tk1 D1 => ?_⟩
    refine u_rstop D1 0 (it := it) (i := (i : Int)) (by kernel_rfl) o.hd (by kernel_rfl) (by kernel_rfl) (by kernel_rfl) fun h2 E E0 D2 => ?_
    refine sg2L 1000 [.s 0] [false, false, false] G o.hd D2 ?_; intro fh3 oh3; refine ⟨by kernel_rfl, fun h3 tk3 D3 => ?_⟩
    exact end_done (f := .next) (by kernel_rfl) (by kernel_rfl) (z h3 tk3 frs tds ea v (fun y => y.elim (fun y => absurd y (Nat.lt_irrefl 0)) id) (by simp [toldsM]) (FrSame.refl _) (D3.eq (by kernel_rfl)))
  | n + 1 => by
    intro b1 G i v tds ea frs h tk hl hz hfr hF D z
    refine code_start ?_
    refine sg2L 1000 [.s 0, .e, .s 0] [] G o.hd D ?_; intro fh1 oh1; refine ⟨by kernel_rfl, fun h1 tk1 D1 => ?_⟩
    refine u_rnext D1 0 (it := it) (i := (i : Int)) (n := n) (by kernel_rfl) (by kernel_rfl) (by kernel_rfl) fun h2 D2 => ?_
    rcases v with _ | ⟨q, v⟩
    · all_goals
      refine sg2L 1000 [.s 2, .s 2, .t, .s 3, .s 2, .t] [] G o.hd D2 ?_; intro fh3 oh3; refine ⟨by kernel_rfl, fun h3 tk3 D3 => ?_⟩
      refine use_call (c' := .call (.ref 153) ⟨[.ref To, .int (i : Int) tk1], []⟩) (hd := none) (by kernel_rfl) rfl ?_
      let S4 : List Cells := [[(it, rgO ((i : Int) + 1) n)], [(acc, listO ⟨tds.map rdV⟩ ea)], [(sc, dictO (scE s_k (some ((hS w₀.params s_k, tk1 + 1), .int (i : Int) tk1))) 1)], [(Cl, cellO (.ref To))], [(To, listO ⟨os.map iv⟩ eo)], dcells tds, frs, ρ]; have D4 : Rep h₀ h3 F (cat S4) := D3.eq (by kernel_rfl)
      have D5 := Rep.shuf _ [7, 6, 5, 5, 5, 5, 7, 7] D4
      refine c153 (To := To) (os := os) (eo := eo) (k := (i : Int)) (kt := tk1) (outer := outer) (frs := frs) (ρ := cat [[(it, rgO ((i : Int) + 1) n)], [(acc, listO ⟨tds.map rdV⟩ ea)], [(sc, dictO (scE s_k (some ((hS w₀.params s_k, tk1 + 1), .int (i : Int) tk1))) 1)], [(Cl, cellO (.ref To))], dcells tds, ρ]) G (o.call (by kernel_rfl) (by kernel_rfl)) (frames_of hfr (by kernel_rfl)) hF hr (by omega) (by omega) D5 ?_
      intro h6 tk6 frs6 T ts hts hs D6
      let S7 : List Cells := [[(T, listO ⟨ts.map iv⟩ 0)], [(To, listO ⟨os.map iv⟩ eo)], frs6, [(it, rgO ((i : Int) + 1) n)], [(acc, listO ⟨tds.map rdV⟩ ea)], [(sc, dictO (scE s_k (some ((hS w₀.params s_k, tk1 + 1), .int (i : Int) tk1))) 1)], [(Cl, cellO (.ref To))], dcells tds, ρ]; have D7 := Rep.shuf S7 [8, 3, 2, 8, 4, 8, 8, 8, 8] D6
      refine sg2L 1000 [.e, .s 1] [] G o.hd D7 ?_; intro fh8 oh8; refine ⟨by kernel_rfl, fun h8 tk8 D8 => ?_⟩
      refine u_append D8 1 (l := acc) (items := ⟨tds.map rdV⟩) (n := ea) (v := .ref T) (by kernel_rfl) (line_of (n := tds.length) (by omega) (by simp)) (by kernel_rfl) (by kernel_rfl) fun h9 D9 => ?_
      refine sg2L 1000 [] [] G o.hd D9 ?_; intro fh10 oh10; refine ⟨by kernel_rfl, fun h10 tk10 D10 => ?_⟩
      refine end_again (c' := compC (gdW G).params 170 (e170t (gdW G).params) it acc sc L [(s_octets, Cl)]) (by kernel_rfl) (by kernel_rfl) (by kernel_rfl) ?_
      refine l170t (it := it) (acc := acc) (sc := sc) (Cl := Cl) (To := To) (L := L) (os := os) (eo := eo) (outer := outer) o hr n _ G (i + 1) (some ((hS w₀.params s_k, tk1 + 1), .int (i : Int) tk1)) (tds ++ [⟨T, ts, 0⟩]) ea.succ frs6 h10 tk10 (by omega) (by rw [List.length_append, List.length_singleton]; omega) hfr (hF.same hs) ?_ ?_
      · rw [rdV_snoc, dcells_snoc]
        exact D10.eq (by kernel_rfl)
      · intro h' tk' frs' tds' ea' v' hv' hy hs' D'
        refine z h' tk' frs' tds' ea' v' (fun _ => hv' (.inr rfl)) ?_ (hs.trans hs') D'
        rw [hy, toldsM, List.map_append, List.append_assoc]
        congr 1
        show [ts.map (·.1)] ++ _ = _
        rw [hts, Int.toNat_natCast]; rfl
    · all_goals
      refine sg2L 1000 [.s 2, .s 2, .t, .s 3, .s 2, .t] [] G o.hd D2 ?_; intro fh3 oh3; refine ⟨by kernel_rfl, fun h3 tk3 D3 => ?_⟩
      refine use_call (c' := .call (.ref 153) ⟨[.ref To, .int (i : Int) tk1], []⟩) (hd := none) (by kernel_rfl) rfl ?_
      let S4 : List Cells := [[(it, rgO ((i : Int) + 1) n)], [(acc, listO ⟨tds.map rdV⟩ ea)], [(sc, dictO (scE s_k (some (q, .int (i : Int) tk1))) 1)], [(Cl, cellO (.ref To))], [(To, listO ⟨os.map iv⟩ eo)], dcells tds, frs, ρ]; have D4 : Rep h₀ h3 F (cat S4) := D3.eq (by kernel_rfl)
      have D5 := Rep.shuf _ [7, 6, 5, 5, 5, 5, 7, 7] D4
      refine c153 (To := To) (os := os) (eo := eo) (k := (i : Int)) (kt := tk1) (outer := outer) (frs := frs) (ρ := cat [[(it, rgO ((i : Int) + 1) n)], [(acc, listO ⟨tds.map rdV⟩ ea)], [(sc, dictO (scE s_k (some (q, .int (i : Int) tk1))) 1)], [(Cl, cellO (.ref To))], dcells tds, ρ]) G (o.call (by kernel_rfl) (by kernel_rfl)) (frames_of hfr (by kernel_rfl)) hF hr (by omega) (by omega) D5 ?_
      intro h6 tk6 frs6 T ts hts hs D6
      let S7 : List Cells := [[(T, listO ⟨ts.map iv⟩ 0)], [(To, listO ⟨os.map iv⟩ eo)], frs6, [(it, rgO ((i : Int) + 1) n)], [(acc, listO ⟨tds.map rdV⟩ ea)], [(sc, dictO (scE s_k (some (q, .int (i : Int) tk1))) 1)], [(Cl, cellO (.ref To))], dcells tds, ρ]; have D7 := Rep.shuf S7 [8, 3, 2, 8, 4, 8, 8, 8, 8] D6
      refine sg2L 1000 [.e, .s 1] [] G o.hd D7 ?_; intro fh8 oh8; refine ⟨by kernel_rfl, fun h8 tk8 D8 => ?_⟩
      refine u_append D8 1 (l := acc) (items := ⟨tds.map rdV⟩) (n := ea) (v := .ref T) (by kernel_rfl) (line_of (n := tds.length) (by omega) (by simp)) (by kernel_rfl) (by kernel_rfl) fun h9 D9 => ?_
      refine sg2L 1000 [] [] G o.hd D9 ?_; intro fh10 oh10; refine ⟨by kernel_rfl, fun h10 tk10 D10 => ?_⟩
      refine end_again (c' := compC (gdW G).params 170 (e170t (gdW G).params) it acc sc L [(s_octets, Cl)]) (by kernel_rfl) (by kernel_rfl) (by kernel_rfl) ?_
      refine l170t (it := it) (acc := acc) (sc := sc) (Cl := Cl) (To := To) (L := L) (os := os) (eo := eo) (outer := outer) o hr n _ G (i + 1) (some (q, .int (i : Int) tk1)) (tds ++ [⟨T, ts, 0⟩]) ea.succ frs6 h10 tk10 (by omega) (by rw [List.length_append, List.length_singleton]; omega) hfr (hF.same hs) ?_ ?_
      · rw [rdV_snoc, dcells_snoc]
        exact D10.eq (by kernel_rfl)
      · intro h' tk' frs' tds' ea' v' hv' hy hs' D'
        refine z h' tk' frs' tds' ea' v' (fun _ => hv' (.inr rfl)) ?_ (hs.trans hs') D'
        rw [hy, toldsM, List.map_append, List.append_assoc]
        congr 1
        show [ts.map (·.1)] ++ _ = _
        rw [hts, Int.toNat_natCast]; rfl
theorem s170t {it acc sc Cl To L : Addr} {os : List IT} {eo n : Nat} {outer : List Env} {frs : Cells} (G : Gd (wF b1 b2 b3 w₀) h₀) (o : Ok A 10) (hr : ∀ r ∈ os, 0 ≤ r.1 ∧ r.1 < 256) (hl : os.length ≤ 90) (hn : n ≤ 900) (hfr : A.frames = some outer) (hF : FrOk outer frs)
    (D : Rep h₀ h F ((it, rgO 0 n) :: (acc, listO #[] 0) :: (sc, dictO #[] 0) :: (Cl, cellO (.ref To)) :: (To, listO ⟨os.map iv⟩ eo) :: (frs ++ ρ)))
    (z : ∀ h' tk' frs' (tds' : List Rd) ea' v', (0 < n ∨ (none : Option (Q2 × Value)).isSome = true → v'.isSome = true) → tds'.map Rd.p = toldsM (os.map (·.1)) 0 n → FrSame frs frs' → Rep h₀ h' F ((acc, listO ⟨tds'.map rdV⟩ ea') :: (sc, dictO (scE s_k v') (scN v')) :: (Cl, cellO (.ref To)) :: (To, listO ⟨os.map iv⟩ eo) :: (dcells tds' ++ (frs' ++ ρ))) → R (.ok .next) ⟨h', g, d, tk', os₀⟩) :
    codeAny (model prog (wF b1 b2 b3 w₀)) A (compS (wF b1 b2 b3 w₀).params 170 (e170t (wF b1 b2 b3 w₀).params) it acc sc L [(s_octets, Cl)]) R ⟨h, g, d, tk, os₀⟩ := by
  refine code_start ?_
  cases b2
  · all_goals
      refine sg2L 1000 [.s 0, .s 0, .e, .s 0, .e, .s 0] [] G o.hd D ?_; intro fh5 oh5; refine ⟨by kernel_rfl, fun h5 tk5 D5 => ?_⟩
      refine end_again (c' := compC (gdW G).params 170 (e170t (gdW G).params) it acc sc L [(s_octets, Cl)]) (by kernel_rfl) (by kernel_rfl) (by kernel_rfl) ?_
      exact l170t (it := it) (acc := acc) (sc := sc) (Cl := Cl) (To := To) (L := L) (os := os) (eo := eo) (outer := outer) o hr n _ G 0 none [] 0 frs h5 tk5 hl (by simp only [List.length_nil]; omega) hfr hF (D5.eq (by kernel_rfl)) z
  · all_goals
      refine sg2L 1000 [] [] G o.hd D ?_; intro fh5 oh5; refine ⟨by kernel_rfl, fun h5 tk5 D5 => ?_⟩
      refine end_again (c' := compC (gdW G).params 170 (e170t (gdW G).params) it acc sc L [(s_octets, Cl)]) (by kernel_rfl) (by kernel_rfl) (by kernel_rfl) ?_
      exact l170t (it := it) (acc := acc) (sc := sc) (Cl := Cl) (To := To) (L := L) (os := os) (eo := eo) (outer := outer) o hr n _ G 0 none [] 0 frs h5 tk5 hl (by simp only [List.length_nil]; omega) hfr hF (D5.eq (by kernel_rfl)) z
noncomputable def e170d (P : Params) : Option Expr := match fstmt P 170 5 with
  | some (.If (.BoolOp _ [_, .Compare _ _ [x] _] _) _ _ _) => some x
  | _ => none
noncomputable def duesM (os : List Int) (rs : List (List Int)) : Nat → Nat → Option (List (List Int))
  | _, 0 => some []
  | i, n + 1 => match due os rs i with
    | none => none
    | some d => match duesM os rs (i + 1) n with
      | none => none
      | some ds => some (d :: ds)
theorem duesM_succ {os : List Int} {rs : List (List Int)} {i n : Nat} {ds : List (List Int)} (h : duesM os rs i (n + 1) = some ds) : ∃ d0 d1, due os rs i = some d0 ∧ duesM os rs (i + 1) n = some d1 ∧ ds = d0 :: d1 := by
  unfold duesM at h
  split at h
  · cases h
  · rename_i d hd
    split at h
    · cases h
    · rename_i d1 hd1
      injection h with h
      exact ⟨d, d1, hd, hd1, h.symm⟩
theorem l170d {it acc sc Cl Cr To Rn L : Addr} {os : List IT} {rds : List Rd} {eo en : Nat} (o : Ok A 8) (un : Un A 20) : ∀ (n : Nat) (b1 : Bool) (_ : Gd (wF b1 b2 b3 w₀) h₀) (i : Nat) (v : Option (Q2 × Value)) (tds : List Rd) (ea : Nat) (ds : List (List Int)) (h : Heap) (tk : Nat),
    os.length ≤ 90 → rds.length ≤ 900 → i + n ≤ os.length + 1 → tds.length + n ≤ 1000 → duesM (os.map (·.1)) (rds.map Rd.p) i n = some ds →
    Rep h₀ h F ((it, rgO (i : Int) n) :: (acc, listO ⟨tds.map rdV⟩ ea) :: (sc, dictO (scE s_k v) (scN v)) :: (Cl, cellO (.ref To)) :: (Cr, cellO (.ref Rn)) :: (To, listO ⟨os.map iv⟩ eo) :: (Rn, listO ⟨rds.map rdV⟩ en) :: (dcells rds ++ (dcells tds ++ ρ))) →
    (∀ h' tk' (tds' : List Rd) ea' v', (0 < n ∨ v.isSome = true → v'.isSome = true) → tds'.map Rd.p = tds.map Rd.p ++ ds → Rep h₀ h' F ((acc, listO ⟨tds'.map rdV⟩ ea') :: (sc, dictO (scE s_k v') (scN v')) :: (Cl, cellO (.ref To)) :: (Cr, cellO (.ref Rn)) :: (To, listO ⟨os.map iv⟩ eo) :: (Rn, listO ⟨rds.map rdV⟩ en) :: (dcells rds ++ (dcells tds' ++ ρ))) → R (.ok .next) ⟨h', g, d, tk', os₀⟩) →
    codeAny (model prog (wF b1 b2 b3 w₀)) A (compC (wF b1 b2 b3 w₀).params 170 (e170d (wF b1 b2 b3 w₀).params) it acc sc L [(s_rounds, Cr), (s_octets, Cl)]) R ⟨h, g, d, tk, os₀⟩
  | 0 => by
    intro b1 G i v tds ea ds h tk hl hzr hn hz hm D z
    refine code_start ?_
    refine sg2L 1000 [.s 0, .e, .s 0] [] G o.hd D ?_; intro fh1 oh1; refine ⟨by kernel_rfl, fun h1 tk1 D1 => ?_⟩
    refine u_rstop D1 0 (it := it) (i := (i : Int)) (by kernel_rfl) o.hd (by kernel_rfl) (by kernel_rfl) (by kernel_rfl) fun h2 E E0 D2 => ?_
    refine sg2L 1000 [.s 0] [false, false, false] G o.hd D2 ?_; intro fh3 oh3; refine ⟨by kernel_rfl, fun h3 tk3 D3 => ?_⟩
    exact end_done (f := .next) (by kernel_rfl) (by kernel_rfl) (z h3 tk3 tds ea v (fun y => y.elim (fun y => absurd y (Nat.lt_irrefl 0)) id) (by have e : some [] = some ds := hm; injection e with e; rw [← e, List.append_nil]) (D3.eq (by kernel_rfl)))
  | n + 1 => by
    intro b1 G i v tds ea ds h tk hl hzr hn hz hm D z
    obtain ⟨ds0, ds1, hd0, hd1, rfl⟩ := duesM_succ hm
    refine code_start ?_
    refine sg2L 1000 [.s 0, .e, .s 0] [] G o.hd D ?_; intro fh1 oh1; refine ⟨by kernel_rfl, fun h1 tk1 D1 => ?_⟩
    refine u_rnext D1 0 (it := it) (i := (i : Int)) (n := n) (by kernel_rfl) (by kernel_rfl) (by kernel_rfl) fun h2 D2 => ?_
    rcases v with _ | ⟨q, v⟩
    · all_goals
      refine sg2L 1000 [.s 2, .s 2, .t, .s 3, .s 2, .s 4, .t] [] G o.hd D2 ?_; intro fh3 oh3; refine ⟨by kernel_rfl, fun h3 tk3 D3 => ?_⟩
      refine use_call (c' := .call (.ref 165) ⟨[.ref To, .int (i : Int) tk1, .ref Rn], []⟩) (hd := none) (by kernel_rfl) rfl ?_
      let S4 : List Cells := [[(it, rgO ((i : Int) + 1) n)], [(acc, listO ⟨tds.map rdV⟩ ea)], [(sc, dictO (scE s_k (some ((hS w₀.params s_k, tk1 + 1), .int (i : Int) tk1))) 1)], [(Cl, cellO (.ref To))], [(Cr, cellO (.ref Rn))], [(To, listO ⟨os.map iv⟩ eo)], [(Rn, listO ⟨rds.map rdV⟩ en)], dcells rds, dcells tds, ρ]; have D4 : Rep h₀ h3 F (cat S4) := D3.eq (by kernel_rfl)
      have D5 := Rep.shuf _ [9, 9, 6, 6, 6, 6, 6, 9, 9, 9] D4
      refine c165 (To := To) (Rn := Rn) (os := os) (rds := rds) (eo := eo) (en := en) (k := (i : Int)) (kt := tk1) (ds := ds0) (ρ := cat [[(it, rgO ((i : Int) + 1) n)], [(acc, listO ⟨tds.map rdV⟩ ea)], [(sc, dictO (scE s_k (some ((hS w₀.params s_k, tk1 + 1), .int (i : Int) tk1))) 1)], [(Cl, cellO (.ref To))], [(Cr, cellO (.ref Rn))], dcells tds, ρ]) G (o.call (by kernel_rfl) (by kernel_rfl)) (un.call (by kernel_rfl)) hl hzr (by omega) (by omega) (by rw [Int.toNat_natCast]; exact hd0) D5 ?_
      intro h6 tk6 T ts hts D6
      let S7 : List Cells := [[(T, listO ⟨ts.map iv⟩ 0)], [(To, listO ⟨os.map iv⟩ eo)], [(Rn, listO ⟨rds.map rdV⟩ en)], dcells rds, [(it, rgO ((i : Int) + 1) n)], [(acc, listO ⟨tds.map rdV⟩ ea)], [(sc, dictO (scE s_k (some ((hS w₀.params s_k, tk1 + 1), .int (i : Int) tk1))) 1)], [(Cl, cellO (.ref To))], [(Cr, cellO (.ref Rn))], dcells tds, ρ]; have D7 := Rep.shuf S7 [10, 1, 10, 5, 5, 5, 10, 10, 10, 10, 10] D6
      refine sg2L 1000 [.e, .s 1] [] G o.hd D7 ?_; intro fh8 oh8; refine ⟨by kernel_rfl, fun h8 tk8 D8 => ?_⟩
      refine u_append D8 1 (l := acc) (items := ⟨tds.map rdV⟩) (n := ea) (v := .ref T) (by kernel_rfl) (line_of (n := tds.length) (by omega) (by simp)) (by kernel_rfl) (by kernel_rfl) fun h9 D9 => ?_
      refine sg2L 1000 [] [] G o.hd D9 ?_; intro fh10 oh10; refine ⟨by kernel_rfl, fun h10 tk10 D10 => ?_⟩
      refine end_again (c' := compC (gdW G).params 170 (e170d (gdW G).params) it acc sc L [(s_rounds, Cr), (s_octets, Cl)]) (by kernel_rfl) (by kernel_rfl) (by kernel_rfl) ?_
      refine l170d (it := it) (acc := acc) (sc := sc) (Cl := Cl) (Cr := Cr) (To := To) (Rn := Rn) (L := L) (os := os) (rds := rds) (eo := eo) (en := en) o un n _ G (i + 1) (some ((hS w₀.params s_k, tk1 + 1), .int (i : Int) tk1)) (tds ++ [⟨T, ts, 0⟩]) ea.succ ds1 h10 tk10 hl hzr (by omega) (by rw [List.length_append, List.length_singleton]; omega) hd1 ?_ ?_
      · rw [rdV_snoc, dcells_snoc]
        exact D10.eq (by kernel_rfl)
      · intro h' tk' tds' ea' v' hv' hy D'
        refine z h' tk' tds' ea' v' (fun _ => hv' (.inr rfl)) ?_ D'
        rw [hy, List.map_append, List.append_assoc]
        congr 1
        show [ts.map (·.1)] ++ _ = _
        rw [hts]; rfl
    · all_goals
      refine sg2L 1000 [.s 2, .s 2, .t, .s 3, .s 2, .s 4, .t] [] G o.hd D2 ?_; intro fh3 oh3; refine ⟨by kernel_rfl, fun h3 tk3 D3 => ?_⟩
      refine use_call (c' := .call (.ref 165) ⟨[.ref To, .int (i : Int) tk1, .ref Rn], []⟩) (hd := none) (by kernel_rfl) rfl ?_
      let S4 : List Cells := [[(it, rgO ((i : Int) + 1) n)], [(acc, listO ⟨tds.map rdV⟩ ea)], [(sc, dictO (scE s_k (some (q, .int (i : Int) tk1))) 1)], [(Cl, cellO (.ref To))], [(Cr, cellO (.ref Rn))], [(To, listO ⟨os.map iv⟩ eo)], [(Rn, listO ⟨rds.map rdV⟩ en)], dcells rds, dcells tds, ρ]; have D4 : Rep h₀ h3 F (cat S4) := D3.eq (by kernel_rfl)
      have D5 := Rep.shuf _ [9, 9, 6, 6, 6, 6, 6, 9, 9, 9] D4
      refine c165 (To := To) (Rn := Rn) (os := os) (rds := rds) (eo := eo) (en := en) (k := (i : Int)) (kt := tk1) (ds := ds0) (ρ := cat [[(it, rgO ((i : Int) + 1) n)], [(acc, listO ⟨tds.map rdV⟩ ea)], [(sc, dictO (scE s_k (some (q, .int (i : Int) tk1))) 1)], [(Cl, cellO (.ref To))], [(Cr, cellO (.ref Rn))], dcells tds, ρ]) G (o.call (by kernel_rfl) (by kernel_rfl)) (un.call (by kernel_rfl)) hl hzr (by omega) (by omega) (by rw [Int.toNat_natCast]; exact hd0) D5 ?_
      intro h6 tk6 T ts hts D6
      let S7 : List Cells := [[(T, listO ⟨ts.map iv⟩ 0)], [(To, listO ⟨os.map iv⟩ eo)], [(Rn, listO ⟨rds.map rdV⟩ en)], dcells rds, [(it, rgO ((i : Int) + 1) n)], [(acc, listO ⟨tds.map rdV⟩ ea)], [(sc, dictO (scE s_k (some (q, .int (i : Int) tk1))) 1)], [(Cl, cellO (.ref To))], [(Cr, cellO (.ref Rn))], dcells tds, ρ]; have D7 := Rep.shuf S7 [10, 1, 10, 5, 5, 5, 10, 10, 10, 10, 10] D6
      refine sg2L 1000 [.e, .s 1] [] G o.hd D7 ?_; intro fh8 oh8; refine ⟨by kernel_rfl, fun h8 tk8 D8 => ?_⟩
      refine u_append D8 1 (l := acc) (items := ⟨tds.map rdV⟩) (n := ea) (v := .ref T) (by kernel_rfl) (line_of (n := tds.length) (by omega) (by simp)) (by kernel_rfl) (by kernel_rfl) fun h9 D9 => ?_
      refine sg2L 1000 [] [] G o.hd D9 ?_; intro fh10 oh10; refine ⟨by kernel_rfl, fun h10 tk10 D10 => ?_⟩
      refine end_again (c' := compC (gdW G).params 170 (e170d (gdW G).params) it acc sc L [(s_rounds, Cr), (s_octets, Cl)]) (by kernel_rfl) (by kernel_rfl) (by kernel_rfl) ?_
      refine l170d (it := it) (acc := acc) (sc := sc) (Cl := Cl) (Cr := Cr) (To := To) (Rn := Rn) (L := L) (os := os) (rds := rds) (eo := eo) (en := en) o un n _ G (i + 1) (some (q, .int (i : Int) tk1)) (tds ++ [⟨T, ts, 0⟩]) ea.succ ds1 h10 tk10 hl hzr (by omega) (by rw [List.length_append, List.length_singleton]; omega) hd1 ?_ ?_
      · rw [rdV_snoc, dcells_snoc]
        exact D10.eq (by kernel_rfl)
      · intro h' tk' tds' ea' v' hv' hy D'
        refine z h' tk' tds' ea' v' (fun _ => hv' (.inr rfl)) ?_ D'
        rw [hy, List.map_append, List.append_assoc]
        congr 1
        show [ts.map (·.1)] ++ _ = _
        rw [hts]; rfl
theorem s170d {it acc sc Cl Cr To Rn L : Addr} {os : List IT} {rds : List Rd} {eo en n : Nat} {ds : List (List Int)} (G : Gd (wF b1 b2 b3 w₀) h₀) (o : Ok A 8) (un : Un A 20) (hl : os.length ≤ 90) (hzr : rds.length ≤ 900) (hn : n ≤ os.length + 1) (hm : duesM (os.map (·.1)) (rds.map Rd.p) 0 n = some ds)
    (D : Rep h₀ h F ((it, rgO 0 n) :: (acc, listO #[] 0) :: (sc, dictO #[] 0) :: (Cl, cellO (.ref To)) :: (Cr, cellO (.ref Rn)) :: (To, listO ⟨os.map iv⟩ eo) :: (Rn, listO ⟨rds.map rdV⟩ en) :: (dcells rds ++ ρ)))
    (z : ∀ h' tk' (tds' : List Rd) ea' v', (0 < n ∨ (none : Option (Q2 × Value)).isSome = true → v'.isSome = true) → tds'.map Rd.p = ds → Rep h₀ h' F ((acc, listO ⟨tds'.map rdV⟩ ea') :: (sc, dictO (scE s_k v') (scN v')) :: (Cl, cellO (.ref To)) :: (Cr, cellO (.ref Rn)) :: (To, listO ⟨os.map iv⟩ eo) :: (Rn, listO ⟨rds.map rdV⟩ en) :: (dcells rds ++ (dcells tds' ++ ρ))) → R (.ok .next) ⟨h', g, d, tk', os₀⟩) :
    codeAny (model prog (wF b1 b2 b3 w₀)) A (compS (wF b1 b2 b3 w₀).params 170 (e170d (wF b1 b2 b3 w₀).params) it acc sc L [(s_rounds, Cr), (s_octets, Cl)]) R ⟨h, g, d, tk, os₀⟩ := by
  refine code_start ?_
  cases b2
  · all_goals
      refine sg2L 1000 [.s 0, .s 0, .e, .s 0, .e, .s 0] [] G o.hd D ?_; intro fh5 oh5; refine ⟨by kernel_rfl, fun h5 tk5 D5 => ?_⟩
      refine end_again (c' := compC (gdW G).params 170 (e170d (gdW G).params) it acc sc L [(s_rounds, Cr), (s_octets, Cl)]) (by kernel_rfl) (by kernel_rfl) (by kernel_rfl) ?_
      exact l170d (it := it) (acc := acc) (sc := sc) (Cl := Cl) (Cr := Cr) (To := To) (Rn := Rn) (L := L) (os := os) (rds := rds) (eo := eo) (en := en) o un n _ G 0 none [] 0 ds h5 tk5 hl hzr (by omega) (by simp only [List.length_nil]; omega) hm (D5.eq (by kernel_rfl)) z
  · all_goals
      refine sg2L 1000 [] [] G o.hd D ?_; intro fh5 oh5; refine ⟨by kernel_rfl, fun h5 tk5 D5 => ?_⟩
      refine end_again (c' := compC (gdW G).params 170 (e170d (gdW G).params) it acc sc L [(s_rounds, Cr), (s_octets, Cl)]) (by kernel_rfl) (by kernel_rfl) (by kernel_rfl) ?_
      exact l170d (it := it) (acc := acc) (sc := sc) (Cl := Cl) (Cr := Cr) (To := To) (Rn := Rn) (L := L) (os := os) (rds := rds) (eo := eo) (en := en) o un n _ G 0 none [] 0 ds h5 tk5 hl hzr (by omega) (by simp only [List.length_nil]; omega) hm (D5.eq (by kernel_rfl)) z
end Mine
end
section
open PySem PySem.W PySem.W.X PyProof.Rows
set_option Elab.async false
set_option maxRecDepth 100000
set_option maxHeartbeats 1000000
namespace Mine
variable {prog : Program} {w : World} {w₀ : World} {b1 b2 b3 : Bool} {A : Around} {R : Result → Shared → Prop} {h₀ h : Heap} {F : List Addr} {ρ σ : Cells} {g : Array GenState} {d : Drawn} {tk : Nat} {os₀ : OsState}
noncomputable def e170b (P : Params) : Option Expr := valE (fstmt P 170 6)
noncomputable def e170o (P : Params) : Option Expr := match e170b P with
  | some (.ListComp (.Call _ [x] _ _) _ _ _) => some x
  | _ => none
/-- how many octets are without 64 -/
noncomputable def cz : List Int → Nat
  | [] => 0
  | x :: r => if x / 64 % 2 = 0 then cz r + 1 else cz r
theorem l170o {it acc sc T L : Addr} {e : Nat} (o : Ok A 2) : ∀ (rest : List IT) (b1 : Bool) (_ : Gd (wF b1 b2 b3 w₀) h₀) (dn : List IT) (v : Option (Q2 × Value)) (ys : List IT) (ey : Nat) (h : Heap) (tk : Nat),
    ys.length + rest.length ≤ 1000 →
    Rep h₀ h F ((it, itO "list_iterator" (.ref T) dn.length) :: (acc, listO ⟨ys.map iv⟩ ey) :: (sc, dictO (scE s_one v) (scN v)) :: (T, listO ⟨(dn ++ rest).map iv⟩ e) :: ρ) →
    (∀ h' tk' (ys' : List IT) ey' v', ys'.length = ys.length + cz (rest.map (·.1)) → Rep h₀ h' F ((acc, listO ⟨ys'.map iv⟩ ey') :: (sc, dictO (scE s_one v') (scN v')) :: (T, listO ⟨(dn ++ rest).map iv⟩ e) :: ρ) → R (.ok .next) ⟨h', g, d, tk', os₀⟩) →
    codeAny (model prog (wF b1 b2 b3 w₀)) A (compC (wF b1 b2 b3 w₀).params 170 (e170o (wF b1 b2 b3 w₀).params) it acc sc L []) R ⟨h, g, d, tk, os₀⟩
  | [] => by
    intro b1 G dn v ys ey h tk hz D z
    refine code_start ?_
    refine sg2L 1000 [.s 0, .e, .s 0] [] G o.hd D ?_; intro fh1 oh1; refine ⟨by kernel_rfl, fun h1 tk1 D1 => ?_⟩
    have hat : (⟨(dn ++ []).map iv⟩ : Array Value)[dn.length]? = none := by rw [List.append_nil]; exact getElem_end dn
    refine u_lstop D1 0 (it := it) (T := T) (items := ⟨(dn ++ []).map iv⟩) (n := e) (i := dn.length) (by kernel_rfl) 3 (by kernel_rfl) hat o.hd (by kernel_rfl) (by kernel_rfl) (by kernel_rfl) fun h2 E E0 D2 => ?_
    refine sg2L 1000 [.s 0] [false, false, false] G o.hd D2 ?_; intro fh3 oh3; refine ⟨by kernel_rfl, fun h3 tk3 D3 => ?_⟩
    exact end_done (f := .next) (by kernel_rfl) (by kernel_rfl) (z h3 tk3 ys ey v (by simp [cz]) (D3.eq (by kernel_rfl)))
  | x :: rest => by
    intro b1 G dn v ys ey h tk hz D z
    simp only [List.length_cons] at hz
    refine code_start ?_
    refine sg2L 1000 [.s 0, .e, .s 0] [] G o.hd D ?_; intro fh1 oh1; refine ⟨by kernel_rfl, fun h1 tk1 D1 => ?_⟩
    refine u_lnext D1 0 (it := it) (T := T) (items := ⟨(dn ++ x :: rest).map iv⟩) (n := e) (i := dn.length) (v := iv x) (by kernel_rfl) 3 (by kernel_rfl) (getElem_mid dn rest x) (by kernel_rfl) (by kernel_rfl) fun h2 D2 => ?_
    rcases v with _ | ⟨q, v⟩
    · all_goals
      refine sg2L 1000 [.s 2, .s 2, .s 2] [] G o.hd D2 ?_; intro fh3 oh3; refine ⟨by kernel_rfl, fun h3 tk3 D3 => ?_⟩
      refine u_fdiv (a := x.1) (ta := x.2) (b := 64) (tb := tk1 + 1) (by kernel_rfl) (by decide) (by decide) ?_
      rw [fdiv64]
      refine sg2L 1000 [] [] G o.hd D3 ?_; intro fh5 oh5; refine ⟨by kernel_rfl, fun h5 tk5 D5 => ?_⟩
      refine u_mod (a := x.1 / 64) (ta := tk3) (b := 2) (tb := tk3 + 1) (by kernel_rfl) (by decide) ?_
      rw [fmod2]
      refine sg2L 1000 [.e] [] G o.hd D5 ?_; intro fh6 oh6; refine ⟨by kernel_rfl, fun h6 tk6 D6 => ?_⟩
      refine use_again (c' := .builtin "int.__eq__" ⟨[.int (x.1 / 64 % 2) tk5, .int 0 (tk5 + 1)], []⟩) (by kernel_rfl) (by kernel_rfl) (by kernel_rfl) ?_
      refine c_eq G (by rw [arnd_hnd, o.hd]; kernel_rfl) D6 ?_
      intro h7 tk7 D7
      by_cases h0 : x.1 / 64 % 2 = 0
      · rw [decide_eq_true h0]
        refine sg2L 1000 [.s 2, .e, .s 1] [] G o.hd D7 ?_; intro fh8 oh8; refine ⟨by kernel_rfl, fun h8 tk8 D8 => ?_⟩
        refine u_append D8 1 (l := acc) (items := ⟨ys.map iv⟩) (n := ey) (v := iv x) (by kernel_rfl) (line_of (n := ys.length) (by omega) (by simp)) (by kernel_rfl) (by kernel_rfl) fun h9 D9 => ?_
        refine sg2L 1000 [] [] G o.hd D9 ?_; intro fh10 oh10; refine ⟨by kernel_rfl, fun h10 tk10 D10 => ?_⟩
        refine end_again (c' := compC (gdW G).params 170 (e170o (gdW G).params) it acc sc L []) (by kernel_rfl) (by kernel_rfl) (by kernel_rfl) ?_
        refine l170o (it := it) (acc := acc) (sc := sc) (T := T) (L := L) (e := e) o rest _ G (dn ++ [x]) (some ((hS w₀.params s_one, tk1), iv x)) (ys ++ [x]) (ey + 1) h10 tk10 (by rw [List.length_append, List.length_singleton]; omega) ?_ ?_
        · rw [List.append_assoc, List.length_append, iv_snoc]
          exact D10.eq (by kernel_rfl)
        · intro h' tk' ys' ey' v' hy D'
          rw [List.append_assoc] at D'
          refine z h' tk' ys' ey' v' ?_ D'
          rw [hy, List.map_cons, cz, if_pos h0, List.length_append, List.length_singleton]; omega
      · rw [decide_eq_false h0]
        refine sg2L 1000 [] [] G o.hd D7 ?_; intro fh10 oh10; refine ⟨by kernel_rfl, fun h10 tk10 D10 => ?_⟩
        refine end_again (c' := compC (gdW G).params 170 (e170o (gdW G).params) it acc sc L []) (by kernel_rfl) (by kernel_rfl) (by kernel_rfl) ?_
        refine l170o (it := it) (acc := acc) (sc := sc) (T := T) (L := L) (e := e) o rest _ G (dn ++ [x]) (some ((hS w₀.params s_one, tk1), iv x)) ys ey h10 tk10 (by omega) ?_ ?_
        · rw [List.append_assoc, List.length_append]
          exact D10.eq (by kernel_rfl)
        · intro h' tk' ys' ey' v' hy D'
          rw [List.append_assoc] at D'
          refine z h' tk' ys' ey' v' ?_ D'
          rw [hy, List.map_cons, cz, if_neg h0]
    · all_goals
      refine sg2L 1000 [.s 2, .s 2, .s 2] [] G o.hd D2 ?_; intro fh3 oh3; refine ⟨by kernel_rfl, fun h3 tk3 D3 => ?_⟩
      refine u_fdiv (a := x.1) (ta := x.2) (b := 64) (tb := tk1 + 1) (by kernel_rfl) (by decide) (by decide) ?_
      rw [fdiv64]
      refine sg2L 1000 [] [] G o.hd D3 ?_; intro fh5 oh5; refine ⟨by kernel_rfl, fun h5 tk5 D5 => ?_⟩
      refine u_mod (a := x.1 / 64) (ta := tk3) (b := 2) (tb := tk3 + 1) (by kernel_rfl) (by decide) ?_
      rw [fmod2]
      refine sg2L 1000 [.e] [] G o.hd D5 ?_; intro fh6 oh6; refine ⟨by kernel_rfl, fun h6 tk6 D6 => ?_⟩
      refine use_again (c' := .builtin "int.__eq__" ⟨[.int (x.1 / 64 % 2) tk5, .int 0 (tk5 + 1)], []⟩) (by kernel_rfl) (by kernel_rfl) (by kernel_rfl) ?_
      refine c_eq G (by rw [arnd_hnd, o.hd]; kernel_rfl) D6 ?_
      intro h7 tk7 D7
      by_cases h0 : x.1 / 64 % 2 = 0
      · rw [decide_eq_true h0]
        refine sg2L 1000 [.s 2, .e, .s 1] [] G o.hd D7 ?_; intro fh8 oh8; refine ⟨by kernel_rfl, fun h8 tk8 D8 => ?_⟩
        refine u_append D8 1 (l := acc) (items := ⟨ys.map iv⟩) (n := ey) (v := iv x) (by kernel_rfl) (line_of (n := ys.length) (by omega) (by simp)) (by kernel_rfl) (by kernel_rfl) fun h9 D9 => ?_
        refine sg2L 1000 [] [] G o.hd D9 ?_; intro fh10 oh10; refine ⟨by kernel_rfl, fun h10 tk10 D10 => ?_⟩
        refine end_again (c' := compC (gdW G).params 170 (e170o (gdW G).params) it acc sc L []) (by kernel_rfl) (by kernel_rfl) (by kernel_rfl) ?_
        refine l170o (it := it) (acc := acc) (sc := sc) (T := T) (L := L) (e := e) o rest _ G (dn ++ [x]) (some (q, iv x)) (ys ++ [x]) (ey + 1) h10 tk10 (by rw [List.length_append, List.length_singleton]; omega) ?_ ?_
        · rw [List.append_assoc, List.length_append, iv_snoc]
          exact D10.eq (by kernel_rfl)
        · intro h' tk' ys' ey' v' hy D'
          rw [List.append_assoc] at D'
          refine z h' tk' ys' ey' v' ?_ D'
          rw [hy, List.map_cons, cz, if_pos h0, List.length_append, List.length_singleton]; omega
      · rw [decide_eq_false h0]
        refine sg2L 1000 [] [] G o.hd D7 ?_; intro fh10 oh10; refine ⟨by kernel_rfl, fun h10 tk10 D10 => ?_⟩
        refine end_again (c' := compC (gdW G).params 170 (e170o (gdW G).params) it acc sc L []) (by kernel_rfl) (by kernel_rfl) (by kernel_rfl) ?_
        refine l170o (it := it) (acc := acc) (sc := sc) (T := T) (L := L) (e := e) o rest _ G (dn ++ [x]) (some (q, iv x)) ys ey h10 tk10 (by omega) ?_ ?_
        · rw [List.append_assoc, List.length_append]
          exact D10.eq (by kernel_rfl)
        · intro h' tk' ys' ey' v' hy D'
          rw [List.append_assoc] at D'
          refine z h' tk' ys' ey' v' ?_ D'
          rw [hy, List.map_cons, cz, if_neg h0]
theorem s170o {it acc sc T L : Addr} {e : Nat} {rest : List IT} (G : Gd (wF b1 b2 b3 w₀) h₀) (o : Ok A 2) (hz : rest.length ≤ 1000)
    (D : Rep h₀ h F ((it, itO "list_iterator" (.ref T) 0) :: (acc, listO #[] 0) :: (sc, dictO #[] 0) :: (T, listO ⟨rest.map iv⟩ e) :: ρ))
    (z : ∀ h' tk' (ys' : List IT) ey' v', ys'.length = cz (rest.map (·.1)) → Rep h₀ h' F ((acc, listO ⟨ys'.map iv⟩ ey') :: (sc, dictO (scE s_one v') (scN v')) :: (T, listO ⟨rest.map iv⟩ e) :: ρ) → R (.ok .next) ⟨h', g, d, tk', os₀⟩) :
    codeAny (model prog (wF b1 b2 b3 w₀)) A (compS (wF b1 b2 b3 w₀).params 170 (e170o (wF b1 b2 b3 w₀).params) it acc sc L []) R ⟨h, g, d, tk, os₀⟩ := by
  refine code_start ?_
  cases b2
  · all_goals
      refine sg2L 1000 [.s 0, .s 0, .e, .s 0, .e, .s 0] [] G o.hd D ?_; intro fh5 oh5; refine ⟨by kernel_rfl, fun h5 tk5 D5 => ?_⟩
      refine end_again (c' := compC (gdW G).params 170 (e170o (gdW G).params) it acc sc L []) (by kernel_rfl) (by kernel_rfl) (by kernel_rfl) ?_
      exact l170o (it := it) (acc := acc) (sc := sc) (T := T) (L := L) (e := e) o rest _ G [] none [] 0 h5 tk5 (by simpa using hz) (D5.eq (by kernel_rfl)) (by simpa using z)
  · all_goals
      refine sg2L 1000 [] [] G o.hd D ?_; intro fh5 oh5; refine ⟨by kernel_rfl, fun h5 tk5 D5 => ?_⟩
      refine end_again (c' := compC (gdW G).params 170 (e170o (gdW G).params) it acc sc L []) (by kernel_rfl) (by kernel_rfl) (by kernel_rfl) ?_
      exact l170o (it := it) (acc := acc) (sc := sc) (T := T) (L := L) (e := e) o rest _ G [] none [] 0 h5 tk5 (by simpa using hz) (D5.eq (by kernel_rfl)) (by simpa using z)
theorem cz_le : ∀ l : List Int, cz l ≤ l.length
  | [] => Nat.le_refl _
  | x :: r => by
    have := cz_le r
    unfold cz
    split <;> simp only [List.length_cons] <;> omega
noncomputable def behM (os : List Int) : Nat → Nat → List Int
  | _, 0 => []
  | i, n + 1 => (cz (os.drop i) : Int) :: behM os (i + 1) n
theorem l170b {it acc sc Cl To L : Addr} {os : List IT} {eo : Nat} (o : Ok A 4) : ∀ (n : Nat) (b1 : Bool) (_ : Gd (wF b1 b2 b3 w₀) h₀) (i : Nat) (v : Option (Q2 × Value)) (ys : List IT) (ey : Nat) (h : Heap) (tk : Nat),
    os.length ≤ 900 → ys.length + n ≤ 1000 →
    Rep h₀ h F ((it, rgO (i : Int) n) :: (acc, listO ⟨ys.map iv⟩ ey) :: (sc, dictO (scE s_k v) (scN v)) :: (Cl, cellO (.ref To)) :: (To, listO ⟨os.map iv⟩ eo) :: ρ) →
    (∀ h' tk' (ys' : List IT) ey' v', (0 < n ∨ v.isSome = true → v'.isSome = true) → ys'.map (·.1) = ys.map (·.1) ++ behM (os.map (·.1)) i n → Rep h₀ h' F ((acc, listO ⟨ys'.map iv⟩ ey') :: (sc, dictO (scE s_k v') (scN v')) :: (Cl, cellO (.ref To)) :: (To, listO ⟨os.map iv⟩ eo) :: ρ) → R (.ok .next) ⟨h', g, d, tk', os₀⟩) →
    codeAny (model prog (wF b1 b2 b3 w₀)) A (compC (wF b1 b2 b3 w₀).params 170 (e170b (wF b1 b2 b3 w₀).params) it acc sc L [(s_octets, Cl)]) R ⟨h, g, d, tk, os₀⟩
  | 0 => by
    intro b1 G i v ys ey h tk hl hz D z
    refine code_start ?_
    refine sg2L 1000 [.s 0, .e, .s 0] [] G o.hd D ?_; intro fh1 oh1; refine ⟨by kernel_rfl, fun h1 tk1 D1 => ?_⟩
    refine u_rstop D1 0 (it := it) (i := (i : Int)) (by kernel_rfl) o.hd (by kernel_rfl) (by kernel_rfl) (by kernel_rfl) fun h2 E E0 D2 => ?_
    refine sg2L 1000 [.s 0] [false, false, false] G o.hd D2 ?_; intro fh3 oh3; refine ⟨by kernel_rfl, fun h3 tk3 D3 => ?_⟩
    exact end_done (f := .next) (by kernel_rfl) (by kernel_rfl) (z h3 tk3 ys ey v (fun y => y.elim (fun y => absurd y (Nat.lt_irrefl 0)) id) (by simp [behM]) (D3.eq (by kernel_rfl)))
  | n + 1 => by
    intro b1 G i v ys ey h tk hl hz D z
    refine code_start ?_
    refine sg2L 1000 [.s 0, .e, .s 0] [] G o.hd D ?_; intro fh1 oh1; refine ⟨by kernel_rfl, fun h1 tk1 D1 => ?_⟩
    refine u_rnext D1 0 (it := it) (i := (i : Int)) (n := n) (by kernel_rfl) (by kernel_rfl) (by kernel_rfl) fun h2 D2 => ?_
    rcases v with _ | ⟨q, v⟩
    · all_goals
      refine sg2L 1000 [.s 2, .s 2, .t, .t, .s 3, .s 2, .s 5, .s 5, .s 5, .e, .s 5] [] G o.hd D2 ?_; intro fh3 oh3; refine ⟨by kernel_rfl, fun h3 tk3 D3 => ?_⟩
      refine u_lslice D3 5 (l := To) (sl := h2.objs.size) (items := ⟨os.map iv⟩) (n := eo) (vl := .int (i : Int) tk1) (vu := .none) (lo := some (i : Int)) (hi := none) (by kernel_rfl) 0 (by kernel_rfl) (.int (i : Int) tk1) .none (line_of (n := os.length) (by omega) (by simp)) (by kernel_rfl) (by kernel_rfl) fun h4 T D4 => ?_
      rw [pick_from (os.map iv) i, ← List.map_drop] at D4
      refine sg2L 1000 [.s 0, .s 0, .e, .s 0, .e, .s 0] [] G o.hd D4 ?_; intro fh5 oh5; refine ⟨by kernel_rfl, fun h5 tk5 D5 => ?_⟩
      refine use_call (c' := compS (gdW G).params 170 (e170o (gdW G).params) h4.objs.size (h4.objs.size + 1) (h4.objs.size + 2) L []) (hd := none) (by kernel_rfl) rfl ?_
      let S6 : List Cells := [[(h4.objs.size + 2, dictO #[] 0)], [(h4.objs.size + 1, listO #[] 0)], [(h4.objs.size, itO "list_iterator" (.ref T) 0)], [(T, listO ⟨(os.drop i).map iv⟩ 0)], [(h2.objs.size, sliceO (.int (i : Int) tk1) .none .none)], [(it, rgO ((i : Int) + 1) n)], [(acc, listO ⟨ys.map iv⟩ ey)], [(sc, dictO (scE s_k (some ((hS w₀.params s_k, tk1 + 1), .int (i : Int) tk1))) 1)], [(Cl, cellO (.ref To))], [(To, listO ⟨os.map iv⟩ eo)], ρ]; have D6 : Rep h₀ h5 F (cat S6) := D5.eq (by kernel_rfl)
      have D7 := Rep.shuf _ [10, 10, 10, 10, 10, 10, 10, 10, 8, 9, 10] D6
      refine s170o (it := h4.objs.size) (acc := h4.objs.size + 1) (sc := h4.objs.size + 2) (T := T) (L := L) (e := 0) (rest := os.drop i) G (o.call (by kernel_rfl) (by kernel_rfl)) (by rw [List.length_drop]; omega) D7 ?_
      intro h8 tk8 ws ew vw hws D8
      let S10 : List Cells := [[(h4.objs.size + 1, listO ⟨ws.map iv⟩ ew)], [(h4.objs.size + 2, dictO (scE s_one vw) (scN vw))], [(T, listO ⟨(os.drop i).map iv⟩ 0)], [(h2.objs.size, sliceO (.int (i : Int) tk1) .none .none)], [(it, rgO ((i : Int) + 1) n)], [(acc, listO ⟨ys.map iv⟩ ey)], [(sc, dictO (scE s_k (some ((hS w₀.params s_k, tk1 + 1), .int (i : Int) tk1))) 1)], [(Cl, cellO (.ref To))], [(To, listO ⟨os.map iv⟩ eo)], ρ]; have D10 := Rep.shuf S10 [9, 9, 9, 9, 9, 9, 9, 9, 8, 9] D8
      rcases vw with _ | ⟨wq, wv⟩
      · refine sg2L 1000 [.s 0, .e] [] G o.hd D10 ?_; intro fh11 oh11; refine ⟨by kernel_rfl, fun h11 tk11 D11 => ?_⟩
        refine use_again (c' := .builtin "len" ⟨[.ref (h4.objs.size + 1)], []⟩) (by kernel_rfl) (by kernel_rfl) (by kernel_rfl) ?_
        refine c_lenL D11 1 (l := h4.objs.size + 1) (items := ⟨ws.map iv⟩) (n := ew) (by kernel_rfl) (by rw [List.size_toArray, List.length_map, hws]; have := cz_le ((os.drop i).map (·.1)); rw [List.length_map, List.length_drop] at this; omega) ?_
        rw [show (⟨ws.map iv⟩ : Array Value).size = cz ((os.drop i).map (·.1)) from by rw [List.size_toArray, List.length_map, hws]]
        refine sg2L 1000 [.e, .s 5] [] G o.hd D11 ?_; intro fh12 oh12; refine ⟨by kernel_rfl, fun h12 tk12 D12 => ?_⟩
        refine u_append D12 5 (l := acc) (items := ⟨ys.map iv⟩) (n := ey) (v := iv ((cz ((os.drop i).map (·.1)) : Int), tk11 + 1)) (by kernel_rfl) (line_of (n := ys.length) (by omega) (by simp)) (by kernel_rfl) (by kernel_rfl) fun h13 D13 => ?_
        refine sg2L 1000 [] [false, false, false, false] G o.hd D13 ?_; intro fh14 oh14; refine ⟨by kernel_rfl, fun h14 tk14 D14 => ?_⟩
        refine end_again (c' := compC (gdW G).params 170 (e170b (gdW G).params) it acc sc L [(s_octets, Cl)]) (by kernel_rfl) (by kernel_rfl) (by kernel_rfl) ?_
        refine l170b (it := it) (acc := acc) (sc := sc) (Cl := Cl) (To := To) (L := L) (os := os) (eo := eo) o n _ G (i + 1) (some ((hS w₀.params s_k, tk1 + 1), .int (i : Int) tk1)) (ys ++ [((cz ((os.drop i).map (·.1)) : Int), tk11 + 1)]) (ey + 1) h14 tk14 hl (by rw [List.length_append, List.length_singleton]; omega) ?_ ?_
        · rw [iv_snoc]
          exact D14.eq (by kernel_rfl)
        · intro h' tk' ys' ey' v' hv' hy D'
          refine z h' tk' ys' ey' v' (fun _ => hv' (.inr rfl)) ?_ D'
          rw [hy, behM, List.map_append, List.append_assoc, ← List.map_drop]
          rfl
      · refine sg2L 1000 [.s 0, .s 0, .s 0, .e] [] G o.hd D10 ?_; intro fh11 oh11; refine ⟨by kernel_rfl, fun h11 tk11 D11 => ?_⟩
        refine use_again (c' := .builtin "len" ⟨[.ref (h4.objs.size + 1)], []⟩) (by kernel_rfl) (by kernel_rfl) (by kernel_rfl) ?_
        refine c_lenL D11 1 (l := h4.objs.size + 1) (items := ⟨ws.map iv⟩) (n := ew) (by kernel_rfl) (by rw [List.size_toArray, List.length_map, hws]; have := cz_le ((os.drop i).map (·.1)); rw [List.length_map, List.length_drop] at this; omega) ?_
        rw [show (⟨ws.map iv⟩ : Array Value).size = cz ((os.drop i).map (·.1)) from by rw [List.size_toArray, List.length_map, hws]]
        refine sg2L 1000 [.e, .s 5] [] G o.hd D11 ?_; intro fh12 oh12; refine ⟨by kernel_rfl, fun h12 tk12 D12 => ?_⟩
        refine u_append D12 5 (l := acc) (items := ⟨ys.map iv⟩) (n := ey) (v := iv ((cz ((os.drop i).map (·.1)) : Int), tk11 + 1)) (by kernel_rfl) (line_of (n := ys.length) (by omega) (by simp)) (by kernel_rfl) (by kernel_rfl) fun h13 D13 => ?_
        refine sg2L 1000 [] [false, false, false, false] G o.hd D13 ?_; intro fh14 oh14; refine ⟨by kernel_rfl, fun h14 tk14 D14 => ?_⟩
        refine end_again (c' := compC (gdW G).params 170 (e170b (gdW G).params) it acc sc L [(s_octets, Cl)]) (by kernel_rfl) (by kernel_rfl) (by kernel_rfl) ?_
        refine l170b (it := it) (acc := acc) (sc := sc) (Cl := Cl) (To := To) (L := L) (os := os) (eo := eo) o n _ G (i + 1) (some ((hS w₀.params s_k, tk1 + 1), .int (i : Int) tk1)) (ys ++ [((cz ((os.drop i).map (·.1)) : Int), tk11 + 1)]) (ey + 1) h14 tk14 hl (by rw [List.length_append, List.length_singleton]; omega) ?_ ?_
        · rw [iv_snoc]
          exact D14.eq (by kernel_rfl)
        · intro h' tk' ys' ey' v' hv' hy D'
          refine z h' tk' ys' ey' v' (fun _ => hv' (.inr rfl)) ?_ D'
          rw [hy, behM, List.map_append, List.append_assoc, ← List.map_drop]
          rfl
    · all_goals
      refine sg2L 1000 [.s 2, .s 2, .t, .t, .s 3, .s 2, .s 5, .s 5, .s 5, .e, .s 5] [] G o.hd D2 ?_; intro fh3 oh3; refine ⟨by kernel_rfl, fun h3 tk3 D3 => ?_⟩
      refine u_lslice D3 5 (l := To) (sl := h2.objs.size) (items := ⟨os.map iv⟩) (n := eo) (vl := .int (i : Int) tk1) (vu := .none) (lo := some (i : Int)) (hi := none) (by kernel_rfl) 0 (by kernel_rfl) (.int (i : Int) tk1) .none (line_of (n := os.length) (by omega) (by simp)) (by kernel_rfl) (by kernel_rfl) fun h4 T D4 => ?_
      rw [pick_from (os.map iv) i, ← List.map_drop] at D4
      refine sg2L 1000 [.s 0, .s 0, .e, .s 0, .e, .s 0] [] G o.hd D4 ?_; intro fh5 oh5; refine ⟨by kernel_rfl, fun h5 tk5 D5 => ?_⟩
      refine use_call (c' := compS (gdW G).params 170 (e170o (gdW G).params) h4.objs.size (h4.objs.size + 1) (h4.objs.size + 2) L []) (hd := none) (by kernel_rfl) rfl ?_
      let S6 : List Cells := [[(h4.objs.size + 2, dictO #[] 0)], [(h4.objs.size + 1, listO #[] 0)], [(h4.objs.size, itO "list_iterator" (.ref T) 0)], [(T, listO ⟨(os.drop i).map iv⟩ 0)], [(h2.objs.size, sliceO (.int (i : Int) tk1) .none .none)], [(it, rgO ((i : Int) + 1) n)], [(acc, listO ⟨ys.map iv⟩ ey)], [(sc, dictO (scE s_k (some (q, .int (i : Int) tk1))) 1)], [(Cl, cellO (.ref To))], [(To, listO ⟨os.map iv⟩ eo)], ρ]; have D6 : Rep h₀ h5 F (cat S6) := D5.eq (by kernel_rfl)
      have D7 := Rep.shuf _ [10, 10, 10, 10, 10, 10, 10, 10, 8, 9, 10] D6
      refine s170o (it := h4.objs.size) (acc := h4.objs.size + 1) (sc := h4.objs.size + 2) (T := T) (L := L) (e := 0) (rest := os.drop i) G (o.call (by kernel_rfl) (by kernel_rfl)) (by rw [List.length_drop]; omega) D7 ?_
      intro h8 tk8 ws ew vw hws D8
      let S10 : List Cells := [[(h4.objs.size + 1, listO ⟨ws.map iv⟩ ew)], [(h4.objs.size + 2, dictO (scE s_one vw) (scN vw))], [(T, listO ⟨(os.drop i).map iv⟩ 0)], [(h2.objs.size, sliceO (.int (i : Int) tk1) .none .none)], [(it, rgO ((i : Int) + 1) n)], [(acc, listO ⟨ys.map iv⟩ ey)], [(sc, dictO (scE s_k (some (q, .int (i : Int) tk1))) 1)], [(Cl, cellO (.ref To))], [(To, listO ⟨os.map iv⟩ eo)], ρ]; have D10 := Rep.shuf S10 [9, 9, 9, 9, 9, 9, 9, 9, 8, 9] D8
      rcases vw with _ | ⟨wq, wv⟩
      · refine sg2L 1000 [.s 0, .e] [] G o.hd D10 ?_; intro fh11 oh11; refine ⟨by kernel_rfl, fun h11 tk11 D11 => ?_⟩
        refine use_again (c' := .builtin "len" ⟨[.ref (h4.objs.size + 1)], []⟩) (by kernel_rfl) (by kernel_rfl) (by kernel_rfl) ?_
        refine c_lenL D11 1 (l := h4.objs.size + 1) (items := ⟨ws.map iv⟩) (n := ew) (by kernel_rfl) (by rw [List.size_toArray, List.length_map, hws]; have := cz_le ((os.drop i).map (·.1)); rw [List.length_map, List.length_drop] at this; omega) ?_
        rw [show (⟨ws.map iv⟩ : Array Value).size = cz ((os.drop i).map (·.1)) from by rw [List.size_toArray, List.length_map, hws]]
        refine sg2L 1000 [.e, .s 5] [] G o.hd D11 ?_; intro fh12 oh12; refine ⟨by kernel_rfl, fun h12 tk12 D12 => ?_⟩
        refine u_append D12 5 (l := acc) (items := ⟨ys.map iv⟩) (n := ey) (v := iv ((cz ((os.drop i).map (·.1)) : Int), tk11 + 1)) (by kernel_rfl) (line_of (n := ys.length) (by omega) (by simp)) (by kernel_rfl) (by kernel_rfl) fun h13 D13 => ?_
        refine sg2L 1000 [] [false, false, false, false] G o.hd D13 ?_; intro fh14 oh14; refine ⟨by kernel_rfl, fun h14 tk14 D14 => ?_⟩
        refine end_again (c' := compC (gdW G).params 170 (e170b (gdW G).params) it acc sc L [(s_octets, Cl)]) (by kernel_rfl) (by kernel_rfl) (by kernel_rfl) ?_
        refine l170b (it := it) (acc := acc) (sc := sc) (Cl := Cl) (To := To) (L := L) (os := os) (eo := eo) o n _ G (i + 1) (some (q, .int (i : Int) tk1)) (ys ++ [((cz ((os.drop i).map (·.1)) : Int), tk11 + 1)]) (ey + 1) h14 tk14 hl (by rw [List.length_append, List.length_singleton]; omega) ?_ ?_
        · rw [iv_snoc]
          exact D14.eq (by kernel_rfl)
        · intro h' tk' ys' ey' v' hv' hy D'
          refine z h' tk' ys' ey' v' (fun _ => hv' (.inr rfl)) ?_ D'
          rw [hy, behM, List.map_append, List.append_assoc, ← List.map_drop]
          rfl
      · refine sg2L 1000 [.s 0, .s 0, .s 0, .e] [] G o.hd D10 ?_; intro fh11 oh11; refine ⟨by kernel_rfl, fun h11 tk11 D11 => ?_⟩
        refine use_again (c' := .builtin "len" ⟨[.ref (h4.objs.size + 1)], []⟩) (by kernel_rfl) (by kernel_rfl) (by kernel_rfl) ?_
        refine c_lenL D11 1 (l := h4.objs.size + 1) (items := ⟨ws.map iv⟩) (n := ew) (by kernel_rfl) (by rw [List.size_toArray, List.length_map, hws]; have := cz_le ((os.drop i).map (·.1)); rw [List.length_map, List.length_drop] at this; omega) ?_
        rw [show (⟨ws.map iv⟩ : Array Value).size = cz ((os.drop i).map (·.1)) from by rw [List.size_toArray, List.length_map, hws]]
        refine sg2L 1000 [.e, .s 5] [] G o.hd D11 ?_; intro fh12 oh12; refine ⟨by kernel_rfl, fun h12 tk12 D12 => ?_⟩
        refine u_append D12 5 (l := acc) (items := ⟨ys.map iv⟩) (n := ey) (v := iv ((cz ((os.drop i).map (·.1)) : Int), tk11 + 1)) (by kernel_rfl) (line_of (n := ys.length) (by omega) (by simp)) (by kernel_rfl) (by kernel_rfl) fun h13 D13 => ?_
        refine sg2L 1000 [] [false, false, false, false] G o.hd D13 ?_; intro fh14 oh14; refine ⟨by kernel_rfl, fun h14 tk14 D14 => ?_⟩
        refine end_again (c' := compC (gdW G).params 170 (e170b (gdW G).params) it acc sc L [(s_octets, Cl)]) (by kernel_rfl) (by kernel_rfl) (by kernel_rfl) ?_
        refine l170b (it := it) (acc := acc) (sc := sc) (Cl := Cl) (To := To) (L := L) (os := os) (eo := eo) o n _ G (i + 1) (some (q, .int (i : Int) tk1)) (ys ++ [((cz ((os.drop i).map (·.1)) : Int), tk11 + 1)]) (ey + 1) h14 tk14 hl (by rw [List.length_append, List.length_singleton]; omega) ?_ ?_
        · rw [iv_snoc]
          exact D14.eq (by kernel_rfl)
        · intro h' tk' ys' ey' v' hv' hy D'
          refine z h' tk' ys' ey' v' (fun _ => hv' (.inr rfl)) ?_ D'
          rw [hy, behM, List.map_append, List.append_assoc, ← List.map_drop]
          rfl
theorem s170b {it acc sc Cl To L : Addr} {os : List IT} {eo n : Nat} (G : Gd (wF b1 b2 b3 w₀) h₀) (o : Ok A 4) (hl : os.length ≤ 900) (hn : n ≤ 900)
    (D : Rep h₀ h F ((it, rgO 0 n) :: (acc, listO #[] 0) :: (sc, dictO #[] 0) :: (Cl, cellO (.ref To)) :: (To, listO ⟨os.map iv⟩ eo) :: ρ))
    (z : ∀ h' tk' (ys' : List IT) ey' v', (0 < n ∨ (none : Option (Q2 × Value)).isSome = true → v'.isSome = true) → ys'.map (·.1) = behM (os.map (·.1)) 0 n → Rep h₀ h' F ((acc, listO ⟨ys'.map iv⟩ ey') :: (sc, dictO (scE s_k v') (scN v')) :: (Cl, cellO (.ref To)) :: (To, listO ⟨os.map iv⟩ eo) :: ρ) → R (.ok .next) ⟨h', g, d, tk', os₀⟩) :
    codeAny (model prog (wF b1 b2 b3 w₀)) A (compS (wF b1 b2 b3 w₀).params 170 (e170b (wF b1 b2 b3 w₀).params) it acc sc L [(s_octets, Cl)]) R ⟨h, g, d, tk, os₀⟩ := by
  refine code_start ?_
  cases b2
  · all_goals
      refine sg2L 1000 [.s 0, .s 0, .e, .s 0, .e, .s 0] [] G o.hd D ?_; intro fh5 oh5; refine ⟨by kernel_rfl, fun h5 tk5 D5 => ?_⟩
      refine end_again (c' := compC (gdW G).params 170 (e170b (gdW G).params) it acc sc L [(s_octets, Cl)]) (by kernel_rfl) (by kernel_rfl) (by kernel_rfl) ?_
      exact l170b (it := it) (acc := acc) (sc := sc) (Cl := Cl) (To := To) (L := L) (os := os) (eo := eo) o n _ G 0 none [] 0 h5 tk5 hl (by simp only [List.length_nil]; omega) (D5.eq (by kernel_rfl)) z
  · all_goals
      refine sg2L 1000 [] [] G o.hd D ?_; intro fh5 oh5; refine ⟨by kernel_rfl, fun h5 tk5 D5 => ?_⟩
      refine end_again (c' := compC (gdW G).params 170 (e170b (gdW G).params) it acc sc L [(s_octets, Cl)]) (by kernel_rfl) (by kernel_rfl) (by kernel_rfl) ?_
      exact l170b (it := it) (acc := acc) (sc := sc) (Cl := Cl) (To := To) (L := L) (os := os) (eo := eo) o n _ G 0 none [] 0 h5 tk5 hl (by simp only [List.length_nil]; omega) (D5.eq (by kernel_rfl)) z
theorem c_gt {x y : Int} {t u : Tok} (G : Gd w h₀) (hA : A.handled = none) (D : Rep h₀ h F σ)
    (z : ∀ h' tk', Rep h₀ h' F σ → R (.ok (.ret (.bool (decide (y < x))))) ⟨h', g, d, tk', os₀⟩) :
    codeAny (model prog w) A (.builtin "int.__gt__" ⟨[.int x t, .int y u], []⟩) R ⟨h, g, d, tk, os₀⟩ := by
  refine code_start ?_
  refine sgL 100 [] [] G hA D ?_; intro oh1; refine ⟨by kernel_rfl, fun h1 tk1 D1 => ?_⟩
  refine end_done (f := .ret (.bool (@decide (y < x) (Z.ltZ y x)))) (by kernel_rfl) (by kernel_rfl) ?_
  rw [dec_lt]
  exact z _ _ (D1.eq (by kernel_rfl))
noncomputable def e170p (P : Params) : Option Expr := match fstmt P 170 7 with
  | some (.If (.Compare _ _ [x] _) _ _ _) => some x
  | _ => none
theorem l170p {it acc sc Cb Tb L : Addr} {bs : List IT} {eb : Nat} (o : Ok A 2) : ∀ (n : Nat) (b1 : Bool) (_ : Gd (wF b1 b2 b3 w₀) h₀) (i : Nat) (v : Option (Q2 × Value)) (ys : List IT) (ey : Nat) (h : Heap) (tk : Nat),
    i + n ≤ bs.length → bs.length ≤ 900 → ys.length + n ≤ 1000 →
    Rep h₀ h F ((it, rgO (i : Int) n) :: (acc, listO ⟨ys.map iv⟩ ey) :: (sc, dictO (scE s_k v) (scN v)) :: (Cb, cellO (.ref Tb)) :: (Tb, listO ⟨bs.map iv⟩ eb) :: ρ) →
    (∀ h' tk' (ys' : List IT) ey' v', (0 < n ∨ v.isSome = true → v'.isSome = true) → ys'.map (·.1) = ys.map (·.1) ++ flt (fun k => decide (0 < (bs.map (·.1)).getD k 0)) i n → Rep h₀ h' F ((acc, listO ⟨ys'.map iv⟩ ey') :: (sc, dictO (scE s_k v') (scN v')) :: (Cb, cellO (.ref Tb)) :: (Tb, listO ⟨bs.map iv⟩ eb) :: ρ) → R (.ok .next) ⟨h', g, d, tk', os₀⟩) →
    codeAny (model prog (wF b1 b2 b3 w₀)) A (compC (wF b1 b2 b3 w₀).params 170 (e170p (wF b1 b2 b3 w₀).params) it acc sc L [(s_behind, Cb)]) R ⟨h, g, d, tk, os₀⟩
  | 0 => by
    intro b1 G i v ys ey h tk hn hl hz D z
    refine code_start ?_
    refine sg2L 1000 [.s 0, .e, .s 0] [] G o.hd D ?_; intro fh1 oh1; refine ⟨by kernel_rfl, fun h1 tk1 D1 => ?_⟩
    refine u_rstop D1 0 (it := it) (i := (i : Int)) (by kernel_rfl) o.hd (by kernel_rfl) (by kernel_rfl) (by kernel_rfl) fun h2 E E0 D2 => ?_
    refine sg2L 1000 [.s 0] [false, false, false] G o.hd D2 ?_; intro fh3 oh3; refine ⟨by kernel_rfl, fun h3 tk3 D3 => ?_⟩
    exact end_done (f := .next) (by kernel_rfl) (by kernel_rfl) (z h3 tk3 ys ey v (fun y => y.elim (fun y => absurd y (Nat.lt_irrefl 0)) id) (by simp [flt]) (D3.eq (by kernel_rfl)))
  | n + 1 => by
    intro b1 G i v ys ey h tk hn hl hz D z
    have hi : i < bs.length := by omega
    refine code_start ?_
    refine sg2L 1000 [.s 0, .e, .s 0] [] G o.hd D ?_; intro fh1 oh1; refine ⟨by kernel_rfl, fun h1 tk1 D1 => ?_⟩
    refine u_rnext D1 0 (it := it) (i := (i : Int)) (n := n) (by kernel_rfl) (by kernel_rfl) (by kernel_rfl) fun h2 D2 => ?_
    rcases v with _ | ⟨q, v⟩
    · all_goals
      refine sg2L 1000 [.s 2, .s 2, .s 3, .s 2, .s 4, .s 4, .s 4, .e, .s 4] [] G o.hd D2 ?_; intro fh3 oh3; refine ⟨by kernel_rfl, fun h3 tk3 D3 => ?_⟩
      refine u_lget D3 4 (l := Tb) (items := ⟨bs.map iv⟩) (n := eb) (x := (i : Int)) (u := tk1) (y := iv bs[i]) (by kernel_rfl) (by omega) (by omega) (by rw [Int.toNat_natCast]; exact iv_at bs hi) (by kernel_rfl) (by kernel_rfl) ?_
      refine sg2L 1000 [.e] [] G o.hd D3 ?_; intro fh6 oh6; refine ⟨by kernel_rfl, fun h6 tk6 D6 => ?_⟩
      refine use_again (c' := .builtin "int.__gt__" ⟨[.int bs[i].1 bs[i].2, .int 0 tk3], []⟩) (by kernel_rfl) (by kernel_rfl) (by kernel_rfl) ?_
      refine c_gt G (by rw [arnd_hnd, o.hd]; kernel_rfl) D6 ?_
      intro h7 tk7 D7
      by_cases h0 : 0 < bs[i].1
      · rw [decide_eq_true h0]
        refine sg2L 1000 [.s 2, .e, .s 1] [] G o.hd D7 ?_; intro fh8 oh8; refine ⟨by kernel_rfl, fun h8 tk8 D8 => ?_⟩
        refine u_append D8 1 (l := acc) (items := ⟨ys.map iv⟩) (n := ey) (v := .int (i : Int) tk1) (by kernel_rfl) (line_of (n := ys.length) (by omega) (by simp)) (by kernel_rfl) (by kernel_rfl) fun h9 D9 => ?_
        refine sg2L 1000 [] [] G o.hd D9 ?_; intro fh10 oh10; refine ⟨by kernel_rfl, fun h10 tk10 D10 => ?_⟩
        refine end_again (c' := compC (gdW G).params 170 (e170p (gdW G).params) it acc sc L [(s_behind, Cb)]) (by kernel_rfl) (by kernel_rfl) (by kernel_rfl) ?_
        refine l170p (it := it) (acc := acc) (sc := sc) (Cb := Cb) (Tb := Tb) (L := L) (bs := bs) (eb := eb) o n _ G (i + 1) (some ((hS w₀.params s_k, tk1 + 1), .int (i : Int) tk1)) (ys ++ [((i : Int), tk1)]) (ey + 1) h10 tk10 (by omega) hl (by rw [List.length_append, List.length_singleton]; omega) ?_ ?_
        · rw [iv_snoc]
          exact D10.eq (by kernel_rfl)
        · intro h' tk' ys' ey' v' hv' hy D'
          refine z h' tk' ys' ey' v' (fun _ => hv' (.inr rfl)) ?_ D'
          rw [hy, flt, if_pos (by rw [getD_at bs hi]; exact decide_eq_true h0)]
          simp
      · rw [decide_eq_false h0]
        refine sg2L 1000 [] [] G o.hd D7 ?_; intro fh10 oh10; refine ⟨by kernel_rfl, fun h10 tk10 D10 => ?_⟩
        refine end_again (c' := compC (gdW G).params 170 (e170p (gdW G).params) it acc sc L [(s_behind, Cb)]) (by kernel_rfl) (by kernel_rfl) (by kernel_rfl) ?_
        refine l170p (it := it) (acc := acc) (sc := sc) (Cb := Cb) (Tb := Tb) (L := L) (bs := bs) (eb := eb) o n _ G (i + 1) (some ((hS w₀.params s_k, tk1 + 1), .int (i : Int) tk1)) ys ey h10 tk10 (by omega) hl (by omega) (D10.eq (by kernel_rfl)) ?_
        intro h' tk' ys' ey' v' hv' hy D'
        refine z h' tk' ys' ey' v' (fun _ => hv' (.inr rfl)) ?_ D'
        rw [hy, flt, if_neg (by rw [getD_at bs hi]; simpa using h0)]
    · all_goals
      refine sg2L 1000 [.s 2, .s 2, .s 3, .s 2, .s 4, .s 4, .s 4, .e, .s 4] [] G o.hd D2 ?_; intro fh3 oh3; refine ⟨by kernel_rfl, fun h3 tk3 D3 => ?_⟩
      refine u_lget D3 4 (l := Tb) (items := ⟨bs.map iv⟩) (n := eb) (x := (i : Int)) (u := tk1) (y := iv bs[i]) (by kernel_rfl) (by omega) (by omega) (by rw [Int.toNat_natCast]; exact iv_at bs hi) (by kernel_rfl) (by kernel_rfl) ?_
      refine sg2L 1000 [.e] [] G o.hd D3 ?_; intro fh6 oh6; refine ⟨by kernel_rfl, fun h6 tk6 D6 => ?_⟩
      refine use_again (c' := .builtin "int.__gt__" ⟨[.int bs[i].1 bs[i].2, .int 0 tk3], []⟩) (by kernel_rfl) (by kernel_rfl) (by kernel_rfl) ?_
      refine c_gt G (by rw [arnd_hnd, o.hd]; kernel_rfl) D6 ?_
      intro h7 tk7 D7
      by_cases h0 : 0 < bs[i].1
      · rw [decide_eq_true h0]
        refine sg2L 1000 [.s 2, .e, .s 1] [] G o.hd D7 ?_; intro fh8 oh8; refine ⟨by kernel_rfl, fun h8 tk8 D8 => ?_⟩
        refine u_append D8 1 (l := acc) (items := ⟨ys.map iv⟩) (n := ey) (v := .int (i : Int) tk1) (by kernel_rfl) (line_of (n := ys.length) (by omega) (by simp)) (by kernel_rfl) (by kernel_rfl) fun h9 D9 => ?_
        refine sg2L 1000 [] [] G o.hd D9 ?_; intro fh10 oh10; refine ⟨by kernel_rfl, fun h10 tk10 D10 => ?_⟩
        refine end_again (c' := compC (gdW G).params 170 (e170p (gdW G).params) it acc sc L [(s_behind, Cb)]) (by kernel_rfl) (by kernel_rfl) (by kernel_rfl) ?_
        refine l170p (it := it) (acc := acc) (sc := sc) (Cb := Cb) (Tb := Tb) (L := L) (bs := bs) (eb := eb) o n _ G (i + 1) (some (q, .int (i : Int) tk1)) (ys ++ [((i : Int), tk1)]) (ey + 1) h10 tk10 (by omega) hl (by rw [List.length_append, List.length_singleton]; omega) ?_ ?_
        · rw [iv_snoc]
          exact D10.eq (by kernel_rfl)
        · intro h' tk' ys' ey' v' hv' hy D'
          refine z h' tk' ys' ey' v' (fun _ => hv' (.inr rfl)) ?_ D'
          rw [hy, flt, if_pos (by rw [getD_at bs hi]; exact decide_eq_true h0)]
          simp
      · rw [decide_eq_false h0]
        refine sg2L 1000 [] [] G o.hd D7 ?_; intro fh10 oh10; refine ⟨by kernel_rfl, fun h10 tk10 D10 => ?_⟩
        refine end_again (c' := compC (gdW G).params 170 (e170p (gdW G).params) it acc sc L [(s_behind, Cb)]) (by kernel_rfl) (by kernel_rfl) (by kernel_rfl) ?_
        refine l170p (it := it) (acc := acc) (sc := sc) (Cb := Cb) (Tb := Tb) (L := L) (bs := bs) (eb := eb) o n _ G (i + 1) (some (q, .int (i : Int) tk1)) ys ey h10 tk10 (by omega) hl (by omega) (D10.eq (by kernel_rfl)) ?_
        intro h' tk' ys' ey' v' hv' hy D'
        refine z h' tk' ys' ey' v' (fun _ => hv' (.inr rfl)) ?_ D'
        rw [hy, flt, if_neg (by rw [getD_at bs hi]; simpa using h0)]
theorem s170p {it acc sc Cb Tb L : Addr} {bs : List IT} {eb n : Nat} (G : Gd (wF b1 b2 b3 w₀) h₀) (o : Ok A 2) (hn : n ≤ bs.length) (hl : bs.length ≤ 900)
    (D : Rep h₀ h F ((it, rgO 0 n) :: (acc, listO #[] 0) :: (sc, dictO #[] 0) :: (Cb, cellO (.ref Tb)) :: (Tb, listO ⟨bs.map iv⟩ eb) :: ρ))
    (z : ∀ h' tk' (ys' : List IT) ey' v', (0 < n ∨ (none : Option (Q2 × Value)).isSome = true → v'.isSome = true) → ys'.map (·.1) = flt (fun k => decide (0 < (bs.map (·.1)).getD k 0)) 0 n → Rep h₀ h' F ((acc, listO ⟨ys'.map iv⟩ ey') :: (sc, dictO (scE s_k v') (scN v')) :: (Cb, cellO (.ref Tb)) :: (Tb, listO ⟨bs.map iv⟩ eb) :: ρ) → R (.ok .next) ⟨h', g, d, tk', os₀⟩) :
    codeAny (model prog (wF b1 b2 b3 w₀)) A (compS (wF b1 b2 b3 w₀).params 170 (e170p (wF b1 b2 b3 w₀).params) it acc sc L [(s_behind, Cb)]) R ⟨h, g, d, tk, os₀⟩ := by
  refine code_start ?_
  cases b2
  · all_goals
      refine sg2L 1000 [.s 0, .s 0, .e, .s 0, .e, .s 0] [] G o.hd D ?_; intro fh5 oh5; refine ⟨by kernel_rfl, fun h5 tk5 D5 => ?_⟩
      refine end_again (c' := compC (gdW G).params 170 (e170p (gdW G).params) it acc sc L [(s_behind, Cb)]) (by kernel_rfl) (by kernel_rfl) (by kernel_rfl) ?_
      exact l170p (it := it) (acc := acc) (sc := sc) (Cb := Cb) (Tb := Tb) (L := L) (bs := bs) (eb := eb) o n _ G 0 none [] 0 h5 tk5 (by omega) hl (by simp only [List.length_nil]; omega) (D5.eq (by kernel_rfl)) z
  · all_goals
      refine sg2L 1000 [] [] G o.hd D ?_; intro fh5 oh5; refine ⟨by kernel_rfl, fun h5 tk5 D5 => ?_⟩
      refine end_again (c' := compC (gdW G).params 170 (e170p (gdW G).params) it acc sc L [(s_behind, Cb)]) (by kernel_rfl) (by kernel_rfl) (by kernel_rfl) ?_
      exact l170p (it := it) (acc := acc) (sc := sc) (Cb := Cb) (Tb := Tb) (L := L) (bs := bs) (eb := eb) o n _ G 0 none [] 0 h5 tk5 (by omega) hl (by simp only [List.length_nil]; omega) (D5.eq (by kernel_rfl)) z
end Mine
end
section
open PySem PySem.W PySem.W.X PyProof.Rows
set_option Elab.async false
set_option maxRecDepth 100000
set_option maxHeartbeats 1000000
namespace Mine
variable {prog : Program} {w : World} {w₀ : World} {b1 b2 b3 : Bool} {A : Around} {R : Result → Shared → Prop} {h₀ h : Heap} {F : List Addr} {ρ σ : Cells} {g : Array GenState} {d : Drawn} {tk : Nat} {os₀ : OsState}
noncomputable def e170f (P : Params) : Option Expr := match fstmt P 170 7 with
  | some (.If (.Compare (.Call _ [x] _ _) _ _ _) _ _ _) => some x
  | _ => none
noncomputable def compC1 (P : Params) (fn : Addr) (e : Option Expr) (it acc sc L : Addr) : Code := match e with
  | some (.ListComp elt gens s pos) => .compLoop (.ListComp elt gens s pos) 1 (.ref it) (.ref acc) (cenvOf P fn s sc L [])
  | _ => default
noncomputable def compS1 (P : Params) (fn : Addr) (e : Option Expr) (it acc sc L : Addr) : Code := match e with
  | some (.ListComp elt gens s pos) => .compStart (.ListComp elt gens s pos) 1 (.ref it) (.ref acc) (cenvOf P fn s sc L [])
  | _ => default
noncomputable def flatM : List (List Int) → List Int
  | [] => []
  | r :: rs => r ++ flatM rs
noncomputable def scK : Option (Q2 × Value × Option (Q2 × Value)) → Bool
  | none => false
  | some (_, _, kv) => kv.isSome
noncomputable def scF (qr : Q2) (rv : Value) : Option (Q2 × Value) → Array DictEntry
  | none => #[fe qr s_row rv]
  | some (q, v) => #[fe qr s_row rv, fe q s_k v]
noncomputable def scM : Option (Q2 × Value) → Nat
  | none => 1
  | some _ => 2
noncomputable def scG : Option (Q2 × Value × Option (Q2 × Value)) → Array DictEntry
  | none => #[]
  | some (qr, rv, kv) => scF qr rv kv
noncomputable def scH : Option (Q2 × Value × Option (Q2 × Value)) → Nat
  | none => 0
  | some (_, _, kv) => scM kv
theorem l170g {it acc sc T L : Addr} {e : Nat} {qr : Q2} {rv : Value} (o : Ok A 2) : ∀ (rest : List IT) (b1 : Bool) (_ : Gd (wF b1 b2 b3 w₀) h₀) (dn : List IT) (v : Option (Q2 × Value)) (ys : List IT) (ey : Nat) (h : Heap) (tk : Nat),
    ys.length + rest.length ≤ 1000 →
    Rep h₀ h F ((it, itO "list_iterator" (.ref T) dn.length) :: (acc, listO ⟨ys.map iv⟩ ey) :: (sc, dictO (scF qr rv v) (scM v)) :: (T, listO ⟨(dn ++ rest).map iv⟩ e) :: ρ) →
    (∀ h' tk' ey' kv', (rest ≠ [] ∨ v.isSome = true → kv'.isSome = true) → Rep h₀ h' F ((acc, listO ⟨(ys ++ rest).map iv⟩ ey') :: (sc, dictO (scF qr rv kv') (scM kv')) :: (T, listO ⟨(dn ++ rest).map iv⟩ e) :: ρ) → R (.ok .next) ⟨h', g, d, tk', os₀⟩) →
    codeAny (model prog (wF b1 b2 b3 w₀)) A (compC1 (wF b1 b2 b3 w₀).params 170 (e170f (wF b1 b2 b3 w₀).params) it acc sc L) R ⟨h, g, d, tk, os₀⟩
  | [] => by
    intro b1 G dn v ys ey h tk hz D z
    refine code_start ?_
    refine sg2L 1000 [.s 0, .e, .s 0] [] G o.hd D ?_; intro fh1 oh1; refine ⟨by kernel_rfl, fun h1 tk1 D1 => ?_⟩
    have hat : (⟨(dn ++ []).map iv⟩ : Array Value)[dn.length]? = none := by rw [List.append_nil]; exact getElem_end dn
    refine u_lstop D1 0 (it := it) (T := T) (items := ⟨(dn ++ []).map iv⟩) (n := e) (i := dn.length) (by kernel_rfl) 3 (by kernel_rfl) hat o.hd (by kernel_rfl) (by kernel_rfl) (by kernel_rfl) fun h2 E E0 D2 => ?_
    refine sg2L 1000 [.s 0] [false, false, false] G o.hd D2 ?_; intro fh3 oh3; refine ⟨by kernel_rfl, fun h3 tk3 D3 => ?_⟩
    exact end_done (f := .next) (by kernel_rfl) (by kernel_rfl) (z h3 tk3 ey v (fun y => y.elim (fun y => absurd rfl y) id) (by rw [List.append_nil ys]; exact D3.eq (by kernel_rfl)))
  | x :: rest => by
    intro b1 G dn v ys ey h tk hz D z
    simp only [List.length_cons] at hz
    refine code_start ?_
    refine sg2L 1000 [.s 0, .e, .s 0] [] G o.hd D ?_; intro fh1 oh1; refine ⟨by kernel_rfl, fun h1 tk1 D1 => ?_⟩
    refine u_lnext D1 0 (it := it) (T := T) (items := ⟨(dn ++ x :: rest).map iv⟩) (n := e) (i := dn.length) (v := iv x) (by kernel_rfl) 3 (by kernel_rfl) (getElem_mid dn rest x) (by kernel_rfl) (by kernel_rfl) fun h2 D2 => ?_
    rcases v with _ | ⟨q, v⟩
    · all_goals
      refine sg2L 1000 [.s 2, .s 2, .s 2, .e, .s 1] [] G o.hd D2 ?_; intro fh3 oh3; refine ⟨by kernel_rfl, fun h3 tk3 D3 => ?_⟩
      refine u_append D3 1 (l := acc) (items := ⟨ys.map iv⟩) (n := ey) (v := iv x) (by kernel_rfl) (line_of (n := ys.length) (by omega) (by simp)) (by kernel_rfl) (by kernel_rfl) fun h4 D4 => ?_
      refine sg2L 1000 [] [] G o.hd D4 ?_; intro fh5 oh5; refine ⟨by kernel_rfl, fun h5 tk5 D5 => ?_⟩
      refine end_again (c' := compC1 (gdW G).params 170 (e170f (gdW G).params) it acc sc L) (by kernel_rfl) (by kernel_rfl) (by kernel_rfl) ?_
      refine l170g (it := it) (acc := acc) (sc := sc) (T := T) (L := L) (e := e) (qr := qr) (rv := rv) o rest _ G (dn ++ [x]) (some ((hS w₀.params s_k, tk1), iv x)) (ys ++ [x]) (ey + 1) h5 tk5 (by rw [List.length_append, List.length_singleton]; omega) ?_ ?_
      · rw [List.append_assoc, List.length_append, iv_snoc]
        exact D5.eq (by kernel_rfl)
      · intro h' tk' ey' v' hv' D'
        rw [List.append_assoc, List.append_assoc] at D'
        exact z h' tk' ey' v' (fun _ => hv' (.inr rfl)) D'
    · all_goals
      refine sg2L 1000 [.s 2, .s 2, .s 2, .e, .s 1] [] G o.hd D2 ?_; intro fh3 oh3; refine ⟨by kernel_rfl, fun h3 tk3 D3 => ?_⟩
      refine u_append D3 1 (l := acc) (items := ⟨ys.map iv⟩) (n := ey) (v := iv x) (by kernel_rfl) (line_of (n := ys.length) (by omega) (by simp)) (by kernel_rfl) (by kernel_rfl) fun h4 D4 => ?_
      refine sg2L 1000 [] [] G o.hd D4 ?_; intro fh5 oh5; refine ⟨by kernel_rfl, fun h5 tk5 D5 => ?_⟩
      refine end_again (c' := compC1 (gdW G).params 170 (e170f (gdW G).params) it acc sc L) (by kernel_rfl) (by kernel_rfl) (by kernel_rfl) ?_
      refine l170g (it := it) (acc := acc) (sc := sc) (T := T) (L := L) (e := e) (qr := qr) (rv := rv) o rest _ G (dn ++ [x]) (some (q, iv x)) (ys ++ [x]) (ey + 1) h5 tk5 (by rw [List.length_append, List.length_singleton]; omega) ?_ ?_
      · rw [List.append_assoc, List.length_append, iv_snoc]
        exact D5.eq (by kernel_rfl)
      · intro h' tk' ey' v' hv' D'
        rw [List.append_assoc, List.append_assoc] at D'
        exact z h' tk' ey' v' (fun _ => hv' (.inr rfl)) D'
theorem s170g {it acc sc T L : Addr} {e ey : Nat} {qr : Q2} {rv : Value} {kv : Option (Q2 × Value)} {rest ys : List IT} (G : Gd (wF b1 b2 b3 w₀) h₀) (o : Ok A 2) (hz : ys.length + rest.length ≤ 1000)
    (D : Rep h₀ h F ((it, itO "list_iterator" (.ref T) 0) :: (acc, listO ⟨ys.map iv⟩ ey) :: (sc, dictO (scF qr rv kv) (scM kv)) :: (T, listO ⟨rest.map iv⟩ e) :: ρ))
    (z : ∀ h' tk' ey' kv', (rest ≠ [] ∨ kv.isSome = true → kv'.isSome = true) → Rep h₀ h' F ((acc, listO ⟨(ys ++ rest).map iv⟩ ey') :: (sc, dictO (scF qr rv kv') (scM kv')) :: (T, listO ⟨rest.map iv⟩ e) :: ρ) → R (.ok .next) ⟨h', g, d, tk', os₀⟩) :
    codeAny (model prog (wF b1 b2 b3 w₀)) A (compS1 (wF b1 b2 b3 w₀).params 170 (e170f (wF b1 b2 b3 w₀).params) it acc sc L) R ⟨h, g, d, tk, os₀⟩ := by
  refine code_start ?_
  cases b2
  · all_goals
      refine sg2L 1000 [.s 0, .s 0, .e, .s 0, .e, .s 0] [] G o.hd D ?_; intro fh5 oh5; refine ⟨by kernel_rfl, fun h5 tk5 D5 => ?_⟩
      refine end_again (c' := compC1 (gdW G).params 170 (e170f (gdW G).params) it acc sc L) (by kernel_rfl) (by kernel_rfl) (by kernel_rfl) ?_
      exact l170g (it := it) (acc := acc) (sc := sc) (T := T) (L := L) (e := e) (qr := qr) (rv := rv) o rest _ G [] kv ys ey h5 tk5 hz (D5.eq (by kernel_rfl)) z
  · all_goals
      refine sg2L 1000 [] [] G o.hd D ?_; intro fh5 oh5; refine ⟨by kernel_rfl, fun h5 tk5 D5 => ?_⟩
      refine end_again (c' := compC1 (gdW G).params 170 (e170f (gdW G).params) it acc sc L) (by kernel_rfl) (by kernel_rfl) (by kernel_rfl) ?_
      exact l170g (it := it) (acc := acc) (sc := sc) (T := T) (L := L) (e := e) (qr := qr) (rv := rv) o rest _ G [] kv ys ey h5 tk5 hz (D5.eq (by kernel_rfl)) z
noncomputable def flatN : List Rd → Nat
  | [] => 0
  | r :: rs => r.xs.length + flatN rs
theorem l170f {it acc sc Rn L : Addr} {en : Nat} (o : Ok A 4) : ∀ (rest : List Rd) (b1 : Bool) (_ : Gd (wF b1 b2 b3 w₀) h₀) (dn : List Rd) (v : Option (Q2 × Value × Option (Q2 × Value))) (ys : List IT) (ey : Nat) (h : Heap) (tk : Nat),
    ys.length + flatN rest ≤ 1000 →
    Rep h₀ h F ((it, itO "list_iterator" (.ref Rn) dn.length) :: (acc, listO ⟨ys.map iv⟩ ey) :: (sc, dictO (scG v) (scH v)) :: (Rn, listO ⟨(dn ++ rest).map rdV⟩ en) :: (dcells (dn ++ rest) ++ ρ)) →
    (∀ h' tk' (ys' : List IT) ey' v', (flatM (rest.map Rd.p) ≠ [] ∨ scK v = true → scK v' = true) → ys'.map (·.1) = ys.map (·.1) ++ flatM (rest.map Rd.p) → Rep h₀ h' F ((acc, listO ⟨ys'.map iv⟩ ey') :: (sc, dictO (scG v') (scH v')) :: (Rn, listO ⟨(dn ++ rest).map rdV⟩ en) :: (dcells (dn ++ rest) ++ ρ)) → R (.ok .next) ⟨h', g, d, tk', os₀⟩) →
    codeAny (model prog (wF b1 b2 b3 w₀)) A (compC (wF b1 b2 b3 w₀).params 170 (e170f (wF b1 b2 b3 w₀).params) it acc sc L []) R ⟨h, g, d, tk, os₀⟩
  | [] => by
    intro b1 G dn v ys ey h tk hz D z
    refine code_start ?_
    refine sg2L 1000 [.s 0, .e, .s 0] [] G o.hd D ?_; intro fh1 oh1; refine ⟨by kernel_rfl, fun h1 tk1 D1 => ?_⟩
    have hat : (⟨(dn ++ []).map rdV⟩ : Array Value)[dn.length]? = none := by simp
    refine u_lstop D1 0 (it := it) (T := Rn) (items := ⟨(dn ++ []).map rdV⟩) (n := en) (i := dn.length) (by kernel_rfl) 3 (by kernel_rfl) hat o.hd (by kernel_rfl) (by kernel_rfl) (by kernel_rfl) fun h2 E E0 D2 => ?_
    refine sg2L 1000 [.s 0] [false, false, false] G o.hd D2 ?_; intro fh3 oh3; refine ⟨by kernel_rfl, fun h3 tk3 D3 => ?_⟩
    exact end_done (f := .next) (by kernel_rfl) (by kernel_rfl) (z h3 tk3 ys ey v (fun y => y.elim (fun y => absurd rfl y) id) (by simp [flatM]) (D3.eq (by kernel_rfl)))
  | x :: rest => by
    intro b1 G dn v ys ey h tk hz D z
    refine code_start ?_
    refine sg2L 1000 [.s 0, .e, .s 0] [] G o.hd D ?_; intro fh1 oh1; refine ⟨by kernel_rfl, fun h1 tk1 D1 => ?_⟩
    refine u_lnext D1 0 (it := it) (T := Rn) (items := ⟨(dn ++ x :: rest).map rdV⟩) (n := en) (i := dn.length) (v := .ref x.a) (by kernel_rfl) 3 (by kernel_rfl) (by simp [rdV]) (by kernel_rfl) (by kernel_rfl) fun h2 D2 => ?_
    rcases v with _ | ⟨vqr, vrv, _ | ⟨vqk, vvk⟩⟩
    · all_goals
      let S3 : List Cells := [[(it, itO "list_iterator" (.ref Rn) (dn.length + 1))], [(acc, listO ⟨ys.map iv⟩ ey)], [(sc, dictO (scG none) (scH none))], [(Rn, listO ⟨(dn ++ x :: rest).map rdV⟩ en)], dcells dn, [(x.a, listO ⟨x.xs.map iv⟩ x.e)], dcells rest, ρ]; have D3 : Rep h₀ h2 F (cat S3) := by
        have D3' := D2.tail 4 (rest := dcells (dn ++ x :: rest) ++ ρ) (by kernel_rfl)
        rw [dcells_mid] at D3'
        exact D3'.eq (by kernel_rfl)
      have D4 := Rep.shuf _ [7, 7, 6, 7, 7, 7, 7, 7] D3
      refine sg2L 1000 [.s 2, .s 2, .s 2, .s 4, .s 4, .e, .s 4, .e, .s 0] [] G o.hd D4 ?_; intro fh5 oh5; refine ⟨by kernel_rfl, fun h5 tk5 D5 => ?_⟩
      refine use_call (c' := compS1 (gdW G).params 170 (e170f (gdW G).params) h2.objs.size acc sc L) (hd := none) (by kernel_rfl) rfl ?_
      let S6 : List Cells := [[(h2.objs.size, itO "list_iterator" (.ref x.a) 0)], [(it, itO "list_iterator" (.ref Rn) (dn.length + 1))], [(acc, listO ⟨ys.map iv⟩ ey)], [(sc, dictO (scF (hS w₀.params s_row, tk1) (.ref x.a) none) (scM none))], [(Rn, listO ⟨(dn ++ x :: rest).map rdV⟩ en)], [(x.a, listO ⟨x.xs.map iv⟩ x.e)], dcells dn, dcells rest, ρ]; have D6 : Rep h₀ h5 F (cat S6) := D5.eq (by kernel_rfl)
      have D7 := Rep.shuf _ [8, 8, 8, 7, 5, 8, 8, 8, 8] D6
      refine s170g (it := h2.objs.size) (acc := acc) (sc := sc) (T := x.a) (L := L) (e := x.e) (ey := ey) (qr := (hS w₀.params s_row, tk1)) (rv := .ref x.a) (kv := none) (rest := x.xs) (ys := ys) G (o.call (by kernel_rfl) (by kernel_rfl)) (by rw [flatN] at hz; omega) D7 ?_
      intro h8 tk8 ey8 kv8 hk8 D8
      let S9 : List Cells := [[(acc, listO ⟨(ys ++ x.xs).map iv⟩ ey8)], [(sc, dictO (scF (hS w₀.params s_row, tk1) (.ref x.a) kv8) (scM kv8))], [(x.a, listO ⟨x.xs.map iv⟩ x.e)], [(it, itO "list_iterator" (.ref Rn) (dn.length + 1))], [(Rn, listO ⟨(dn ++ x :: rest).map rdV⟩ en)], dcells dn, dcells rest, ρ]; have D9 := Rep.shuf S9 [7, 7, 4, 7, 7, 6, 6, 7] D8
      refine sg2L 1000 [] [] G o.hd D9 ?_; intro fh10 oh10; refine ⟨by kernel_rfl, fun h10 tk10 D10 => ?_⟩
      refine end_again (c' := compC (gdW G).params 170 (e170f (gdW G).params) it acc sc L []) (by kernel_rfl) (by kernel_rfl) (by kernel_rfl) ?_
      refine l170f (it := it) (acc := acc) (sc := sc) (Rn := Rn) (L := L) (en := en) o rest _ G (dn ++ [x]) (some ((hS w₀.params s_row, tk1), .ref x.a, kv8)) (ys ++ x.xs) ey8 h10 tk10 (by rw [List.length_append]; rw [flatN] at hz; omega) ?_ ?_
      · rw [List.append_assoc, List.length_append]
        refine Rep.eq D10 ?_
        show _ = _ :: _ :: _ :: _ :: (dcells (dn ++ x :: rest) ++ ρ)
        rw [dcells_mid]
        kernel_rfl
      · intro h' tk' ys' ey' v' hv' hy D'
        rw [List.append_assoc] at D'
        refine z h' tk' ys' ey' v' (fun y => hv' (by
          rcases y with y | y
          · by_cases hx : x.xs = []
            · left; simpa [flatM, Rd.p, hx] using y
            · right; exact hk8 (.inl hx)
          · right; exact hk8 (.inr y))) ?_ D'
        rw [hy, List.map_cons, flatM, List.map_append, List.append_assoc]
        rfl
    · all_goals
      let S3 : List Cells := [[(it, itO "list_iterator" (.ref Rn) (dn.length + 1))], [(acc, listO ⟨ys.map iv⟩ ey)], [(sc, dictO (scG (some (vqr, vrv, none))) (scH (some (vqr, vrv, none))))], [(Rn, listO ⟨(dn ++ x :: rest).map rdV⟩ en)], dcells dn, [(x.a, listO ⟨x.xs.map iv⟩ x.e)], dcells rest, ρ]; have D3 : Rep h₀ h2 F (cat S3) := by
        have D3' := D2.tail 4 (rest := dcells (dn ++ x :: rest) ++ ρ) (by kernel_rfl)
        rw [dcells_mid] at D3'
        exact D3'.eq (by kernel_rfl)
      have D4 := Rep.shuf _ [7, 7, 6, 7, 7, 7, 7, 7] D3
      refine sg2L 1000 [.s 2, .s 2, .s 2, .s 4, .s 4, .e, .s 4, .e, .s 0] [] G o.hd D4 ?_; intro fh5 oh5; refine ⟨by kernel_rfl, fun h5 tk5 D5 => ?_⟩
      refine use_call (c' := compS1 (gdW G).params 170 (e170f (gdW G).params) h2.objs.size acc sc L) (hd := none) (by kernel_rfl) rfl ?_
      let S6 : List Cells := [[(h2.objs.size, itO "list_iterator" (.ref x.a) 0)], [(it, itO "list_iterator" (.ref Rn) (dn.length + 1))], [(acc, listO ⟨ys.map iv⟩ ey)], [(sc, dictO (scF vqr (.ref x.a) none) (scM none))], [(Rn, listO ⟨(dn ++ x :: rest).map rdV⟩ en)], [(x.a, listO ⟨x.xs.map iv⟩ x.e)], dcells dn, dcells rest, ρ]; have D6 : Rep h₀ h5 F (cat S6) := D5.eq (by kernel_rfl)
      have D7 := Rep.shuf _ [8, 8, 8, 7, 5, 8, 8, 8, 8] D6
      refine s170g (it := h2.objs.size) (acc := acc) (sc := sc) (T := x.a) (L := L) (e := x.e) (ey := ey) (qr := vqr) (rv := .ref x.a) (kv := none) (rest := x.xs) (ys := ys) G (o.call (by kernel_rfl) (by kernel_rfl)) (by rw [flatN] at hz; omega) D7 ?_
      intro h8 tk8 ey8 kv8 hk8 D8
      let S9 : List Cells := [[(acc, listO ⟨(ys ++ x.xs).map iv⟩ ey8)], [(sc, dictO (scF vqr (.ref x.a) kv8) (scM kv8))], [(x.a, listO ⟨x.xs.map iv⟩ x.e)], [(it, itO "list_iterator" (.ref Rn) (dn.length + 1))], [(Rn, listO ⟨(dn ++ x :: rest).map rdV⟩ en)], dcells dn, dcells rest, ρ]; have D9 := Rep.shuf S9 [7, 7, 4, 7, 7, 6, 6, 7] D8
      refine sg2L 1000 [] [] G o.hd D9 ?_; intro fh10 oh10; refine ⟨by kernel_rfl, fun h10 tk10 D10 => ?_⟩
      refine end_again (c' := compC (gdW G).params 170 (e170f (gdW G).params) it acc sc L []) (by kernel_rfl) (by kernel_rfl) (by kernel_rfl) ?_
      refine l170f (it := it) (acc := acc) (sc := sc) (Rn := Rn) (L := L) (en := en) o rest _ G (dn ++ [x]) (some (vqr, .ref x.a, kv8)) (ys ++ x.xs) ey8 h10 tk10 (by rw [List.length_append]; rw [flatN] at hz; omega) ?_ ?_
      · rw [List.append_assoc, List.length_append]
        refine Rep.eq D10 ?_
        show _ = _ :: _ :: _ :: _ :: (dcells (dn ++ x :: rest) ++ ρ)
        rw [dcells_mid]
        kernel_rfl
      · intro h' tk' ys' ey' v' hv' hy D'
        rw [List.append_assoc] at D'
        refine z h' tk' ys' ey' v' (fun y => hv' (by
          rcases y with y | y
          · by_cases hx : x.xs = []
            · left; simpa [flatM, Rd.p, hx] using y
            · right; exact hk8 (.inl hx)
          · right; exact hk8 (.inr y))) ?_ D'
        rw [hy, List.map_cons, flatM, List.map_append, List.append_assoc]
        rfl
    · all_goals
      let S3 : List Cells := [[(it, itO "list_iterator" (.ref Rn) (dn.length + 1))], [(acc, listO ⟨ys.map iv⟩ ey)], [(sc, dictO (scG (some (vqr, vrv, some (vqk, vvk)))) (scH (some (vqr, vrv, some (vqk, vvk)))))], [(Rn, listO ⟨(dn ++ x :: rest).map rdV⟩ en)], dcells dn, [(x.a, listO ⟨x.xs.map iv⟩ x.e)], dcells rest, ρ]; have D3 : Rep h₀ h2 F (cat S3) := by
        have D3' := D2.tail 4 (rest := dcells (dn ++ x :: rest) ++ ρ) (by kernel_rfl)
        rw [dcells_mid] at D3'
        exact D3'.eq (by kernel_rfl)
      have D4 := Rep.shuf _ [7, 7, 6, 7, 7, 7, 7, 7] D3
      refine sg2L 1000 [.s 2, .s 2, .s 2, .s 4, .s 4, .e, .s 4, .e, .s 0] [] G o.hd D4 ?_; intro fh5 oh5; refine ⟨by kernel_rfl, fun h5 tk5 D5 => ?_⟩
      refine use_call (c' := compS1 (gdW G).params 170 (e170f (gdW G).params) h2.objs.size acc sc L) (hd := none) (by kernel_rfl) rfl ?_
      let S6 : List Cells := [[(h2.objs.size, itO "list_iterator" (.ref x.a) 0)], [(it, itO "list_iterator" (.ref Rn) (dn.length + 1))], [(acc, listO ⟨ys.map iv⟩ ey)], [(sc, dictO (scF vqr (.ref x.a) (some (vqk, vvk))) (scM (some (vqk, vvk))))], [(Rn, listO ⟨(dn ++ x :: rest).map rdV⟩ en)], [(x.a, listO ⟨x.xs.map iv⟩ x.e)], dcells dn, dcells rest, ρ]; have D6 : Rep h₀ h5 F (cat S6) := D5.eq (by kernel_rfl)
      have D7 := Rep.shuf _ [8, 8, 8, 7, 5, 8, 8, 8, 8] D6
      refine s170g (it := h2.objs.size) (acc := acc) (sc := sc) (T := x.a) (L := L) (e := x.e) (ey := ey) (qr := vqr) (rv := .ref x.a) (kv := (some (vqk, vvk))) (rest := x.xs) (ys := ys) G (o.call (by kernel_rfl) (by kernel_rfl)) (by rw [flatN] at hz; omega) D7 ?_
      intro h8 tk8 ey8 kv8 hk8 D8
      let S9 : List Cells := [[(acc, listO ⟨(ys ++ x.xs).map iv⟩ ey8)], [(sc, dictO (scF vqr (.ref x.a) kv8) (scM kv8))], [(x.a, listO ⟨x.xs.map iv⟩ x.e)], [(it, itO "list_iterator" (.ref Rn) (dn.length + 1))], [(Rn, listO ⟨(dn ++ x :: rest).map rdV⟩ en)], dcells dn, dcells rest, ρ]; have D9 := Rep.shuf S9 [7, 7, 4, 7, 7, 6, 6, 7] D8
      refine sg2L 1000 [] [] G o.hd D9 ?_; intro fh10 oh10; refine ⟨by kernel_rfl, fun h10 tk10 D10 => ?_⟩
      refine end_again (c' := compC (gdW G).params 170 (e170f (gdW G).params) it acc sc L []) (by kernel_rfl) (by kernel_rfl) (by kernel_rfl) ?_
      refine l170f (it := it) (acc := acc) (sc := sc) (Rn := Rn) (L := L) (en := en) o rest _ G (dn ++ [x]) (some (vqr, .ref x.a, kv8)) (ys ++ x.xs) ey8 h10 tk10 (by rw [List.length_append]; rw [flatN] at hz; omega) ?_ ?_
      · rw [List.append_assoc, List.length_append]
        refine Rep.eq D10 ?_
        show _ = _ :: _ :: _ :: _ :: (dcells (dn ++ x :: rest) ++ ρ)
        rw [dcells_mid]
        kernel_rfl
      · intro h' tk' ys' ey' v' hv' hy D'
        rw [List.append_assoc] at D'
        refine z h' tk' ys' ey' v' (fun y => hv' (by
          rcases y with y | y
          · by_cases hx : x.xs = []
            · left; simpa [flatM, Rd.p, hx] using y
            · right; exact hk8 (.inl hx)
          · right; exact hk8 (.inr y))) ?_ D'
        rw [hy, List.map_cons, flatM, List.map_append, List.append_assoc]
        rfl
theorem s170f {it acc sc Rn L : Addr} {en : Nat} {rest : List Rd} (G : Gd (wF b1 b2 b3 w₀) h₀) (o : Ok A 4) (hz : flatN rest ≤ 1000)
    (D : Rep h₀ h F ((it, itO "list_iterator" (.ref Rn) 0) :: (acc, listO #[] 0) :: (sc, dictO #[] 0) :: (Rn, listO ⟨rest.map rdV⟩ en) :: (dcells rest ++ ρ)))
    (z : ∀ h' tk' (ys' : List IT) ey' v', (flatM (rest.map Rd.p) ≠ [] ∨ scK none = true → scK v' = true) → ys'.map (·.1) = flatM (rest.map Rd.p) → Rep h₀ h' F ((acc, listO ⟨ys'.map iv⟩ ey') :: (sc, dictO (scG v') (scH v')) :: (Rn, listO ⟨rest.map rdV⟩ en) :: (dcells rest ++ ρ)) → R (.ok .next) ⟨h', g, d, tk', os₀⟩) :
    codeAny (model prog (wF b1 b2 b3 w₀)) A (compS (wF b1 b2 b3 w₀).params 170 (e170f (wF b1 b2 b3 w₀).params) it acc sc L []) R ⟨h, g, d, tk, os₀⟩ := by
  refine code_start ?_
  cases b2
  · all_goals
      refine sg2L 1000 [.s 0, .s 0, .e, .s 0, .e, .s 0] [] G o.hd D ?_; intro fh5 oh5; refine ⟨by kernel_rfl, fun h5 tk5 D5 => ?_⟩
      refine end_again (c' := compC (gdW G).params 170 (e170f (gdW G).params) it acc sc L []) (by kernel_rfl) (by kernel_rfl) (by kernel_rfl) ?_
      exact l170f (it := it) (acc := acc) (sc := sc) (Rn := Rn) (L := L) (en := en) o rest _ G [] none [] 0 h5 tk5 (by simpa using hz) (D5.eq (by kernel_rfl)) z
  · all_goals
      refine sg2L 1000 [] [] G o.hd D ?_; intro fh5 oh5; refine ⟨by kernel_rfl, fun h5 tk5 D5 => ?_⟩
      refine end_again (c' := compC (gdW G).params 170 (e170f (gdW G).params) it acc sc L []) (by kernel_rfl) (by kernel_rfl) (by kernel_rfl) ?_
      exact l170f (it := it) (acc := acc) (sc := sc) (Rn := Rn) (L := L) (en := en) o rest _ G [] none [] 0 h5 tk5 (by simpa using hz) (D5.eq (by kernel_rfl)) z
end Mine
end
section
open PySem PySem.W PySem.W.X PyProof.Rows
set_option Elab.async false
set_option maxRecDepth 100000
set_option maxHeartbeats 1000000
namespace Mine
variable {prog : Program} {w : World} {w₀ : World} {b1 b2 b3 : Bool} {A : Around} {R : Result → Shared → Prop} {h₀ h : Heap} {F : List Addr} {ρ σ : Cells} {g : Array GenState} {d : Drawn} {tk : Nat} {os₀ : OsState}
noncomputable def e170m (P : Params) : Option Expr := valE (fstmt P 170 8)
noncomputable def e170k (P : Params) : Option Expr := match e170m P with
  | some (.ListComp x _ _ _) => some x
  | _ => none
theorem l170k {it acc sc Cm Cb Tb L : Addr} {bs : List IT} {eb : Nat} {m : Int} {mt : Tok} (o : Ok A 2) : ∀ (n : Nat) (b1 : Bool) (_ : Gd (wF b1 b2 b3 w₀) h₀) (i : Nat) (v : Option (Q2 × Value)) (ys : List IT) (ey : Nat) (h : Heap) (tk : Nat),
    i + n ≤ bs.length → bs.length ≤ 900 → ys.length + n ≤ 1000 →
    Rep h₀ h F ((it, rgO (i : Int) n) :: (acc, listO ⟨ys.map iv⟩ ey) :: (sc, dictO (scE s_k v) (scN v)) :: (Cm, cellO (.int m mt)) :: (Cb, cellO (.ref Tb)) :: (Tb, listO ⟨bs.map iv⟩ eb) :: ρ) →
    (∀ h' tk' (ys' : List IT) ey' v', ys'.map (·.1) = ys.map (·.1) ++ flt (fun k => decide ((bs.map (·.1)).getD k 0 = m)) i n → Rep h₀ h' F ((acc, listO ⟨ys'.map iv⟩ ey') :: (sc, dictO (scE s_k v') (scN v')) :: (Cm, cellO (.int m mt)) :: (Cb, cellO (.ref Tb)) :: (Tb, listO ⟨bs.map iv⟩ eb) :: ρ) → R (.ok .next) ⟨h', g, d, tk', os₀⟩) →
    codeAny (model prog (wF b1 b2 b3 w₀)) A (compC (wF b1 b2 b3 w₀).params 170 (e170k (wF b1 b2 b3 w₀).params) it acc sc L [(s_many, Cm), (s_behind, Cb)]) R ⟨h, g, d, tk, os₀⟩
  | 0 => by
    intro b1 G i v ys ey h tk hn hl hz D z
    refine code_start ?_
    refine sg2L 1000 [.s 0, .e, .s 0] [] G o.hd D ?_; intro fh1 oh1; refine ⟨by kernel_rfl, fun h1 tk1 D1 => ?_⟩
    refine u_rstop D1 0 (it := it) (i := (i : Int)) (by kernel_rfl) o.hd (by kernel_rfl) (by kernel_rfl) (by kernel_rfl) fun h2 E E0 D2 => ?_
    refine sg2L 1000 [.s 0] [false, false, false] G o.hd D2 ?_; intro fh3 oh3; refine ⟨by kernel_rfl, fun h3 tk3 D3 => ?_⟩
    exact end_done (f := .next) (by kernel_rfl) (by kernel_rfl) (z h3 tk3 ys ey v (by simp [flt]) (D3.eq (by kernel_rfl)))
  | n + 1 => by
    intro b1 G i v ys ey h tk hn hl hz D z
    have hi : i < bs.length := by omega
    refine code_start ?_
    refine sg2L 1000 [.s 0, .e, .s 0] [] G o.hd D ?_; intro fh1 oh1; refine ⟨by kernel_rfl, fun h1 tk1 D1 => ?_⟩
    refine u_rnext D1 0 (it := it) (i := (i : Int)) (n := n) (by kernel_rfl) (by kernel_rfl) (by kernel_rfl) fun h2 D2 => ?_
    rcases v with _ | ⟨q, v⟩
    · all_goals
      refine sg2L 1000 [.s 2, .s 2, .s 4, .s 2, .s 5, .s 5, .s 5, .e, .s 5] [] G o.hd D2 ?_; intro fh3 oh3; refine ⟨by kernel_rfl, fun h3 tk3 D3 => ?_⟩
      refine u_lget D3 5 (l := Tb) (items := ⟨bs.map iv⟩) (n := eb) (x := (i : Int)) (u := tk1) (y := iv bs[i]) (by kernel_rfl) (by omega) (by omega) (by rw [Int.toNat_natCast]; exact iv_at bs hi) (by kernel_rfl) (by kernel_rfl) ?_
      refine sg2L 1000 [.s 3, .e] [] G o.hd D3 ?_; intro fh6 oh6; refine ⟨by kernel_rfl, fun h6 tk6 D6 => ?_⟩
      refine use_again (c' := .builtin "int.__eq__" ⟨[.int bs[i].1 bs[i].2, .int m mt], []⟩) (by kernel_rfl) (by kernel_rfl) (by kernel_rfl) ?_
      refine c_eq G (by rw [arnd_hnd, o.hd]; kernel_rfl) D6 ?_
      intro h7 tk7 D7
      by_cases h0 : bs[i].1 = m
      · rw [decide_eq_true h0]
        refine sg2L 1000 [.s 2, .e, .s 1] [] G o.hd D7 ?_; intro fh8 oh8; refine ⟨by kernel_rfl, fun h8 tk8 D8 => ?_⟩
        refine u_append D8 1 (l := acc) (items := ⟨ys.map iv⟩) (n := ey) (v := .int (i : Int) tk1) (by kernel_rfl) (line_of (n := ys.length) (by omega) (by simp)) (by kernel_rfl) (by kernel_rfl) fun h9 D9 => ?_
        refine sg2L 1000 [] [] G o.hd D9 ?_; intro fh10 oh10; refine ⟨by kernel_rfl, fun h10 tk10 D10 => ?_⟩
        refine end_again (c' := compC (gdW G).params 170 (e170k (gdW G).params) it acc sc L [(s_many, Cm), (s_behind, Cb)]) (by kernel_rfl) (by kernel_rfl) (by kernel_rfl) ?_
        refine l170k (it := it) (acc := acc) (sc := sc) (Cm := Cm) (Cb := Cb) (Tb := Tb) (L := L) (bs := bs) (eb := eb) (m := m) (mt := mt) o n _ G (i + 1) (some ((hS w₀.params s_k, tk1 + 1), .int (i : Int) tk1)) (ys ++ [((i : Int), tk1)]) (ey + 1) h10 tk10 (by omega) hl (by rw [List.length_append, List.length_singleton]; omega) ?_ ?_
        · rw [iv_snoc]
          exact D10.eq (by kernel_rfl)
        · intro h' tk' ys' ey' v' hy D'
          refine z h' tk' ys' ey' v' ?_ D'
          rw [hy, flt, if_pos (by rw [getD_at bs hi]; exact decide_eq_true h0)]
          simp
      · rw [decide_eq_false h0]
        refine sg2L 1000 [] [] G o.hd D7 ?_; intro fh10 oh10; refine ⟨by kernel_rfl, fun h10 tk10 D10 => ?_⟩
        refine end_again (c' := compC (gdW G).params 170 (e170k (gdW G).params) it acc sc L [(s_many, Cm), (s_behind, Cb)]) (by kernel_rfl) (by kernel_rfl) (by kernel_rfl) ?_
        refine l170k (it := it) (acc := acc) (sc := sc) (Cm := Cm) (Cb := Cb) (Tb := Tb) (L := L) (bs := bs) (eb := eb) (m := m) (mt := mt) o n _ G (i + 1) (some ((hS w₀.params s_k, tk1 + 1), .int (i : Int) tk1)) ys ey h10 tk10 (by omega) hl (by omega) ?_ ?_
        · exact D10.eq (by kernel_rfl)
        · intro h' tk' ys' ey' v' hy D'
          refine z h' tk' ys' ey' v' ?_ D'
          rw [hy, flt, if_neg (by rw [getD_at bs hi]; simpa using h0)]
    · all_goals
      refine sg2L 1000 [.s 2, .s 2, .s 4, .s 2, .s 5, .s 5, .s 5, .e, .s 5] [] G o.hd D2 ?_; intro fh3 oh3; refine ⟨by kernel_rfl, fun h3 tk3 D3 => ?_⟩
      refine u_lget D3 5 (l := Tb) (items := ⟨bs.map iv⟩) (n := eb) (x := (i : Int)) (u := tk1) (y := iv bs[i]) (by kernel_rfl) (by omega) (by omega) (by rw [Int.toNat_natCast]; exact iv_at bs hi) (by kernel_rfl) (by kernel_rfl) ?_
      refine sg2L 1000 [.s 3, .e] [] G o.hd D3 ?_; intro fh6 oh6; refine ⟨by kernel_rfl, fun h6 tk6 D6 => ?_⟩
      refine use_again (c' := .builtin "int.__eq__" ⟨[.int bs[i].1 bs[i].2, .int m mt], []⟩) (by kernel_rfl) (by kernel_rfl) (by kernel_rfl) ?_
      refine c_eq G (by rw [arnd_hnd, o.hd]; kernel_rfl) D6 ?_
      intro h7 tk7 D7
      by_cases h0 : bs[i].1 = m
      · rw [decide_eq_true h0]
        refine sg2L 1000 [.s 2, .e, .s 1] [] G o.hd D7 ?_; intro fh8 oh8; refine ⟨by kernel_rfl, fun h8 tk8 D8 => ?_⟩
        refine u_append D8 1 (l := acc) (items := ⟨ys.map iv⟩) (n := ey) (v := .int (i : Int) tk1) (by kernel_rfl) (line_of (n := ys.length) (by omega) (by simp)) (by kernel_rfl) (by kernel_rfl) fun h9 D9 => ?_
        refine sg2L 1000 [] [] G o.hd D9 ?_; intro fh10 oh10; refine ⟨by kernel_rfl, fun h10 tk10 D10 => ?_⟩
        refine end_again (c' := compC (gdW G).params 170 (e170k (gdW G).params) it acc sc L [(s_many, Cm), (s_behind, Cb)]) (by kernel_rfl) (by kernel_rfl) (by kernel_rfl) ?_
        refine l170k (it := it) (acc := acc) (sc := sc) (Cm := Cm) (Cb := Cb) (Tb := Tb) (L := L) (bs := bs) (eb := eb) (m := m) (mt := mt) o n _ G (i + 1) (some (q, .int (i : Int) tk1)) (ys ++ [((i : Int), tk1)]) (ey + 1) h10 tk10 (by omega) hl (by rw [List.length_append, List.length_singleton]; omega) ?_ ?_
        · rw [iv_snoc]
          exact D10.eq (by kernel_rfl)
        · intro h' tk' ys' ey' v' hy D'
          refine z h' tk' ys' ey' v' ?_ D'
          rw [hy, flt, if_pos (by rw [getD_at bs hi]; exact decide_eq_true h0)]
          simp
      · rw [decide_eq_false h0]
        refine sg2L 1000 [] [] G o.hd D7 ?_; intro fh10 oh10; refine ⟨by kernel_rfl, fun h10 tk10 D10 => ?_⟩
        refine end_again (c' := compC (gdW G).params 170 (e170k (gdW G).params) it acc sc L [(s_many, Cm), (s_behind, Cb)]) (by kernel_rfl) (by kernel_rfl) (by kernel_rfl) ?_
        refine l170k (it := it) (acc := acc) (sc := sc) (Cm := Cm) (Cb := Cb) (Tb := Tb) (L := L) (bs := bs) (eb := eb) (m := m) (mt := mt) o n _ G (i + 1) (some (q, .int (i : Int) tk1)) ys ey h10 tk10 (by omega) hl (by omega) ?_ ?_
        · exact D10.eq (by kernel_rfl)
        · intro h' tk' ys' ey' v' hy D'
          refine z h' tk' ys' ey' v' ?_ D'
          rw [hy, flt, if_neg (by rw [getD_at bs hi]; simpa using h0)]
theorem s170k {it acc sc Cm Cb Tb L : Addr} {bs : List IT} {eb n : Nat} {m : Int} {mt : Tok} (G : Gd (wF b1 b2 b3 w₀) h₀) (o : Ok A 2) (hn : n ≤ bs.length) (hl : bs.length ≤ 900)
    (D : Rep h₀ h F ((it, rgO 0 n) :: (acc, listO #[] 0) :: (sc, dictO #[] 0) :: (Cm, cellO (.int m mt)) :: (Cb, cellO (.ref Tb)) :: (Tb, listO ⟨bs.map iv⟩ eb) :: ρ))
    (z : ∀ h' tk' (ys' : List IT) ey' v', ys'.map (·.1) = flt (fun k => decide ((bs.map (·.1)).getD k 0 = m)) 0 n → Rep h₀ h' F ((acc, listO ⟨ys'.map iv⟩ ey') :: (sc, dictO (scE s_k v') (scN v')) :: (Cm, cellO (.int m mt)) :: (Cb, cellO (.ref Tb)) :: (Tb, listO ⟨bs.map iv⟩ eb) :: ρ) → R (.ok .next) ⟨h', g, d, tk', os₀⟩) :
    codeAny (model prog (wF b1 b2 b3 w₀)) A (compS (wF b1 b2 b3 w₀).params 170 (e170k (wF b1 b2 b3 w₀).params) it acc sc L [(s_many, Cm), (s_behind, Cb)]) R ⟨h, g, d, tk, os₀⟩ := by
  refine code_start ?_
  cases b2
  · all_goals
      refine sg2L 1000 [.s 0, .s 0, .e, .s 0, .e, .s 0] [] G o.hd D ?_; intro fh5 oh5; refine ⟨by kernel_rfl, fun h5 tk5 D5 => ?_⟩
      refine end_again (c' := compC (gdW G).params 170 (e170k (gdW G).params) it acc sc L [(s_many, Cm), (s_behind, Cb)]) (by kernel_rfl) (by kernel_rfl) (by kernel_rfl) ?_
      exact l170k (it := it) (acc := acc) (sc := sc) (Cm := Cm) (Cb := Cb) (Tb := Tb) (L := L) (bs := bs) (eb := eb) (m := m) (mt := mt) o n _ G 0 none [] 0 h5 tk5 (by omega) hl (by simp only [List.length_nil]; omega) (D5.eq (by kernel_rfl)) z
  · all_goals
      refine sg2L 1000 [] [] G o.hd D ?_; intro fh5 oh5; refine ⟨by kernel_rfl, fun h5 tk5 D5 => ?_⟩
      refine end_again (c' := compC (gdW G).params 170 (e170k (gdW G).params) it acc sc L [(s_many, Cm), (s_behind, Cb)]) (by kernel_rfl) (by kernel_rfl) (by kernel_rfl) ?_
      exact l170k (it := it) (acc := acc) (sc := sc) (Cm := Cm) (Cb := Cb) (Tb := Tb) (L := L) (bs := bs) (eb := eb) (m := m) (mt := mt) o n _ G 0 none [] 0 h5 tk5 (by omega) hl (by simp only [List.length_nil]; omega) (D5.eq (by kernel_rfl)) z
noncomputable def dueM (bs : List Int) : Nat → Nat → List (List Int)
  | _, 0 => []
  | i, n + 1 => flt (fun k => decide (bs.getD k 0 = (i : Int))) 0 bs.length :: dueM bs (i + 1) n
theorem l170m {it acc sc Cm Cs Cb Tb L : Addr} {bs : List IT} {eb : Nat} {sz : Int} {st : Tok} (o : Ok A 4) : ∀ (n : Nat) (b1 : Bool) (_ : Gd (wF b1 b2 b3 w₀) h₀) (i : Nat) (dds : List Rd) (ea : Nat) (mv : Option Value) (h : Heap) (tk : Nat),
    sz + 1 = (bs.length : Int) → bs.length ≤ 900 → dds.length + n ≤ 1000 →
    Rep h₀ h F ((it, rgO (i : Int) n) :: (acc, listO ⟨dds.map rdV⟩ ea) :: (sc, dictO #[] 0) :: (Cm, cellP mv) :: (Cs, cellO (.int sz st)) :: (Cb, cellO (.ref Tb)) :: (Tb, listO ⟨bs.map iv⟩ eb) :: (dcells dds ++ ρ)) →
    (∀ h' tk' (dds' : List Rd) ea' mv', dds'.map Rd.p = dds.map Rd.p ++ dueM (bs.map (·.1)) i n → Rep h₀ h' F ((acc, listO ⟨dds'.map rdV⟩ ea') :: (sc, dictO #[] 0) :: (Cm, cellP mv') :: (Cs, cellO (.int sz st)) :: (Cb, cellO (.ref Tb)) :: (Tb, listO ⟨bs.map iv⟩ eb) :: (dcells dds' ++ ρ)) → R (.ok .next) ⟨h', g, d, tk', os₀⟩) →
    codeAny (model prog (wF b1 b2 b3 w₀)) A (compC (wF b1 b2 b3 w₀).params 170 (e170m (wF b1 b2 b3 w₀).params) it acc sc L [(s_many, Cm), (s_size, Cs), (s_behind, Cb)]) R ⟨h, g, d, tk, os₀⟩
  | 0 => by
    intro b1 G i dds ea mv h tk hsz hl hz D z
    refine code_start ?_
    refine sg2L 1000 [.s 0, .e, .s 0] [] G o.hd D ?_; intro fh1 oh1; refine ⟨by kernel_rfl, fun h1 tk1 D1 => ?_⟩
    refine u_rstop D1 0 (it := it) (i := (i : Int)) (by kernel_rfl) o.hd (by kernel_rfl) (by kernel_rfl) (by kernel_rfl) fun h2 E E0 D2 => ?_
    refine sg2L 1000 [.s 0] [false, false, false] G o.hd D2 ?_; intro fh3 oh3; refine ⟨by kernel_rfl, fun h3 tk3 D3 => ?_⟩
    exact end_done (f := .next) (by kernel_rfl) (by kernel_rfl) (z h3 tk3 dds ea mv (by simp [dueM]) (D3.eq (by kernel_rfl)))
  | n + 1 => by
    intro b1 G i dds ea mv h tk hsz hl hz D z
    refine code_start ?_
    refine sg2L 1000 [.s 0, .e, .s 0] [] G o.hd D ?_; intro fh1 oh1; refine ⟨by kernel_rfl, fun h1 tk1 D1 => ?_⟩
    refine u_rnext D1 0 (it := it) (i := (i : Int)) (n := n) (by kernel_rfl) (by kernel_rfl) (by kernel_rfl) fun h2 D2 => ?_
    all_goals
      refine sg2L 1000 [.s 3, .s 3, .t, .t, .s 4, .e, .e, .e, .e, .e, .e, .s 0, .s 0, .e, .s 0, .e, .s 0, .s 0, .s 0, .e, .s 0] [] G o.hd D2 ?_; intro fh3 oh3; refine ⟨by kernel_rfl, fun h3 tk3 D3 => ?_⟩
      refine u_riter D3 0 (r := h2.objs.size) (a := 0) (b := sz + 1) (ta := tk1 + 1 + 2) (tb := tk1 + 1 + 1) (tc := tk1 + 1 + 3) (by kernel_rfl) (by decide) (by omega) (by omega) (by kernel_rfl) (by kernel_rfl) fun h4 it2 D4 => ?_
      rw [show (sz + 1 - 0).toNat = bs.length from by omega] at D4
      refine sg2L 1000 [.s 0] [] G o.hd D4 ?_; intro fh5 oh5; refine ⟨by kernel_rfl, fun h5 tk5 D5 => ?_⟩
      refine use_call (c' := compS (gdW G).params 170 (e170k (gdW G).params) it2 h4.objs.size (h4.objs.size + 1) L [(s_many, Cm), (s_behind, Cb)]) (hd := none) (by kernel_rfl) rfl ?_
      let S6 : List Cells := [[(h4.objs.size + 1, dictO #[] 0)], [(h4.objs.size, listO #[] 0)], [(it2, rgO 0 bs.length)], [(h2.objs.size, rangeO 0 (sz + 1) (tk1 + 1 + 2) (tk1 + 1 + 1) (tk1 + 1 + 3))], [(it, rgO ((i : Int) + 1) n)], [(acc, listO ⟨dds.map rdV⟩ ea)], [(sc, dictO #[] 0)], [(Cm, cellO (.int (i : Int) tk1))], [(Cs, cellO (.int sz st))], [(Cb, cellO (.ref Tb))], [(Tb, listO ⟨bs.map iv⟩ eb)], dcells dds, ρ]; have D6 : Rep h₀ h5 F (cat S6) := D5.eq (by kernel_rfl)
      have D7 := Rep.shuf _ [12, 12, 10, 9, 9, 9, 9, 12, 12, 12, 10, 11, 12] D6
      refine s170k (it := it2) (acc := h4.objs.size) (sc := h4.objs.size + 1) (Cm := Cm) (Cb := Cb) (Tb := Tb) (L := L) (bs := bs) (eb := eb) (n := bs.length) (m := (i : Int)) (mt := tk1) G (o.call (by kernel_rfl) (by kernel_rfl)) (Nat.le_refl _) hl D7 ?_
      intro h8 tk8 ws ew vw hws D8
      let S10 : List Cells := [[(h4.objs.size, listO ⟨ws.map iv⟩ ew)], [(h4.objs.size + 1, dictO (scE s_k vw) (scN vw))], [(Cm, cellO (.int (i : Int) tk1))], [(Cb, cellO (.ref Tb))], [(Tb, listO ⟨bs.map iv⟩ eb)], [(h2.objs.size, rangeO 0 (sz + 1) (tk1 + 1 + 2) (tk1 + 1 + 1) (tk1 + 1 + 3))], [(it, rgO ((i : Int) + 1) n)], [(acc, listO ⟨dds.map rdV⟩ ea)], [(sc, dictO #[] 0)], [(Cs, cellO (.int sz st))], dcells dds, ρ]; have D10 := Rep.shuf S10 [11, 11, 6, 6, 11, 7, 11, 11, 11, 11, 10, 11] D8
      rcases vw with _ | ⟨wq, wv⟩
      · refine sg2L 1000 [.s 0, .e, .s 4] [] G o.hd D10 ?_; intro fh11 oh11; refine ⟨by kernel_rfl, fun h11 tk11 D11 => ?_⟩
        refine u_append D11 4 (l := acc) (items := ⟨dds.map rdV⟩) (n := ea) (v := .ref h4.objs.size) (by kernel_rfl) (line_of (n := dds.length) (by omega) (by simp)) (by kernel_rfl) (by kernel_rfl) fun h12 D12 => ?_
        refine sg2L 1000 [] [] G o.hd D12 ?_; intro fh13 oh13; refine ⟨by kernel_rfl, fun h13 tk13 D13 => ?_⟩
        refine end_again (c' := compC (gdW G).params 170 (e170m (gdW G).params) it acc sc L [(s_many, Cm), (s_size, Cs), (s_behind, Cb)]) (by kernel_rfl) (by kernel_rfl) (by kernel_rfl) ?_
        let S14 : List Cells := [[(h4.objs.size + 1, dictO #[] 0)], [(h4.objs.size, listO ⟨ws.map iv⟩ ew)], [(h2.objs.size, rangeO 0 (sz + 1) (tk1 + 1 + 2) (tk1 + 1 + 1) (tk1 + 1 + 3))], [(it, rgO ((i : Int) + 1) n)], [(acc, listO ((⟨dds.map rdV⟩ : Array Value).push (.ref h4.objs.size)) (ea + 1))], [(sc, dictO #[] 0)], [(Cm, cellO (.int (i : Int) tk1))], [(Cs, cellO (.int sz st))], [(Cb, cellO (.ref Tb))], [(Tb, listO ⟨bs.map iv⟩ eb)], dcells dds, ρ]; have D14 : Rep h₀ h13 F (cat S14) := D13.eq (by kernel_rfl)
        have D15 := (Rep.shuf _ [11, 2, 11, 11, 11, 11, 11, 11, 11, 11, 11, 11] D14).mask [false, false]
        refine l170m (it := it) (acc := acc) (sc := sc) (Cm := Cm) (Cs := Cs) (Cb := Cb) (Tb := Tb) (L := L) (bs := bs) (eb := eb) (sz := sz) (st := st) o n _ G (i + 1) (dds ++ [⟨h4.objs.size, ws, ew⟩]) (ea + 1) (some (.int (i : Int) tk1)) h13 tk13 hsz hl (by rw [List.length_append, List.length_singleton]; omega) ?_ ?_
        · rw [rdV_snoc, dcells_snoc]
          exact D15
        · intro h' tk' dds' ea' mv' hy D'
          refine z h' tk' dds' ea' mv' ?_ D'
          rw [hy, dueM, List.map_append, List.append_assoc, List.length_map]
          congr 1
          show [ws.map (·.1)] ++ _ = _
          rw [hws]; rfl
      · refine sg2L 1000 [.s 0, .s 0, .s 0, .e, .s 4] [] G o.hd D10 ?_; intro fh11 oh11; refine ⟨by kernel_rfl, fun h11 tk11 D11 => ?_⟩
        refine u_append D11 4 (l := acc) (items := ⟨dds.map rdV⟩) (n := ea) (v := .ref h4.objs.size) (by kernel_rfl) (line_of (n := dds.length) (by omega) (by simp)) (by kernel_rfl) (by kernel_rfl) fun h12 D12 => ?_
        refine sg2L 1000 [] [] G o.hd D12 ?_; intro fh13 oh13; refine ⟨by kernel_rfl, fun h13 tk13 D13 => ?_⟩
        refine end_again (c' := compC (gdW G).params 170 (e170m (gdW G).params) it acc sc L [(s_many, Cm), (s_size, Cs), (s_behind, Cb)]) (by kernel_rfl) (by kernel_rfl) (by kernel_rfl) ?_
        let S14 : List Cells := [[(h4.objs.size + 1, dictO #[] 2)], [(h4.objs.size, listO ⟨ws.map iv⟩ ew)], [(h2.objs.size, rangeO 0 (sz + 1) (tk1 + 1 + 2) (tk1 + 1 + 1) (tk1 + 1 + 3))], [(it, rgO ((i : Int) + 1) n)], [(acc, listO ((⟨dds.map rdV⟩ : Array Value).push (.ref h4.objs.size)) (ea + 1))], [(sc, dictO #[] 0)], [(Cm, cellO (.int (i : Int) tk1))], [(Cs, cellO (.int sz st))], [(Cb, cellO (.ref Tb))], [(Tb, listO ⟨bs.map iv⟩ eb)], dcells dds, ρ]; have D14 : Rep h₀ h13 F (cat S14) := D13.eq (by kernel_rfl)
        have D15 := (Rep.shuf _ [11, 2, 11, 11, 11, 11, 11, 11, 11, 11, 11, 11] D14).mask [false, false]
        refine l170m (it := it) (acc := acc) (sc := sc) (Cm := Cm) (Cs := Cs) (Cb := Cb) (Tb := Tb) (L := L) (bs := bs) (eb := eb) (sz := sz) (st := st) o n _ G (i + 1) (dds ++ [⟨h4.objs.size, ws, ew⟩]) (ea + 1) (some (.int (i : Int) tk1)) h13 tk13 hsz hl (by rw [List.length_append, List.length_singleton]; omega) ?_ ?_
        · rw [rdV_snoc, dcells_snoc]
          exact D15
        · intro h' tk' dds' ea' mv' hy D'
          refine z h' tk' dds' ea' mv' ?_ D'
          rw [hy, dueM, List.map_append, List.append_assoc, List.length_map]
          congr 1
          show [ws.map (·.1)] ++ _ = _
          rw [hws]; rfl
theorem s170m {it acc sc Cm Cs Cb Tb L : Addr} {bs : List IT} {eb n : Nat} {sz : Int} {st : Tok} (G : Gd (wF b1 b2 b3 w₀) h₀) (o : Ok A 4) (hsz : sz + 1 = (bs.length : Int)) (hl : bs.length ≤ 900) (hn : n ≤ 900)
    (D : Rep h₀ h F ((it, rgO 0 n) :: (acc, listO #[] 0) :: (sc, dictO #[] 0) :: (Cm, cellP none) :: (Cs, cellO (.int sz st)) :: (Cb, cellO (.ref Tb)) :: (Tb, listO ⟨bs.map iv⟩ eb) :: ρ))
    (z : ∀ h' tk' (dds' : List Rd) ea' mv', dds'.map Rd.p = dueM (bs.map (·.1)) 0 n → Rep h₀ h' F ((acc, listO ⟨dds'.map rdV⟩ ea') :: (sc, dictO #[] 0) :: (Cm, cellP mv') :: (Cs, cellO (.int sz st)) :: (Cb, cellO (.ref Tb)) :: (Tb, listO ⟨bs.map iv⟩ eb) :: (dcells dds' ++ ρ)) → R (.ok .next) ⟨h', g, d, tk', os₀⟩) :
    codeAny (model prog (wF b1 b2 b3 w₀)) A (compS (wF b1 b2 b3 w₀).params 170 (e170m (wF b1 b2 b3 w₀).params) it acc sc L [(s_many, Cm), (s_size, Cs), (s_behind, Cb)]) R ⟨h, g, d, tk, os₀⟩ := by
  refine code_start ?_
  cases b2
  · all_goals
      refine sg2L 1000 [.s 0, .s 0, .e, .s 0, .e, .s 0] [] G o.hd D ?_; intro fh5 oh5; refine ⟨by kernel_rfl, fun h5 tk5 D5 => ?_⟩
      refine end_again (c' := compC (gdW G).params 170 (e170m (gdW G).params) it acc sc L [(s_many, Cm), (s_size, Cs), (s_behind, Cb)]) (by kernel_rfl) (by kernel_rfl) (by kernel_rfl) ?_
      exact l170m (it := it) (acc := acc) (sc := sc) (Cm := Cm) (Cs := Cs) (Cb := Cb) (Tb := Tb) (L := L) (bs := bs) (eb := eb) (sz := sz) (st := st) o n _ G 0 [] 0 none h5 tk5 hsz hl (by simp only [List.length_nil]; omega) (D5.eq (by kernel_rfl)) z
  · all_goals
      refine sg2L 1000 [] [] G o.hd D ?_; intro fh5 oh5; refine ⟨by kernel_rfl, fun h5 tk5 D5 => ?_⟩
      refine end_again (c' := compC (gdW G).params 170 (e170m (gdW G).params) it acc sc L [(s_many, Cm), (s_size, Cs), (s_behind, Cb)]) (by kernel_rfl) (by kernel_rfl) (by kernel_rfl) ?_
      exact l170m (it := it) (acc := acc) (sc := sc) (Cm := Cm) (Cs := Cs) (Cb := Cb) (Tb := Tb) (L := L) (bs := bs) (eb := eb) (sz := sz) (st := st) o n _ G 0 [] 0 none h5 tk5 hsz hl (by simp only [List.length_nil]; omega) (D5.eq (by kernel_rfl)) z
noncomputable def e170r (P : Params) : Option Expr := match fstmt P 170 9 with
  | some (.Return (some (.Compare (.Call _ [x] _ _) _ _ _)) _) => some x
  | _ => none
noncomputable def rowsM : Nat → List (List Int) → List (Int × Option Int)
  | _, [] => []
  | i, t :: r => ((i : Int), t[1]?) :: rowsM (i + 1) r
theorem l170r {it acc sc Ct Tt L : Addr} {et : Nat} (o : Ok A 2) : ∀ (rest : List Rd) (b1 : Bool) (_ : Gd (wF b1 b2 b3 w₀) h₀) (dn : List Rd) (v : Option (Q2 × Value)) (rows : List Rw) (ea : Nat) (h : Heap) (tk : Nat),
    dn.length + rest.length ≤ 900 → rows.length + rest.length ≤ 1000 → (∀ r ∈ rest, r.xs = [] ∨ ∃ a b, r.xs = [a, b]) →
    Rep h₀ h F ((it, rgO (dn.length : Int) rest.length) :: (acc, listO ⟨rows.map rwV⟩ ea) :: (sc, dictO (scE s_k v) (scN v)) :: (Ct, cellO (.ref Tt)) :: (Tt, listO ⟨(dn ++ rest).map rdV⟩ et) :: (dcells (dn ++ rest) ++ (rcells rows ++ ρ))) →
    (∀ h' tk' (rows' : List Rw) ea' v', (rest ≠ [] ∨ v.isSome = true → v'.isSome = true) → rows'.map Rw.p = rows.map Rw.p ++ rowsM dn.length (rest.map Rd.p) → Rep h₀ h' F ((acc, listO ⟨rows'.map rwV⟩ ea') :: (sc, dictO (scE s_k v') (scN v')) :: (Ct, cellO (.ref Tt)) :: (Tt, listO ⟨(dn ++ rest).map rdV⟩ et) :: (dcells (dn ++ rest) ++ (rcells rows' ++ ρ))) → R (.ok .next) ⟨h', g, d, tk', os₀⟩) →
    codeAny (model prog (wF b1 b2 b3 w₀)) A (compC (wF b1 b2 b3 w₀).params 170 (e170r (wF b1 b2 b3 w₀).params) it acc sc L [(s_told, Ct)]) R ⟨h, g, d, tk, os₀⟩
  | [] => by
    intro b1 G dn v rows ea h tk hl hz hsh D z
    refine code_start ?_
    refine sg2L 1000 [.s 0, .e, .s 0] [] G o.hd D ?_; intro fh1 oh1; refine ⟨by kernel_rfl, fun h1 tk1 D1 => ?_⟩
    refine u_rstop D1 0 (it := it) (i := (dn.length : Int)) (by kernel_rfl) o.hd (by kernel_rfl) (by kernel_rfl) (by kernel_rfl) fun h2 E E0 D2 => ?_
    refine sg2L 1000 [.s 0] [false, false, false] G o.hd D2 ?_; intro fh3 oh3; refine ⟨by kernel_rfl, fun h3 tk3 D3 => ?_⟩
    exact end_done (f := .next) (by kernel_rfl) (by kernel_rfl) (z h3 tk3 rows ea v (fun y => y.elim (fun y => absurd rfl y) id) (by simp [rowsM]) (D3.eq (by kernel_rfl)))
  | ⟨xa, xs, xe⟩ :: rest => by
    intro b1 G dn v rows ea h tk hl hz hsh D z
    simp only [List.length_cons] at hl hz
    have hsx : xs = [] ∨ ∃ a b, xs = [a, b] := hsh _ (.head _)
    refine code_start ?_
    refine sg2L 1000 [.s 0, .e, .s 0] [] G o.hd D ?_; intro fh1 oh1; refine ⟨by kernel_rfl, fun h1 tk1 D1 => ?_⟩
    refine u_rnext D1 0 (it := it) (i := (dn.length : Int)) (n := rest.length) (by kernel_rfl) (by kernel_rfl) (by kernel_rfl) fun h2 D2 => ?_
    rcases v with _ | ⟨q, v⟩
    · all_goals
      refine sg2L 1000 [.s 2, .s 2, .s 2, .s 4, .s 3, .s 5, .s 5, .s 5, .e, .s 5] [] G o.hd D2 ?_; intro fh3 oh3; refine ⟨by kernel_rfl, fun h3 tk3 D3 => ?_⟩
      refine u_lget D3 5 (l := Tt) (items := ⟨(dn ++ ⟨xa, xs, xe⟩ :: rest).map rdV⟩) (n := et) (x := (dn.length : Int)) (u := tk1) (y := .ref xa) (by kernel_rfl) (by omega) (by omega) (by rw [Int.toNat_natCast]; simp [rdV]) (by kernel_rfl) (by kernel_rfl) ?_
      let S4 : List Cells := [[(h2.objs.size, listO #[.int (dn.length : Int) tk1] 0)], [(it, rgO ((dn.length : Int) + 1) rest.length)], [(acc, listO ⟨rows.map rwV⟩ ea)], [(sc, dictO (scE s_k (some ((hS w₀.params s_k, tk1 + 1), .int (dn.length : Int) tk1))) 1)], [(Ct, cellO (.ref Tt))], [(Tt, listO ⟨(dn ++ ⟨xa, xs, xe⟩ :: rest).map rdV⟩ et)], dcells dn, [(xa, listO ⟨xs.map iv⟩ xe)], dcells rest, rcells rows, ρ]; have D4 : Rep h₀ h3 F (cat S4) := by
        have D4' := D3.tail 6 (rest := dcells (dn ++ ⟨xa, xs, xe⟩ :: rest) ++ (rcells rows ++ ρ)) (by kernel_rfl)
        rw [dcells_mid] at D4'
        exact D4'.eq (by kernel_rfl)
      have D5 := Rep.shuf _ [10, 10, 10, 9, 10, 10, 10, 10, 10, 10, 10] D4
      refine sg2L 1000 [.s 7, .s 7, .s 7, .e, .s 7] [] G o.hd D5 ?_; intro fh6' oh6'; refine ⟨by kernel_rfl, fun h6' tk6 D6 => ?_⟩
      refine u_lslice D6 7 (l := xa) (sl := h3.objs.size) (items := ⟨xs.map iv⟩) (n := xe) (vl := .int 1 tk3) (vu := .none) (lo := some 1) (hi := none) (by kernel_rfl) 0 (by kernel_rfl) (.int 1 tk3) .none (by rcases hsx with rfl | ⟨a, b, rfl⟩ <;> exact Nat.le_of_ble_eq_true (by kernel_rfl)) (by kernel_rfl) (by kernel_rfl) fun h7 S2 D7 => ?_
      rcases hsx with rfl | ⟨xa0, xb0, rfl⟩
      · let S8 : List Cells := [[(S2, listO #[] 0)], [(h3.objs.size, sliceO (.int 1 tk3) .none .none)], [(h2.objs.size, listO #[.int (dn.length : Int) tk1] 0)], [(it, rgO ((dn.length : Int) + 1) rest.length)], [(acc, listO ⟨rows.map rwV⟩ ea)], [(sc, dictO (scE s_k (some ((hS w₀.params s_k, tk1 + 1), .int (dn.length : Int) tk1))) 1)], [(Ct, cellO (.ref Tt))], [(Tt, listO ⟨(dn ++ ⟨xa, ([] : List IT), xe⟩ :: rest).map rdV⟩ et)], [(xa, listO ⟨(([] : List IT)).map iv⟩ xe)], dcells dn, dcells rest, rcells rows, ρ]; have D8 : Rep h₀ h7 F (cat S8) := by
          have e : slicePick (⟨(([] : List IT)).map iv⟩ : Array Value) (some 1) none none = #[] := pick_from ((([] : List IT)).map iv) 1
          rw [e] at D7
          exact D7.eq (by kernel_rfl)
        refine sg2L 1000 [.e, .s 2, .s 0, .s 2, .e, .s 2] [] G o.hd D8 ?_; intro fh9 oh9; refine ⟨by kernel_rfl, fun h9 tk9 D9 => ?_⟩
        refine u_ladd D9 2 (l := h2.objs.size) (b := S2) (items := #[.int (dn.length : Int) tk1]) (items2 := #[]) (n := 0) (n2 := 0) (by kernel_rfl) 0 (by kernel_rfl) (Nat.le_of_ble_eq_true (by kernel_rfl)) (by kernel_rfl) (by kernel_rfl) fun h10 T D10 => ?_
        refine sg2L 1000 [.e, .s 5] [] G o.hd D10 ?_; intro fh11 oh11; refine ⟨by kernel_rfl, fun h11 tk11 D11 => ?_⟩
        refine u_append D11 5 (l := acc) (items := ⟨rows.map rwV⟩) (n := ea) (v := .ref T) (by kernel_rfl) (line_of (n := rows.length) (by omega) (by simp)) (by kernel_rfl) (by kernel_rfl) fun h12 D12 => ?_
        refine sg2L 1000 [] [] G o.hd D12 ?_; intro fh13 oh13; refine ⟨by kernel_rfl, fun h13 tk13 D13 => ?_⟩
        refine end_again (c' := compC (gdW G).params 170 (e170r (gdW G).params) it acc sc L [(s_told, Ct)]) (by kernel_rfl) (by kernel_rfl) (by kernel_rfl) ?_
        let S14 : List Cells := [[(T, listO (rwI ⟨T, ((dn.length : Int), tk1), none, 0⟩) 0)], [(S2, listO #[] 0)], [(h3.objs.size, sliceO (.int 1 tk3) .none .none)], [(h2.objs.size, listO #[.int (dn.length : Int) tk1] 0)], [(it, rgO ((dn.length : Int) + 1) rest.length)], [(acc, listO ((⟨rows.map rwV⟩ : Array Value).push (.ref T)) (ea + 1))], [(sc, dictO (scE s_k (some ((hS w₀.params s_k, tk1 + 1), .int (dn.length : Int) tk1))) 1)], [(Ct, cellO (.ref Tt))], [(Tt, listO ⟨(dn ++ ⟨xa, ([] : List IT), xe⟩ :: rest).map rdV⟩ et)], [(xa, listO ⟨(([] : List IT)).map iv⟩ xe)], dcells dn, dcells rest, rcells rows, ρ]; have D14 : Rep h₀ h13 F (cat S14) := D13.eq (by kernel_rfl)
        have D15 := (Rep.shuf _ [13, 1, 13, 13, 12, 13, 13, 13, 13, 13, 13, 13, 13, 13] D14).mask [false, false, false]
        refine l170r (it := it) (acc := acc) (sc := sc) (Ct := Ct) (Tt := Tt) (L := L) (et := et) o rest _ G (dn ++ [⟨xa, ([] : List IT), xe⟩]) (some ((hS w₀.params s_k, tk1 + 1), .int (dn.length : Int) tk1)) (rows ++ [⟨T, ((dn.length : Int), tk1), none, 0⟩]) (ea + 1) h13 tk13 (by rw [List.length_append, List.length_singleton]; omega) (by rw [List.length_append, List.length_singleton]; omega) (fun r hr => hsh r (.tail _ hr)) ?_ ?_
        · rw [List.append_assoc, List.length_append, rwV_snoc, rcells_snoc]
          refine Rep.eq D15 ?_
          show _ = _ :: _ :: _ :: _ :: _ :: (dcells (dn ++ ⟨xa, ([] : List IT), xe⟩ :: rest) ++ (rcells rows ++ ((T, listO (rwI ⟨T, ((dn.length : Int), tk1), none, 0⟩) 0) :: ρ)))
          rw [dcells_mid]
          kernel_rfl
        · intro h' tk' rows' ea' v' hv' hy D'
          rw [List.append_assoc] at D'
          refine z h' tk' rows' ea' v' (fun _ => hv' (.inr rfl)) ?_ D'
          rw [hy, List.length_append, List.map_cons, rowsM, List.map_append, List.append_assoc]
          rfl
      · let S8 : List Cells := [[(S2, listO #[iv xb0] 0)], [(h3.objs.size, sliceO (.int 1 tk3) .none .none)], [(h2.objs.size, listO #[.int (dn.length : Int) tk1] 0)], [(it, rgO ((dn.length : Int) + 1) rest.length)], [(acc, listO ⟨rows.map rwV⟩ ea)], [(sc, dictO (scE s_k (some ((hS w₀.params s_k, tk1 + 1), .int (dn.length : Int) tk1))) 1)], [(Ct, cellO (.ref Tt))], [(Tt, listO ⟨(dn ++ ⟨xa, [xa0, xb0], xe⟩ :: rest).map rdV⟩ et)], [(xa, listO ⟨([xa0, xb0]).map iv⟩ xe)], dcells dn, dcells rest, rcells rows, ρ]; have D8 : Rep h₀ h7 F (cat S8) := by
          have e : slicePick (⟨([xa0, xb0]).map iv⟩ : Array Value) (some 1) none none = #[iv xb0] := pick_from (([xa0, xb0]).map iv) 1
          rw [e] at D7
          exact D7.eq (by kernel_rfl)
        refine sg2L 1000 [.e, .s 2, .s 0, .s 2, .e, .s 2] [] G o.hd D8 ?_; intro fh9 oh9; refine ⟨by kernel_rfl, fun h9 tk9 D9 => ?_⟩
        refine u_ladd D9 2 (l := h2.objs.size) (b := S2) (items := #[.int (dn.length : Int) tk1]) (items2 := #[iv xb0]) (n := 0) (n2 := 0) (by kernel_rfl) 0 (by kernel_rfl) (Nat.le_of_ble_eq_true (by kernel_rfl)) (by kernel_rfl) (by kernel_rfl) fun h10 T D10 => ?_
        refine sg2L 1000 [.e, .s 5] [] G o.hd D10 ?_; intro fh11 oh11; refine ⟨by kernel_rfl, fun h11 tk11 D11 => ?_⟩
        refine u_append D11 5 (l := acc) (items := ⟨rows.map rwV⟩) (n := ea) (v := .ref T) (by kernel_rfl) (line_of (n := rows.length) (by omega) (by simp)) (by kernel_rfl) (by kernel_rfl) fun h12 D12 => ?_
        refine sg2L 1000 [] [] G o.hd D12 ?_; intro fh13 oh13; refine ⟨by kernel_rfl, fun h13 tk13 D13 => ?_⟩
        refine end_again (c' := compC (gdW G).params 170 (e170r (gdW G).params) it acc sc L [(s_told, Ct)]) (by kernel_rfl) (by kernel_rfl) (by kernel_rfl) ?_
        let S14 : List Cells := [[(T, listO (rwI ⟨T, ((dn.length : Int), tk1), some xb0, 0⟩) 0)], [(S2, listO #[iv xb0] 0)], [(h3.objs.size, sliceO (.int 1 tk3) .none .none)], [(h2.objs.size, listO #[.int (dn.length : Int) tk1] 0)], [(it, rgO ((dn.length : Int) + 1) rest.length)], [(acc, listO ((⟨rows.map rwV⟩ : Array Value).push (.ref T)) (ea + 1))], [(sc, dictO (scE s_k (some ((hS w₀.params s_k, tk1 + 1), .int (dn.length : Int) tk1))) 1)], [(Ct, cellO (.ref Tt))], [(Tt, listO ⟨(dn ++ ⟨xa, [xa0, xb0], xe⟩ :: rest).map rdV⟩ et)], [(xa, listO ⟨([xa0, xb0]).map iv⟩ xe)], dcells dn, dcells rest, rcells rows, ρ]; have D14 : Rep h₀ h13 F (cat S14) := D13.eq (by kernel_rfl)
        have D15 := (Rep.shuf _ [13, 1, 13, 13, 12, 13, 13, 13, 13, 13, 13, 13, 13, 13] D14).mask [false, false, false]
        refine l170r (it := it) (acc := acc) (sc := sc) (Ct := Ct) (Tt := Tt) (L := L) (et := et) o rest _ G (dn ++ [⟨xa, [xa0, xb0], xe⟩]) (some ((hS w₀.params s_k, tk1 + 1), .int (dn.length : Int) tk1)) (rows ++ [⟨T, ((dn.length : Int), tk1), some xb0, 0⟩]) (ea + 1) h13 tk13 (by rw [List.length_append, List.length_singleton]; omega) (by rw [List.length_append, List.length_singleton]; omega) (fun r hr => hsh r (.tail _ hr)) ?_ ?_
        · rw [List.append_assoc, List.length_append, rwV_snoc, rcells_snoc]
          refine Rep.eq D15 ?_
          show _ = _ :: _ :: _ :: _ :: _ :: (dcells (dn ++ ⟨xa, [xa0, xb0], xe⟩ :: rest) ++ (rcells rows ++ ((T, listO (rwI ⟨T, ((dn.length : Int), tk1), some xb0, 0⟩) 0) :: ρ)))
          rw [dcells_mid]
          kernel_rfl
        · intro h' tk' rows' ea' v' hv' hy D'
          rw [List.append_assoc] at D'
          refine z h' tk' rows' ea' v' (fun _ => hv' (.inr rfl)) ?_ D'
          rw [hy, List.length_append, List.map_cons, rowsM, List.map_append, List.append_assoc]
          rfl
    · all_goals
      refine sg2L 1000 [.s 2, .s 2, .s 2, .s 4, .s 3, .s 5, .s 5, .s 5, .e, .s 5] [] G o.hd D2 ?_; intro fh3 oh3; refine ⟨by kernel_rfl, fun h3 tk3 D3 => ?_⟩
      refine u_lget D3 5 (l := Tt) (items := ⟨(dn ++ ⟨xa, xs, xe⟩ :: rest).map rdV⟩) (n := et) (x := (dn.length : Int)) (u := tk1) (y := .ref xa) (by kernel_rfl) (by omega) (by omega) (by rw [Int.toNat_natCast]; simp [rdV]) (by kernel_rfl) (by kernel_rfl) ?_
      let S4 : List Cells := [[(h2.objs.size, listO #[.int (dn.length : Int) tk1] 0)], [(it, rgO ((dn.length : Int) + 1) rest.length)], [(acc, listO ⟨rows.map rwV⟩ ea)], [(sc, dictO (scE s_k (some (q, .int (dn.length : Int) tk1))) 1)], [(Ct, cellO (.ref Tt))], [(Tt, listO ⟨(dn ++ ⟨xa, xs, xe⟩ :: rest).map rdV⟩ et)], dcells dn, [(xa, listO ⟨xs.map iv⟩ xe)], dcells rest, rcells rows, ρ]; have D4 : Rep h₀ h3 F (cat S4) := by
        have D4' := D3.tail 6 (rest := dcells (dn ++ ⟨xa, xs, xe⟩ :: rest) ++ (rcells rows ++ ρ)) (by kernel_rfl)
        rw [dcells_mid] at D4'
        exact D4'.eq (by kernel_rfl)
      have D5 := Rep.shuf _ [10, 10, 10, 9, 10, 10, 10, 10, 10, 10, 10] D4
      refine sg2L 1000 [.s 7, .s 7, .s 7, .e, .s 7] [] G o.hd D5 ?_; intro fh6' oh6'; refine ⟨by kernel_rfl, fun h6' tk6 D6 => ?_⟩
      refine u_lslice D6 7 (l := xa) (sl := h3.objs.size) (items := ⟨xs.map iv⟩) (n := xe) (vl := .int 1 tk3) (vu := .none) (lo := some 1) (hi := none) (by kernel_rfl) 0 (by kernel_rfl) (.int 1 tk3) .none (by rcases hsx with rfl | ⟨a, b, rfl⟩ <;> exact Nat.le_of_ble_eq_true (by kernel_rfl)) (by kernel_rfl) (by kernel_rfl) fun h7 S2 D7 => ?_
      rcases hsx with rfl | ⟨xa0, xb0, rfl⟩
      · let S8 : List Cells := [[(S2, listO #[] 0)], [(h3.objs.size, sliceO (.int 1 tk3) .none .none)], [(h2.objs.size, listO #[.int (dn.length : Int) tk1] 0)], [(it, rgO ((dn.length : Int) + 1) rest.length)], [(acc, listO ⟨rows.map rwV⟩ ea)], [(sc, dictO (scE s_k (some (q, .int (dn.length : Int) tk1))) 1)], [(Ct, cellO (.ref Tt))], [(Tt, listO ⟨(dn ++ ⟨xa, ([] : List IT), xe⟩ :: rest).map rdV⟩ et)], [(xa, listO ⟨(([] : List IT)).map iv⟩ xe)], dcells dn, dcells rest, rcells rows, ρ]; have D8 : Rep h₀ h7 F (cat S8) := by
          have e : slicePick (⟨(([] : List IT)).map iv⟩ : Array Value) (some 1) none none = #[] := pick_from ((([] : List IT)).map iv) 1
          rw [e] at D7
          exact D7.eq (by kernel_rfl)
        refine sg2L 1000 [.e, .s 2, .s 0, .s 2, .e, .s 2] [] G o.hd D8 ?_; intro fh9 oh9; refine ⟨by kernel_rfl, fun h9 tk9 D9 => ?_⟩
        refine u_ladd D9 2 (l := h2.objs.size) (b := S2) (items := #[.int (dn.length : Int) tk1]) (items2 := #[]) (n := 0) (n2 := 0) (by kernel_rfl) 0 (by kernel_rfl) (Nat.le_of_ble_eq_true (by kernel_rfl)) (by kernel_rfl) (by kernel_rfl) fun h10 T D10 => ?_
        refine sg2L 1000 [.e, .s 5] [] G o.hd D10 ?_; intro fh11 oh11; refine ⟨by kernel_rfl, fun h11 tk11 D11 => ?_⟩
        refine u_append D11 5 (l := acc) (items := ⟨rows.map rwV⟩) (n := ea) (v := .ref T) (by kernel_rfl) (line_of (n := rows.length) (by omega) (by simp)) (by kernel_rfl) (by kernel_rfl) fun h12 D12 => ?_
        refine sg2L 1000 [] [] G o.hd D12 ?_; intro fh13 oh13; refine ⟨by kernel_rfl, fun h13 tk13 D13 => ?_⟩
        refine end_again (c' := compC (gdW G).params 170 (e170r (gdW G).params) it acc sc L [(s_told, Ct)]) (by kernel_rfl) (by kernel_rfl) (by kernel_rfl) ?_
        let S14 : List Cells := [[(T, listO (rwI ⟨T, ((dn.length : Int), tk1), none, 0⟩) 0)], [(S2, listO #[] 0)], [(h3.objs.size, sliceO (.int 1 tk3) .none .none)], [(h2.objs.size, listO #[.int (dn.length : Int) tk1] 0)], [(it, rgO ((dn.length : Int) + 1) rest.length)], [(acc, listO ((⟨rows.map rwV⟩ : Array Value).push (.ref T)) (ea + 1))], [(sc, dictO (scE s_k (some (q, .int (dn.length : Int) tk1))) 1)], [(Ct, cellO (.ref Tt))], [(Tt, listO ⟨(dn ++ ⟨xa, ([] : List IT), xe⟩ :: rest).map rdV⟩ et)], [(xa, listO ⟨(([] : List IT)).map iv⟩ xe)], dcells dn, dcells rest, rcells rows, ρ]; have D14 : Rep h₀ h13 F (cat S14) := D13.eq (by kernel_rfl)
        have D15 := (Rep.shuf _ [13, 1, 13, 13, 12, 13, 13, 13, 13, 13, 13, 13, 13, 13] D14).mask [false, false, false]
        refine l170r (it := it) (acc := acc) (sc := sc) (Ct := Ct) (Tt := Tt) (L := L) (et := et) o rest _ G (dn ++ [⟨xa, ([] : List IT), xe⟩]) (some (q, .int (dn.length : Int) tk1)) (rows ++ [⟨T, ((dn.length : Int), tk1), none, 0⟩]) (ea + 1) h13 tk13 (by rw [List.length_append, List.length_singleton]; omega) (by rw [List.length_append, List.length_singleton]; omega) (fun r hr => hsh r (.tail _ hr)) ?_ ?_
        · rw [List.append_assoc, List.length_append, rwV_snoc, rcells_snoc]
          refine Rep.eq D15 ?_
          show _ = _ :: _ :: _ :: _ :: _ :: (dcells (dn ++ ⟨xa, ([] : List IT), xe⟩ :: rest) ++ (rcells rows ++ ((T, listO (rwI ⟨T, ((dn.length : Int), tk1), none, 0⟩) 0) :: ρ)))
          rw [dcells_mid]
          kernel_rfl
        · intro h' tk' rows' ea' v' hv' hy D'
          rw [List.append_assoc] at D'
          refine z h' tk' rows' ea' v' (fun _ => hv' (.inr rfl)) ?_ D'
          rw [hy, List.length_append, List.map_cons, rowsM, List.map_append, List.append_assoc]
          rfl
      · let S8 : List Cells := [[(S2, listO #[iv xb0] 0)], [(h3.objs.size, sliceO (.int 1 tk3) .none .none)], [(h2.objs.size, listO #[.int (dn.length : Int) tk1] 0)], [(it, rgO ((dn.length : Int) + 1) rest.length)], [(acc, listO ⟨rows.map rwV⟩ ea)], [(sc, dictO (scE s_k (some (q, .int (dn.length : Int) tk1))) 1)], [(Ct, cellO (.ref Tt))], [(Tt, listO ⟨(dn ++ ⟨xa, [xa0, xb0], xe⟩ :: rest).map rdV⟩ et)], [(xa, listO ⟨([xa0, xb0]).map iv⟩ xe)], dcells dn, dcells rest, rcells rows, ρ]; have D8 : Rep h₀ h7 F (cat S8) := by
          have e : slicePick (⟨([xa0, xb0]).map iv⟩ : Array Value) (some 1) none none = #[iv xb0] := pick_from (([xa0, xb0]).map iv) 1
          rw [e] at D7
          exact D7.eq (by kernel_rfl)
        refine sg2L 1000 [.e, .s 2, .s 0, .s 2, .e, .s 2] [] G o.hd D8 ?_; intro fh9 oh9; refine ⟨by kernel_rfl, fun h9 tk9 D9 => ?_⟩
        refine u_ladd D9 2 (l := h2.objs.size) (b := S2) (items := #[.int (dn.length : Int) tk1]) (items2 := #[iv xb0]) (n := 0) (n2 := 0) (by kernel_rfl) 0 (by kernel_rfl) (Nat.le_of_ble_eq_true (by kernel_rfl)) (by kernel_rfl) (by kernel_rfl) fun h10 T D10 => ?_
        refine sg2L 1000 [.e, .s 5] [] G o.hd D10 ?_; intro fh11 oh11; refine ⟨by kernel_rfl, fun h11 tk11 D11 => ?_⟩
        refine u_append D11 5 (l := acc) (items := ⟨rows.map rwV⟩) (n := ea) (v := .ref T) (by kernel_rfl) (line_of (n := rows.length) (by omega) (by simp)) (by kernel_rfl) (by kernel_rfl) fun h12 D12 => ?_
        refine sg2L 1000 [] [] G o.hd D12 ?_; intro fh13 oh13; refine ⟨by kernel_rfl, fun h13 tk13 D13 => ?_⟩
        refine end_again (c' := compC (gdW G).params 170 (e170r (gdW G).params) it acc sc L [(s_told, Ct)]) (by kernel_rfl) (by kernel_rfl) (by kernel_rfl) ?_
        let S14 : List Cells := [[(T, listO (rwI ⟨T, ((dn.length : Int), tk1), some xb0, 0⟩) 0)], [(S2, listO #[iv xb0] 0)], [(h3.objs.size, sliceO (.int 1 tk3) .none .none)], [(h2.objs.size, listO #[.int (dn.length : Int) tk1] 0)], [(it, rgO ((dn.length : Int) + 1) rest.length)], [(acc, listO ((⟨rows.map rwV⟩ : Array Value).push (.ref T)) (ea + 1))], [(sc, dictO (scE s_k (some (q, .int (dn.length : Int) tk1))) 1)], [(Ct, cellO (.ref Tt))], [(Tt, listO ⟨(dn ++ ⟨xa, [xa0, xb0], xe⟩ :: rest).map rdV⟩ et)], [(xa, listO ⟨([xa0, xb0]).map iv⟩ xe)], dcells dn, dcells rest, rcells rows, ρ]; have D14 : Rep h₀ h13 F (cat S14) := D13.eq (by kernel_rfl)
        have D15 := (Rep.shuf _ [13, 1, 13, 13, 12, 13, 13, 13, 13, 13, 13, 13, 13, 13] D14).mask [false, false, false]
        refine l170r (it := it) (acc := acc) (sc := sc) (Ct := Ct) (Tt := Tt) (L := L) (et := et) o rest _ G (dn ++ [⟨xa, [xa0, xb0], xe⟩]) (some (q, .int (dn.length : Int) tk1)) (rows ++ [⟨T, ((dn.length : Int), tk1), some xb0, 0⟩]) (ea + 1) h13 tk13 (by rw [List.length_append, List.length_singleton]; omega) (by rw [List.length_append, List.length_singleton]; omega) (fun r hr => hsh r (.tail _ hr)) ?_ ?_
        · rw [List.append_assoc, List.length_append, rwV_snoc, rcells_snoc]
          refine Rep.eq D15 ?_
          show _ = _ :: _ :: _ :: _ :: _ :: (dcells (dn ++ ⟨xa, [xa0, xb0], xe⟩ :: rest) ++ (rcells rows ++ ((T, listO (rwI ⟨T, ((dn.length : Int), tk1), some xb0, 0⟩) 0) :: ρ)))
          rw [dcells_mid]
          kernel_rfl
        · intro h' tk' rows' ea' v' hv' hy D'
          rw [List.append_assoc] at D'
          refine z h' tk' rows' ea' v' (fun _ => hv' (.inr rfl)) ?_ D'
          rw [hy, List.length_append, List.map_cons, rowsM, List.map_append, List.append_assoc]
          rfl
theorem s170r {it acc sc Ct Tt L : Addr} {et : Nat} {rest : List Rd} (G : Gd (wF b1 b2 b3 w₀) h₀) (o : Ok A 2) (hl : rest.length ≤ 900) (hsh : ∀ r ∈ rest, r.xs = [] ∨ ∃ a b, r.xs = [a, b])
    (D : Rep h₀ h F ((it, rgO 0 rest.length) :: (acc, listO #[] 0) :: (sc, dictO #[] 0) :: (Ct, cellO (.ref Tt)) :: (Tt, listO ⟨rest.map rdV⟩ et) :: (dcells rest ++ ρ)))
    (z : ∀ h' tk' (rows' : List Rw) ea' v', (rest ≠ [] ∨ (none : Option (Q2 × Value)).isSome = true → v'.isSome = true) → rows'.map Rw.p = rowsM 0 (rest.map Rd.p) → Rep h₀ h' F ((acc, listO ⟨rows'.map rwV⟩ ea') :: (sc, dictO (scE s_k v') (scN v')) :: (Ct, cellO (.ref Tt)) :: (Tt, listO ⟨rest.map rdV⟩ et) :: (dcells rest ++ (rcells rows' ++ ρ))) → R (.ok .next) ⟨h', g, d, tk', os₀⟩) :
    codeAny (model prog (wF b1 b2 b3 w₀)) A (compS (wF b1 b2 b3 w₀).params 170 (e170r (wF b1 b2 b3 w₀).params) it acc sc L [(s_told, Ct)]) R ⟨h, g, d, tk, os₀⟩ := by
  refine code_start ?_
  cases b2
  · all_goals
      refine sg2L 1000 [.s 0, .s 0, .e, .s 0, .e, .s 0] [] G o.hd D ?_; intro fh5 oh5; refine ⟨by kernel_rfl, fun h5 tk5 D5 => ?_⟩
      refine end_again (c' := compC (gdW G).params 170 (e170r (gdW G).params) it acc sc L [(s_told, Ct)]) (by kernel_rfl) (by kernel_rfl) (by kernel_rfl) ?_
      exact l170r (it := it) (acc := acc) (sc := sc) (Ct := Ct) (Tt := Tt) (L := L) (et := et) o rest _ G [] none [] 0 h5 tk5 (by simpa using hl) (by simp only [List.length_nil]; omega) hsh (D5.eq (by kernel_rfl)) z
  · all_goals
      refine sg2L 1000 [] [] G o.hd D ?_; intro fh5 oh5; refine ⟨by kernel_rfl, fun h5 tk5 D5 => ?_⟩
      refine end_again (c' := compC (gdW G).params 170 (e170r (gdW G).params) it acc sc L [(s_told, Ct)]) (by kernel_rfl) (by kernel_rfl) (by kernel_rfl) ?_
      exact l170r (it := it) (acc := acc) (sc := sc) (Ct := Ct) (Tt := Tt) (L := L) (et := et) o rest _ G [] none [] 0 h5 tk5 (by simpa using hl) (by simp only [List.length_nil]; omega) hsh (D5.eq (by kernel_rfl)) z
end Mine
end
section
open PySem PySem.W PySem.W.X PyProof.Rows
set_option Elab.async false
set_option maxRecDepth 100000
set_option maxHeartbeats 1000000
namespace Mine
variable {prog : Program} {w : World} {w₀ : World} {b1 b2 b3 : Bool} {A : Around} {R : Result → Shared → Prop} {h₀ h : Heap} {F : List Addr} {ρ σ : Cells} {g : Array GenState} {d : Drawn} {tk : Nat} {os₀ : OsState}
noncomputable def litI : List Int := [70, 200, 3, 127, 64, 192, 130, 5, 66]
noncomputable def lastB (l : List Int) : Bool := decide (l.getD (l.length - 1) 0 / 64 % 2 = 1)
/-- what the plain law says of the octets -/
structure PL (os : List Int) (last : Bool) where
  ps : List PN
  out : List (List Int)
  f1 : Nat
  f2 : Nat
  adds : Mine.adds (needsM os 0 os.length ++ if last = true then [((os.length : Int), some (os.length : Int))] else []) [] = some ps
  psl : ps.length ≤ 1000
  fc : fcP ps f1 (ps.map (·.k)) [] = some last
  rn : rnds f2 (ps, rd0 ps) = some out
  f2l : f2 ≤ 1000
  outl : out.length ≤ 900
  dues : duesM os out 0 (os.length + 1) = some (toldsM os 0 (os.length + 1))
  flatl : (flatM out).length < 64
  flatne : flatM out ≠ []
  sorted : sortI (flatM out) = flt (fun k => decide (0 < (behM os 0 (os.length + 1)).getD k 0)) 0 os.length
  qs : List PN
  g1 : Nat
  g2 : Nat
  adds2 : Mine.adds (rowsM 0 (toldsM os 0 (os.length + 1))) [] = some qs
  qsl : qs.length ≤ 1000
  fc2 : fcP qs g1 (qs.map (·.k)) [] = some false
  rn2 : rnds g2 (qs, rd0 qs) = some (dueM (behM os 0 (os.length + 1)) 0 (cz os + 1))
  g2l : g2 ≤ 1000
theorem kind170 (P : Params) (L : Addr) (cl : List (Str × Addr)) : (fenvC P 170 L cl).scope.kind ≠ .module := by
  have e : (fenvC P 170 L cl).scope.kind = .function := by kernel_rfl
  rw [e]; decide
noncomputable def ifOrΦ (l rv : Value) (bd orelse rest : List Stmt) (env : Env) (m : Sem Value) : Sem Fin :=
  PySem.W.R.bindR (PySem.W.R.onRaiseR (PySem.W.R.bindR (PySem.W.R.bindR (PySem.W.R.bindR (PySem.W.R.bindR (ZFast.zw8004119333741010377 [l, rv] m) (fun c => ZFast.zw17359229931016689406 [c] (ZFast.zw15245631507167962100 c)))
    (fun b => match b with | true => (Sem.pure true : Sem Bool) | false => Sem.pure false))
    (fun b => PySem.W.X.condFn (Sem Flow) b (ZFast.zw12563942051412417395 bd env) (ZFast.zw12563942051412417395 orelse env)))
    (fun f => match f with | .next => ZFast.zw12563942051412417395 rest env | f => Sem.pure f)) (leaveT env))
    (fun f => match f with | .ret v => Sem.pure (.done (.ret v)) | _ => Sem.pure (.done (.ret .none)))
theorem ifOrΦ_lay (l rv : Value) (bd orelse rest : List Stmt) (env : Env) : LayV (ifOrΦ l rv bd orelse rest env) := ((((((LayV.operate _).bind _).bind _).bind _).bind _).onRaise _).bind _
noncomputable def retΦ (l rv : Value) (rest : List Stmt) (env : Env) (m : Sem Value) : Sem Fin :=
  PySem.W.R.bindR (PySem.W.R.onRaiseR (PySem.W.R.bindR (PySem.W.R.bindR (ZFast.zw8004119333741010377 [l, rv] m) (fun v => Sem.pure (Flow.ret v)))
    (fun f => match f with | .next => ZFast.zw12563942051412417395 rest env | f => Sem.pure f)) (leaveT env))
    (fun f => match f with | .ret v => Sem.pure (.done (.ret v)) | _ => Sem.pure (.done (.ret .none)))
theorem retΦ_lay (l rv : Value) (rest : List Stmt) (env : Env) : LayV (retΦ l rv rest env) := ((((LayV.operate _).bind _).bind _).onRaise _).bind _
noncomputable def rowsD (xss : List (List Int)) : PyData := .list (xss.map fun xs => .list (xs.map PyData.int))
theorem reads_all : ∀ {h : Heap} {rds : List Rd}, (∀ r ∈ rds, h.get? r.a = some (listO ⟨r.xs.map iv⟩ r.e)) → ∃ as, ReadsAll h (rds.map rdV) ((rds.map Rd.p).map fun xs => .list (xs.map PyData.int)) as
  | _, [], _ => ⟨[], .nil⟩
  | h, r :: rs, H => by
    obtain ⟨as, H'⟩ := reads_all (h := h) (rds := rs) fun x hx => H x (.tail _ hx)
    exact ⟨_, .cons (reads_of_ints (vs := r.xs.map iv) ⟨_, H r (.head _), rfl, r.e, rfl⟩ (ints_iv r.xs)) H'⟩
theorem reads_rows {h : Heap} {a : Addr} {rds : List Rd} {e : Nat} (ha : h.get? a = some (listO ⟨rds.map rdV⟩ e)) (H : ∀ r ∈ rds, h.get? r.a = some (listO ⟨r.xs.map iv⟩ r.e)) : ∃ as, Reads h (.ref a) (rowsD (rds.map Rd.p)) as := by
  obtain ⟨as, H'⟩ := reads_all H
  exact ⟨_, .list ha rfl rfl H'⟩
theorem reads_pair {h : Heap} {T R : Addr} {b : Bool} {d : PyData} {as : List Addr} (hT : h.get? T = some (tupO #[.bool b, .ref R] 0)) (H : Reads h (.ref R) d as) : Reads h (.ref T) (.tuple [.bool b, d]) ([] ++ (as ++ [])) :=
  .tuple hT rfl rfl (.cons (.bool b) (.cons H .nil))
theorem canLay_rows : ∀ xss : List (List Int), PyData.canLayAll0 (xss.map fun xs => .list (xs.map PyData.int)) = true
  | [] => rfl
  | x :: r => by
    rw [List.map_cons]
    show (PyData.canLay0 _ && PyData.canLayAll0 _) = true
    rw [canLay_rows r, Bool.and_true]
    exact ke_canLayAll0 x
theorem depth_rows : ∀ xss : List (List Int), PyData.depthAll (xss.map fun xs => .list (xs.map PyData.int)) ≤ 1
  | [] => by show (0 : Nat) ≤ 1; decide
  | x :: r => by
    rw [List.map_cons]
    show max (PyData.depth _) (PyData.depthAll _) ≤ 1
    have e : PyData.depth (.list (x.map PyData.int)) = PyData.depthAll (x.map PyData.int) + 1 := by simp [PyData.depth]
    rw [e, ke_depthAll x]
    exact Nat.max_le.mpr ⟨by decide, depth_rows r⟩
theorem shaped_rows (xss : List (List Int)) : SeqAt.shaped (rowsD xss) = true := by
  unfold SeqAt.shaped rowsD
  rw [Bool.and_eq_true, decide_eq_true_eq]
  refine ⟨canLay_rows xss, ?_⟩
  have e : PyData.depth (.list (xss.map fun xs => .list (xs.map PyData.int))) = PyData.depthAll (xss.map fun xs => .list (xs.map PyData.int)) + 1 := by simp [PyData.depth]
  rw [e]
  have := depth_rows xss
  omega
theorem shaped_pair (b : Bool) (xss : List (List Int)) : SeqAt.shaped (.tuple [.bool b, rowsD xss]) = true := by
  unfold SeqAt.shaped rowsD
  rw [Bool.and_eq_true, decide_eq_true_eq]
  have hc := canLay_rows xss
  have hd := depth_rows xss
  refine ⟨?_, ?_⟩
  · simp only [PyData.canLay0, PyData.canLayAll0, Bool.and_true, Bool.true_and]
    exact hc
  · simp only [PyData.depth, PyData.depthAll]
    omega
theorem eqvAll_rows : ∀ xss yss : List (List Int), PyData.eqvAll (xss.map fun xs => .list (xs.map PyData.int)) (yss.map fun xs => .list (xs.map PyData.int)) = decide (xss = yss)
  | [], [] => by simp [PyData.eqvAll]
  | [], y :: ys => by simp [PyData.eqvAll]
  | x :: xs, [] => by simp [PyData.eqvAll]
  | x :: xs, y :: ys => by
    simp only [List.map_cons, PyData.eqvAll]
    rw [eqv_ints, eqvAll_rows xs ys]
    by_cases h1 : x = y <;> by_cases h2 : xs = ys <;> simp [h1, h2]
theorem eqv_rows (xss yss : List (List Int)) : PyData.eqv (rowsD xss) (rowsD yss) = decide (xss = yss) := by
  unfold rowsD
  simp only [PyData.eqv]
  exact eqvAll_rows xss yss
theorem eqv_pair (b : Bool) (xss yss : List (List Int)) : PyData.eqv (.tuple [.bool b, rowsD xss]) (.tuple [.bool b, rowsD yss]) = decide (xss = yss) := by
  simp only [PyData.eqv, PyData.eqvAll]
  rw [eqv_rows]
  cases b <;> simp [PyData.eqv]
theorem mem_cat {p : Addr × Obj} : ∀ (j : Nat) (b : Cells) (bs : List Cells), bs[j]? = some b → p ∈ b → p ∈ cat bs
  | _, _, [], h, _ => by simp at h
  | 0, b, x :: bs, h, hp => by
    have e : x = b := by simpa using h
    subst e
    exact (cat_cons x bs).symm.subset (List.mem_append.mpr (.inl hp))
  | j + 1, b, x :: bs, h, hp => (cat_cons x bs).symm.subset (List.mem_append.mpr (.inr (mem_cat j b bs (by simpa using h) hp)))
theorem mem_dcells {rds : List Rd} {r : Rd} (h : r ∈ rds) : (r.a, listO ⟨r.xs.map iv⟩ r.e) ∈ dcells rds := List.mem_map.mpr ⟨r, h, rfl⟩
theorem behM_length (os : List Int) : ∀ n i, (behM os i n).length = n
  | 0, _ => rfl
  | n + 1, i => by simp [behM, behM_length os n]
theorem toldsM_length (os : List Int) : ∀ n i, (toldsM os i n).length = n
  | 0, _ => rfl
  | n + 1, i => by simp [toldsM, toldsM_length os n]
theorem needsM_length (os : List Int) : ∀ n i, (needsM os i n).length = n
  | 0, _ => rfl
  | n + 1, i => by simp [needsM, needsM_length os n]
theorem rowsM_length : ∀ (ts : List (List Int)) i, (rowsM i ts).length = ts.length
  | [], _ => rfl
  | t :: r, i => by simp [rowsM, rowsM_length r]
theorem flatN_eq : ∀ rds : List Rd, flatN rds = (flatM (rds.map Rd.p)).length
  | [] => rfl
  | r :: rs => by simp [flatN, flatM, flatN_eq rs, Rd.p]
theorem told_shape (os : List Int) (k : Nat) : told os k = [] ∨ ∃ a b, told os k = [a, b] := by
  unfold told
  split
  · exact .inl rfl
  · exact .inr ⟨_, _, rfl⟩
theorem toldsM_mem (os : List Int) : ∀ n i t, t ∈ toldsM os i n → t = [] ∨ ∃ a b, t = [a, b]
  | 0, _, _, h => by cases h
  | n + 1, i, t, h => by
    rcases List.mem_cons.mp h with rfl | h
    · exact told_shape os i
    · exact toldsM_mem os n (i + 1) t h
theorem tolds_shape {tds : List Rd} {os : List Int} {n i : Nat} (h : tds.map Rd.p = toldsM os i n) (r : Rd) (hr : r ∈ tds) : r.xs = [] ∨ ∃ a b, r.xs = [a, b] := by
  have hm : r.p ∈ toldsM os i n := h ▸ List.mem_map.mpr ⟨r, hr, rfl⟩
  rcases toldsM_mem os n i _ hm with e | ⟨a, b, e⟩
  · exact .inl (List.map_eq_nil_iff.mp e)
  · right
    match hx : r.xs, e with
    | [x, y], _ => exact ⟨x, y, rfl⟩
    | [], e => rw [Rd.p, hx] at e; simp at e
    | [x], e => rw [Rd.p, hx] at e; simp at e
    | x :: y :: w :: l, e => rw [Rd.p, hx] at e; simp at e
theorem oct_range {os xs : List IT} (h : os.map (·.1) = litI ++ xs.map (fun x => x.1 % 256)) (r : IT) (hr : r ∈ os) : 0 ≤ r.1 ∧ r.1 < 256 := by
  have hm : r.1 ∈ litI ++ xs.map (fun x => x.1 % 256) := h ▸ List.mem_map.mpr ⟨r, hr, rfl⟩
  rcases List.mem_append.mp hm with hm | hm
  · have key : ∀ v ∈ litI, 0 ≤ v ∧ v < 256 := by decide
    exact key _ hm
  · obtain ⟨x, _, e⟩ := List.mem_map.mp hm
    rw [← e]
    exact ⟨Int.emod_nonneg _ (by decide), Int.emod_lt_of_pos _ (by decide)⟩
/-- a tree behind what needs no memory -/
noncomputable def skim (P : Params) (prog : Program) : Nat → Sem Fin → Sem Fin
  | 0, t => t
  | n + 1, t => match t with
    | .rule _ k => skim P prog n (k ())
    | .at _ k => skim P prog n (k ())
    | .point _ k => skim P prog n (k ())
    | .ask k => skim P prog n (k ⟨prog, P⟩)
    | t => t
/-- the function a, at its statement i -/
noncomputable def skT (P : Params) (prog : Program) (a : Addr) (i : Nat) (env : Env) : Sem Fin := skim P prog 200
  (PySem.W.R.bindR (PySem.W.R.onRaiseR (ZFast.zw12563942051412417395 (bodyFrom P a i) env) (leaveT env))
    (fun f => match f with | .ret v => Sem.pure (.done (.ret v)) | _ => Sem.pure (.done (.ret .none))))
theorem to_sk {c c' : Code} {κ : Kn} {t t' : Sem Fin} {s : Shared} (h1 : c = c') (h2 : κ = .base) (h3 : t = t') (x : Mn prog w A R c' .base t' s) : Mn prog w A R c κ t s := by
  subst h1 h2 h3
  exact x
theorem q170_1 {L Co Cs Cr Ct Cb To Ls : Addr} {os : List IT} {q0 : Q2} (G : Gd (wF b1 b2 b3 w₀) h₀) (o : Ok A 40) (un : Un A 60) (hfr : A.frames = some []) (hol : 9 ≤ os.length) (hol2 : os.length ≤ 15) (hlt : os.length - 1 < os.length)
    (D : Rep h₀ h F ((To, listO ⟨os.map iv⟩ 0) :: (Cb, cellP none) :: (Ct, cellP none) :: (Cr, cellP none) :: (Cs, cellP none) :: (Co, cellO (.ref To)) :: (L, frF #[fe q0 s_script (.ref Ls)] 1 #[]) :: ρ))
    (z : ∀ h' tk' lt q1 last, last = lastB (os.map (·.1)) → Rep h₀ h' F ((To, listO ⟨os.map iv⟩ 0) :: (Cb, cellP none) :: (Ct, cellP none) :: (Cr, cellP none) :: (Cs, cellO (.int (os.length : Int) lt)) :: (Co, cellO (.ref To)) :: (L, frF #[fe q0 s_script (.ref Ls), fe q1 s_last (.bool last)] 2 #[]) :: ρ) → Mn prog (wF b1 b2 b3 w₀) A R (fcodeC (wF b1 b2 b3 w₀).params 170 L [(s_behind, Cb), (s_told, Ct), (s_rounds, Cr), (s_size, Cs), (s_octets, Co)]) .base (skT (wF b1 b2 b3 w₀).params prog 170 2 (fenvC (wF b1 b2 b3 w₀).params 170 L [(s_behind, Cb), (s_told, Ct), (s_rounds, Cr), (s_size, Cs), (s_octets, Co)])) ⟨h', g, d, tk', os₀⟩) :
    Mn prog (wF b1 b2 b3 w₀) A R (fcodeC (wF b1 b2 b3 w₀).params 170 L [(s_behind, Cb), (s_told, Ct), (s_rounds, Cr), (s_size, Cs), (s_octets, Co)]) .base (skT (wF b1 b2 b3 w₀).params prog 170 1 (fenvC (wF b1 b2 b3 w₀).params 170 L [(s_behind, Cb), (s_told, Ct), (s_rounds, Cr), (s_size, Cs), (s_octets, Co)])) ⟨h, g, d, tk, os₀⟩ := by
  all_goals
    refine sg2L 1000 [.t, .t, .s 5, .e] [] G o.hd D ?_; intro fh1 oh1; refine ⟨by kernel_rfl, fun h1 tk1 D1 => ?_⟩
    refine use_again (c' := .builtin "len" ⟨[.ref To], []⟩) (by kernel_rfl) (by kernel_rfl) (by kernel_rfl) ?_
    refine c_lenL D1 0 (l := To) (items := ⟨os.map iv⟩) (n := 0) (by kernel_rfl) (by simp; omega) ?_
    rw [show (⟨os.map iv⟩ : Array Value).size = os.length from by simp]
    refine sg2L 1000 [.s 5, .e, .e, .s 0, .s 0, .s 0, .e, .s 0] [] G o.hd D1 ?_; intro fh2 oh2; refine ⟨by kernel_rfl, fun h2 tk2 D2 => ?_⟩
    refine u_last D2 0 (l := To) (items := ⟨os.map iv⟩) (n := 0) (u := tk1 + 2 + 1) (y := iv os[os.length - 1]) (by kernel_rfl) (by rw [show (⟨os.map iv⟩ : Array Value).size = os.length from by simp]; exact iv_at os hlt) (by kernel_rfl) (by kernel_rfl) ?_
    refine sg2L 1000 [] [] G o.hd D2 ?_; intro fh3 oh3; refine ⟨by kernel_rfl, fun h3 tk3 D3 => ?_⟩
    refine u_fdiv (a := os[os.length - 1].1) (ta := os[os.length - 1].2) (b := 64) (tb := tk2) (by kernel_rfl) (by decide) (by decide) ?_
    rw [fdiv64]
    refine sg2L 1000 [] [] G o.hd D3 ?_; intro fh4 oh4; refine ⟨by kernel_rfl, fun h4 tk4 D4 => ?_⟩
    refine u_mod (a := os[os.length - 1].1 / 64) (ta := tk3) (b := 2) (tb := tk3 + 1) (by kernel_rfl) (by decide) ?_
    rw [fmod2]
    refine sg2L 1000 [.e] [] G o.hd D4 ?_; intro fh5 oh5; refine ⟨by kernel_rfl, fun h5 tk5 D5 => ?_⟩
    refine use_again (c' := .builtin "int.__eq__" ⟨[.int (os[os.length - 1].1 / 64 % 2) tk4, .int 1 (tk4 + 1)], []⟩) (by kernel_rfl) (by kernel_rfl) (by kernel_rfl) ?_
    refine c_eq G (by rw [arnd_hnd, o.hd]; kernel_rfl) D5 ?_
    intro h6 tk6 D6
    refine sg2L 1000 [.s 0, .s 0, .s 0, .e, .s 0, .e, .s 0, .s 0, .e, .s 0, .e, .s 0, .s 0, .s 1, .s 0, .s 0, .s 0, .e, .s 0, .e, .s 0, .s 0, .s 1, .s 0, .s 0, .s 0, .e, .s 0, .e, .s 0, .s 0, .s 1, .s 0, .s 0, .s 0, .s 8, .s 8, .s 10, .s 10] [] G o.hd D6 ?_; intro fh7 oh7; refine ⟨by kernel_rfl, fun h7 tk7 D7 => ?_⟩
    refine to_sk (c' := fcodeC (gdW G).params 170 L [(s_behind, Cb), (s_told, Ct), (s_rounds, Cr), (s_size, Cs), (s_octets, Co)]) (t' := (skT (gdW G).params prog 170 2 (fenvC (gdW G).params 170 L [(s_behind, Cb), (s_told, Ct), (s_rounds, Cr), (s_size, Cs), (s_octets, Co)]))) (by kernel_rfl) (by kernel_rfl) (by kernel_rfl) ?_
    have D8 := D7.mask [false, false, false, false]
    refine z h7 tk7 (tk1 + 1) (hS w₀.params s_last, tk6) (decide (os[os.length - 1].1 / 64 % 2 = 1)) ?_ (D8.eq (by kernel_rfl))
    unfold lastB
    rw [List.length_map, getD_at os hlt]

theorem q170_2 {L Co Cs Cr Ct Cb To Ls : Addr} {os : List IT} {q0 q1 : Q2} {lt : Tok} {last : Bool} (G : Gd (wF b1 b2 b3 w₀) h₀) (o : Ok A 40) (un : Un A 60) (hfr : A.frames = some []) (hol : 9 ≤ os.length) (hol2 : os.length ≤ 15)
    (D : Rep h₀ h F ((To, listO ⟨os.map iv⟩ 0) :: (Cb, cellP none) :: (Ct, cellP none) :: (Cr, cellP none) :: (Cs, cellO (.int (os.length : Int) lt)) :: (Co, cellO (.ref To)) :: (L, frF #[fe q0 s_script (.ref Ls), fe q1 s_last (.bool last)] 2 #[]) :: ρ))
    (z : ∀ h' tk' nd (rows : List Rw) en q2, rows.map Rw.p = needsM (os.map (·.1)) 0 os.length → Rep h₀ h' F ((nd, listO ⟨rows.map rwV⟩ en) :: (To, listO ⟨os.map iv⟩ 0) :: (Cb, cellP none) :: (Ct, cellP none) :: (Cr, cellP none) :: (Cs, cellO (.int (os.length : Int) lt)) :: (Co, cellO (.ref To)) :: (L, frF #[fe q0 s_script (.ref Ls), fe q1 s_last (.bool last), fe q2 s_needs (.ref nd)] 3 #[]) :: (rcells rows ++ ρ)) → Mn prog (wF b1 b2 b3 w₀) A R (fcodeC (wF b1 b2 b3 w₀).params 170 L [(s_behind, Cb), (s_told, Ct), (s_rounds, Cr), (s_size, Cs), (s_octets, Co)]) .base (skT (wF b1 b2 b3 w₀).params prog 170 3 (fenvC (wF b1 b2 b3 w₀).params 170 L [(s_behind, Cb), (s_told, Ct), (s_rounds, Cr), (s_size, Cs), (s_octets, Co)])) ⟨h', g, d, tk', os₀⟩) :
    Mn prog (wF b1 b2 b3 w₀) A R (fcodeC (wF b1 b2 b3 w₀).params 170 L [(s_behind, Cb), (s_told, Ct), (s_rounds, Cr), (s_size, Cs), (s_octets, Co)]) .base (skT (wF b1 b2 b3 w₀).params prog 170 2 (fenvC (wF b1 b2 b3 w₀).params 170 L [(s_behind, Cb), (s_told, Ct), (s_rounds, Cr), (s_size, Cs), (s_octets, Co)])) ⟨h, g, d, tk, os₀⟩ := by
  all_goals
    refine sg2L 1000 [.t, .t, .s 4, .e, .e, .e, .e, .s 0, .s 0, .e, .s 0, .e, .s 0, .s 0, .s 0, .e, .s 0] [] G o.hd D ?_; intro fh1 oh1; refine ⟨by kernel_rfl, fun h1 tk1 D1 => ?_⟩
    refine u_riter D1 0 (r := h.objs.size) (a := 0) (b := (os.length : Int)) (ta := tk) (tb := lt) (tc := tk + 1) (by kernel_rfl) (by decide) (by omega) (by omega) (by kernel_rfl) (by kernel_rfl) fun h2 it1 D2 => ?_
    rw [show ((os.length : Int) - 0).toNat = os.length from by omega] at D2
    refine sg2L 1000 [.s 0] [] G o.hd D2 ?_; intro fh3 oh3; refine ⟨by kernel_rfl, fun h3 tk3 D3 => ?_⟩
    refine use_call (c' := compS (gdW G).params 170 (e170n (gdW G).params) it1 h2.objs.size (h2.objs.size + 1) L [(s_octets, Co)]) (hd := none) (by kernel_rfl) rfl ?_
    have D4 : Rep h₀ h3 F (cat [[(h2.objs.size + 1, dictO #[] 0)], [(h2.objs.size, listO #[] 0)], [(it1, rgO 0 os.length)], [(h.objs.size, rangeO 0 (os.length : Int) tk lt (tk + 1))], [(To, listO ⟨os.map iv⟩ 0)], [(Cb, cellP none)], [(Ct, cellP none)], [(Cr, cellP none)], [(Cs, cellO (.int (os.length : Int) lt))], [(Co, cellO (.ref To))], [(L, frF #[fe q0 s_script (.ref Ls), fe q1 s_last (.bool last)] 2 #[])], ρ]) := D3.eq (by kernel_rfl)
    have D5 := (Rep.shuf _ [11, 11, 10, 10, 10, 10, 10, 11, 8, 9, 10, 11] D4).mask [false]
    refine s170n (it := it1) (acc := h2.objs.size) (sc := h2.objs.size + 1) (Cl := Co) (To := To) (L := L) (os := os) (eo := 0) (n := os.length) (ρ := cat [[(Cb, cellP none)], [(Ct, cellP none)], [(Cr, cellP none)], [(Cs, cellO (.int (os.length : Int) lt))], [(L, frF #[fe q0 s_script (.ref Ls), fe q1 s_last (.bool last)] 2 #[])], ρ]) G (o.call (by kernel_rfl) (by kernel_rfl)) (Nat.le_refl _) (by omega) D5 ?_
    intro h6 tk6 rows en v6 hv6 hrows D6
    obtain ⟨⟨vq, vv⟩, rfl⟩ := Option.isSome_iff_exists.mp (hv6 (.inl (by omega)))
    have D7 := Rep.shuf [[(h2.objs.size, listO ⟨rows.map rwV⟩ en)], [(h2.objs.size + 1, dictO (scE s_k (some (vq, vv))) (scN (some (vq, vv))))], [(Co, cellO (.ref To))], [(To, listO ⟨os.map iv⟩ 0)], rcells rows, [(Cb, cellP none)], [(Ct, cellP none)], [(Cr, cellP none)], [(Cs, cellO (.int (os.length : Int) lt))], [(L, frF #[fe q0 s_script (.ref Ls), fe q1 s_last (.bool last)] 2 #[])], ρ] [10, 5, 10, 5, 10, 10, 10, 10, 10, 9, 10] D6
    refine sg2L 1000 [.s 8, .s 8, .s 0, .s 0, .s 0] [false] G o.hd D7 ?_; intro fh8 oh8; refine ⟨by kernel_rfl, fun h8 tk8 D8 => ?_⟩
    refine to_sk (c' := fcodeC (gdW G).params 170 L [(s_behind, Cb), (s_told, Ct), (s_rounds, Cr), (s_size, Cs), (s_octets, Co)]) (t' := (skT (gdW G).params prog 170 3 (fenvC (gdW G).params 170 L [(s_behind, Cb), (s_told, Ct), (s_rounds, Cr), (s_size, Cs), (s_octets, Co)]))) (by kernel_rfl) (by kernel_rfl) (by kernel_rfl) ?_
    exact z h8 tk8 h2.objs.size rows en (hS w₀.params s_needs, tk6) hrows (D8.eq (by kernel_rfl))

theorem q170_3 {L Co Cs Cr Ct Cb To Ls nd : Addr} {os : List IT} {q0 q1 q2 : Q2} {lt : Tok} {last : Bool} {rows : List Rw} {en : Nat} (G : Gd (wF b1 b2 b3 w₀) h₀) (o : Ok A 40) (un : Un A 60) (hfr : A.frames = some []) (hol : 9 ≤ os.length) (hol2 : os.length ≤ 15) (hp : PL (os.map (·.1)) last) (hrows : rows.map Rw.p = needsM (os.map (·.1)) 0 os.length)
    (D : Rep h₀ h F ((nd, listO ⟨rows.map rwV⟩ en) :: (To, listO ⟨os.map iv⟩ 0) :: (Cb, cellP none) :: (Ct, cellP none) :: (Cr, cellP none) :: (Cs, cellO (.int (os.length : Int) lt)) :: (Co, cellO (.ref To)) :: (L, frF #[fe q0 s_script (.ref Ls), fe q1 s_last (.bool last), fe q2 s_needs (.ref nd)] 3 #[]) :: (rcells rows ++ ρ)))
    (z : ∀ h' tk' Rn (rds : List Rd) enr q3 sl, rds.map Rd.p = hp.out → Rep h₀ h' F ((Rn, listO ⟨rds.map rdV⟩ enr) :: (To, listO ⟨os.map iv⟩ 0) :: (Cb, cellP none) :: (Ct, cellP none) :: (Cr, cellO (.ref Rn)) :: (Cs, cellO (.int (os.length : Int) lt)) :: (Co, cellO (.ref To)) :: (L, frF #[fe q0 s_script (.ref Ls), fe q1 s_last (.bool last), fe q2 s_needs (.ref nd), fe q3 s_refused (.bool last)] 4 sl) :: (dcells rds ++ ρ)) → Mn prog (wF b1 b2 b3 w₀) A R (fcodeC (wF b1 b2 b3 w₀).params 170 L [(s_behind, Cb), (s_told, Ct), (s_rounds, Cr), (s_size, Cs), (s_octets, Co)]) .base (skT (wF b1 b2 b3 w₀).params prog 170 4 (fenvC (wF b1 b2 b3 w₀).params 170 L [(s_behind, Cb), (s_told, Ct), (s_rounds, Cr), (s_size, Cs), (s_octets, Co)])) ⟨h', g, d, tk', os₀⟩) :
    Mn prog (wF b1 b2 b3 w₀) A R (fcodeC (wF b1 b2 b3 w₀).params 170 L [(s_behind, Cb), (s_told, Ct), (s_rounds, Cr), (s_size, Cs), (s_octets, Co)]) .base (skT (wF b1 b2 b3 w₀).params prog 170 3 (fenvC (wF b1 b2 b3 w₀).params 170 L [(s_behind, Cb), (s_told, Ct), (s_rounds, Cr), (s_size, Cs), (s_octets, Co)])) ⟨h, g, d, tk, os₀⟩ := by
  all_goals
    have hrl : rows.length = os.length := by have := congrArg List.length hrows; rwa [List.length_map, needsM_length] at this
    cases last
    ·
      refine sg2L 1000 [.t, .s 7, .s 7, .t] [] G o.hd D ?_; intro fh3 oh3; refine ⟨by kernel_rfl, fun h3 tk3 D3 => ?_⟩
      refine use_call (c' := .call (.ref 160) ⟨[.ref nd], []⟩) (hd := none) (by kernel_rfl) rfl ?_
      have D4 : Rep h₀ h3 F (cat [[(nd, listO ⟨rows.map rwV⟩ en)], [(To, listO ⟨os.map iv⟩ 0)], [(Cb, cellP none)], [(Ct, cellP none)], [(Cr, cellP none)], [(Cs, cellO (.int (os.length : Int) lt))], [(Co, cellO (.ref To))], [(L, frF #[fe q0 s_script (.ref Ls), fe q1 s_last (.bool false), fe q2 s_needs (.ref nd)] 3 #[])], rcells rows, ρ]) := D3.eq (by kernel_rfl)
      have D4b := Rep.shuf _ [9, 7, 7, 7, 7, 7, 7, 8, 9, 9] D4
      refine c160 (Ln := nd) (rows := rows) (en := en) (fuel := hp.f1) (fuel2 := hp.f2) (outer := [(fenvC (gdW G).params 170 L [(s_behind, Cb), (s_told, Ct), (s_rounds, Cr), (s_size, Cs), (s_octets, Co)])]) (frs := [(L, frF #[fe q0 s_script (.ref Ls), fe q1 s_last (.bool false), fe q2 s_needs (.ref nd)] 3 #[])]) (b := false) (ps := hp.ps) (out := hp.out) (ρ := cat [[(To, listO ⟨os.map iv⟩ 0)], [(Cb, cellP none)], [(Ct, cellP none)], [(Cr, cellP none)], [(Cs, cellO (.int (os.length : Int) lt))], [(Co, cellO (.ref To))], ρ]) G (o.call (by kernel_rfl) (by kernel_rfl)) (frames_fn hfr (by kernel_rfl)) ⟨kind170 _ _ _, by kernel_rfl, (fun vs hv => by cases hv), trivial⟩ (by intro e; rw [e] at hrl; simp only [List.length_nil] at hrl; omega) (by rw [hrows]; have := hp.adds; rw [List.length_map] at this; simpa using this) hp.psl hp.fc hp.rn hp.f2l D4b ?_
      intro h5 tk5 frs5 Tu Rn rds enr hrds hs5 D5
      cases hs5 with
      | cons _ _ sl5 hs5 =>
      cases hs5
      have D6 := Rep.shuf [[(Tu, tupO #[.bool false, .ref Rn] 0)], [(Rn, listO ⟨rds.map rdV⟩ enr)], dcells rds, [(L, frF #[fe q0 s_script (.ref Ls), fe q1 s_last (.bool false), fe q2 s_needs (.ref nd)] 3 sl5)], [(To, listO ⟨os.map iv⟩ 0)], [(Cb, cellP none)], [(Ct, cellP none)], [(Cr, cellP none)], [(Cs, cellO (.int (os.length : Int) lt))], [(Co, cellO (.ref To))], ρ] [10, 3, 4, 10, 10, 10, 10, 10, 10, 10, 10] D5
      refine sg2L 1000 [.s 0, .s 0, .s 0, .e, .s 0, .e, .s 0, .s 0, .e, .s 0, .e, .s 0, .s 0, .s 1, .s 0, .s 0, .s 0, .e, .s 0, .e, .s 0, .s 0, .s 1, .s 0, .s 0, .s 0, .e, .s 0, .e, .s 0, .s 0, .s 1, .s 0, .s 0, .s 0, .s 11, .s 11, .s 8, .s 8] [] G o.hd D6 ?_; intro fh7 oh7; refine ⟨by kernel_rfl, fun h7 tk7 D7 => ?_⟩
      refine to_sk (c' := fcodeC (gdW G).params 170 L [(s_behind, Cb), (s_told, Ct), (s_rounds, Cr), (s_size, Cs), (s_octets, Co)]) (t' := (skT (gdW G).params prog 170 4 (fenvC (gdW G).params 170 L [(s_behind, Cb), (s_told, Ct), (s_rounds, Cr), (s_size, Cs), (s_octets, Co)]))) (by kernel_rfl) (by kernel_rfl) (by kernel_rfl) ?_
      exact z h7 tk7 Rn rds enr (hS w₀.params s_refused, tk5) sl5 hrds ((D7.mask [false, false, false, false]).eq (by kernel_rfl))
    ·
      refine sg2L 1000 [.t, .s 7, .s 7, .s 5, .s 5, .s 2, .s 0, .s 2, .e, .s 2] [] G o.hd D ?_; intro fh1 oh1; refine ⟨by kernel_rfl, fun h1 tk1 D1 => ?_⟩
      refine u_ladd D1 2 (l := nd) (b := h.objs.size + 1) (items := ⟨rows.map rwV⟩) (n := en) (items2 := #[.ref h.objs.size]) (n2 := 0) (by kernel_rfl) 0 (by kernel_rfl) (by rw [show (⟨rows.map rwV⟩ : Array Value).size = rows.length from by simp, show (#[Value.ref h.objs.size] : Array Value).size = 1 from rfl, hrl]; exact Nat.le_trans (show os.length + 1 ≤ 1000 by omega) (by decide)) (by kernel_rfl) (by kernel_rfl) fun h2 Ln D2 => ?_
      refine sg2L 1000 [.t] [] G o.hd D2 ?_; intro fh3 oh3; refine ⟨by kernel_rfl, fun h3 tk3 D3 => ?_⟩
      refine use_call (c' := .call (.ref 160) ⟨[.ref Ln], []⟩) (hd := none) (by kernel_rfl) rfl ?_
      have D4 : Rep h₀ h3 F (cat [[(Ln, listO ((⟨rows.map rwV⟩ : Array Value) ++ #[.ref h.objs.size]) 0)], [(h.objs.size + 1, listO #[.ref h.objs.size] 0)], [(h.objs.size, listO #[.int (os.length : Int) lt, .int (os.length : Int) lt] 0)], [(nd, listO ⟨rows.map rwV⟩ en)], [(To, listO ⟨os.map iv⟩ 0)], [(Cb, cellP none)], [(Ct, cellP none)], [(Cr, cellP none)], [(Cs, cellO (.int (os.length : Int) lt))], [(Co, cellO (.ref To))], [(L, frF #[fe q0 s_script (.ref Ls), fe q1 s_last (.bool true), fe q2 s_needs (.ref nd)] 3 #[])], rcells rows, ρ]) := D3.eq (by kernel_rfl)
      have D4b := (Rep.shuf _ [12, 10, 10, 10, 10, 10, 10, 11, 10, 12, 10, 12, 12] D4).mask [false, false]
      rw [show (⟨rows.map rwV⟩ : Array Value) ++ #[.ref h.objs.size] = ⟨(rows ++ [⟨h.objs.size, ((os.length : Int), lt), some ((os.length : Int), lt), 0⟩] : List Rw).map rwV⟩ from by simp [rwV]] at D4b
      have hrc : ∀ τ : Cells, rcells (rows ++ [⟨h.objs.size, ((os.length : Int), lt), some ((os.length : Int), lt), 0⟩] : List Rw) ++ τ = rcells rows ++ ((h.objs.size, listO #[.int (os.length : Int) lt, .int (os.length : Int) lt] 0) :: τ) := fun τ => rcells_snoc rows _
      refine c160 (Ln := Ln) (rows := (rows ++ [⟨h.objs.size, ((os.length : Int), lt), some ((os.length : Int), lt), 0⟩])) (en := 0) (fuel := hp.f1) (fuel2 := hp.f2) (outer := [(fenvC (gdW G).params 170 L [(s_behind, Cb), (s_told, Ct), (s_rounds, Cr), (s_size, Cs), (s_octets, Co)])]) (frs := [(L, frF #[fe q0 s_script (.ref Ls), fe q1 s_last (.bool true), fe q2 s_needs (.ref nd)] 3 #[])]) (b := true) (ps := hp.ps) (out := hp.out) (ρ := cat [[(To, listO ⟨os.map iv⟩ 0)], [(Cb, cellP none)], [(Ct, cellP none)], [(Cr, cellP none)], [(Cs, cellO (.int (os.length : Int) lt))], [(Co, cellO (.ref To))], ρ]) G (o.call (by kernel_rfl) (by kernel_rfl)) (frames_fn hfr (by kernel_rfl)) ⟨kind170 _ _ _, by kernel_rfl, (fun vs hv => by cases hv), trivial⟩ (by simp) (by rw [List.map_append, hrows]; have := hp.adds; rw [List.length_map] at this; exact this) hp.psl hp.fc hp.rn hp.f2l (by rw [hrc]; exact D4b) ?_
      intro h5 tk5 frs5 Tu Rn rds enr hrds hs5 D5
      cases hs5 with
      | cons _ _ sl5 hs5 =>
      cases hs5
      have D6 := Rep.shuf [[(Tu, tupO #[.bool true, .ref Rn] 0)], [(Rn, listO ⟨rds.map rdV⟩ enr)], dcells rds, [(L, frF #[fe q0 s_script (.ref Ls), fe q1 s_last (.bool true), fe q2 s_needs (.ref nd)] 3 sl5)], [(To, listO ⟨os.map iv⟩ 0)], [(Cb, cellP none)], [(Ct, cellP none)], [(Cr, cellP none)], [(Cs, cellO (.int (os.length : Int) lt))], [(Co, cellO (.ref To))], ρ] [10, 3, 4, 10, 10, 10, 10, 10, 10, 10, 10] D5
      refine sg2L 1000 [.s 0, .s 0, .s 0, .e, .s 0, .e, .s 0, .s 0, .e, .s 0, .e, .s 0, .s 0, .s 1, .s 0, .s 0, .s 0, .e, .s 0, .e, .s 0, .s 0, .s 1, .s 0, .s 0, .s 0, .e, .s 0, .e, .s 0, .s 0, .s 1, .s 0, .s 0, .s 0, .s 11, .s 11, .s 8, .s 8] [] G o.hd D6 ?_; intro fh7 oh7; refine ⟨by kernel_rfl, fun h7 tk7 D7 => ?_⟩
      refine to_sk (c' := fcodeC (gdW G).params 170 L [(s_behind, Cb), (s_told, Ct), (s_rounds, Cr), (s_size, Cs), (s_octets, Co)]) (t' := (skT (gdW G).params prog 170 4 (fenvC (gdW G).params 170 L [(s_behind, Cb), (s_told, Ct), (s_rounds, Cr), (s_size, Cs), (s_octets, Co)]))) (by kernel_rfl) (by kernel_rfl) (by kernel_rfl) ?_
      exact z h7 tk7 Rn rds enr (hS w₀.params s_refused, tk5) sl5 hrds ((D7.mask [false, false, false, false]).eq (by kernel_rfl))
end Mine
end
section
open PySem PySem.W PySem.W.X PyProof.Rows
set_option Elab.async false
set_option maxRecDepth 100000
set_option maxHeartbeats 1000000
namespace Mine
variable {prog : Program} {w : World} {w₀ : World} {b1 b2 b3 : Bool} {A : Around} {R : Result → Shared → Prop} {h₀ h : Heap} {F : List Addr} {ρ σ : Cells} {g : Array GenState} {d : Drawn} {tk : Nat} {os₀ : OsState}
noncomputable def ifOΦ (l rv : Value) (bd orelse rest : List Stmt) (env : Env) (m : Sem Value) : Sem Fin :=
  PySem.W.R.bindR (PySem.W.R.onRaiseR (PySem.W.R.bindR (PySem.W.R.bindR (PySem.W.R.bindR (PySem.W.R.bindR (ZFast.zw8004119333741010377 [l, rv] m) (fun c => ZFast.zw17359229931016689406 [c] (ZFast.zw15245631507167962100 c)))
    (fun b => match BoolOp.Or, b with | .And, false => (Sem.pure false : Sem Bool) | .Or, true => Sem.pure true | _, _ => Sem.pure false))
    (fun b => PySem.W.X.condFn (Sem Flow) b (ZFast.zw12563942051412417395 bd env) (ZFast.zw12563942051412417395 orelse env)))
    (fun f => match f with | .next => ZFast.zw12563942051412417395 rest env | f => Sem.pure f)) (leaveT env))
    (fun f => match f with | .ret v => Sem.pure (.done (.ret v)) | _ => Sem.pure (.done (.ret .none)))
theorem ifOΦ_lay (l rv : Value) (bd orelse rest : List Stmt) (env : Env) : LayV (ifOΦ l rv bd orelse rest env) := ((((((LayV.operate _).bind _).bind _).bind _).bind _).onRaise _).bind _
theorem q170_4 {L Co Cs Cr Ct Cb To Ls nd : Addr} {os : List IT} {q0 q1 q2 q3 : Q2} {lt : Tok} {last : Bool} {Rn : Addr} {rds : List Rd} {enr : Nat} {sl : Array (Option Value)} (G : Gd (wF b1 b2 b3 w₀) h₀) (o : Ok A 40) (un : Un A 60) (hfr : A.frames = some []) (hol : 9 ≤ os.length) (hol2 : os.length ≤ 15) (hr : ∀ r ∈ os, 0 ≤ r.1 ∧ r.1 < 256)
    (D : Rep h₀ h F ((Rn, listO ⟨rds.map rdV⟩ enr) :: (To, listO ⟨os.map iv⟩ 0) :: (Cb, cellP none) :: (Ct, cellP none) :: (Cr, cellO (.ref Rn)) :: (Cs, cellO (.int (os.length : Int) lt)) :: (Co, cellO (.ref To)) :: (L, frF #[fe q0 s_script (.ref Ls), fe q1 s_last (.bool last), fe q2 s_needs (.ref nd), fe q3 s_refused (.bool last)] 4 sl) :: (dcells rds ++ ρ)))
    (z : ∀ h' tk' td (tds : List Rd) et sl', tds.map Rd.p = toldsM (os.map (·.1)) 0 (os.length + 1) → Rep h₀ h' F ((td, listO ⟨tds.map rdV⟩ et) :: (Rn, listO ⟨rds.map rdV⟩ enr) :: (To, listO ⟨os.map iv⟩ 0) :: (Cb, cellP none) :: (Ct, cellO (.ref td)) :: (Cr, cellO (.ref Rn)) :: (Cs, cellO (.int (os.length : Int) lt)) :: (Co, cellO (.ref To)) :: (L, frF #[fe q0 s_script (.ref Ls), fe q1 s_last (.bool last), fe q2 s_needs (.ref nd), fe q3 s_refused (.bool last)] 4 sl') :: (dcells rds ++ (dcells tds ++ ρ))) → Mn prog (wF b1 b2 b3 w₀) A R (fcodeC (wF b1 b2 b3 w₀).params 170 L [(s_behind, Cb), (s_told, Ct), (s_rounds, Cr), (s_size, Cs), (s_octets, Co)]) .base (skT (wF b1 b2 b3 w₀).params prog 170 5 (fenvC (wF b1 b2 b3 w₀).params 170 L [(s_behind, Cb), (s_told, Ct), (s_rounds, Cr), (s_size, Cs), (s_octets, Co)])) ⟨h', g, d, tk', os₀⟩) :
    Mn prog (wF b1 b2 b3 w₀) A R (fcodeC (wF b1 b2 b3 w₀).params 170 L [(s_behind, Cb), (s_told, Ct), (s_rounds, Cr), (s_size, Cs), (s_octets, Co)]) .base (skT (wF b1 b2 b3 w₀).params prog 170 4 (fenvC (wF b1 b2 b3 w₀).params 170 L [(s_behind, Cb), (s_told, Ct), (s_rounds, Cr), (s_size, Cs), (s_octets, Co)])) ⟨h, g, d, tk, os₀⟩ := by
  all_goals
    refine sg2L 1000 [.t, .t, .s 5, .e, .e, .e, .e, .e, .e, .s 0, .s 0, .e, .s 0, .e, .s 0, .s 0, .s 0, .e, .s 0] [] G o.hd D ?_; intro fh1 oh1; refine ⟨by kernel_rfl, fun h1 tk1 D1 => ?_⟩
    refine u_riter D1 0 (r := h.objs.size) (a := 0) (b := (os.length : Int) + 1) (ta := tk + 2) (tb := tk + 1) (tc := tk + 3) (by kernel_rfl) (by decide) (by omega) (by omega) (by kernel_rfl) (by kernel_rfl) fun h2 it2 D2 => ?_
    rw [show ((os.length : Int) + 1 - 0).toNat = os.length + 1 from by omega] at D2
    refine sg2L 1000 [.s 0] [] G o.hd D2 ?_; intro fh3 oh3; refine ⟨by kernel_rfl, fun h3 tk3 D3 => ?_⟩
    refine use_call (c' := compS (gdW G).params 170 (e170t (gdW G).params) it2 h2.objs.size (h2.objs.size + 1) L [(s_octets, Co)]) (hd := none) (by kernel_rfl) rfl ?_
    let S4 : List Cells := [[(h2.objs.size + 1, dictO #[] 0)], [(h2.objs.size, listO #[] 0)], [(it2, rgO 0 (os.length + 1))], [(h.objs.size, rangeO 0 ((os.length : Int) + 1) (tk + 2) (tk + 1) (tk + 3))], [(Rn, listO ⟨rds.map rdV⟩ enr)], [(To, listO ⟨os.map iv⟩ 0)], [(Cb, cellP none)], [(Ct, cellP none)], [(Cr, cellO (.ref Rn))], [(Cs, cellO (.int (os.length : Int) lt))], [(Co, cellO (.ref To))], [(L, frF #[fe q0 s_script (.ref Ls), fe q1 s_last (.bool last), fe q2 s_needs (.ref nd), fe q3 s_refused (.bool last)] 4 sl)], dcells rds, ρ]; have D4 : Rep h₀ h3 F (cat S4) := D3.eq (by kernel_rfl)
    have D5 := (Rep.shuf _ [13, 13, 11, 11, 11, 11, 10, 13, 12, 13, 10, 11, 12, 13] D4).mask [false]
    refine s170t (it := it2) (acc := h2.objs.size) (sc := h2.objs.size + 1) (Cl := Co) (To := To) (L := L) (os := os) (eo := 0) (n := os.length + 1) (outer := [(fenvC (gdW G).params 170 L [(s_behind, Cb), (s_told, Ct), (s_rounds, Cr), (s_size, Cs), (s_octets, Co)])]) (frs := [(L, frF #[fe q0 s_script (.ref Ls), fe q1 s_last (.bool last), fe q2 s_needs (.ref nd), fe q3 s_refused (.bool last)] 4 sl)]) (ρ := cat [[(Rn, listO ⟨rds.map rdV⟩ enr)], [(Cb, cellP none)], [(Ct, cellP none)], [(Cr, cellO (.ref Rn))], [(Cs, cellO (.int (os.length : Int) lt))], dcells rds, ρ]) G (o.call (by kernel_rfl) (by kernel_rfl)) hr (by omega) (by omega) (frames_fn hfr (by kernel_rfl)) ⟨kind170 _ _ _, by kernel_rfl, (fun vs hv => by cases hv), trivial⟩ D5 ?_
    intro h6 tk6 frs6 tds et v6 hv6 htds hs6 D6
    obtain ⟨⟨vq, vv⟩, rfl⟩ := Option.isSome_iff_exists.mp (hv6 (.inl (by omega)))
    cases hs6 with
    | cons _ _ sl6 hs6 =>
    cases hs6
    let S7 : List Cells := [[(h2.objs.size, listO ⟨tds.map rdV⟩ et)], [(h2.objs.size + 1, dictO (scE s_k (some (vq, vv))) (scN (some (vq, vv))))], [(Co, cellO (.ref To))], [(To, listO ⟨os.map iv⟩ 0)], dcells tds, [(L, frF #[fe q0 s_script (.ref Ls), fe q1 s_last (.bool last), fe q2 s_needs (.ref nd), fe q3 s_refused (.bool last)] 4 sl6)], [(Rn, listO ⟨rds.map rdV⟩ enr)], [(Cb, cellP none)], [(Ct, cellP none)], [(Cr, cellO (.ref Rn))], [(Cs, cellO (.int (os.length : Int) lt))], dcells rds, ρ]; have D7 := Rep.shuf S7 [12, 5, 12, 7, 6, 12, 12, 12, 12, 11, 12, 11, 12] D6
    refine sg2L 1000 [.s 0, .s 0, .s 0, .s 5, .s 5] [false] G o.hd D7 ?_; intro fh8 oh8; refine ⟨by kernel_rfl, fun h8 tk8 D8 => ?_⟩
    refine to_sk (c' := fcodeC (gdW G).params 170 L [(s_behind, Cb), (s_told, Ct), (s_rounds, Cr), (s_size, Cs), (s_octets, Co)]) (t' := (skT (gdW G).params prog 170 5 (fenvC (gdW G).params 170 L [(s_behind, Cb), (s_told, Ct), (s_rounds, Cr), (s_size, Cs), (s_octets, Co)]))) (by kernel_rfl) (by kernel_rfl) (by kernel_rfl) ?_
    exact z h8 tk8 h2.objs.size tds et sl6 htds (D8.eq (by kernel_rfl))

theorem q170_5 {L Co Cs Cr Ct Cb To Ls nd : Addr} {os : List IT} {q0 q1 q2 q3 : Q2} {lt : Tok} {last : Bool} {Rn : Addr} {rds : List Rd} {enr : Nat} {td : Addr} {tds : List Rd} {et : Nat} {sl : Array (Option Value)} (G : Gd (wF b1 b2 b3 w₀) h₀) (o : Ok A 40) (un : Un A 60) (hfr : A.frames = some []) (hol : 9 ≤ os.length) (hol2 : os.length ≤ 15) (hp : PL (os.map (·.1)) last) (hrds : rds.map Rd.p = hp.out) (hrdl : rds.length ≤ 900) (htds : tds.map Rd.p = toldsM (os.map (·.1)) 0 (os.length + 1))
    (D : Rep h₀ h F ((td, listO ⟨tds.map rdV⟩ et) :: (Rn, listO ⟨rds.map rdV⟩ enr) :: (To, listO ⟨os.map iv⟩ 0) :: (Cb, cellP none) :: (Ct, cellO (.ref td)) :: (Cr, cellO (.ref Rn)) :: (Cs, cellO (.int (os.length : Int) lt)) :: (Co, cellO (.ref To)) :: (L, frF #[fe q0 s_script (.ref Ls), fe q1 s_last (.bool last), fe q2 s_needs (.ref nd), fe q3 s_refused (.bool last)] 4 sl) :: (dcells rds ++ (dcells tds ++ ρ))))
    (z : ∀ h' tk', Rep h₀ h' F ((td, listO ⟨tds.map rdV⟩ et) :: (Rn, listO ⟨rds.map rdV⟩ enr) :: (To, listO ⟨os.map iv⟩ 0) :: (Cb, cellP none) :: (Ct, cellO (.ref td)) :: (Cr, cellO (.ref Rn)) :: (Cs, cellO (.int (os.length : Int) lt)) :: (Co, cellO (.ref To)) :: (L, frF #[fe q0 s_script (.ref Ls), fe q1 s_last (.bool last), fe q2 s_needs (.ref nd), fe q3 s_refused (.bool last)] 4 sl) :: (dcells rds ++ (dcells tds ++ ρ))) → Mn prog (wF b1 b2 b3 w₀) A R (fcodeC (wF b1 b2 b3 w₀).params 170 L [(s_behind, Cb), (s_told, Ct), (s_rounds, Cr), (s_size, Cs), (s_octets, Co)]) .base (skT (wF b1 b2 b3 w₀).params prog 170 6 (fenvC (wF b1 b2 b3 w₀).params 170 L [(s_behind, Cb), (s_told, Ct), (s_rounds, Cr), (s_size, Cs), (s_octets, Co)])) ⟨h', g, d, tk', os₀⟩) :
    Mn prog (wF b1 b2 b3 w₀) A R (fcodeC (wF b1 b2 b3 w₀).params 170 L [(s_behind, Cb), (s_told, Ct), (s_rounds, Cr), (s_size, Cs), (s_octets, Co)]) .base (skT (wF b1 b2 b3 w₀).params prog 170 5 (fenvC (wF b1 b2 b3 w₀).params 170 L [(s_behind, Cb), (s_told, Ct), (s_rounds, Cr), (s_size, Cs), (s_octets, Co)])) ⟨h, g, d, tk, os₀⟩ := by
  all_goals
    cases last
    ·
      refine sg2L 1000 [.s 8, .s 8, .e, .e, .s 4, .t, .t, .s 6, .e, .e, .e, .e, .e, .e, .s 0, .s 0, .e, .s 0, .e, .s 0, .s 0, .s 0, .e, .s 0] [] G o.hd D ?_; intro fh1 oh1; refine ⟨by kernel_rfl, fun h1 tk1 D1 => ?_⟩
      refine u_riter D1 0 (r := h.objs.size) (a := 0) (b := (os.length : Int) + 1) (ta := tk + 2) (tb := tk + 1) (tc := tk + 3) (by kernel_rfl) (by decide) (by omega) (by omega) (by kernel_rfl) (by kernel_rfl) fun h2 it3 D2 => ?_
      rw [show ((os.length : Int) + 1 - 0).toNat = os.length + 1 from by omega] at D2
      refine sg2L 1000 [.s 0] [] G o.hd D2 ?_; intro fh3 oh3; refine ⟨by kernel_rfl, fun h3 tk3 D3 => ?_⟩
      refine use_call (c' := compS (gdW G).params 170 (e170d (gdW G).params) it3 h2.objs.size (h2.objs.size + 1) L [(s_rounds, Cr), (s_octets, Co)]) (hd := none) (by kernel_rfl) rfl ?_
      let S4 : List Cells := [[(h2.objs.size + 1, dictO #[] 0)], [(h2.objs.size, listO #[] 0)], [(it3, rgO 0 (os.length + 1))], [(h.objs.size, rangeO 0 ((os.length : Int) + 1) (tk + 2) (tk + 1) (tk + 3))], [(td, listO ⟨tds.map rdV⟩ et)], [(Rn, listO ⟨rds.map rdV⟩ enr)], [(To, listO ⟨os.map iv⟩ 0)], [(Cb, cellP none)], [(Ct, cellO (.ref td))], [(Cr, cellO (.ref Rn))], [(Cs, cellO (.int (os.length : Int) lt))], [(Co, cellO (.ref To))], [(L, frF #[fe q0 s_script (.ref Ls), fe q1 s_last (.bool false), fe q2 s_needs (.ref nd), fe q3 s_refused (.bool false)] 4 sl)], dcells rds, dcells tds, ρ]; have D4 : Rep h₀ h3 F (cat S4) := D3.eq (by kernel_rfl)
      have D5 := (Rep.shuf _ [15, 15, 14, 13, 12, 12, 10, 15, 12, 13, 14, 15, 12, 13, 14, 15] D4).mask [false]
      refine s170d (it := it3) (acc := h2.objs.size) (sc := h2.objs.size + 1) (Cl := Co) (Cr := Cr) (To := To) (Rn := Rn) (L := L) (os := os) (rds := rds) (eo := 0) (en := enr) (n := os.length + 1) (ds := toldsM (os.map (·.1)) 0 (os.length + 1)) (ρ := cat [[(td, listO ⟨tds.map rdV⟩ et)], [(Cb, cellP none)], [(Ct, cellO (.ref td))], [(Cs, cellO (.int (os.length : Int) lt))], [(L, frF #[fe q0 s_script (.ref Ls), fe q1 s_last (.bool false), fe q2 s_needs (.ref nd), fe q3 s_refused (.bool false)] 4 sl)], dcells tds, ρ]) G (o.call (by kernel_rfl) (by kernel_rfl)) (un.call (by kernel_rfl)) (by omega) hrdl (Nat.le_refl _) (by rw [hrds]; have := hp.dues; rw [List.length_map] at this; exact this) D5 ?_
      intro h6 tk6 dus eu v6 hv6 hdus D6
      obtain ⟨⟨vq, vv⟩, rfl⟩ := Option.isSome_iff_exists.mp (hv6 (.inl (by omega)))
      let S7 : List Cells := [[(h2.objs.size, listO ⟨dus.map rdV⟩ eu)], [(h2.objs.size + 1, dictO (scE s_k (some (vq, vv))) (scN (some (vq, vv))))], [(Co, cellO (.ref To))], [(Cr, cellO (.ref Rn))], [(To, listO ⟨os.map iv⟩ 0)], [(Rn, listO ⟨rds.map rdV⟩ enr)], dcells rds, dcells dus, [(td, listO ⟨tds.map rdV⟩ et)], [(Cb, cellP none)], [(Ct, cellO (.ref td))], [(Cs, cellO (.int (os.length : Int) lt))], [(L, frF #[fe q0 s_script (.ref Ls), fe q1 s_last (.bool false), fe q2 s_needs (.ref nd), fe q3 s_refused (.bool false)] 4 sl)], dcells tds, ρ]; have D7 := Rep.shuf S7 [14, 8, 14, 9, 14, 7, 14, 9, 14, 14, 12, 13, 14, 13, 14] D6
      refine sg2L 1000 [.s 0, .s 0, .s 0] [false] G o.hd D7 ?_; intro fh8 oh8; refine ⟨by kernel_rfl, fun h8 tk8 D8 => ?_⟩
      let S9 : List Cells := [[(h2.objs.size, listO ⟨dus.map rdV⟩ eu)], [(td, listO ⟨tds.map rdV⟩ et)], [(Rn, listO ⟨rds.map rdV⟩ enr)], [(To, listO ⟨os.map iv⟩ 0)], [(Cb, cellP none)], [(Ct, cellO (.ref td))], [(Cr, cellO (.ref Rn))], [(Cs, cellO (.int (os.length : Int) lt))], [(Co, cellO (.ref To))], [(L, frF #[fe q0 s_script (.ref Ls), fe q1 s_last (.bool false), fe q2 s_needs (.ref nd), fe q3 s_refused (.bool false)] 4 sl)], dcells rds, dcells tds, dcells dus, ρ]; have D9 : Rep h₀ h8 F (cat S9) := D8.eq (by kernel_rfl)
      have hra := reads_rows (h := h8) (a := td) (rds := tds) (e := et) (D9.cell 1 rfl) (fun r hr' => D9.at_ _ (mem_cat 11 (dcells tds) _ rfl (mem_dcells hr')))
      have hrb := reads_rows (h := h8) (a := h2.objs.size) (rds := dus) (e := eu) (D9.cell 0 rfl) (fun r hr' => D9.at_ _ (mem_cat 12 (dcells dus) _ rfl (mem_dcells hr')))
      refine use_ne (ifOΦ_lay (.ref td) (.ref h2.objs.size) (thenOf (fstmt (gdW G).params 170 5)) (elseOf (fstmt (gdW G).params 170 5)) (bodyFrom (gdW G).params 170 6) (fenvC (gdW G).params 170 L [(s_behind, Cb), (s_told, Ct), (s_rounds, Cr), (s_size, Cs), (s_octets, Co)])) (by kernel_rfl) un (by kernel_rfl) hra.choose_spec hrb.choose_spec (shaped_rows _) (shaped_rows _) ?_
      rw [eqv_rows, htds, hdus, decide_eq_true rfl]
      refine sg2L 1000 [] [false] G o.hd D9 ?_; intro fh10 oh10; refine ⟨by kernel_rfl, fun h10 tk10 D10 => ?_⟩
      refine to_sk (c' := fcodeC (gdW G).params 170 L [(s_behind, Cb), (s_told, Ct), (s_rounds, Cr), (s_size, Cs), (s_octets, Co)]) (t' := (skT (gdW G).params prog 170 6 (fenvC (gdW G).params 170 L [(s_behind, Cb), (s_told, Ct), (s_rounds, Cr), (s_size, Cs), (s_octets, Co)]))) (by kernel_rfl) (by kernel_rfl) (by kernel_rfl) ?_
      let S11 : List Cells := [[(td, listO ⟨tds.map rdV⟩ et)], [(Rn, listO ⟨rds.map rdV⟩ enr)], [(To, listO ⟨os.map iv⟩ 0)], [(Cb, cellP none)], [(Ct, cellO (.ref td))], [(Cr, cellO (.ref Rn))], [(Cs, cellO (.int (os.length : Int) lt))], [(Co, cellO (.ref To))], [(L, frF #[fe q0 s_script (.ref Ls), fe q1 s_last (.bool false), fe q2 s_needs (.ref nd), fe q3 s_refused (.bool false)] 4 sl)], dcells rds, dcells tds, dcells dus, ρ]; have D11 : Rep h₀ h10 F (cat S11) := D10.eq (by kernel_rfl)
      have D12 := Rep.shuf _ [12, 11, 11, 11, 11, 11, 11, 11, 11, 11, 11, 11, 12] D11
      exact z h10 tk10 (Rep.dropL (x := dcells dus) D12)
    ·
      refine sg2L 1000 [.s 8, .s 8, .e, .e, .s 4, .t, .t, .s 6, .e, .e, .e, .e, .e, .e, .s 0, .s 0, .e, .s 0, .e, .s 0, .s 0, .s 0, .e, .s 0] [] G o.hd D ?_; intro fh1 oh1; refine ⟨by kernel_rfl, fun h1 tk1 D1 => ?_⟩
      refine u_riter D1 0 (r := h.objs.size) (a := 0) (b := (os.length : Int) + 1) (ta := tk + 2) (tb := tk + 1) (tc := tk + 3) (by kernel_rfl) (by decide) (by omega) (by omega) (by kernel_rfl) (by kernel_rfl) fun h2 it3 D2 => ?_
      rw [show ((os.length : Int) + 1 - 0).toNat = os.length + 1 from by omega] at D2
      refine sg2L 1000 [.s 0] [] G o.hd D2 ?_; intro fh3 oh3; refine ⟨by kernel_rfl, fun h3 tk3 D3 => ?_⟩
      refine use_call (c' := compS (gdW G).params 170 (e170d (gdW G).params) it3 h2.objs.size (h2.objs.size + 1) L [(s_rounds, Cr), (s_octets, Co)]) (hd := none) (by kernel_rfl) rfl ?_
      let S4 : List Cells := [[(h2.objs.size + 1, dictO #[] 0)], [(h2.objs.size, listO #[] 0)], [(it3, rgO 0 (os.length + 1))], [(h.objs.size, rangeO 0 ((os.length : Int) + 1) (tk + 2) (tk + 1) (tk + 3))], [(td, listO ⟨tds.map rdV⟩ et)], [(Rn, listO ⟨rds.map rdV⟩ enr)], [(To, listO ⟨os.map iv⟩ 0)], [(Cb, cellP none)], [(Ct, cellO (.ref td))], [(Cr, cellO (.ref Rn))], [(Cs, cellO (.int (os.length : Int) lt))], [(Co, cellO (.ref To))], [(L, frF #[fe q0 s_script (.ref Ls), fe q1 s_last (.bool true), fe q2 s_needs (.ref nd), fe q3 s_refused (.bool true)] 4 sl)], dcells rds, dcells tds, ρ]; have D4 : Rep h₀ h3 F (cat S4) := D3.eq (by kernel_rfl)
      have D5 := (Rep.shuf _ [15, 15, 14, 13, 12, 12, 10, 15, 12, 13, 14, 15, 12, 13, 14, 15] D4).mask [false]
      refine s170d (it := it3) (acc := h2.objs.size) (sc := h2.objs.size + 1) (Cl := Co) (Cr := Cr) (To := To) (Rn := Rn) (L := L) (os := os) (rds := rds) (eo := 0) (en := enr) (n := os.length + 1) (ds := toldsM (os.map (·.1)) 0 (os.length + 1)) (ρ := cat [[(td, listO ⟨tds.map rdV⟩ et)], [(Cb, cellP none)], [(Ct, cellO (.ref td))], [(Cs, cellO (.int (os.length : Int) lt))], [(L, frF #[fe q0 s_script (.ref Ls), fe q1 s_last (.bool true), fe q2 s_needs (.ref nd), fe q3 s_refused (.bool true)] 4 sl)], dcells tds, ρ]) G (o.call (by kernel_rfl) (by kernel_rfl)) (un.call (by kernel_rfl)) (by omega) hrdl (Nat.le_refl _) (by rw [hrds]; have := hp.dues; rw [List.length_map] at this; exact this) D5 ?_
      intro h6 tk6 dus eu v6 hv6 hdus D6
      obtain ⟨⟨vq, vv⟩, rfl⟩ := Option.isSome_iff_exists.mp (hv6 (.inl (by omega)))
      let S7 : List Cells := [[(h2.objs.size, listO ⟨dus.map rdV⟩ eu)], [(h2.objs.size + 1, dictO (scE s_k (some (vq, vv))) (scN (some (vq, vv))))], [(Co, cellO (.ref To))], [(Cr, cellO (.ref Rn))], [(To, listO ⟨os.map iv⟩ 0)], [(Rn, listO ⟨rds.map rdV⟩ enr)], dcells rds, dcells dus, [(td, listO ⟨tds.map rdV⟩ et)], [(Cb, cellP none)], [(Ct, cellO (.ref td))], [(Cs, cellO (.int (os.length : Int) lt))], [(L, frF #[fe q0 s_script (.ref Ls), fe q1 s_last (.bool true), fe q2 s_needs (.ref nd), fe q3 s_refused (.bool true)] 4 sl)], dcells tds, ρ]; have D7 := Rep.shuf S7 [14, 8, 14, 9, 14, 7, 14, 9, 14, 14, 12, 13, 14, 13, 14] D6
      refine sg2L 1000 [.s 0, .s 0, .s 0] [false] G o.hd D7 ?_; intro fh8 oh8; refine ⟨by kernel_rfl, fun h8 tk8 D8 => ?_⟩
      let S9 : List Cells := [[(h2.objs.size, listO ⟨dus.map rdV⟩ eu)], [(td, listO ⟨tds.map rdV⟩ et)], [(Rn, listO ⟨rds.map rdV⟩ enr)], [(To, listO ⟨os.map iv⟩ 0)], [(Cb, cellP none)], [(Ct, cellO (.ref td))], [(Cr, cellO (.ref Rn))], [(Cs, cellO (.int (os.length : Int) lt))], [(Co, cellO (.ref To))], [(L, frF #[fe q0 s_script (.ref Ls), fe q1 s_last (.bool true), fe q2 s_needs (.ref nd), fe q3 s_refused (.bool true)] 4 sl)], dcells rds, dcells tds, dcells dus, ρ]; have D9 : Rep h₀ h8 F (cat S9) := D8.eq (by kernel_rfl)
      have hra := reads_rows (h := h8) (a := td) (rds := tds) (e := et) (D9.cell 1 rfl) (fun r hr' => D9.at_ _ (mem_cat 11 (dcells tds) _ rfl (mem_dcells hr')))
      have hrb := reads_rows (h := h8) (a := h2.objs.size) (rds := dus) (e := eu) (D9.cell 0 rfl) (fun r hr' => D9.at_ _ (mem_cat 12 (dcells dus) _ rfl (mem_dcells hr')))
      refine use_ne (ifOΦ_lay (.ref td) (.ref h2.objs.size) (thenOf (fstmt (gdW G).params 170 5)) (elseOf (fstmt (gdW G).params 170 5)) (bodyFrom (gdW G).params 170 6) (fenvC (gdW G).params 170 L [(s_behind, Cb), (s_told, Ct), (s_rounds, Cr), (s_size, Cs), (s_octets, Co)])) (by kernel_rfl) un (by kernel_rfl) hra.choose_spec hrb.choose_spec (shaped_rows _) (shaped_rows _) ?_
      rw [eqv_rows, htds, hdus, decide_eq_true rfl]
      refine sg2L 1000 [] [false] G o.hd D9 ?_; intro fh10 oh10; refine ⟨by kernel_rfl, fun h10 tk10 D10 => ?_⟩
      refine to_sk (c' := fcodeC (gdW G).params 170 L [(s_behind, Cb), (s_told, Ct), (s_rounds, Cr), (s_size, Cs), (s_octets, Co)]) (t' := (skT (gdW G).params prog 170 6 (fenvC (gdW G).params 170 L [(s_behind, Cb), (s_told, Ct), (s_rounds, Cr), (s_size, Cs), (s_octets, Co)]))) (by kernel_rfl) (by kernel_rfl) (by kernel_rfl) ?_
      let S11 : List Cells := [[(td, listO ⟨tds.map rdV⟩ et)], [(Rn, listO ⟨rds.map rdV⟩ enr)], [(To, listO ⟨os.map iv⟩ 0)], [(Cb, cellP none)], [(Ct, cellO (.ref td))], [(Cr, cellO (.ref Rn))], [(Cs, cellO (.int (os.length : Int) lt))], [(Co, cellO (.ref To))], [(L, frF #[fe q0 s_script (.ref Ls), fe q1 s_last (.bool true), fe q2 s_needs (.ref nd), fe q3 s_refused (.bool true)] 4 sl)], dcells rds, dcells tds, dcells dus, ρ]; have D11 : Rep h₀ h10 F (cat S11) := D10.eq (by kernel_rfl)
      have D12 := Rep.shuf _ [12, 11, 11, 11, 11, 11, 11, 11, 11, 11, 11, 11, 12] D11
      exact z h10 tk10 (Rep.dropL (x := dcells dus) D12)

theorem q170_6 {L Co Cs Cr Ct Cb To Ls nd : Addr} {os : List IT} {q0 q1 q2 q3 : Q2} {lt : Tok} {last : Bool} {Rn : Addr} {rds : List Rd} {enr : Nat} {td : Addr} {tds : List Rd} {et : Nat} {sl : Array (Option Value)} (G : Gd (wF b1 b2 b3 w₀) h₀) (o : Ok A 40) (un : Un A 60) (hfr : A.frames = some []) (hol : 9 ≤ os.length) (hol2 : os.length ≤ 15)
    (D : Rep h₀ h F ((td, listO ⟨tds.map rdV⟩ et) :: (Rn, listO ⟨rds.map rdV⟩ enr) :: (To, listO ⟨os.map iv⟩ 0) :: (Cb, cellP none) :: (Ct, cellO (.ref td)) :: (Cr, cellO (.ref Rn)) :: (Cs, cellO (.int (os.length : Int) lt)) :: (Co, cellO (.ref To)) :: (L, frF #[fe q0 s_script (.ref Ls), fe q1 s_last (.bool last), fe q2 s_needs (.ref nd), fe q3 s_refused (.bool last)] 4 sl) :: (dcells rds ++ (dcells tds ++ ρ))))
    (z : ∀ h' tk' bh (bs : List IT) eb, bs.map (·.1) = behM (os.map (·.1)) 0 (os.length + 1) → Rep h₀ h' F ((bh, listO ⟨bs.map iv⟩ eb) :: (td, listO ⟨tds.map rdV⟩ et) :: (Rn, listO ⟨rds.map rdV⟩ enr) :: (To, listO ⟨os.map iv⟩ 0) :: (Cb, cellO (.ref bh)) :: (Ct, cellO (.ref td)) :: (Cr, cellO (.ref Rn)) :: (Cs, cellO (.int (os.length : Int) lt)) :: (Co, cellO (.ref To)) :: (L, frF #[fe q0 s_script (.ref Ls), fe q1 s_last (.bool last), fe q2 s_needs (.ref nd), fe q3 s_refused (.bool last)] 4 sl) :: (dcells rds ++ (dcells tds ++ ρ))) → Mn prog (wF b1 b2 b3 w₀) A R (fcodeC (wF b1 b2 b3 w₀).params 170 L [(s_behind, Cb), (s_told, Ct), (s_rounds, Cr), (s_size, Cs), (s_octets, Co)]) .base (skT (wF b1 b2 b3 w₀).params prog 170 7 (fenvC (wF b1 b2 b3 w₀).params 170 L [(s_behind, Cb), (s_told, Ct), (s_rounds, Cr), (s_size, Cs), (s_octets, Co)])) ⟨h', g, d, tk', os₀⟩) :
    Mn prog (wF b1 b2 b3 w₀) A R (fcodeC (wF b1 b2 b3 w₀).params 170 L [(s_behind, Cb), (s_told, Ct), (s_rounds, Cr), (s_size, Cs), (s_octets, Co)]) .base (skT (wF b1 b2 b3 w₀).params prog 170 6 (fenvC (wF b1 b2 b3 w₀).params 170 L [(s_behind, Cb), (s_told, Ct), (s_rounds, Cr), (s_size, Cs), (s_octets, Co)])) ⟨h, g, d, tk, os₀⟩ := by
  all_goals
    refine sg2L 1000 [.t, .t, .s 6, .e, .e, .e, .e, .e, .e, .s 0, .s 0, .e, .s 0, .e, .s 0, .s 0, .s 0, .e, .s 0] [] G o.hd D ?_; intro fh1 oh1; refine ⟨by kernel_rfl, fun h1 tk1 D1 => ?_⟩
    refine u_riter D1 0 (r := h.objs.size) (a := 0) (b := (os.length : Int) + 1) (ta := tk + 2) (tb := tk + 1) (tc := tk + 3) (by kernel_rfl) (by decide) (by omega) (by omega) (by kernel_rfl) (by kernel_rfl) fun h2 it4 D2 => ?_
    rw [show ((os.length : Int) + 1 - 0).toNat = os.length + 1 from by omega] at D2
    refine sg2L 1000 [.s 0] [] G o.hd D2 ?_; intro fh3 oh3; refine ⟨by kernel_rfl, fun h3 tk3 D3 => ?_⟩
    refine use_call (c' := compS (gdW G).params 170 (e170b (gdW G).params) it4 h2.objs.size (h2.objs.size + 1) L [(s_octets, Co)]) (hd := none) (by kernel_rfl) rfl ?_
    let S4 : List Cells := [[(h2.objs.size + 1, dictO #[] 0)], [(h2.objs.size, listO #[] 0)], [(it4, rgO 0 (os.length + 1))], [(h.objs.size, rangeO 0 ((os.length : Int) + 1) (tk + 2) (tk + 1) (tk + 3))], [(td, listO ⟨tds.map rdV⟩ et)], [(Rn, listO ⟨rds.map rdV⟩ enr)], [(To, listO ⟨os.map iv⟩ 0)], [(Cb, cellP none)], [(Ct, cellO (.ref td))], [(Cr, cellO (.ref Rn))], [(Cs, cellO (.int (os.length : Int) lt))], [(Co, cellO (.ref To))], [(L, frF #[fe q0 s_script (.ref Ls), fe q1 s_last (.bool last), fe q2 s_needs (.ref nd), fe q3 s_refused (.bool last)] 4 sl)], dcells rds, dcells tds, ρ]; have D4 : Rep h₀ h3 F (cat S4) := D3.eq (by kernel_rfl)
    have D5 := (Rep.shuf _ [15, 15, 15, 15, 14, 14, 14, 14, 13, 13, 14, 15, 12, 13, 14, 15] D4).mask [false]
    refine s170b (it := it4) (acc := h2.objs.size) (sc := h2.objs.size + 1) (Cl := Co) (To := To) (L := L) (os := os) (eo := 0) (n := os.length + 1) (ρ := cat [[(td, listO ⟨tds.map rdV⟩ et)], [(Rn, listO ⟨rds.map rdV⟩ enr)], [(Cb, cellP none)], [(Ct, cellO (.ref td))], [(Cr, cellO (.ref Rn))], [(Cs, cellO (.int (os.length : Int) lt))], [(L, frF #[fe q0 s_script (.ref Ls), fe q1 s_last (.bool last), fe q2 s_needs (.ref nd), fe q3 s_refused (.bool last)] 4 sl)], dcells rds, dcells tds, ρ]) G (o.call (by kernel_rfl) (by kernel_rfl)) (by omega) (by omega) D5 ?_
    intro h6 tk6 bs eb v6 hv6 hbs D6
    obtain ⟨⟨vq, vv⟩, rfl⟩ := Option.isSome_iff_exists.mp (hv6 (.inl (by omega)))
    let S7 : List Cells := [[(h2.objs.size, listO ⟨bs.map iv⟩ eb)], [(h2.objs.size + 1, dictO (scE s_k (some (vq, vv))) (scN (some (vq, vv))))], [(Co, cellO (.ref To))], [(To, listO ⟨os.map iv⟩ 0)], [(td, listO ⟨tds.map rdV⟩ et)], [(Rn, listO ⟨rds.map rdV⟩ enr)], [(Cb, cellP none)], [(Ct, cellO (.ref td))], [(Cr, cellO (.ref Rn))], [(Cs, cellO (.int (os.length : Int) lt))], [(L, frF #[fe q0 s_script (.ref Ls), fe q1 s_last (.bool last), fe q2 s_needs (.ref nd), fe q3 s_refused (.bool last)] 4 sl)], dcells rds, dcells tds, ρ]; have D7 := Rep.shuf S7 [13, 13, 13, 13, 6, 13, 13, 13, 13, 11, 13, 13, 12, 13] D6
    refine sg2L 1000 [.s 0, .s 0, .s 0, .s 5, .s 5] [false] G o.hd D7 ?_; intro fh8 oh8; refine ⟨by kernel_rfl, fun h8 tk8 D8 => ?_⟩
    refine to_sk (c' := fcodeC (gdW G).params 170 L [(s_behind, Cb), (s_told, Ct), (s_rounds, Cr), (s_size, Cs), (s_octets, Co)]) (t' := (skT (gdW G).params prog 170 7 (fenvC (gdW G).params 170 L [(s_behind, Cb), (s_told, Ct), (s_rounds, Cr), (s_size, Cs), (s_octets, Co)]))) (by kernel_rfl) (by kernel_rfl) (by kernel_rfl) ?_
    exact z h8 tk8 h2.objs.size bs eb hbs (D8.eq (by kernel_rfl))

theorem q170_7 {L Co Cs Cr Ct Cb To Ls nd : Addr} {os : List IT} {q0 q1 q2 q3 : Q2} {lt : Tok} {last : Bool} {Rn : Addr} {rds : List Rd} {enr : Nat} {td : Addr} {tds : List Rd} {et : Nat} {sl : Array (Option Value)} {bh : Addr} {bs : List IT} {eb : Nat} (G : Gd (wF b1 b2 b3 w₀) h₀) (o : Ok A 40) (un : Un A 60) (hfr : A.frames = some []) (hol : 9 ≤ os.length) (hol2 : os.length ≤ 15) (hp : PL (os.map (·.1)) last) (hrds : rds.map Rd.p = hp.out) (hbs : bs.map (·.1) = behM (os.map (·.1)) 0 (os.length + 1)) (hbl : bs.length = os.length + 1)
    (D : Rep h₀ h F ((bh, listO ⟨bs.map iv⟩ eb) :: (td, listO ⟨tds.map rdV⟩ et) :: (Rn, listO ⟨rds.map rdV⟩ enr) :: (To, listO ⟨os.map iv⟩ 0) :: (Cb, cellO (.ref bh)) :: (Ct, cellO (.ref td)) :: (Cr, cellO (.ref Rn)) :: (Cs, cellO (.int (os.length : Int) lt)) :: (Co, cellO (.ref To)) :: (L, frF #[fe q0 s_script (.ref Ls), fe q1 s_last (.bool last), fe q2 s_needs (.ref nd), fe q3 s_refused (.bool last)] 4 sl) :: (dcells rds ++ (dcells tds ++ ρ))))
    (z : ∀ h' tk', Rep h₀ h' F ((bh, listO ⟨bs.map iv⟩ eb) :: (td, listO ⟨tds.map rdV⟩ et) :: (Rn, listO ⟨rds.map rdV⟩ enr) :: (To, listO ⟨os.map iv⟩ 0) :: (Cb, cellO (.ref bh)) :: (Ct, cellO (.ref td)) :: (Cr, cellO (.ref Rn)) :: (Cs, cellO (.int (os.length : Int) lt)) :: (Co, cellO (.ref To)) :: (L, frF #[fe q0 s_script (.ref Ls), fe q1 s_last (.bool last), fe q2 s_needs (.ref nd), fe q3 s_refused (.bool last)] 4 sl) :: (dcells rds ++ (dcells tds ++ ρ))) → Mn prog (wF b1 b2 b3 w₀) A R (fcodeC (wF b1 b2 b3 w₀).params 170 L [(s_behind, Cb), (s_told, Ct), (s_rounds, Cr), (s_size, Cs), (s_octets, Co)]) .base (skT (wF b1 b2 b3 w₀).params prog 170 8 (fenvC (wF b1 b2 b3 w₀).params 170 L [(s_behind, Cb), (s_told, Ct), (s_rounds, Cr), (s_size, Cs), (s_octets, Co)])) ⟨h', g, d, tk', os₀⟩) :
    Mn prog (wF b1 b2 b3 w₀) A R (fcodeC (wF b1 b2 b3 w₀).params 170 L [(s_behind, Cb), (s_told, Ct), (s_rounds, Cr), (s_size, Cs), (s_octets, Co)]) .base (skT (wF b1 b2 b3 w₀).params prog 170 7 (fenvC (wF b1 b2 b3 w₀).params 170 L [(s_behind, Cb), (s_told, Ct), (s_rounds, Cr), (s_size, Cs), (s_octets, Co)])) ⟨h, g, d, tk, os₀⟩ := by
  all_goals
    refine sg2L 1000 [.t, .t, .s 6, .s 2, .s 2, .e, .s 2, .e, .s 0] [] G o.hd D ?_; intro fh1 oh1; refine ⟨by kernel_rfl, fun h1 tk1 D1 => ?_⟩
    refine use_call (c' := compS (gdW G).params 170 (e170f (gdW G).params) h.objs.size (h.objs.size + 1) (h.objs.size + 2) L []) (hd := none) (by kernel_rfl) rfl ?_
    let S2 : List Cells := [[(h.objs.size + 2, dictO #[] 0)], [(h.objs.size + 1, listO #[] 0)], [(h.objs.size, itO "list_iterator" (.ref Rn) 0)], [(bh, listO ⟨bs.map iv⟩ eb)], [(td, listO ⟨tds.map rdV⟩ et)], [(Rn, listO ⟨rds.map rdV⟩ enr)], [(To, listO ⟨os.map iv⟩ 0)], [(Cb, cellO (.ref bh))], [(Ct, cellO (.ref td))], [(Cr, cellO (.ref Rn))], [(Cs, cellO (.int (os.length : Int) lt))], [(Co, cellO (.ref To))], [(L, frF #[fe q0 s_script (.ref Ls), fe q1 s_last (.bool last), fe q2 s_needs (.ref nd), fe q3 s_refused (.bool last)] 4 sl)], dcells rds, dcells tds, ρ]; have D2 : Rep h₀ h1 F (cat S2) := D1.eq (by kernel_rfl)
    have D3 := Rep.shuf _ [15, 15, 14, 14, 14, 14, 14, 14, 14, 13, 13, 15, 15, 13, 14, 15] D2
    refine s170f (it := h.objs.size) (acc := h.objs.size + 1) (sc := h.objs.size + 2) (Rn := Rn) (L := L) (en := enr) (rest := rds) (ρ := cat [[(bh, listO ⟨bs.map iv⟩ eb)], [(td, listO ⟨tds.map rdV⟩ et)], [(To, listO ⟨os.map iv⟩ 0)], [(Cb, cellO (.ref bh))], [(Ct, cellO (.ref td))], [(Cr, cellO (.ref Rn))], [(Cs, cellO (.int (os.length : Int) lt))], [(Co, cellO (.ref To))], [(L, frF #[fe q0 s_script (.ref Ls), fe q1 s_last (.bool last), fe q2 s_needs (.ref nd), fe q3 s_refused (.bool last)] 4 sl)], dcells tds, ρ]) G (o.call (by kernel_rfl) (by kernel_rfl)) (by rw [flatN_eq, hrds]; have := hp.flatl; omega) D3 ?_
    intro h4 tk4 fs ef v4 hv4 hfs D4
    have hk4 := hv4 (.inl (by rw [hrds]; exact hp.flatne))
    rcases v4 with _ | ⟨qr4, rv4, _ | ⟨qk4, vk4⟩⟩
    · cases hk4
    · cases hk4
    have hfl : fs.length < 64 := by have := congrArg List.length hfs; rw [List.length_map, hrds] at this; have := hp.flatl; omega
    let S5 : List Cells := [[(h.objs.size + 1, listO ⟨fs.map iv⟩ ef)], [(h.objs.size + 2, dictO (scG (some (qr4, rv4, some (qk4, vk4)))) (scH (some (qr4, rv4, some (qk4, vk4)))))], [(Rn, listO ⟨rds.map rdV⟩ enr)], dcells rds, [(bh, listO ⟨bs.map iv⟩ eb)], [(td, listO ⟨tds.map rdV⟩ et)], [(To, listO ⟨os.map iv⟩ 0)], [(Cb, cellO (.ref bh))], [(Ct, cellO (.ref td))], [(Cr, cellO (.ref Rn))], [(Cs, cellO (.int (os.length : Int) lt))], [(Co, cellO (.ref To))], [(L, frF #[fe q0 s_script (.ref Ls), fe q1 s_last (.bool last), fe q2 s_needs (.ref nd), fe q3 s_refused (.bool last)] 4 sl)], dcells tds, ρ]; have D5 := Rep.shuf S5 [14, 14, 5, 14, 14, 14, 14, 14, 14, 14, 12, 14, 14, 13, 14] D4
    refine sg2L 1000 [.s 0, .s 0, .s 0, .s 0, .s 0, .s 0] [false] G o.hd D5 ?_; intro fh6 oh6; refine ⟨by kernel_rfl, fun h6 tk6 D6 => ?_⟩
    refine u_sortedL D6 0 (T := h.objs.size + 1) (rs := fs) (n := ef) (by kernel_rfl) hfl (by kernel_rfl) fun h7 So e61 ss hss D7 => ?_
    refine sg2L 1000 [.t, .t, .s 9, .e, .e, .e, .e, .s 0, .s 0, .e, .s 0, .e, .s 0, .s 0, .s 0, .e, .s 0] [] G o.hd D7 ?_; intro fh7b oh7b; refine ⟨by kernel_rfl, fun h7b tk7 D7b => ?_⟩
    refine u_riter D7b 0 (r := h7.objs.size) (a := 0) (b := (os.length : Int)) (ta := tk6) (tb := lt) (tc := tk6 + 1) (by kernel_rfl) (by decide) (by omega) (by omega) (by kernel_rfl) (by kernel_rfl) fun h8 it6 D8 => ?_
    rw [show ((os.length : Int) - 0).toNat = os.length from by omega] at D8
    refine sg2L 1000 [.s 0] [] G o.hd D8 ?_; intro fh9 oh9; refine ⟨by kernel_rfl, fun h9 tk9 D9 => ?_⟩
    refine use_call (c' := compS (gdW G).params 170 (e170p (gdW G).params) it6 h8.objs.size (h8.objs.size + 1) L [(s_behind, Cb)]) (hd := none) (by kernel_rfl) rfl ?_
    let S10 : List Cells := [[(h8.objs.size + 1, dictO #[] 0)], [(h8.objs.size, listO #[] 0)], [(it6, rgO 0 os.length)], [(h7.objs.size, rangeO 0 (os.length : Int) tk6 lt (tk6 + 1))], [(So, listO ⟨ss.map iv⟩ e61)], [(h.objs.size + 1, listO ⟨fs.map iv⟩ ef)], [(bh, listO ⟨bs.map iv⟩ eb)], [(td, listO ⟨tds.map rdV⟩ et)], [(Rn, listO ⟨rds.map rdV⟩ enr)], [(To, listO ⟨os.map iv⟩ 0)], [(Cb, cellO (.ref bh))], [(Ct, cellO (.ref td))], [(Cr, cellO (.ref Rn))], [(Cs, cellO (.int (os.length : Int) lt))], [(Co, cellO (.ref To))], [(L, frF #[fe q0 s_script (.ref Ls), fe q1 s_last (.bool last), fe q2 s_needs (.ref nd), fe q3 s_refused (.bool last)] 4 sl)], dcells rds, dcells tds, ρ]; have D10 : Rep h₀ h9 F (cat S10) := D9.eq (by kernel_rfl)
    have D11 := (Rep.shuf _ [18, 18, 18, 18, 18, 18, 18, 18, 17, 17, 17, 15, 17, 18, 14, 15, 16, 18, 18] D10).mask [false, false]
    refine s170p (it := it6) (acc := h8.objs.size) (sc := h8.objs.size + 1) (Cb := Cb) (Tb := bh) (L := L) (bs := bs) (eb := eb) (n := os.length) (ρ := cat [[(So, listO ⟨ss.map iv⟩ e61)], [(td, listO ⟨tds.map rdV⟩ et)], [(Rn, listO ⟨rds.map rdV⟩ enr)], [(To, listO ⟨os.map iv⟩ 0)], [(Ct, cellO (.ref td))], [(Cr, cellO (.ref Rn))], [(Cs, cellO (.int (os.length : Int) lt))], [(Co, cellO (.ref To))], [(L, frF #[fe q0 s_script (.ref Ls), fe q1 s_last (.bool last), fe q2 s_needs (.ref nd), fe q3 s_refused (.bool last)] 4 sl)], dcells rds, dcells tds, ρ]) G (o.call (by kernel_rfl) (by kernel_rfl)) (by omega) (by omega) D11 ?_
    intro h12 tk12 pz ep v12 hv12 hpz D12
    obtain ⟨⟨vq, vv⟩, rfl⟩ := Option.isSome_iff_exists.mp (hv12 (.inl (by omega)))
    let S13 : List Cells := [[(h8.objs.size, listO ⟨pz.map iv⟩ ep)], [(h8.objs.size + 1, dictO (scE s_k (some (vq, vv))) (scN (some (vq, vv))))], [(Cb, cellO (.ref bh))], [(bh, listO ⟨bs.map iv⟩ eb)], [(So, listO ⟨ss.map iv⟩ e61)], [(td, listO ⟨tds.map rdV⟩ et)], [(Rn, listO ⟨rds.map rdV⟩ enr)], [(To, listO ⟨os.map iv⟩ 0)], [(Ct, cellO (.ref td))], [(Cr, cellO (.ref Rn))], [(Cs, cellO (.int (os.length : Int) lt))], [(Co, cellO (.ref To))], [(L, frF #[fe q0 s_script (.ref Ls), fe q1 s_last (.bool last), fe q2 s_needs (.ref nd), fe q3 s_refused (.bool last)] 4 sl)], dcells rds, dcells tds, ρ]; have D13 := Rep.shuf S13 [15, 15, 15, 15, 15, 15, 15, 15, 10, 15, 15, 15, 14, 15, 14, 15] D12
    refine sg2L 1000 [.s 0, .s 0, .s 0] [false] G o.hd D13 ?_; intro fh14 oh14; refine ⟨by kernel_rfl, fun h14 tk14 D14 => ?_⟩
    let S15 : List Cells := [[(h8.objs.size, listO ⟨pz.map iv⟩ ep)], [(So, listO ⟨ss.map iv⟩ e61)], [(bh, listO ⟨bs.map iv⟩ eb)], [(td, listO ⟨tds.map rdV⟩ et)], [(Rn, listO ⟨rds.map rdV⟩ enr)], [(To, listO ⟨os.map iv⟩ 0)], [(Cb, cellO (.ref bh))], [(Ct, cellO (.ref td))], [(Cr, cellO (.ref Rn))], [(Cs, cellO (.int (os.length : Int) lt))], [(Co, cellO (.ref To))], [(L, frF #[fe q0 s_script (.ref Ls), fe q1 s_last (.bool last), fe q2 s_needs (.ref nd), fe q3 s_refused (.bool last)] 4 sl)], dcells rds, dcells tds, ρ]; have D15 : Rep h₀ h14 F (cat S15) := D14.eq (by kernel_rfl)
    have hrs : Reads h14 (.ref So) (.list ((ss.map (·.1)).map PyData.int)) [So] := reads_of_ints (vs := ss.map iv) ⟨_, D15.cell 1 rfl, rfl, e61, rfl⟩ (ints_iv ss)
    have hrp : Reads h14 (.ref h8.objs.size) (.list ((pz.map (·.1)).map PyData.int)) [h8.objs.size] := reads_of_ints (vs := pz.map iv) ⟨_, D15.cell 0 rfl, rfl, ep, rfl⟩ (ints_iv pz)
    refine use_ne (ifΦ_lay (.ref So) (.ref h8.objs.size) (thenOf (fstmt (gdW G).params 170 7)) (elseOf (fstmt (gdW G).params 170 7)) (bodyFrom (gdW G).params 170 8) (fenvC (gdW G).params 170 L [(s_behind, Cb), (s_told, Ct), (s_rounds, Cr), (s_size, Cs), (s_octets, Co)])) (by kernel_rfl) un (by kernel_rfl) hrs hrp (ke_shaped_ints _) (ke_shaped_ints _) ?_
    have hso := hp.sorted
    rw [List.length_map] at hso
    rw [eqv_ints, hss, hfs, hrds, hso, hpz, hbs, decide_eq_true rfl]
    refine sg2L 1000 [] [false, false] G o.hd D15 ?_; intro fh16 oh16; refine ⟨by kernel_rfl, fun h16 tk16 D16 => ?_⟩
    refine to_sk (c' := fcodeC (gdW G).params 170 L [(s_behind, Cb), (s_told, Ct), (s_rounds, Cr), (s_size, Cs), (s_octets, Co)]) (t' := (skT (gdW G).params prog 170 8 (fenvC (gdW G).params 170 L [(s_behind, Cb), (s_told, Ct), (s_rounds, Cr), (s_size, Cs), (s_octets, Co)]))) (by kernel_rfl) (by kernel_rfl) (by kernel_rfl) ?_
    exact z h16 tk16 (D16.eq (by kernel_rfl))

theorem q170_8 {L Co Cs Cr Ct Cb To Ls nd : Addr} {os : List IT} {q0 q1 q2 q3 : Q2} {lt : Tok} {last : Bool} {Rn : Addr} {rds : List Rd} {enr : Nat} {td : Addr} {tds : List Rd} {et : Nat} {sl : Array (Option Value)} {bh : Addr} {bs : List IT} {eb : Nat} (G : Gd (wF b1 b2 b3 w₀) h₀) (o : Ok A 40) (un : Un A 60) (hfr : A.frames = some []) (hol : 9 ≤ os.length) (hol2 : os.length ≤ 15) (hbs : bs.map (·.1) = behM (os.map (·.1)) 0 (os.length + 1)) (hbl : bs.length = os.length + 1)
    (D : Rep h₀ h F ((bh, listO ⟨bs.map iv⟩ eb) :: (td, listO ⟨tds.map rdV⟩ et) :: (Rn, listO ⟨rds.map rdV⟩ enr) :: (To, listO ⟨os.map iv⟩ 0) :: (Cb, cellO (.ref bh)) :: (Ct, cellO (.ref td)) :: (Cr, cellO (.ref Rn)) :: (Cs, cellO (.int (os.length : Int) lt)) :: (Co, cellO (.ref To)) :: (L, frF #[fe q0 s_script (.ref Ls), fe q1 s_last (.bool last), fe q2 s_needs (.ref nd), fe q3 s_refused (.bool last)] 4 sl) :: (dcells rds ++ (dcells tds ++ ρ))))
    (z : ∀ h' tk' dd (dds : List Rd) ed q4, dds.map Rd.p = dueM (behM (os.map (·.1)) 0 (os.length + 1)) 0 (cz (os.map (·.1)) + 1) → Rep h₀ h' F ((dd, listO ⟨dds.map rdV⟩ ed) :: (td, listO ⟨tds.map rdV⟩ et) :: (Ct, cellO (.ref td)) :: (Cs, cellO (.int (os.length : Int) lt)) :: (L, frF #[fe q0 s_script (.ref Ls), fe q1 s_last (.bool last), fe q2 s_needs (.ref nd), fe q3 s_refused (.bool last), fe q4 s_due (.ref dd)] 5 sl) :: (dcells tds ++ (dcells dds ++ (dcells rds ++ ρ)))) → Mn prog (wF b1 b2 b3 w₀) A R (fcodeC (wF b1 b2 b3 w₀).params 170 L [(s_behind, Cb), (s_told, Ct), (s_rounds, Cr), (s_size, Cs), (s_octets, Co)]) .base (skT (wF b1 b2 b3 w₀).params prog 170 9 (fenvC (wF b1 b2 b3 w₀).params 170 L [(s_behind, Cb), (s_told, Ct), (s_rounds, Cr), (s_size, Cs), (s_octets, Co)])) ⟨h', g, d, tk', os₀⟩) :
    Mn prog (wF b1 b2 b3 w₀) A R (fcodeC (wF b1 b2 b3 w₀).params 170 L [(s_behind, Cb), (s_told, Ct), (s_rounds, Cr), (s_size, Cs), (s_octets, Co)]) .base (skT (wF b1 b2 b3 w₀).params prog 170 8 (fenvC (wF b1 b2 b3 w₀).params 170 L [(s_behind, Cb), (s_told, Ct), (s_rounds, Cr), (s_size, Cs), (s_octets, Co)])) ⟨h, g, d, tk, os₀⟩ := by
  all_goals
    obtain ⟨b0, btl, hb0⟩ : ∃ b0 btl, bs = b0 :: btl := by
      cases bs with
      | nil => simp at hbl
      | cons a b => exact ⟨a, b, rfl⟩
    have hb0v : b0.1 = (cz (os.map (·.1)) : Int) := by
      rw [hb0] at hbs
      exact (List.cons.inj hbs).1
    have hczl : cz (os.map (·.1)) ≤ os.length := by have := cz_le (os.map (·.1)); rwa [List.length_map] at this
    refine sg2L 1000 [.t, .t, .s 4, .s 0, .s 0, .s 0, .e, .s 0] [] G o.hd D ?_; intro fh1 oh1; refine ⟨by kernel_rfl, fun h1 tk1 D1 => ?_⟩
    refine u_lget D1 0 (l := bh) (items := ⟨bs.map iv⟩) (n := eb) (x := 0) (u := tk) (y := .int (cz (os.map (·.1)) : Int) b0.2) (by kernel_rfl) (by decide) (by decide) (by rw [hb0]; show some (iv b0) = _; rw [← hb0v]) (by kernel_rfl) (by kernel_rfl) ?_
    refine sg2L 1000 [.e, .e, .e, .e, .e, .e, .s 0, .s 0, .e, .s 0, .e, .s 0, .s 0, .s 0, .e, .s 0] [] G o.hd D1 ?_; intro fh2 oh2; refine ⟨by kernel_rfl, fun h2 tk2 D2 => ?_⟩
    refine u_riter D2 0 (r := h1.objs.size) (a := 0) (b := (cz (os.map (·.1)) : Int) + 1) (ta := tk1 + 2) (tb := tk1 + 1) (tc := tk1 + 3) (by kernel_rfl) (by decide) (by omega) (by omega) (by kernel_rfl) (by kernel_rfl) fun h3 it7 D3 => ?_
    rw [show ((cz (os.map (·.1)) : Int) + 1 - 0).toNat = cz (os.map (·.1)) + 1 from by omega] at D3
    refine sg2L 1000 [.s 0] [] G o.hd D3 ?_; intro fh4 oh4; refine ⟨by kernel_rfl, fun h4 tk4 D4 => ?_⟩
    refine use_call (c' := compS (gdW G).params 170 (e170m (gdW G).params) it7 h3.objs.size (h3.objs.size + 1) L [(s_many, h3.objs.size + 2), (s_size, Cs), (s_behind, Cb)]) (hd := none) (by kernel_rfl) rfl ?_
    let S5 : List Cells := [[(h3.objs.size + 2, cellP none)], [(h3.objs.size + 1, dictO #[] 0)], [(h3.objs.size, listO #[] 0)], [(it7, rgO 0 (cz (os.map (·.1)) + 1))], [(h1.objs.size, rangeO 0 ((cz (os.map (·.1)) : Int) + 1) (tk1 + 2) (tk1 + 1) (tk1 + 3))], [(bh, listO ⟨bs.map iv⟩ eb)], [(td, listO ⟨tds.map rdV⟩ et)], [(Rn, listO ⟨rds.map rdV⟩ enr)], [(To, listO ⟨os.map iv⟩ 0)], [(Cb, cellO (.ref bh))], [(Ct, cellO (.ref td))], [(Cr, cellO (.ref Rn))], [(Cs, cellO (.int (os.length : Int) lt))], [(Co, cellO (.ref To))], [(L, frF #[fe q0 s_script (.ref Ls), fe q1 s_last (.bool last), fe q2 s_needs (.ref nd), fe q3 s_refused (.bool last)] 4 sl)], dcells rds, dcells tds, ρ]; have D5 : Rep h₀ h4 F (cat S5) := D4.eq (by kernel_rfl)
    have D6 := (Rep.shuf _ [17, 17, 17, 17, 17, 16, 16, 15, 15, 15, 15, 16, 17, 13, 14, 15, 16, 17] D5).mask [false]
    refine s170m (it := it7) (acc := h3.objs.size) (sc := h3.objs.size + 1) (Cm := h3.objs.size + 2) (Cs := Cs) (Cb := Cb) (Tb := bh) (L := L) (bs := bs) (eb := eb) (n := cz (os.map (·.1)) + 1) (sz := (os.length : Int)) (st := lt) (ρ := cat [[(td, listO ⟨tds.map rdV⟩ et)], [(Rn, listO ⟨rds.map rdV⟩ enr)], [(To, listO ⟨os.map iv⟩ 0)], [(Ct, cellO (.ref td))], [(Cr, cellO (.ref Rn))], [(Co, cellO (.ref To))], [(L, frF #[fe q0 s_script (.ref Ls), fe q1 s_last (.bool last), fe q2 s_needs (.ref nd), fe q3 s_refused (.bool last)] 4 sl)], dcells rds, dcells tds, ρ]) G (o.call (by kernel_rfl) (by kernel_rfl)) (by omega) (by omega) (by omega) D6 ?_
    intro h7 tk7 dds ed mv7 hdds D7
    let S8 : List Cells := [[(h3.objs.size, listO ⟨dds.map rdV⟩ ed)], [(h3.objs.size + 1, dictO #[] 0)], [(h3.objs.size + 2, cellP mv7)], [(Cs, cellO (.int (os.length : Int) lt))], [(Cb, cellO (.ref bh))], [(bh, listO ⟨bs.map iv⟩ eb)], dcells dds, [(td, listO ⟨tds.map rdV⟩ et)], [(Rn, listO ⟨rds.map rdV⟩ enr)], [(To, listO ⟨os.map iv⟩ 0)], [(Ct, cellO (.ref td))], [(Cr, cellO (.ref Rn))], [(Co, cellO (.ref To))], [(L, frF #[fe q0 s_script (.ref Ls), fe q1 s_last (.bool last), fe q2 s_needs (.ref nd), fe q3 s_refused (.bool last)] 4 sl)], dcells rds, dcells tds, ρ]; have D8 := Rep.shuf S8 [16, 15, 8, 16, 16, 8, 14, 12, 8, 16, 16, 16, 16, 16, 16, 16, 16] D7
    refine sg2L 1000 [.s 12, .s 12] [false, false, false, false, false, false, false, false] G o.hd D8 ?_; intro fh9 oh9; refine ⟨by kernel_rfl, fun h9 tk9 D9 => ?_⟩
    refine to_sk (c' := fcodeC (gdW G).params 170 L [(s_behind, Cb), (s_told, Ct), (s_rounds, Cr), (s_size, Cs), (s_octets, Co)]) (t' := (skT (gdW G).params prog 170 9 (fenvC (gdW G).params 170 L [(s_behind, Cb), (s_told, Ct), (s_rounds, Cr), (s_size, Cs), (s_octets, Co)]))) (by kernel_rfl) (by kernel_rfl) (by kernel_rfl) ?_
    exact z h9 tk9 h3.objs.size dds ed (hS w₀.params s_due, tk7) (by rw [hdds, hbs]) (D9.eq (by kernel_rfl))

theorem q170_9 {L Co Cs Cr Ct Cb Ls nd td dd : Addr} {os : List IT} {q0 q1 q2 q3 q4 : Q2} {lt : Tok} {last : Bool} {tds dds : List Rd} {et ed : Nat} {sl : Array (Option Value)} (G : Gd (wF b1 b2 b3 w₀) h₀) (o : Ok A 40) (un : Un A 60) (hfr : A.frames = some []) (hol : 9 ≤ os.length) (hol2 : os.length ≤ 15) (hp : PL (os.map (·.1)) last) (htds : tds.map Rd.p = toldsM (os.map (·.1)) 0 (os.length + 1)) (hdds : dds.map Rd.p = dueM (behM (os.map (·.1)) 0 (os.length + 1)) 0 (cz (os.map (·.1)) + 1))
    (D : Rep h₀ h F ((dd, listO ⟨dds.map rdV⟩ ed) :: (td, listO ⟨tds.map rdV⟩ et) :: (Ct, cellO (.ref td)) :: (Cs, cellO (.int (os.length : Int) lt)) :: (L, frF #[fe q0 s_script (.ref Ls), fe q1 s_last (.bool last), fe q2 s_needs (.ref nd), fe q3 s_refused (.bool last), fe q4 s_due (.ref dd)] 5 sl) :: (dcells tds ++ (dcells dds ++ ρ))))
    (z : ∀ h' tk', (∀ p ∈ ρ, h'.get? p.1 = some p.2) → (∀ b o', h₀.get? b = some o' → b ∉ F → h'.get? b = some o') → h₀.objs.size ≤ h'.objs.size → R (.ok (.ret (.bool true))) ⟨h', g, d, tk', os₀⟩) :
    Mn prog (wF b1 b2 b3 w₀) A R (fcodeC (wF b1 b2 b3 w₀).params 170 L [(s_behind, Cb), (s_told, Ct), (s_rounds, Cr), (s_size, Cs), (s_octets, Co)]) .base (skT (wF b1 b2 b3 w₀).params prog 170 9 (fenvC (wF b1 b2 b3 w₀).params 170 L [(s_behind, Cb), (s_told, Ct), (s_rounds, Cr), (s_size, Cs), (s_octets, Co)])) ⟨h, g, d, tk, os₀⟩ := by
  all_goals
    have htl : tds.length = os.length + 1 := by have := congrArg List.length htds; rw [List.length_map, toldsM_length] at this; exact this
    refine sg2L 1000 [.t, .t, .t, .s 3, .e, .e, .e, .e, .e, .e, .s 0, .s 0, .e, .s 0, .e, .s 0, .s 0, .s 0, .e, .s 0] [] G o.hd D ?_; intro fh1 oh1; refine ⟨by kernel_rfl, fun h1 tk1 D1 => ?_⟩
    refine u_riter D1 0 (r := h.objs.size) (a := 0) (b := (os.length : Int) + 1) (ta := tk + 2) (tb := tk + 1) (tc := tk + 3) (by kernel_rfl) (by decide) (by omega) (by omega) (by kernel_rfl) (by kernel_rfl) fun h2 it8 D2 => ?_
    rw [show ((os.length : Int) + 1 - 0).toNat = tds.length from by omega] at D2
    refine sg2L 1000 [.s 0] [] G o.hd D2 ?_; intro fh3 oh3; refine ⟨by kernel_rfl, fun h3 tk3 D3 => ?_⟩
    refine use_call (c' := compS (gdW G).params 170 (e170r (gdW G).params) it8 h2.objs.size (h2.objs.size + 1) L [(s_told, Ct)]) (hd := none) (by kernel_rfl) rfl ?_
    let S4 : List Cells := [[(h2.objs.size + 1, dictO #[] 0)], [(h2.objs.size, listO #[] 0)], [(it8, rgO 0 tds.length)], [(h.objs.size, rangeO 0 ((os.length : Int) + 1) (tk + 2) (tk + 1) (tk + 3))], [(dd, listO ⟨dds.map rdV⟩ ed)], [(td, listO ⟨tds.map rdV⟩ et)], [(Ct, cellO (.ref td))], [(Cs, cellO (.int (os.length : Int) lt))], [(L, frF #[fe q0 s_script (.ref Ls), fe q1 s_last (.bool last), fe q2 s_needs (.ref nd), fe q3 s_refused (.bool last), fe q4 s_due (.ref dd)] 5 sl)], dcells tds, dcells dds, ρ]; have D4 : Rep h₀ h3 F (cat S4) := D3.eq (by kernel_rfl)
    have D5 := (Rep.shuf _ [11, 11, 10, 7, 11, 9, 10, 7, 8, 9, 11, 11] D4).mask [false, false]
    refine s170r (it := it8) (acc := h2.objs.size) (sc := h2.objs.size + 1) (Ct := Ct) (Tt := td) (L := L) (et := et) (rest := tds) (ρ := cat [[(dd, listO ⟨dds.map rdV⟩ ed)], [(L, frF #[fe q0 s_script (.ref Ls), fe q1 s_last (.bool last), fe q2 s_needs (.ref nd), fe q3 s_refused (.bool last), fe q4 s_due (.ref dd)] 5 sl)], dcells dds, ρ]) G (o.call (by kernel_rfl) (by kernel_rfl)) (by omega) (tolds_shape htds) D5 ?_
    intro h6 tk6 rows2 ew v6 hv6 hrows2 D6
    obtain ⟨⟨vq, vv⟩, rfl⟩ := Option.isSome_iff_exists.mp (hv6 (.inl (by intro e; rw [e] at htl; simp at htl)))
    let S7 : List Cells := [[(h2.objs.size, listO ⟨rows2.map rwV⟩ ew)], [(h2.objs.size + 1, dictO (scE s_k (some (vq, vv))) (scN (some (vq, vv))))], [(Ct, cellO (.ref td))], [(td, listO ⟨tds.map rdV⟩ et)], dcells tds, rcells rows2, [(dd, listO ⟨dds.map rdV⟩ ed)], [(L, frF #[fe q0 s_script (.ref Ls), fe q1 s_last (.bool last), fe q2 s_needs (.ref nd), fe q3 s_refused (.bool last), fe q4 s_due (.ref dd)] 5 sl)], dcells dds, ρ]; have D7 := Rep.shuf S7 [9, 5, 5, 9, 7, 9, 9, 7, 9, 9] D6
    refine sg2L 1000 [.s 0, .s 0, .s 0, .t] [false, false] G o.hd D7 ?_; intro fh8 oh8; refine ⟨by kernel_rfl, fun h8 tk8 D8 => ?_⟩
    refine use_call (c' := .call (.ref 160) ⟨[.ref h2.objs.size], []⟩) (hd := none) (by kernel_rfl) rfl ?_
    let S9 : List Cells := [[(h2.objs.size, listO ⟨rows2.map rwV⟩ ew)], [(dd, listO ⟨dds.map rdV⟩ ed)], [(L, frF #[fe q0 s_script (.ref Ls), fe q1 s_last (.bool last), fe q2 s_needs (.ref nd), fe q3 s_refused (.bool last), fe q4 s_due (.ref dd)] 5 sl)], rcells rows2, dcells dds, [(td, listO ⟨tds.map rdV⟩ et)], dcells tds, ρ]; have D9 : Rep h₀ h8 F (cat S9) := D8.eq (by kernel_rfl)
    have D10 := Rep.shuf _ [7, 7, 7, 7, 5, 6, 7, 7] D9
    refine c160 (Ln := h2.objs.size) (rows := rows2) (en := ew) (fuel := hp.g1) (fuel2 := hp.g2) (outer := [(fenvC (gdW G).params 170 L [(s_behind, Cb), (s_told, Ct), (s_rounds, Cr), (s_size, Cs), (s_octets, Co)])]) (frs := [(L, frF #[fe q0 s_script (.ref Ls), fe q1 s_last (.bool last), fe q2 s_needs (.ref nd), fe q3 s_refused (.bool last), fe q4 s_due (.ref dd)] 5 sl)]) (b := false) (ps := hp.qs) (out := dueM (behM (os.map (·.1)) 0 (os.length + 1)) 0 (cz (os.map (·.1)) + 1)) (ρ := cat [[(dd, listO ⟨dds.map rdV⟩ ed)], dcells dds, [(td, listO ⟨tds.map rdV⟩ et)], dcells tds, ρ]) G (o.call (by kernel_rfl) (by kernel_rfl)) (frames_fn hfr (by kernel_rfl)) ⟨kind170 _ _ _, by kernel_rfl, (fun vs hv => by cases hv), trivial⟩ (by intro e; have := congrArg List.length hrows2; rw [e, rowsM_length] at this; simp only [List.map_nil, List.length_nil, List.length_map] at this; omega) (by rw [hrows2, htds]; have := hp.adds2; rw [List.length_map] at this; exact this) hp.qsl hp.fc2 (by have := hp.rn2; rw [List.length_map] at this; exact this) hp.g2l D10 ?_
    intro h11 tk11 frs11 Tv Rv rds2 er2 hrds2 hs11 D11
    cases hs11 with
    | cons _ _ sl11 hs11 =>
    cases hs11
    let S12 : List Cells := [[(Tv, tupO #[.bool false, .ref Rv] 0)], [(Rv, listO ⟨rds2.map rdV⟩ er2)], dcells rds2, [(L, frF #[fe q0 s_script (.ref Ls), fe q1 s_last (.bool last), fe q2 s_needs (.ref nd), fe q3 s_refused (.bool last), fe q4 s_due (.ref dd)] 5 sl11)], [(dd, listO ⟨dds.map rdV⟩ ed)], dcells dds, [(td, listO ⟨tds.map rdV⟩ et)], dcells tds, ρ]; have D12 := Rep.shuf S12 [8, 8, 8, 8, 6, 8, 7, 7, 8] D11
    refine sg2L 1000 [.s 0] [] G o.hd D12 ?_; intro fh13 oh13; refine ⟨by kernel_rfl, fun h13 tk13 D13 => ?_⟩
    let S14 : List Cells := [[(h11.objs.size, tupO #[.bool false, .ref dd] 0)], [(L, frF #[fe q0 s_script (.ref Ls), fe q1 s_last (.bool last), fe q2 s_needs (.ref nd), fe q3 s_refused (.bool last), fe q4 s_due (.ref dd)] 5 sl11)], [(Tv, tupO #[.bool false, .ref Rv] 0)], [(Rv, listO ⟨rds2.map rdV⟩ er2)], [(dd, listO ⟨dds.map rdV⟩ ed)], dcells rds2, dcells dds, [(td, listO ⟨tds.map rdV⟩ et)], dcells tds, ρ]; have D14 : Rep h₀ h13 F (cat S14) := D13.eq (by kernel_rfl)
    have hr1 := reads_rows (h := h13) (a := Rv) (rds := rds2) (e := er2) (D14.cell 3 rfl) (fun r hr' => D14.at_ _ (mem_cat 5 (dcells rds2) _ rfl (mem_dcells hr')))
    have hr2 := reads_rows (h := h13) (a := dd) (rds := dds) (e := ed) (D14.cell 4 rfl) (fun r hr' => D14.at_ _ (mem_cat 6 (dcells dds) _ rfl (mem_dcells hr')))
    have ht1 := reads_pair (h := h13) (T := Tv) (b := false) (D14.cell 2 rfl) hr1.choose_spec
    have ht2 := reads_pair (h := h13) (T := h11.objs.size) (b := false) (D14.cell 0 rfl) hr2.choose_spec
    refine use_eq (retΦ_lay (.ref Tv) (.ref h11.objs.size) [] (fenvC (gdW G).params 170 L [(s_behind, Cb), (s_told, Ct), (s_rounds, Cr), (s_size, Cs), (s_octets, Co)])) (by kernel_rfl) un (by kernel_rfl) ht1 ht2 (shaped_pair _ _) (shaped_pair _ _) ?_
    rw [eqv_pair, hrds2, hdds, decide_eq_true rfl]
    refine sg2L 1000 [] [] G o.hd D14 ?_; intro fh15 oh15; refine ⟨by kernel_rfl, fun h15 tk15 D15 => ?_⟩
    refine end_done (f := .ret (.bool true)) (by kernel_rfl) (by kernel_rfl) ?_
    let S16 : List Cells := [[(h11.objs.size, tupO #[.bool false, .ref dd] 0)], [(L, frF #[fe q0 s_script (.ref Ls), fe q1 s_last (.bool last), fe q2 s_needs (.ref nd), fe q3 s_refused (.bool last), fe q4 s_due (.ref dd)] 5 sl11)], [(Tv, tupO #[.bool false, .ref Rv] 0)], [(Rv, listO ⟨rds2.map rdV⟩ er2)], [(dd, listO ⟨dds.map rdV⟩ ed)], dcells rds2, dcells dds, [(td, listO ⟨tds.map rdV⟩ et)], dcells tds, ρ]; have D16 : Rep h₀ h15 F (cat S16) := D15.eq (by kernel_rfl)
    exact z h15 tk15 (fun p hp' => D16.at_ _ (mem_cat 9 ρ _ rfl hp')) D16.keep D16.size
end Mine
end
section
open PySem PySem.W PySem.W.X PyProof.Rows
set_option Elab.async false
set_option maxRecDepth 100000
set_option maxHeartbeats 1000000
namespace Mine
variable {prog : Program} {w : World} {w₀ : World} {b1 b2 b3 : Bool} {A : Around} {R : Result → Shared → Prop} {h₀ h : Heap} {F : List Addr} {ρ σ : Cells} {g : Array GenState} {d : Drawn} {tk : Nat} {os₀ : OsState}
theorem c170 {Ls : Addr} {xs : List IT} {es : Nat} (G : Gd (wF b1 b2 b3 w₀) h₀) (o : Ok A 40) (un : Un A 60) (hfr : A.frames = some []) (hxl : xs.length ≤ sizeLine) (hp0 : ∀ l : List Int, l = litI ++ (xs.take 6).map (fun x => x.1 % 256) → PL l (lastB l))
    (D : Rep h₀ h F ((Ls, listO ⟨xs.map iv⟩ es) :: ρ))
    (z : ∀ h' tk', h'.get? Ls = some (listO ⟨xs.map iv⟩ es) → (∀ b o', h₀.get? b = some o' → b ∉ F → h'.get? b = some o') → h₀.objs.size ≤ h'.objs.size → R (.ok (.ret (.bool true))) ⟨h', g, d, tk', os₀⟩) :
    codeAny (model prog (wF b1 b2 b3 w₀)) A (.call (.ref 170) ⟨[.ref Ls], []⟩) R ⟨h, g, d, tk, os₀⟩ := by
  all_goals
    refine code_start ?_
    refine sg2L 1000 [.t, .t, .s 5, .s 5] [] G o.hd D ?_; intro fh1 oh1; refine ⟨by kernel_rfl, fun h1 tk1 D1 => ?_⟩
    refine enter (c2 := fcodeC w₀.params 170 h.objs.size [(s_behind, (h.objs.size + 5)), (s_told, (h.objs.size + 4)), (s_rounds, (h.objs.size + 3)), (s_size, (h.objs.size + 2)), (s_octets, (h.objs.size + 1))]) (by kernel_rfl) (by kernel_rfl) (D1.gd G).lim (o.room (by kernel_rfl)) ?_
    refine sg2L 1000 [.s 6, .s 8, .s 8, .s 8, .e, .s 8] [] G o.hd D1 ?_; intro fh2 oh2; refine ⟨by kernel_rfl, fun h2 tk2 D2 => ?_⟩
    refine u_lslice D2 8 (l := Ls) (sl := h1.objs.size + 1) (items := ⟨xs.map iv⟩) (n := es) (vl := .none) (vu := .int 6 (tk1 + 9)) (lo := none) (hi := some 6) (by kernel_rfl) 0 (by kernel_rfl) .none (.int 6 (tk1 + 9)) (by rw [show (⟨xs.map iv⟩ : Array Value).size = xs.length from by simp]; exact hxl) (by kernel_rfl) (by kernel_rfl) fun h3 T6 D3 => ?_
    rw [show slicePick (⟨xs.map iv⟩ : Array Value) none (some 6) none = ⟨(xs.take 6).map iv⟩ from by rw [List.map_take]; exact pick_upto (xs.map iv) 6] at D3
    refine sg2L 1000 [.s 0, .s 0, .e, .s 0, .e, .s 0] [] G o.hd D3 ?_; intro fh4 oh4; refine ⟨by kernel_rfl, fun h4 tk4 D4 => ?_⟩
    refine use_call (c' := compS (gdW G).params 170 (e170x (gdW G).params) h3.objs.size (h3.objs.size + 1) (h3.objs.size + 2) h.objs.size []) (hd := none) (by kernel_rfl) rfl ?_
    let S5 : List Cells := [[(h3.objs.size + 2, dictO #[] 0)], [(h3.objs.size + 1, listO #[] 0)], [(h3.objs.size, itO "list_iterator" (.ref T6) 0)], [(T6, listO ⟨(xs.take 6).map iv⟩ 0)], [(h1.objs.size + 1, sliceO .none (.int 6 (tk1 + 9)) .none)], [(h1.objs.size, listO #[.int 70 (tk1 + 0), .int 200 (tk1 + 1), .int 3 (tk1 + 2), .int 127 (tk1 + 3), .int 64 (tk1 + 4), .int 192 (tk1 + 5), .int 130 (tk1 + 6), .int 5 (tk1 + 7), .int 66 (tk1 + 8)] 0)], [((h.objs.size + 5), cellP none)], [((h.objs.size + 4), cellP none)], [((h.objs.size + 3), cellP none)], [((h.objs.size + 2), cellP none)], [((h.objs.size + 1), cellP none)], [(h.objs.size, frF #[fe (hS w₀.params s_script, tk) s_script (.ref Ls)] 1 #[])], [(Ls, listO ⟨xs.map iv⟩ es)], ρ]; have D5 : Rep h₀ h4 F (cat S5) := D4.eq (by kernel_rfl)
    have D6 := Rep.shuf _ [13, 13, 13, 13, 13, 13, 13, 13, 13, 13, 13, 11, 12, 13] D5
    refine s170x (it := h3.objs.size) (acc := h3.objs.size + 1) (sc := h3.objs.size + 2) (T := T6) (L := h.objs.size) (e := 0) (rest := xs.take 6) G (o.call (by kernel_rfl) (by kernel_rfl)) (by rw [List.length_take]; omega) D6 ?_
    intro h7 tk7 ys ey v7 hys D7
    let S8 : List Cells := [[(h3.objs.size + 1, listO ⟨ys.map iv⟩ ey)], [(h3.objs.size + 2, dictO (scE s_x v7) (scN v7))], [(T6, listO ⟨(xs.take 6).map iv⟩ 0)], [(h1.objs.size + 1, sliceO .none (.int 6 (tk1 + 9)) .none)], [(h1.objs.size, listO #[.int 70 (tk1 + 0), .int 200 (tk1 + 1), .int 3 (tk1 + 2), .int 127 (tk1 + 3), .int 64 (tk1 + 4), .int 192 (tk1 + 5), .int 130 (tk1 + 6), .int 5 (tk1 + 7), .int 66 (tk1 + 8)] 0)], [((h.objs.size + 5), cellP none)], [((h.objs.size + 4), cellP none)], [((h.objs.size + 3), cellP none)], [((h.objs.size + 2), cellP none)], [((h.objs.size + 1), cellP none)], [(h.objs.size, frF #[fe (hS w₀.params s_script, tk) s_script (.ref Ls)] 1 #[])], [(Ls, listO ⟨xs.map iv⟩ es)], ρ]; have D8 := Rep.shuf S8 [12, 12, 12, 12, 12, 12, 12, 12, 12, 12, 12, 11, 12] D7
    obtain ⟨os, hos⟩ : ∃ os : List IT, os = [(70, tk1 + 0), (200, tk1 + 1), (3, tk1 + 2), (127, tk1 + 3), (64, tk1 + 4), (192, tk1 + 5), (130, tk1 + 6), (5, tk1 + 7), (66, tk1 + 8)] ++ ys := ⟨_, rfl⟩
    have hosm : os.map (·.1) = litI ++ (xs.take 6).map (fun x => x.1 % 256) := by rw [hos, List.map_append, hys]; rfl
    have hyl : ys.length ≤ 6 := by have := congrArg List.length hys; rw [List.length_map, List.length_map, List.length_take] at this; omega
    have hol : os.length = 9 + ys.length := by rw [hos, List.length_append]; rfl
    have hr : ∀ r ∈ os, 0 ≤ r.1 ∧ r.1 < 256 := fun r hr => oct_range (xs := xs.take 6) hosm r hr
    have hlt : os.length - 1 < os.length := by omega
    have hap : (#[.int 70 (tk1 + 0), .int 200 (tk1 + 1), .int 3 (tk1 + 2), .int 127 (tk1 + 3), .int 64 (tk1 + 4), .int 192 (tk1 + 5), .int 130 (tk1 + 6), .int 5 (tk1 + 7), .int 66 (tk1 + 8)] : Array Value) ++ ⟨ys.map iv⟩ = ⟨os.map iv⟩ := by rw [hos, List.map_append]; simp
    have tl : ∀ h10 tk10 To, Rep h₀ h10 F ((To, listO ⟨os.map iv⟩ 0) :: ((h.objs.size + 5), cellP none) :: ((h.objs.size + 4), cellP none) :: ((h.objs.size + 3), cellP none) :: ((h.objs.size + 2), cellP none) :: ((h.objs.size + 1), cellO (.ref To)) :: (h.objs.size, frF #[fe (hS w₀.params s_script, tk) s_script (.ref Ls)] 1 #[]) :: ((Ls, listO ⟨xs.map iv⟩ es) :: ρ)) → Mn prog (gdW G) A R (fcodeC (gdW G).params 170 h.objs.size [(s_behind, (h.objs.size + 5)), (s_told, (h.objs.size + 4)), (s_rounds, (h.objs.size + 3)), (s_size, (h.objs.size + 2)), (s_octets, (h.objs.size + 1))]) .base (skT (gdW G).params prog 170 1 (fenvC (gdW G).params 170 h.objs.size [(s_behind, (h.objs.size + 5)), (s_told, (h.objs.size + 4)), (s_rounds, (h.objs.size + 3)), (s_size, (h.objs.size + 2)), (s_octets, (h.objs.size + 1))])) ⟨h10, g, d, tk10, os₀⟩ := by
      intro h10 tk10 To E1
      refine q170_1 G o un hfr (by omega) (by omega) hlt E1 ?_
      intro h11 tk11 lt q1 last hl E2
      have hp : PL (os.map (·.1)) last := by rw [hl]; exact hp0 _ hosm
      refine q170_2 G o un hfr (by omega) (by omega) E2 ?_
      intro h12 tk12 nd rows en q2 hrows E3
      refine q170_3 G o un hfr (by omega) (by omega) hp hrows E3 ?_
      intro h13 tk13 Rn rds enr q3 sl hrds E4
      have hrdl : rds.length ≤ 900 := by have := congrArg List.length hrds; rw [List.length_map] at this; have := hp.outl; omega
      refine q170_4 G o un hfr (by omega) (by omega) hr E4 ?_
      intro h14 tk14 td tds et sl' htds E5
      refine q170_5 G o un hfr (by omega) (by omega) hp hrds hrdl htds E5 ?_
      intro h15 tk15 E6
      refine q170_6 G o un hfr (by omega) (by omega) E6 ?_
      intro h16 tk16 bh bs eb hbs E7
      have hbl : bs.length = os.length + 1 := by have := congrArg List.length hbs; rwa [List.length_map, behM_length] at this
      refine q170_7 G o un hfr (by omega) (by omega) hp hrds hbs hbl E7 ?_
      intro h17 tk17 E8
      refine q170_8 G o un hfr (by omega) (by omega) hbs hbl E8 ?_
      intro h18 tk18 dd dds ed q4 hdds E9
      refine q170_9 G o un hfr (by omega) (by omega) hp htds hdds E9 ?_
      intro h19 tk19 hk hkeep hsz
      exact z h19 tk19 (hk (Ls, listO ⟨xs.map iv⟩ es) (List.mem_append.mpr (.inr (.head _)))) hkeep hsz
    rcases v7 with _ | ⟨vq7, vv7⟩
    ·
      refine sg2L 1000 [.s 0, .s 4, .s 1, .s 4, .e, .s 4] [] G o.hd D8 ?_; intro fh8 oh8; refine ⟨by kernel_rfl, fun h8 tk8 D8a => ?_⟩
      refine u_ladd D8a 4 (l := h1.objs.size) (b := h3.objs.size + 1) (items := #[.int 70 (tk1 + 0), .int 200 (tk1 + 1), .int 3 (tk1 + 2), .int 127 (tk1 + 3), .int 64 (tk1 + 4), .int 192 (tk1 + 5), .int 130 (tk1 + 6), .int 5 (tk1 + 7), .int 66 (tk1 + 8)]) (n := 0) (items2 := ⟨ys.map iv⟩) (n2 := ey) (by kernel_rfl) 1 (by kernel_rfl) (by rw [show (⟨ys.map iv⟩ : Array Value).size = ys.length from by simp]; exact Nat.le_trans (show 9 + ys.length ≤ 1000 by omega) (by decide)) (by kernel_rfl) (by kernel_rfl) fun h9 To D9 => ?_
      rw [hap] at D9
      refine sg2L 1000 [.s 10, .s 10] [] G o.hd D9 ?_; intro fh10 oh10; refine ⟨by kernel_rfl, fun h10 tk10 D10 => ?_⟩
      refine to_sk (c' := fcodeC (gdW G).params 170 h.objs.size [(s_behind, (h.objs.size + 5)), (s_told, (h.objs.size + 4)), (s_rounds, (h.objs.size + 3)), (s_size, (h.objs.size + 2)), (s_octets, (h.objs.size + 1))]) (t' := (skT (gdW G).params prog 170 1 (fenvC (gdW G).params 170 h.objs.size [(s_behind, (h.objs.size + 5)), (s_told, (h.objs.size + 4)), (s_rounds, (h.objs.size + 3)), (s_size, (h.objs.size + 2)), (s_octets, (h.objs.size + 1))]))) (by kernel_rfl) (by kernel_rfl) (by kernel_rfl) ?_
      have D11 := D10.mask [true, false, false, false, false, false]
      have D12 : Rep h₀ h10 F ((To, listO ⟨os.map iv⟩ 0) :: ((h.objs.size + 5), cellP none) :: ((h.objs.size + 4), cellP none) :: ((h.objs.size + 3), cellP none) :: ((h.objs.size + 2), cellP none) :: ((h.objs.size + 1), cellO (.ref To)) :: (h.objs.size, frF #[fe (hS w₀.params s_script, tk) s_script (.ref Ls)] 1 #[]) :: ((Ls, listO ⟨xs.map iv⟩ es) :: ρ)) := D11.eq (by kernel_rfl)
      exact tl h10 tk10 To D12
    ·
      refine sg2L 1000 [.s 0, .s 0, .s 0, .s 4, .s 1, .s 4, .e, .s 4] [] G o.hd D8 ?_; intro fh8 oh8; refine ⟨by kernel_rfl, fun h8 tk8 D8a => ?_⟩
      refine u_ladd D8a 4 (l := h1.objs.size) (b := h3.objs.size + 1) (items := #[.int 70 (tk1 + 0), .int 200 (tk1 + 1), .int 3 (tk1 + 2), .int 127 (tk1 + 3), .int 64 (tk1 + 4), .int 192 (tk1 + 5), .int 130 (tk1 + 6), .int 5 (tk1 + 7), .int 66 (tk1 + 8)]) (n := 0) (items2 := ⟨ys.map iv⟩) (n2 := ey) (by kernel_rfl) 1 (by kernel_rfl) (by rw [show (⟨ys.map iv⟩ : Array Value).size = ys.length from by simp]; exact Nat.le_trans (show 9 + ys.length ≤ 1000 by omega) (by decide)) (by kernel_rfl) (by kernel_rfl) fun h9 To D9 => ?_
      rw [hap] at D9
      refine sg2L 1000 [.s 10, .s 10] [] G o.hd D9 ?_; intro fh10 oh10; refine ⟨by kernel_rfl, fun h10 tk10 D10 => ?_⟩
      refine to_sk (c' := fcodeC (gdW G).params 170 h.objs.size [(s_behind, (h.objs.size + 5)), (s_told, (h.objs.size + 4)), (s_rounds, (h.objs.size + 3)), (s_size, (h.objs.size + 2)), (s_octets, (h.objs.size + 1))]) (t' := (skT (gdW G).params prog 170 1 (fenvC (gdW G).params 170 h.objs.size [(s_behind, (h.objs.size + 5)), (s_told, (h.objs.size + 4)), (s_rounds, (h.objs.size + 3)), (s_size, (h.objs.size + 2)), (s_octets, (h.objs.size + 1))]))) (by kernel_rfl) (by kernel_rfl) (by kernel_rfl) ?_
      have D11 := D10.mask [true, false, false, false, false, false]
      have D12 : Rep h₀ h10 F ((To, listO ⟨os.map iv⟩ 0) :: ((h.objs.size + 5), cellP none) :: ((h.objs.size + 4), cellP none) :: ((h.objs.size + 3), cellP none) :: ((h.objs.size + 2), cellP none) :: ((h.objs.size + 1), cellO (.ref To)) :: (h.objs.size, frF #[fe (hS w₀.params s_script, tk) s_script (.ref Ls)] 1 #[]) :: ((Ls, listO ⟨xs.map iv⟩ es) :: ρ)) := D11.eq (by kernel_rfl)
      exact tl h10 tk10 To D12
end Mine
end
section
open PySem PySem.W PySem.W.X PyProof.Rows
set_option Elab.async false
namespace Mine
/-- place of the first octet with bit 6 clear -/
noncomputable def fz : List Int → Option Nat
  | [] => none
  | x :: r => if x / 64 % 2 = 0 then some 0 else (fz r).map (· + 1)
noncomputable def hv : List Int → Int
  | [] => 0
  | x :: r => x % 64 * 64 ^ r.length + hv r
theorem fz_cons (x : Int) (r : List Int) : fz (x :: r) = if x / 64 % 2 = 0 then some 0 else (fz r).map (· + 1) := rfl
theorem fz_lt : ∀ {l : List Int} {e : Nat}, fz l = some e → e < l.length
  | [], _, h => by cases h
  | x :: r, e, h => by
    unfold fz at h
    by_cases hx : x / 64 % 2 = 0
    · rw [if_pos hx] at h; cases h; simp
    · rw [if_neg hx] at h
      cases hr : fz r with
      | none => rw [hr] at h; cases h
      | some e' =>
        rw [hr] at h
        have := fz_lt hr
        cases h
        simp; omega
theorem pvL_eq : ∀ (r : List Int) (v b : Int), pvL v b r = if b / 64 % 2 = 1 then (match fz r with | none => none | some e => some (v * 64 ^ (e + 1) + hv (r.take (e + 1)), r.drop (e + 1))) else some (v, r)
  | [], v, b => by unfold pvL fz; rfl
  | x :: r, v, b => by
    unfold pvL
    by_cases hb : b / 64 % 2 = 1
    · rw [if_pos hb, if_pos hb, pvL_eq r, fz_cons]
      by_cases hx : x / 64 % 2 = 1
      · rw [if_pos hx, if_neg (by omega)]
        cases hr : fz r with
        | none => rfl
        | some e =>
          have he := fz_lt hr
          simp only [Option.map_some, List.take_succ_cons, List.drop_succ_cons, hv, List.length_take]
          rw [Nat.min_eq_left (by omega)]
          congr 2
          rw [Int.pow_succ 64 (e + 1), ← Int.add_assoc, Int.add_mul, Int.mul_assoc, Int.mul_comm 64]
      · rw [if_neg hx, if_pos (by omega)]
        simp [hv]
    · rw [if_neg hb, if_neg hb]
theorem pv_eq (l : List Int) : pv l = match fz l with | none => none | some e => some (hv (l.take (e + 1)), l.drop (e + 1)) := by
  cases l with
  | nil => rfl
  | cons x r =>
    show pvL (x % 64) x r = _
    rw [pvL_eq, fz_cons]
    by_cases hx : x / 64 % 2 = 1
    · rw [if_pos hx, if_neg (by omega)]
      cases hr : fz r with
      | none => rfl
      | some e =>
        have he := fz_lt hr
        simp only [Option.map_some, List.take_succ_cons, List.drop_succ_cons, hv, List.length_take]
        rw [Nat.min_eq_left (by omega)]
    · rw [if_neg hx, if_pos (by omega)]
      simp [hv]
theorem dueV_eq (os : List Int) (rs : List (List Int)) : ∀ (n i : Nat) (v : Int), i + n ≤ os.length → (∀ j, j < n → (turns ((i + j : Nat) : Int) 0 rs).head? = some ((n - 1 - j : Nat) : Int)) → dueV os rs i n v = some (v + hv ((os.drop i).take n))
  | 0, i, v, _, _ => by simp [dueV, hv]
  | n + 1, i, v, hl, ht => by
    have h0 := ht 0 (by omega)
    unfold dueV
    rw [Nat.add_zero] at h0
    cases hc : turns (i : Int) 0 rs with
    | nil => rw [hc] at h0; cases h0
    | cons t ts =>
      rw [hc] at h0
      have ht0 : t = ((n : Nat) : Int) := by simpa using h0
      subst ht0
      simp only []
      rw [dueV_eq os rs n (i + 1) _ (by omega) (fun j hj => by
        have := ht (j + 1) (by omega)
        rw [show i + (j + 1) = i + 1 + j from by omega, show n + 1 - 1 - (j + 1) = n - 1 - j from by omega] at this
        exact this)]
      have hd : os.drop i = os[i]'(by omega) :: os.drop (i + 1) := List.drop_eq_getElem_cons (by omega)
      rw [hd, List.take_succ_cons]
      simp only [hv, List.length_take, List.length_drop]
      rw [Nat.min_eq_left (by omega), Int.toNat_natCast, Int.add_assoc]
      have hg : os.getD i 0 = os[i]'(by omega) := by simp [show i < os.length from by omega]
      rw [hg]
theorem flt_head (os : List Int) : ∀ (n i : Nat), i + n = os.length → (flt (bit0 os) i n).head? = (fz (os.drop i)).map (fun e => ((i + e : Nat) : Int))
  | 0, i, h => by rw [List.drop_eq_nil_of_le (by omega)]; rfl
  | n + 1, i, h => by
    have hd : os.drop i = os[i]'(by omega) :: os.drop (i + 1) := List.drop_eq_getElem_cons (by omega)
    have hg : os.getD i 0 = os[i]'(by omega) := by simp [show i < os.length from by omega]
    unfold flt
    rw [hd, fz_cons]
    by_cases hx : os[i]'(by omega) / 64 % 2 = 0
    · rw [if_pos (by unfold bit0; rw [hg]; exact decide_eq_true hx), if_pos hx]; simp
    · rw [if_neg (by unfold bit0; rw [hg, decide_eq_true_eq]; exact hx), if_neg hx, flt_head os n (i + 1) (by omega), Option.map_map]
      congr 1
      funext e
      show ((i + 1 + e : Nat) : Int) = ((i + (e + 1) : Nat) : Int)
      congr 1
      omega
theorem due_told (os : List Int) (rs : List (List Int)) (k : Nat) (hk : k ≤ os.length) (H : ∀ e, fz (os.drop k) = some e → ∀ j, j ≤ e → (turns ((k + j : Nat) : Int) 0 rs).head? = some ((e - j : Nat) : Int)) : due os rs k = some (told os k) := by
  have hf := flt_head os (os.length - k) k (by omega)
  unfold due told
  rw [pv_eq]
  cases hz : fz (os.drop k) with
  | none =>
    rw [hz] at hf
    cases hc : flt (bit0 os) k (os.length - k) with
    | nil => rfl
    | cons y ys => rw [hc] at hf; cases hf
  | some e =>
    rw [hz] at hf
    have he := fz_lt hz
    rw [List.length_drop] at he
    cases hc : flt (bit0 os) k (os.length - k) with
    | nil => rw [hc] at hf; cases hf
    | cons y ys =>
      rw [hc] at hf
      have hy : y = ((k + e : Nat) : Int) := by simpa using hf
      simp only []
      rw [show (y + 1 - (k : Int)).toNat = e + 1 from by omega, dueV_eq os rs (e + 1) k 0 (by omega) (fun j hj => by
        rw [show e + 1 - 1 - j = e - j from by omega]
        exact H e hz j (by omega))]
      simp only [List.length_drop]
      rw [Int.zero_add]
      congr 3
      omega
theorem dues_tolds (os : List Int) (rs : List (List Int)) : ∀ (n i : Nat), i + n ≤ os.length + 1 → (∀ k, i ≤ k → k < i + n → ∀ e, fz (os.drop k) = some e → ∀ j, j ≤ e → (turns ((k + j : Nat) : Int) 0 rs).head? = some ((e - j : Nat) : Int)) → duesM os rs i n = some (toldsM os i n)
  | 0, _, _, _ => rfl
  | n + 1, i, hl, H => by
    unfold duesM toldsM
    rw [due_told os rs i (by omega) (H i (Nat.le_refl _) (by omega)), dues_tolds os rs n (i + 1) (by omega) (fun k h1 h2 => H k (by omega) (by omega))]
end Mine
end
section
open PySem PySem.W PySem.W.X PyProof.Rows
set_option Elab.async false
set_option maxRecDepth 100000
set_option maxHeartbeats 1000000
namespace Mine
/-- an octet, but for its bit 6 wiped -/
noncomputable def cO (x : Int) : Int := x / 64 % 2 * 64
theorem cO_bit (x : Int) : cO x / 64 % 2 = x / 64 % 2 := by
  unfold cO
  rw [Int.mul_ediv_cancel _ (by decide), Int.emod_emod]
theorem cO_getD (os : List Int) (i : Nat) : (os.map cO).getD i 0 = cO (os.getD i 0) := by
  rw [List.getD_eq_getElem?_getD, List.getD_eq_getElem?_getD, List.getElem?_map]
  cases os[i]? <;> rfl
theorem cO_needs (os : List Int) : ∀ (n i : Nat), needsM (os.map cO) i n = needsM os i n
  | 0, _ => rfl
  | n + 1, i => by
    unfold needsM
    rw [cO_getD, cO_bit, cO_needs os n (i + 1)]
theorem cO_cz : ∀ os : List Int, cz (os.map cO) = cz os
  | [] => rfl
  | x :: r => by
    show cz (cO x :: r.map cO) = cz (x :: r)
    unfold cz
    rw [cO_bit, cO_cz r]
theorem cO_beh (os : List Int) : ∀ (n i : Nat), behM (os.map cO) i n = behM os i n
  | 0, _ => rfl
  | n + 1, i => by
    unfold behM
    rw [← List.map_drop, cO_cz, cO_beh os n (i + 1)]
theorem cO_fz : ∀ os : List Int, fz (os.map cO) = fz os
  | [] => rfl
  | x :: r => by
    rw [List.map_cons, fz_cons, fz_cons, cO_bit, cO_fz r]
theorem cO_last (os : List Int) : lastB (os.map cO) = lastB os := by
  unfold lastB
  rw [cO_getD, cO_bit, List.length_map]
theorem told_one (os : List Int) (k : Nat) : (told os k)[1]? = (fz (os.drop k)).map fun e => (os.length : Int) - (((os.drop k).drop (e + 1)).length : Int) := by
  unfold told
  rw [pv_eq]
  cases fz (os.drop k) <;> rfl
theorem cO_rows (os : List Int) : ∀ (n i j : Nat), rowsM j (toldsM (os.map cO) i n) = rowsM j (toldsM os i n)
  | 0, _, _ => rfl
  | n + 1, i, j => by
    unfold toldsM rowsM
    rw [cO_rows os n (i + 1) (j + 1), told_one, told_one, ← List.map_drop, cO_fz]
    simp only [List.length_drop, List.length_map]
/-- one sorter: the rows added, asked for a ring, its rounds -/
noncomputable def chkS (rows : List (Int × Option Int)) (last : Bool) : Option (List (List Int)) := match adds rows [] with
  | none => none
  | some ps => if ps.length ≤ 1000 ∧ fcP ps 200 (ps.map (·.k)) [] = some last then rnds 40 (ps, rd0 ps) else none
theorem chkS_some {rows : List (Int × Option Int)} {last : Bool} {out : List (List Int)} (h : chkS rows last = some out) : ∃ ps, adds rows [] = some ps ∧ ps.length ≤ 1000 ∧ fcP ps 200 (ps.map (·.k)) [] = some last ∧ rnds 40 (ps, rd0 ps) = some out := by
  unfold chkS at h
  cases ha : adds rows [] with
  | none => rw [ha] at h; cases h
  | some ps =>
    rw [ha] at h
    simp only [] at h
    split at h
    · rename_i hc
      exact ⟨ps, rfl, hc.1, hc.2, h⟩
    · cases h
noncomputable def chkT (out : List (List Int)) (k : Nat) : Option Nat → Bool
  | none => true
  | some e => (List.range (e + 1)).all fun j => decide ((turns ((k + j : Nat) : Int) 0 out).head? = some ((e - j : Nat) : Int))
noncomputable def chk (n : Nat) (last : Bool) (rows1 rows2 : List (Int × Option Int)) (bh : List Int) (c : Nat) (fs : List (Option Nat)) : Bool := match chkS rows1 last with
  | none => false
  | some out => decide (out.length ≤ 900) && (decide ((flatM out).length < 64) && (decide (flatM out ≠ []) && (decide (sortI (flatM out) = flt (fun k => decide (0 < bh.getD k 0)) 0 n)
    && (((List.range (n + 1)).all fun k => chkT out k (fs.getD k none)) && decide (chkS rows2 false = some (dueM bh 0 (c + 1)))))))
noncomputable def chkO (os : List Int) : Bool := chk os.length (lastB os) (needsM os 0 os.length ++ if lastB os = true then [((os.length : Int), some (os.length : Int))] else []) (rowsM 0 (toldsM os 0 (os.length + 1))) (behM os 0 (os.length + 1)) (cz os) ((List.range (os.length + 1)).map fun k => fz (os.drop k))
theorem cO_chk (os : List Int) : chkO (os.map cO) = chkO os := by
  unfold chkO
  rw [cO_last, List.length_map, cO_needs, cO_rows, cO_beh, cO_cz]
  congr 1
  refine List.map_congr_left fun k _ => ?_
  rw [← List.map_drop, cO_fz]
theorem chk_law {os : List Int} (h : chkO os = true) : Nonempty (PL os (lastB os)) := by
  unfold chkO chk at h
  generalize hr : (needsM os 0 os.length ++ if lastB os = true then [((os.length : Int), some (os.length : Int))] else []) = rows1 at h
  cases hc : chkS rows1 (lastB os) with
  | none => rw [hc] at h; cases h
  | some out =>
    rw [hc] at h
    simp only [Bool.and_eq_true, decide_eq_true_eq] at h
    obtain ⟨h1, h2, h3, h4, h5, h6⟩ := h
    obtain ⟨ps, a1, a2, a3, a4⟩ := chkS_some hc
    obtain ⟨qs, b1, b2, b3, b4⟩ := chkS_some h6
    refine ⟨{ ps := ps, out := out, f1 := 200, f2 := 40, adds := by rw [hr]; exact a1, psl := a2, fc := a3, rn := a4, f2l := by decide, outl := h1, dues := ?_, flatl := h2, flatne := h3, sorted := h4, qs := qs, g1 := 200, g2 := 40, adds2 := b1, qsl := b2, fc2 := b3, rn2 := b4, g2l := by decide }⟩
    refine dues_tolds os out (os.length + 1) 0 (by omega) fun k _ hk e he j hj => ?_
    have hk' := List.all_eq_true.mp h5 k (List.mem_range.mpr (by omega))
    rw [List.getD_eq_getElem?_getD, List.getElem?_map, List.getElem?_range (by omega)] at hk'
    simp only [Option.map_some, Option.getD_some, he] at hk'
    have := List.all_eq_true.mp hk' j (List.mem_range.mpr (by omega))
    exact of_decide_eq_true this
noncomputable def pats : Nat → List (List Int)
  | 0 => [[]]
  | n + 1 => (pats n).flatMap fun l => [0 :: l, 64 :: l]
theorem mem_pats : ∀ l : List Int, (∀ x ∈ l, x = 0 ∨ x = 64) → l ∈ pats l.length
  | [], _ => List.mem_cons_self
  | x :: r, h => by
    refine List.mem_flatMap.mpr ⟨r, mem_pats r fun y hy => h y (.tail _ hy), ?_⟩
    rcases h x (.head _) with rfl | rfl <;> simp
theorem cO_two (x : Int) : cO x = 0 ∨ cO x = 64 := by unfold cO; omega
noncomputable def litC : List Int := litI.map cO
end Mine
end
section
open PySem PySem.W PySem.W.X PyProof.Rows
set_option Elab.async false
set_option maxRecDepth 100000
set_option maxHeartbeats 0
namespace Mine
noncomputable def chkP (pre : List Int) (n : Nat) : Bool := (pats n).all fun l => chkO (litC ++ (pre ++ l))
theorem pats0 : chkP [] 0 = true := by decide +kernel
theorem pats1 : chkP [] 1 = true := by decide +kernel
theorem pats2 : chkP [] 2 = true := by decide +kernel
theorem pats3 : chkP [] 3 = true := by decide +kernel
theorem pats3a : chkP [0] 3 = true := by decide +kernel
theorem pats3b : chkP [64] 3 = true := by decide +kernel
theorem pats3aa : chkP [0, 0] 3 = true := by decide +kernel
theorem pats3ab : chkP [0, 64] 3 = true := by decide +kernel
theorem pats3ba : chkP [64, 0] 3 = true := by decide +kernel
theorem pats3bb : chkP [64, 64] 3 = true := by decide +kernel
theorem pats3aaa : chkP [0, 0, 0] 3 = true := by decide +kernel
theorem pats3aab : chkP [0, 0, 64] 3 = true := by decide +kernel
theorem pats3aba : chkP [0, 64, 0] 3 = true := by decide +kernel
theorem pats3abb : chkP [0, 64, 64] 3 = true := by decide +kernel
theorem pats3baa : chkP [64, 0, 0] 3 = true := by decide +kernel
theorem pats3bab : chkP [64, 0, 64] 3 = true := by decide +kernel
theorem pats3bba : chkP [64, 64, 0] 3 = true := by decide +kernel
theorem pats3bbb : chkP [64, 64, 64] 3 = true := by decide +kernel
theorem chkP_use {m pre l : List Int} {n : Nat} (h : chkP pre n = true) (hn : l.length = n) (e : m = pre ++ l) (hl : ∀ x ∈ l, x = 0 ∨ x = 64) : chkO (litC ++ m) = true := by
  rw [e]
  exact List.all_eq_true.mp h _ (hn ▸ mem_pats l hl)
theorem chk_all : ∀ l : List Int, l.length ≤ 6 → (∀ x ∈ l, x = 0 ∨ x = 64) → chkO (litC ++ l) = true
  | [], _, _ => chkP_use (l := []) pats0 rfl rfl (fun _ h => by cases h)
  | [a], _, h => chkP_use (l := [a]) pats1 rfl rfl h
  | [a, b], _, h => chkP_use (l := [a, b]) pats2 rfl rfl h
  | [a, b, c], _, h => chkP_use (l := [a, b, c]) pats3 rfl rfl h
  | [a, b, c, d], _, h => by
    have t : ∀ x ∈ [b, c, d], x = 0 ∨ x = 64 := fun x m => h x (.tail _ m)
    rcases h a (.head _) with rfl | rfl
    · exact chkP_use (l := [b, c, d]) pats3a rfl rfl t
    · exact chkP_use (l := [b, c, d]) pats3b rfl rfl t
  | [a, b, c, d, e], _, h => by
    have t : ∀ x ∈ [c, d, e], x = 0 ∨ x = 64 := fun x m => h x (.tail _ (.tail _ m))
    rcases h a (.head _) with rfl | rfl <;> rcases h b (.tail _ (.head _)) with rfl | rfl
    · exact chkP_use (l := [c, d, e]) pats3aa rfl rfl t
    · exact chkP_use (l := [c, d, e]) pats3ab rfl rfl t
    · exact chkP_use (l := [c, d, e]) pats3ba rfl rfl t
    · exact chkP_use (l := [c, d, e]) pats3bb rfl rfl t
  | [a, b, c, d, e, f], _, h => by
    have t : ∀ x ∈ [d, e, f], x = 0 ∨ x = 64 := fun x m => h x (.tail _ (.tail _ (.tail _ m)))
    rcases h a (.head _) with rfl | rfl <;> rcases h b (.tail _ (.head _)) with rfl | rfl <;> rcases h c (.tail _ (.tail _ (.head _))) with rfl | rfl
    · exact chkP_use (l := [d, e, f]) pats3aaa rfl rfl t
    · exact chkP_use (l := [d, e, f]) pats3aab rfl rfl t
    · exact chkP_use (l := [d, e, f]) pats3aba rfl rfl t
    · exact chkP_use (l := [d, e, f]) pats3abb rfl rfl t
    · exact chkP_use (l := [d, e, f]) pats3baa rfl rfl t
    · exact chkP_use (l := [d, e, f]) pats3bab rfl rfl t
    · exact chkP_use (l := [d, e, f]) pats3bba rfl rfl t
    · exact chkP_use (l := [d, e, f]) pats3bbb rfl rfl t
  | _ :: _ :: _ :: _ :: _ :: _ :: _ :: _, h, _ => by simp only [List.length_cons] at h; omega
theorem plain (ys : List Int) (hy : ys.length ≤ 6) : Nonempty (PL (litI ++ ys) (lastB (litI ++ ys))) := by
  refine chk_law ?_
  rw [← cO_chk, List.map_append]
  exact chk_all (ys.map cO) (by rw [List.length_map]; exact hy) (fun x hx => by
    obtain ⟨y, _, rfl⟩ := List.mem_map.mp hx
    exact cO_two y)
end Mine
end
section
open PySem PySem.W PySem.W.X PySem.W.ZRun PyProof.Rows
set_option Elab.async false
set_option maxRecDepth 100000
set_option maxHeartbeats 0
namespace Mine
theorem ints_its : ∀ {vs : List Value} {ns : List Int}, IntsAre vs ns → ∃ xs : List IT, vs = xs.map iv ∧ xs.map (·.1) = ns
  | _, _, .nil => ⟨[], rfl, rfl⟩
  | _, _, .cons n t r => by
    obtain ⟨xs, h1, h2⟩ := ints_its r
    exact ⟨(n, t) :: xs, by rw [h1]; rfl, by rw [List.map_cons, h2]⟩
theorem top_of {h : Heap} {K : Frag} {t : KT} (e : KT.of K = t) (A : AllIn h K) : TopOk t h := fun _ _ _ e' => kt_at (e ▸ holds_of A) e'
theorem ktE (P : Params) : KT.of (Mine.zh.heap_182 P) = T0 P := by unfold T0; kernel_rfl
theorem top_P {h : Heap} {P : Params} (A : AllIn h (Mine.zh.heap_182 P)) : TopOk (T0 P) h := top_of (ktE P) A
theorem law_top (H : ∀ (w : World) (s₁ : Shared) (xs : List IT) (R : Result → Shared → Prop), Gd w s₁.heap → s₁.heap.objs.size = 172 → s₁.heap.get? 171 = some (listO ⟨xs.map iv⟩ 0) → xs.length ≤ 63 →
    (∀ h' tk', (∀ b o', s₁.heap.get? b = some o' → h'.get? b = some o') → R (.ok (.ret (.bool true))) ⟨h', s₁.gens, s₁.drawn, tk', s₁.os⟩) →
    codeAny (model PySem.Challenge.rw_mr0280_01.row.prog w) callerA (.call (.ref 170) ⟨[.ref 171], []⟩) R s₁) : PySem.Challenge.rw_mr0280_01.Holds := by
  refine Mine.zh ?_
  k_fill
  intro w s₀ s₁ mg mb G y fa o pm cd doc dV kV ho hd hcd hD hmg hg args vals as L hpre hlay hrd hwl hlo
  have zf := z_facts (K := Mine.zh.heap_182) (fun P => rfl) y
  obtain ⟨ZA, ZI, ZN, ZT⟩ := zf
  have KX : Frag.In (Mine.zh.heap_182 w.params) s₁.heap := InK.keeps w s₀.heap s₁.heap ZI L.keeps
  have ZH : TopOk (T0 w.params) s₀.heap := top_P ZA
  refine Ground.open G ?_
  intro T B D TE TW
  have gd : Gd w s₁.heap := ⟨fun a o ha e => L.keeps a o (ZH a o ha e), T.nolimit⟩
  wrow_args hpre hlay hrd hwl hlo
  obtain ⟨hat, hsz⟩ := script_at L
  x_fa T KX hmg
  rw [ZN] at hat hsz
  subst hat
  rename s₁.heap.IsList _ _ => hL
  rename IntsAre _ _ => hI
  obtain ⟨xs, hx1, hx2⟩ := ints_its hI
  have hob := script_obj L hL
  rw [hx1] at hob
  have hlen : xs.length ≤ 63 := by
    have e := congrArg List.length hx2
    rw [List.length_map] at e
    omega
  refine wpAny_call ?_
  refine H w s₁ xs _ gd hsz hob hlen ?_
  intro h' tk' hk
  refine GoodW.toG ⟨.inl ⟨_, _, _, rfl, ?_, ReadsW.bool true, ?_, ?_⟩, hk, rfl, hg⟩
  · intro cls; rfl
  · wrow_post
  · intro _; exact ⟨List.nodup_nil, fun a ha => by cases ha⟩
end Mine
end
section
open PySem PySem.W PySem.W.X PyProof.Rows
set_option Elab.async false
set_option maxRecDepth 100000
set_option maxHeartbeats 1000000
namespace Mine
theorem law_ok (w : World) (s₁ : Shared) (xs : List IT) (R : Result → Shared → Prop) (gd : Gd w s₁.heap) (hsz : s₁.heap.objs.size = 172) (hob : s₁.heap.get? 171 = some (listO ⟨xs.map iv⟩ 0)) (hlen : xs.length ≤ 63)
    (z : ∀ h' tk', (∀ b o', s₁.heap.get? b = some o' → h'.get? b = some o') → R (.ok (.ret (.bool true))) ⟨h', s₁.gens, s₁.drawn, tk', s₁.os⟩) :
    codeAny (model PySem.Challenge.rw_mr0280_01.row.prog w) callerA (.call (.ref 170) ⟨[.ref 171], []⟩) R s₁ := by
  have key : ∀ b1 b2 b3, Gd (wF b1 b2 b3 w) s₁.heap → codeAny (model PySem.Challenge.rw_mr0280_01.row.prog (wF b1 b2 b3 w)) callerA (.call (.ref 170) ⟨[.ref 171], []⟩) R s₁ := by
    intro b1 b2 b3 G
    refine c170 (h₀ := s₁.heap) (h := s₁.heap) (F := [171]) (ρ := []) (Ls := 171) (xs := xs) (es := 0) G ⟨rfl, by decide⟩ ⟨by decide⟩ rfl (Nat.le_trans hlen (by decide)) ?_ ?_ ?_
    · intro l hl
      subst hl
      exact Classical.choice (plain _ (by rw [List.length_map, List.length_take]; omega))
    · refine ⟨fun _ _ e _ => e, fun p hp => ?_, by simp, fun p hp => ?_, Nat.le_refl _, fun a ha => ?_, by rw [hsz]; decide⟩
      · cases List.mem_singleton.mp hp; exact hob
      · cases List.mem_singleton.mp hp; exact .inl (.head _)
      · cases List.mem_singleton.mp ha; exact Nat.le_refl _
    · intro h' tk' hL hk _
      refine z h' tk' fun b o' e => ?_
      by_cases hb : b = 171
      · subst hb
        rw [hob] at e
        cases e
        exact hL
      · exact hk b o' e fun hm => hb (List.mem_singleton.mp hm)
  have k := key (w.params.followText "special-get-raises") (w.params.followText "comprehension-iter-twice") (w.params.followText "set-order")
  rw [wF_self] at k
  exact k gd
end Mine
end
theorem PySem.Challenge.cw_mr0280_01_holds : PySem.Challenge.rw_mr0280_01.Holds :=
  Mine.law_top Mine.law_ok
