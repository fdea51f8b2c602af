import PyProof.Rows.All
import Wide.All
import OpenK.AllK
import Wide.FinOn
import Lean
import PySem.Challenge.RW_kt0048_01
set_option Elab.async false
set_option linter.all false
section
open PySem PySem.W
namespace Mine

/-- the two sides of a demand: a value, a list of values, a text -/
inductive VV where
  | v (x : Value)
  | l (x : List Value)
  | s (x : Str)
  | t (x : Sem Fin)
structure Out where
  r : Result
  T : BT
  m : Nat
  i : Nat × Nat
  e : List (VV × VV)

/-- what a run keeps: tokens from N on, the table's state Z, addresses Q that aren't the table's -/
structure Lg where
  N : Nat
  M : Nat
  Z : List Addr → List (Option Obj) → Prop
  Q : Addr → Prop
noncomputable def Lg.ok (G : Lg) (A τ : Nat → Nat) : Prop := (∀ j, G.N ≤ τ j) ∧ ∀ j, G.M ≤ A j
/-- tokens of the run's own making stand at even places, those of its specs at odd ones -/
noncomputable def agr (i : Nat × Nat) (τ τ₀ : Nat → Nat) : Prop := (∀ j, j < i.1 → τ (2 * j) = τ₀ (2 * j)) ∧ ∀ j, j < i.2 → τ (2 * j + 1) = τ₀ (2 * j + 1)
noncomputable def ile (i i' : Nat × Nat) : Prop := i.1 ≤ i'.1 ∧ i.2 ≤ i'.2
theorem agr.refl (i : Nat × Nat) (τ : Nat → Nat) : agr i τ τ := ⟨fun _ _ => rfl, fun _ _ => rfl⟩
theorem agr.trans {i i' : Nat × Nat} {τ τ' τ₀ : Nat → Nat} (h' : agr i' τ' τ) (hi : ile i i') (h : agr i τ τ₀) : agr i τ' τ₀ :=
  ⟨fun j hj => (h'.1 j (Nat.lt_of_lt_of_le hj hi.1)).trans (h.1 j hj), fun j hj => (h'.2 j (Nat.lt_of_lt_of_le hj hi.2)).trans (h.2 j hj)⟩
theorem ile.refl (i : Nat × Nat) : ile i i := ⟨Nat.le_refl _, Nat.le_refl _⟩
/-- the run's own tokens grow -/
noncomputable def TkI (i : Nat × Nat) (τ : Nat → Nat) (s : Shared) : Prop := (∀ j k, j < k → k < i.1 → τ (2 * j) < τ (2 * k)) ∧ ∀ j, j < i.1 → 0 < τ (2 * j) ∧ τ (2 * j) < s.toks
theorem TkI.congr {i : Nat × Nat} {τ τ' : Nat → Nat} {s s' : Shared} (h : TkI i τ s) (ha : agr i τ' τ) (hs : s.toks ≤ s'.toks) : TkI i τ' s' :=
  ⟨fun j k h1 h2 => by rw [ha.1 j (Nat.lt_trans h1 h2), ha.1 k h2]; exact h.1 j k h1 h2, fun j hj => by rw [ha.1 j hj]; exact ⟨(h.2 j hj).1, Nat.lt_of_lt_of_le (h.2 j hj).2 hs⟩⟩
theorem TkI.zero (b : Nat) (τ : Nat → Nat) (s : Shared) : TkI (0, b) τ s := ⟨fun _ _ _ h => absurd h (Nat.not_lt_zero _), fun _ h => absurd h (Nat.not_lt_zero _)⟩
structure Cfg where
  B : Addr → Option Obj
  den : Code → Sem Fin
  st : Setting
  st2 : Setting
  qt : Code → Bool
  ov : Nat → Code → Option (Sem Fin)
  sp : Nat → Code → (Nat → Nat) → (Nat → Nat) → BT → Nat → Nat × Nat → Option Out

noncomputable def E (C : Cfg) (A τ : Nat → Nat) : Nat → List (Result → Sem Fin) → Sem Fin → BT → Nat → Nat × Nat → List Nat → List (VV × VV) → Option Out
  | 0, _, _, _, _, _, _, _ => none
  | n + 1, ks, t, T, m, i, cs, e => match t with
    | .pure fin => match fin with
      | .done v => match ks with
        | [] => some ⟨.ok v, T, m, i, e⟩
        | k :: ks => E C A τ n ks (k (.ok v)) T m i cs e
      | .again c => match C.qt c with
        | false => none
        | true => match cs with
          | 0 :: cs => E C A τ n ks (C.den c) T m i cs e
          | 1 :: q :: cs => match Nat.ble ks.length 15 with
            | false => none
            | true => match C.ov q c with
              | none => none
              | some t' => E C A τ n ks t' T m i cs e
          | 2 :: q :: cs => match Nat.ble ks.length 15 with
            | false => none
            | true => match C.sp q c A τ T m i with
              | none => none
              | some ⟨r, T', m', i', e'⟩ => match ks with
                | [] => some ⟨r, T', m', i', e' ++ e⟩
                | k :: ks => E C A τ n ks (k r) T' m' i' cs (e' ++ e)
          | _ => none
    | .raise x => match ks with
      | [] => some ⟨.error x, T, m, i, e⟩
      | k :: ks => E C A τ n ks (k (.error x)) T m i cs e
    | .rule _ k => E C A τ n ks (k ()) T m i cs e
    | .at _ k => E C A τ n ks (k ()) T m i cs e
    | .point _ k => E C A τ n ks (k ()) T m i cs e
    | .ask k => match C.st with
      | ⟨p, r⟩ => match C.st2 with
        | ⟨p', r'⟩ => E C A τ n ks (k ⟨p, r⟩) T m i cs ((.t (k ⟨p, r⟩), .t (k ⟨p', r'⟩)) :: e)
    | .load a _ k => match cs with
      | 0 :: cs => match C.B a with
        | none => none
        | some o => E C A τ n ks (k o) T m i cs e
      | (j + 1) :: cs => match T.get j with
        | none => none
        | some o => match o.isFreed with
          | true => none
          | false => E C A τ n ks (k o) T m i cs ((.v (.ref a), .v (.ref (A j))) :: e)
      | [] => none
    | .update a _ f k => match cs with
      | (j + 1) :: cs => match T.get j with
        | none => none
        | some o => match o.isFreed || (f o).isFreed with
          | true => none
          | false => E C A τ n ks (k ()) (T.set j f) m i cs ((.v (.ref a), .v (.ref (A j))) :: e)
      | _ => none
    | .alloc o k => match o.isFreed with
      | true => none
      | false => match (T.ins m o).get m with
        | none => none
        | some _ => E C A τ n ks (k (A m)) (T.ins m o) (m + 1) i cs e
    | .fresh k => E C A τ n ks (k (τ (2 * i.1))) T m (i.1 + 1, i.2) cs e
    | .handled own k => match own with
      | true => none
      | false => E C A τ n ks (k none) T m i cs e
    | .call c hd _ _ k => match hd with
      | some _ => none
      | none => match C.qt c with
       | false => none
       | true => match cs with
        | 0 :: cs => E C A τ n (k :: ks) (C.den c) T m i cs e
        | 1 :: q :: cs => match Nat.ble ks.length 15 with
          | false => none
          | true => match C.ov q c with
            | none => none
            | some t' => E C A τ n (k :: ks) t' T m i cs e
        | 2 :: q :: cs => match Nat.ble ks.length 15 with
          | false => none
          | true => match C.sp q c A τ T m i with
            | none => none
            | some ⟨r, T', m', i', e'⟩ => E C A τ n ks (k r) T' m' i' cs (e' ++ e)
        | _ => none
    | _ => none

theorem E_mono (C : Cfg) (A τ : Nat → Nat) : ∀ n ks t T m i cs e o, E C A τ n ks t T m i cs e = some o → ∀ x ∈ e, x ∈ o.e := by
  intro n
  induction n with
  | zero => intro ks t T m i cs e o h; cases h
  | succ n ih =>
    intro ks t T m i cs e o h x hx
    unfold E at h
    repeat' split at h
    all_goals first
      | (cases h; done)
      | (cases h; exact hx)
      | (cases h; exact List.mem_append_right _ hx)
      | exact ih _ _ _ _ _ _ _ _ h x hx
      | exact ih _ _ _ _ _ _ _ _ h x (List.mem_cons_of_mem _ hx)
      | exact ih _ _ _ _ _ _ _ _ h x (List.mem_append_right _ hx)

noncomputable def fr (st : List (Code × Pos)) : Nat := ((st.map (·.1)).map (·.frames)).sum + ((st.map (·.1)).filter Code.isCreation).length
theorem frames_le (c : Code) : c.frames ≤ 3 := by
  unfold Code.frames
  split <;> first | decide | (split <;> decide)
theorem fr_cons (c : Code) (p : Pos) (l : List (Code × Pos)) : fr ((c, p) :: l) ≤ fr l + 4 := by
  have := frames_le c
  unfold fr
  simp only [List.map_cons, List.sum_cons, List.filter_cons]
  split <;> (try simp only [List.length_cons]) <;> omega

structure Fr1 where
  Γ : Ctx
  p : Pos
  k : Result → Sem Fin
noncomputable def Post (M : Model) (R : Result → Shared → Prop) : List Fr1 → Result → Shared → Prop
  | [] => R
  | f :: K => fun r s => Sem.wp M f.Γ (f.k r) (Sem.finPost M f.Γ (Post M R K)) (fun x _ s' => Post M R K (.error x) s') f.p s
theorem weight_le {c : Code} (h : c.isCaller = false) : c.weight ≤ 5 := by
  have h3 := frames_le c
  unfold Code.weight
  rw [h]
  simp only [Bool.false_eq_true, if_false]
  split <;> split <;> omega
structure CtxOk (b d : Nat) (Γ : Ctx) : Prop where
  hd : Γ.handled = none
  fr : fr Γ.below ≤ b + 4 * d
  un : unitsOf Γ.below ≤ 10 * (b + 4 * d)
  fc : 4 * frameCount Γ.below ≤ 5 * (b + 4 * d)
  nc : Γ.code.isCaller = false
theorem CtxOk.lift {b d L : Nat} {Γ : Ctx} (h : CtxOk b d Γ) (hl : b + 4 * d ≤ L) : CtxOk L 0 Γ := ⟨h.hd, by have := h.fr; omega, by have := h.un; omega, by have := h.fc; omega, h.nc⟩
theorem CtxOk.goto {b d : Nat} {Γ : Ctx} (h : CtxOk b d Γ) (c : Code) (hc : c.isCaller = false) : CtxOk b d (Γ.goto c) := ⟨h.hd, h.fr, h.un, h.fc, hc⟩
theorem CtxOk.enter {b d : Nat} {Γ : Ctx} (h : CtxOk b d Γ) (c : Code) (p : Pos) (hc : c.isCaller = false) : CtxOk b (d + 1) (Γ.enter c none p) := by
  refine ⟨h.hd, ?_, ?_, ?_, hc⟩
  · have h1 := fr_cons Γ.code p Γ.below
    have h2 := h.fr
    show Mine.fr ((Γ.code, p) :: Γ.below) ≤ b + 4 * (d + 1)
    omega
  · have h2 := h.un
    have h3 := frames_le Γ.code
    have h4 : ∀ c : Code, c.cUnits ≤ 10 := by
      intro c
      have h3 := frames_le c
      unfold Code.cUnits
      split <;> omega
    have h4 := h4 Γ.code
    show unitsOf ((Γ.code, p) :: Γ.below) ≤ _
    rw [unitsOf_cons]
    omega
  · have h1 := h.fc
    have h2 := weight_le h.nc
    show 4 * frameCount ((Γ.code, p) :: Γ.below) ≤ _
    rw [frameCount_cons]
    omega
noncomputable def StkOk (b : Nat) : List Fr1 → Prop
  | [] => True
  | f :: K => CtxOk b K.length f.Γ ∧ StkOk b K

noncomputable def tabA : Addr := 288
noncomputable def ZAt (G : Lg) (A : Nat → Nat) (m : Nat) (h : Heap) : Prop :=
  ∃ Ls : List Addr, G.Z Ls (Ls.map h.get?) ∧ ∀ a ∈ Ls, (h.get? a).isSome = true ∧ ¬ G.Q a ∧ ∀ j, j < m → A j ≠ a
structure Rep (B : Addr → Option Obj) (G : Lg) (A : Nat → Nat) (T : BT) (m : Nat) (s : Shared) : Prop where
  own : ∀ j o, T.get j = some o → j < m ∧ (o.isFreed = false → s.heap.get? (A j) = some o)
  inj : ∀ i j, i < m → j < m → A i = A j → i = j
  lt : ∀ j, j < m → A j < s.heap.objs.size
  base : ∀ a o, B a = some o → s.heap.get? a = some o
  off : ∀ a o j, B a = some o → j < m → A j ≠ a
  z : ZAt G A m s.heap
  toks : G.N ≤ s.toks ∧ 0 < s.toks
  room : G.M ≤ s.heap.objs.size

structure Inv (s₀ : Shared) (m₀ : Nat) (A : Nat → Nat) (m : Nat) (s : Shared) : Prop where
  le : m₀ ≤ m
  keep : ∀ b o, s₀.heap.get? b = some o → b ≠ tabA → (∀ j, j < m₀ → A j ≠ b) → s.heap.get? b = some o
  size : s₀.heap.objs.size ≤ s.heap.objs.size
  new : ∀ j, m₀ ≤ j → j < m → s₀.heap.objs.size ≤ A j
  gens : PyProof.Rows.AllBare s₀.gens → PyProof.Rows.AllBare s.gens
  drawn : s.drawn = s₀.drawn
  os : s.os = s₀.os
  toks : s₀.toks ≤ s.toks

theorem Inv.refl (s : Shared) (m : Nat) (A : Nat → Nat) : Inv s m A m s :=
  ⟨Nat.le_refl _, fun _ _ e _ _ => e, Nat.le_refl _, fun _ h1 h2 => absurd h2 (Nat.not_lt.mpr h1), id, rfl, rfl, Nat.le_refl _⟩
theorem Inv.trans {s₀ s s' : Shared} {m₀ m m' : Nat} {A : Nat → Nat} (x : Inv s₀ m₀ A m s) (y : Inv s m A m' s') : Inv s₀ m₀ A m' s' where
  le := Nat.le_trans x.le y.le
  keep := fun b o e hb h => y.keep b o (x.keep b o e hb h) hb fun j hj q => by
    by_cases h0 : j < m₀
    · exact h j h0 q
    · have h1 := x.new j (Nat.le_of_not_lt h0) hj
      exact absurd (Heap.lt_size e) (Nat.not_lt.mpr (q ▸ h1))
  size := Nat.le_trans x.size y.size
  new := fun j h1 h2 => by
    by_cases h0 : j < m
    · exact x.new j h1 h0
    · exact Nat.le_trans x.size (y.new j (Nat.le_of_not_lt h0) h2)
  gens := fun h => y.gens (x.gens h)
  drawn := y.drawn.trans x.drawn
  os := y.os.trans x.os
  toks := Nat.le_trans x.toks y.toks
theorem Inv.congr {s₀ s : Shared} {m₀ m : Nat} {A A' : Nat → Nat} (x : Inv s₀ m₀ A m s) (h : ∀ j, j < m → A' j = A j) : Inv s₀ m₀ A' m s :=
  ⟨x.le, fun b o e hb q => x.keep b o e hb fun j hj z => q j hj ((h j (Nat.lt_of_lt_of_le hj x.le)).trans z), x.size, fun j h1 h2 => (h j h2) ▸ x.new j h1 h2, x.gens, x.drawn, x.os, x.toks⟩
theorem ZAt.congr {G : Lg} {A A' : Nat → Nat} {m : Nat} {h : Heap} (x : ZAt G A m h) (q : ∀ j, j < m → A' j = A j) : ZAt G A' m h :=
  let ⟨Ls, h1, h2⟩ := x
  ⟨Ls, h1, fun a ha => ⟨(h2 a ha).1, (h2 a ha).2.1, fun j hj => (q j hj) ▸ (h2 a ha).2.2 j hj⟩⟩
theorem ZAt.keep {G : Lg} {A A' : Nat → Nat} {m m' : Nat} {h h' : Heap} (x : ZAt G A m h) (q : ∀ a o, h.get? a = some o → (∀ j, j < m → A j ≠ a) → h'.get? a = some o ∧ ∀ j, j < m' → A' j ≠ a) : ZAt G A' m' h' := by
  obtain ⟨Ls, h1, h2⟩ := x
  have e : Ls.map h'.get? = Ls.map h.get? := List.map_congr_left fun a ha => by
    obtain ⟨o, ho⟩ := Option.isSome_iff_exists.mp (h2 a ha).1
    rw [ho, (q a o ho (h2 a ha).2.2).1]
  refine ⟨Ls, by rw [e]; exact h1, fun a ha => ?_⟩
  obtain ⟨o, ho⟩ := Option.isSome_iff_exists.mp (h2 a ha).1
  have := q a o ho (h2 a ha).2.2
  exact ⟨by rw [this.1]; rfl, (h2 a ha).2.1, this.2⟩
theorem Rep.congr {B : Addr → Option Obj} {G : Lg} {A A' : Nat → Nat} {T : BT} {m : Nat} {h : Shared} (x : Rep B G A T m h) (q : ∀ j, j < m → A' j = A j) : Rep B G A' T m h :=
  ⟨fun j o e => ⟨(x.own j o e).1, fun hf => (q j (x.own j o e).1) ▸ (x.own j o e).2 hf⟩, fun i j hi hj e => x.inj i j hi hj ((q i hi).symm.trans (e.trans (q j hj))), fun j hj => (q j hj) ▸ x.lt j hj, x.base, fun a o j e hj => (q j hj) ▸ x.off a o j e hj, x.z.congr q, x.toks, x.room⟩

section
variable {prog : Program} {w : World}
structure Cfg.Ok (C : Cfg) (G : Lg) (prog : Program) (w : World) (L : Nat) : Prop where
  den : C.den = denote table
  st : C.st = ⟨prog, w.params⟩ ∨ C.st2 = ⟨prog, w.params⟩
  qt : ∀ c, C.qt c = true → c.quiet = true ∧ c.isCaller = false
  ov : ∀ q c t', C.ov q c = some t' → ∀ (Γ : Ctx) (p : Pos) (s : Shared) (R : Result → Shared → Prop), Γ.code = c → CtxOk L 0 Γ →
    (∀ a o, C.B a = some o → s.heap.get? a = some o) → (∀ p', Sem.wp (model prog w) Γ t' (Sem.finPost (model prog w) Γ R) (fun x _ s' => R (.error x) s') p' s) → wpCode (model prog w) Γ R p s
  sp : ∀ q c (A₀ τ₀ : Nat → Nat) (T : BT) (m : Nat) (i : Nat × Nat) (Γ : Ctx) (p : Pos) (s : Shared) (R : Result → Shared → Prop), G.ok A₀ τ₀ → Γ.code = c → CtxOk L 0 Γ → TkI i τ₀ s → Rep C.B G A₀ T m s →
    (∀ A τ, (∀ j, j < m → A j = A₀ j) → agr i τ τ₀ → G.ok A τ → ∃ o, C.sp q c A τ T m i = some o ∧ ∀ x ∈ o.e, x.1 = x.2) →
    (∀ A τ s' o, (∀ j, j < m → A j = A₀ j) → agr i τ τ₀ → G.ok A τ → C.sp q c A τ T m i = some o → ile i o.i → TkI o.i τ s' → Rep C.B G A o.T o.m s' → Inv s m A o.m s' → R o.r s') →
    wpCode (model prog w) Γ R p s
  spx : ∀ q c (A τ A' τ' : Nat → Nat) (T : BT) (m : Nat) (i : Nat × Nat) (o : Out), (∀ j o', T.get j = some o' → j < m) → C.sp q c A τ T m i = some o → (∀ j, j < o.m → A' j = A j) → agr o.i τ' τ → C.sp q c A' τ' T m i = some o

theorem ble_true {a b : Nat} (h : Nat.ble a b = true) : a ≤ b := Nat.le_of_ble_eq_true h

theorem Rep.shared {B : Addr → Option Obj} {G : Lg} {A : Nat → Nat} {T : BT} {m : Nat} {s s' : Shared} (D : Rep B G A T m s) (h : s'.heap = s.heap) (ht : s.toks ≤ s'.toks) : Rep B G A T m s' :=
  ⟨by rw [h]; exact D.own, D.inj, by rw [h]; exact D.lt, by rw [h]; exact D.base, D.off, by rw [h]; exact D.z, ⟨Nat.le_trans D.toks.1 ht, Nat.lt_of_lt_of_le D.toks.2 ht⟩, by rw [h]; exact D.room⟩
theorem Rep.alloc {B : Addr → Option Obj} {G : Lg} {A : Nat → Nat} {T : BT} {m : Nat} {s : Shared} (D : Rep B G A T m s) {o : Obj} (hf : o.isFreed = false) (hg : ((T.ins m o).get m).isSome = true) :
    Rep B G (fun j => if j = m then s.heap.objs.size else A j) (T.ins m o) (m + 1) { s with heap := s.heap.push o } := by
  refine ⟨fun j o' e => ?_, fun i j hi hj e => ?_, fun j hj => ?_, fun a o' e => Heap.get?_push_of_some _ (D.base a o' e), fun a o' j e hj => ?_, D.z.keep fun a o' e hj => ⟨Heap.get?_push_of_some _ e, fun j hj' => ?_⟩, D.toks, by show _ ≤ (s.heap.push o).objs.size; rw [Heap.size_push]; exact Nat.le_succ_of_le D.room⟩
  · rw [BT.get_ins o T m hg] at e
    by_cases q : j = m
    · subst q
      simp only [if_true] at e ⊢
      cases e
      exact ⟨Nat.lt_succ_self _, fun _ => Heap.get?_push_size _ hf⟩
    · rw [if_neg q] at e
      simp only [if_neg q]
      exact ⟨Nat.lt_succ_of_lt (D.own j o' e).1, fun hz => Heap.get?_push_of_some _ ((D.own j o' e).2 hz)⟩
  · by_cases q1 : i = m <;> by_cases q2 : j = m
    · omega
    · simp only [q1, if_true, if_neg q2] at e
      have := D.lt j (by omega)
      omega
    · simp only [q2, if_true, if_neg q1] at e
      have := D.lt i (by omega)
      omega
    · simp only [if_neg q1, if_neg q2] at e
      exact D.inj i j (by omega) (by omega) e
  · show _ < (s.heap.push o).objs.size
    rw [Heap.size_push]
    by_cases q : j = m
    · simp only [q, if_true]; omega
    · simp only [if_neg q]
      have := D.lt j (by omega)
      omega
  · by_cases q : j = m
    · simp only [q, if_true]
      exact Nat.ne_of_gt (Heap.lt_size (D.base a o' e))
    · simp only [if_neg q]
      exact D.off a o' j e (by omega)
  · by_cases q : j = m
    · simp only [q, if_true]
      exact Nat.ne_of_gt (Heap.lt_size e)
    · simp only [if_neg q]
      exact hj j (by omega)
theorem Inv.alloc {s₀ s : Shared} {m₀ m : Nat} {A : Nat → Nat} (x : Inv s₀ m₀ A m s) (o : Obj) : Inv s₀ m₀ (fun j => if j = m then s.heap.objs.size else A j) (m + 1) { s with heap := s.heap.push o } := by
  refine ⟨Nat.le_succ_of_le x.le, fun b o' e hb h => Heap.get?_push_of_some _ (x.keep b o' e hb fun j hj q => h j hj ?_), ?_, fun j h1 h2 => ?_, x.gens, x.drawn, x.os, x.toks⟩
  · have := x.le
    rw [if_neg (by omega)]; exact q
  · show _ ≤ (s.heap.push o).objs.size
    rw [Heap.size_push]; exact Nat.le_succ_of_le x.size
  · by_cases q : j = m
    · simp only [q, if_true]; exact x.size
    · simp only [if_neg q]; exact x.new j h1 (by omega)
theorem Rep.update {B : Addr → Option Obj} {G : Lg} {A : Nat → Nat} {T : BT} {m : Nat} {s : Shared} (D : Rep B G A T m s) {j : Nat} {o : Obj} {f : Obj → Obj} (e : T.get j = some o) (ho : o.isFreed = false) (hf : (f o).isFreed = false) : Rep B G A (T.set j f) m { s with heap := s.heap.update (A j) f } := by
  have z : j < m ∧ s.heap.get? (A j) = some o := ⟨(D.own j o e).1, (D.own j o e).2 ho⟩
  have hs : Heap.SameBut (A j) s.heap (s.heap.update (A j) f) := Heap.SameBut.update ..
  refine ⟨fun i o' e' => ?_, D.inj, fun i hi => by show _ < (s.heap.update (A j) f).objs.size; rw [hs.1]; exact D.lt i hi, fun a o' e' => (hs.2 a (Ne.symm (D.off a o' j e' z.1))).trans (D.base a o' e'), D.off, D.z.keep fun a o' e' hj => ⟨(hs.2 a (Ne.symm (hj j z.1))).trans e', hj⟩, D.toks, by show _ ≤ (s.heap.update (A j) f).objs.size; rw [hs.1]; exact D.room⟩
  rw [BT.get_set] at e'
  by_cases q : i = j
  · subst q
    rw [if_pos rfl, e] at e'
    cases e'
    exact ⟨z.1, fun _ => Heap.get?_update_self f z.2 hf⟩
  · rw [if_neg q] at e'
    have y := D.own i o' e'
    exact ⟨y.1, fun hz => (hs.2 _ fun x => q (D.inj i j y.1 z.1 x)).trans (y.2 hz)⟩
theorem Inv.update {s₀ s : Shared} {m₀ m j : Nat} {A : Nat → Nat} (x : Inv s₀ m₀ A m s) (hj : j < m) (f : Obj → Obj) : Inv s₀ m₀ A m { s with heap := s.heap.update (A j) f } := by
  have hs : Heap.SameBut (A j) s.heap (s.heap.update (A j) f) := Heap.SameBut.update ..
  refine ⟨x.le, fun b o e hb h => (hs.2 b fun q => ?_).trans (x.keep b o e hb h), by show _ ≤ (s.heap.update (A j) f).objs.size; rw [hs.1]; exact x.size, x.new, x.gens, x.drawn, x.os, x.toks⟩
  by_cases h0 : j < m₀
  · exact h j h0 q.symm
  · have h1 := x.new j (Nat.le_of_not_lt h0) hj
    exact absurd (Heap.lt_size e) (Nat.not_lt.mpr (q ▸ h1))

theorem post_again {M : Model} {Γ : Ctx} {R : Result → Shared → Prop} {c : Code} {p : Pos} {s : Shared} (hq : c.quiet = true) (h : wpCode M (Γ.goto c) R p s) :
    Sem.wp M Γ (.pure (.again c)) (Sem.finPost M Γ R) (fun x _ s' => R (.error x) s') p s := by
  rw [Sem.wp_pure]
  exact ⟨hq, h⟩
theorem code_den {M : Model} {Γ : Ctx} {R : Result → Shared → Prop} {p : Pos} {s : Shared} (h : Sem.wp M Γ (M.den Γ.code) (Sem.finPost M Γ R) (fun x _ s' => R (.error x) s') p s) : wpCode M Γ R p s :=
  (wpCode_iff_wp M Γ R p s).mpr h

theorem E_sound {C : Cfg} {G : Lg} {L b : Nat} (H : C.Ok G prog w L) (hL : b + 64 ≤ L) (s₀ : Shared) (m₀ : Nat) : ∀ (n : Nat) (t : Sem Fin) (T : BT) (m : Nat) (i : Nat × Nat) (cs : List Nat) (e : List (VV × VV)) (A₀ τ₀ : Nat → Nat) (s : Shared) (Γ : Ctx) (p : Pos) (K : List Fr1) (R : Result → Shared → Prop), G.ok A₀ τ₀ →
    CtxOk b K.length Γ → StkOk b K → TkI i τ₀ s → Rep C.B G A₀ T m s → Inv s₀ m₀ A₀ m s →
    (∀ A τ, (∀ j, j < m → A j = A₀ j) → agr i τ τ₀ → G.ok A τ → ∃ o, E C A τ n (K.map (·.k)) t T m i cs e = some o ∧ ∀ x ∈ o.e, x.1 = x.2) →
    (∀ A τ s' o, (∀ j, j < m → A j = A₀ j) → agr i τ τ₀ → G.ok A τ → E C A τ n (K.map (·.k)) t T m i cs e = some o → (TkI o.i τ s' ∧ Rep C.B G A o.T o.m s') → Inv s₀ m₀ A o.m s' → R o.r s') →
    Sem.wp (model prog w) Γ t (Sem.finPost (model prog w) Γ (Post (model prog w) R K)) (fun x _ s' => Post (model prog w) R K (.error x) s') p s := by
  intro n
  induction n with
  | zero =>
    intro t T m i cs e A₀ τ₀ s Γ p K R hN _ _ _ _ _ h _
    obtain ⟨o, ho, _⟩ := h A₀ τ₀ (fun _ _ => rfl) (agr.refl i τ₀) hN
    cases ho
  | succ n ih =>
    intro t T m i cs e A₀ τ₀ s Γ p K R hN hΓ hK hk D I h hR
    have h0 := h A₀ τ₀ (fun _ _ => rfl) (agr.refl i τ₀) hN
    cases t with
    | pure fin =>
      cases fin with
      | done v =>
        rw [Sem.wp_pure]
        show Post (model prog w) R K (.ok v) s
        cases K with
        | nil => exact hR A₀ τ₀ s _ (fun _ _ => rfl) (agr.refl i τ₀) hN rfl ⟨hk, D⟩ I
        | cons f K => exact ih (f.k (.ok v)) T m i cs e A₀ τ₀ s f.Γ f.p K R hN hK.1 hK.2 hk D I h hR
      | again c =>
        have hqt : C.qt c = true := by
          obtain ⟨o, ho, _⟩ := h0
          cases q : C.qt c with
          | true => rfl
          | false => simp only [E, q] at ho; cases ho
        have hq : c.quiet = true := (H.qt c hqt).1
        refine post_again hq ?_
        have hΓ' : CtxOk b K.length (Γ.goto c) := hΓ.goto c (H.qt c hqt).2
        cases cs with
        | nil =>
          obtain ⟨o, ho, _⟩ := h0
          simp only [E, hqt] at ho
          cases ho
        | cons q cs =>
          match q, h, hR, h0 with
          | 0, h, hR, _ =>
            simp only [E, hqt] at h hR
            refine code_den ?_
            have z := ih (C.den c) T m i cs e A₀ τ₀ s (Γ.goto c) p K R hN hΓ' hK hk D I h hR
            rw [H.den] at z
            exact z
          | 1, h, hR, h0 =>
            cases cs with
            | nil =>
              obtain ⟨o, ho, _⟩ := h0
              simp only [E, hqt] at ho
              cases ho
            | cons q cs =>
              cases hl : Nat.ble (K.map (·.k)).length 15 with
              | false =>
                obtain ⟨o, ho, _⟩ := h0
                simp only [E, hqt, hl] at ho
                cases ho
              | true =>
                cases ht : C.ov q c with
                | none =>
                  obtain ⟨o, ho, _⟩ := h0
                  simp only [E, hqt, hl, ht] at ho
                  cases ho
                | some t' =>
                  simp only [E, hqt, hl, ht] at h hR
                  have hb : K.length ≤ 15 := by have := ble_true hl; rwa [List.length_map] at this
                  exact H.ov q c t' ht (Γ.goto c) p s _ rfl ((hΓ.goto c (H.qt c hqt).2).lift (by omega)) D.base (fun p' => ih t' T m i cs e A₀ τ₀ s (Γ.goto c) p' K R hN hΓ' hK hk D I h hR)
          | 2, h, hR, h0 =>
            cases cs with
            | nil =>
              obtain ⟨o, ho, _⟩ := h0
              simp only [E, hqt] at ho
              cases ho
            | cons q cs =>
              cases hl : Nat.ble (K.map (·.k)).length 15 with
              | false =>
                obtain ⟨o, ho, _⟩ := h0
                simp only [E, hqt, hl] at ho
                cases ho
              | true =>
                have hb : K.length ≤ 15 := by have := ble_true hl; rwa [List.length_map] at this
                simp only [E, hqt, hl] at h hR
                refine H.sp q c A₀ τ₀ T m i (Γ.goto c) p s _ hN rfl ((hΓ.goto c (H.qt c hqt).2).lift (by omega)) hk D (fun A τ hA hτ hn => ?_) (fun A τ s' o hA hτ hn ho hi hk' D' I' => ?_)
                · obtain ⟨o, ho, hx⟩ := h A τ hA hτ hn
                  cases hs : C.sp q c A τ T m i with
                  | none => rw [hs] at ho; cases ho
                  | some o' =>
                    refine ⟨o', rfl, fun x hm => ?_⟩
                    rw [hs] at ho
                    cases K with
                    | nil =>
                      simp only [List.map_nil] at ho
                      cases ho
                      exact hx x (List.mem_append_left _ hm)
                    | cons f K => exact hx x (E_mono C A τ _ _ _ _ _ _ _ _ _ ho x (List.mem_append_left _ hm))
                · cases K with
                  | nil =>
                    refine hR A τ s' ⟨o.r, o.T, o.m, o.i, o.e ++ e⟩ hA hτ hn ?_ ⟨hk', D'⟩ ((I.congr hA).trans I')
                    rw [ho]
                    rfl
                  | cons f K =>
                    refine ih (f.k o.r) o.T o.m o.i cs (o.e ++ e) A τ s' f.Γ f.p K R hn hK.1 hK.2 hk' D' ((I.congr hA).trans I') (fun A' τ' hA' hτ' hn' => ?_) (fun A' τ' s'' o' hA' hτ' hn' ho' D'' I'' => ?_)
                    · have hs := H.spx q c A τ A' τ' T m i o (fun j o e => (D.own j o e).1) ho hA' hτ'
                      have hz := h A' τ' (fun j hj => (hA' j (Nat.lt_of_lt_of_le hj I'.le)).trans (hA j hj)) (hτ'.trans hi hτ) hn'
                      rw [hs] at hz
                      exact hz
                    · have hs := H.spx q c A τ A' τ' T m i o (fun j o e => (D.own j o e).1) ho hA' hτ'
                      have hz := hR A' τ' s'' o' (fun j hj => (hA' j (Nat.lt_of_lt_of_le hj I'.le)).trans (hA j hj)) (hτ'.trans hi hτ) hn'
                      rw [hs] at hz
                      exact hz ho' D'' I''
          | q + 3, _, _, h0 =>
            obtain ⟨o, ho, _⟩ := h0
            simp only [E, hqt] at ho
            cases ho
    | raise x =>
      rw [Sem.wp_raise]
      cases K with
      | nil => exact hR A₀ τ₀ s _ (fun _ _ => rfl) (agr.refl i τ₀) hN rfl ⟨hk, D⟩ I
      | cons f K => exact ih (f.k (.error x)) T m i cs e A₀ τ₀ s f.Γ f.p K R hN hK.1 hK.2 hk D I h hR
    | rule tag k => rw [Sem.wp_rule]; exact ih (k ()) T m i cs e A₀ τ₀ s Γ p K R hN hΓ hK hk D I h hR
    | «at» p' k => rw [Sem.wp_at]; exact ih (k ()) T m i cs e A₀ τ₀ s Γ p' K R hN hΓ hK hk D I h hR
    | point l k => rw [Sem.wp_point]; exact ih (k ()) T m i cs e A₀ τ₀ s Γ p K R hN hΓ hK hk D I h hR
    | ask k =>
      rw [Sem.wp_ask]
      have z := ih (k C.st) T m i cs ((.t (k C.st), .t (k C.st2)) :: e) A₀ τ₀ s Γ p K R hN hΓ hK hk D I h hR
      have q : k C.st = k C.st2 := by
        obtain ⟨o', ho, hx⟩ := h0
        have ho : E C A₀ τ₀ n (K.map (·.k)) (k C.st) T m i cs ((.t (k C.st), .t (k C.st2)) :: e) = some o' := ho
        exact VV.t.inj (hx _ (E_mono C _ _ _ _ _ _ _ _ _ _ _ ho _ (.head _)))
      rcases H.st with h1 | h1
      · rw [h1] at z
        exact z
      · rw [q, h1] at z
        exact z
    | load a q k =>
      rw [Sem.wp_load]
      cases cs with
      | nil =>
        obtain ⟨o, ho, _⟩ := h0
        cases ho
      | cons c cs =>
        cases c with
        | zero =>
          cases hB : C.B a with
          | none =>
            obtain ⟨o, ho, _⟩ := h0
            simp only [E, hB] at ho
            cases ho
          | some o =>
            simp only [E, hB] at h hR
            exact ⟨o, D.base a o hB, ih (k o) T m i cs e A₀ τ₀ s Γ p K R hN hΓ hK hk D I h hR⟩
        | succ j =>
          cases hT : T.get j with
          | none =>
            obtain ⟨o, ho, _⟩ := h0
            simp only [E, hT] at ho
            cases ho
          | some o =>
           cases hz : o.isFreed with
           | true =>
            obtain ⟨o', ho, _⟩ := h0
            simp only [E, hT, hz] at ho
            cases ho
           | false =>
            have ha : a = A₀ j := by
              obtain ⟨o', ho, hx⟩ := h0
              simp only [E, hT, hz] at ho
              exact Value.ref.inj (VV.v.inj (hx _ (E_mono C _ _ _ _ _ _ _ _ _ _ _ ho _ (.head _))))
            have hAj : ∀ A : Nat → Nat, (∀ j, j < m → A j = A₀ j) → A j = A₀ j := fun A hA => hA j (D.own j o hT).1
            refine ⟨o, by rw [ha]; exact (D.own j o hT).2 hz, ih (k o) T m i cs ((.v (.ref a), .v (.ref (A₀ j))) :: e) A₀ τ₀ s Γ p K R hN hΓ hK hk D I (fun A τ hA hτ hn => ?_) fun A τ s' o' hA hτ hn ho D' I' => ?_⟩
            · have z := h A τ hA hτ hn
              simp only [E, hT, hz] at z
              rw [hAj A hA] at z
              exact z
            · have z := hR A τ s' o' hA hτ hn
              simp only [E, hT, hz] at z
              rw [hAj A hA] at z
              exact z ho D' I'
    | update a q f k =>
      rw [Sem.wp_update]
      cases cs with
      | nil =>
        obtain ⟨o, ho, _⟩ := h0
        cases ho
      | cons c cs =>
        cases c with
        | zero =>
          obtain ⟨o, ho, _⟩ := h0
          cases ho
        | succ j =>
          cases hT : T.get j with
          | none =>
            obtain ⟨o, ho, _⟩ := h0
            simp only [E, hT] at ho
            cases ho
          | some o =>
            cases hz : o.isFreed || (f o).isFreed with
            | true =>
              obtain ⟨o, ho, _⟩ := h0
              simp only [E, hT, hz] at ho
              cases ho
            | false =>
              obtain ⟨hzo, hf⟩ := Bool.or_eq_false_iff.mp hz
              have ha : a = A₀ j := by
                obtain ⟨o', ho, hx⟩ := h0
                simp only [E, hT, hz] at ho
                exact Value.ref.inj (VV.v.inj (hx _ (E_mono C _ _ _ _ _ _ _ _ _ _ _ ho _ (.head _))))
              have hj := (D.own j o hT).1
              have hAj : ∀ A : Nat → Nat, (∀ j, j < m → A j = A₀ j) → A j = A₀ j := fun A hA => hA j hj
              refine ⟨by rw [ha, (D.own j o hT).2 hzo]; rfl, ?_⟩
              have D1 := D.update hT hzo hf
              have I1 := I.update hj f
              rw [← ha] at D1 I1
              refine ih (k ()) (T.set j f) m i cs ((.v (.ref a), .v (.ref (A₀ j))) :: e) A₀ τ₀ _ Γ p K R hN hΓ hK hk D1 I1 (fun A τ hA hτ hn => ?_) fun A τ s' o' hA hτ hn ho D' I' => ?_
              · have z := h A τ hA hτ hn
                simp only [E, hT, hz] at z
                rw [hAj A hA] at z
                exact z
              · have z := hR A τ s' o' hA hτ hn
                simp only [E, hT, hz] at z
                rw [hAj A hA] at z
                exact z ho D' I'
    | alloc o k =>
      rw [Sem.wp_alloc]
      cases hf : o.isFreed with
      | true =>
        obtain ⟨o, ho, _⟩ := h0
        simp only [E, hf] at ho
        cases ho
      | false =>
        cases hg : (T.ins m o).get m with
        | none =>
          obtain ⟨o, ho, _⟩ := h0
          simp only [E, hf, hg] at ho
          cases ho
        | some ob =>
          simp only [E, hf, hg] at h hR
          refine ih (k s.heap.objs.size) (T.ins m o) (m + 1) i cs e (fun j => if j = m then s.heap.objs.size else A₀ j) τ₀ _ Γ p K R ⟨hN.1, fun j => by have h1 := D.room; have h3 := hN.2 j; show G.M ≤ if j = m then s.heap.objs.size else A₀ j; split <;> omega⟩ hΓ hK hk (D.alloc hf (by rw [hg]; rfl)) (I.alloc o) (fun A τ hA hτ hn => ?_) fun A τ s' o' hA hτ hn ho D' I' => ?_
          · have hm : A m = s.heap.objs.size := (hA m (Nat.lt_succ_self _)).trans (if_pos rfl)
            have z := h A τ (fun j hj => (hA j (Nat.lt_succ_of_lt hj)).trans (if_neg (Nat.ne_of_lt hj))) hτ hn
            rw [hm] at z
            exact z
          · have hm : A m = s.heap.objs.size := (hA m (Nat.lt_succ_self _)).trans (if_pos rfl)
            have z := hR A τ s' o' (fun j hj => (hA j (Nat.lt_succ_of_lt hj)).trans (if_neg (Nat.ne_of_lt hj))) hτ hn
            rw [hm] at z
            exact z ho D' I'
    | fresh k =>
      rw [Sem.wp_fresh]
      have hag : ∀ τ, agr (i.1 + 1, i.2) τ (fun j => if j = 2 * i.1 then s.toks else τ₀ j) → τ (2 * i.1) = s.toks ∧ agr i τ τ₀ := fun τ h =>
        ⟨(h.1 i.1 (Nat.lt_succ_self _)).trans (if_pos rfl), fun j hj => (h.1 j (Nat.lt_succ_of_lt hj)).trans (if_neg (by omega)), fun j hj => (h.2 j hj).trans (if_neg (by omega))⟩
      refine ih (k s.toks) T m (i.1 + 1, i.2) cs e A₀ (fun j => if j = 2 * i.1 then s.toks else τ₀ j) _ Γ p K R ⟨fun j => by have h1 := D.toks.1; have h3 := hN.1 j; show G.N ≤ if j = 2 * i.1 then s.toks else τ₀ j; split <;> omega, hN.2⟩ hΓ hK ⟨fun j k h1 h2 => ?_, fun j hj => ?_⟩ (D.shared rfl (Nat.le_succ _)) ⟨I.le, I.keep, I.size, I.new, I.gens, I.drawn, I.os, Nat.le_succ_of_le I.toks⟩ (fun A τ hA hτ hn => ?_) fun A τ s' o' hA hτ hn ho D' I' => ?_
      · have h2' : k < i.1 + 1 := h2
        show (if 2 * j = 2 * i.1 then s.toks else τ₀ (2 * j)) < if 2 * k = 2 * i.1 then s.toks else τ₀ (2 * k)
        rw [if_neg (by omega)]
        by_cases q : k = i.1
        · subst q
          rw [if_pos rfl]
          exact (hk.2 j h1).2
        · rw [if_neg (by omega)]
          exact hk.1 j k h1 (by omega)
      · have hj' : j < i.1 + 1 := hj
        show 0 < (if 2 * j = 2 * i.1 then s.toks else τ₀ (2 * j)) ∧ (if 2 * j = 2 * i.1 then s.toks else τ₀ (2 * j)) < s.toks + 1
        by_cases q : j = i.1
        · rw [if_pos (by omega)]
          exact ⟨D.toks.2, Nat.lt_succ_self _⟩
        · rw [if_neg (by omega)]
          exact ⟨(hk.2 j (by omega)).1, Nat.lt_succ_of_lt (hk.2 j (by omega)).2⟩
      · obtain ⟨hm, hτ'⟩ := hag τ hτ
        have z := h A τ hA hτ' hn
        simp only [E] at z
        rw [hm] at z
        exact z
      · obtain ⟨hm, hτ'⟩ := hag τ hτ
        have z := hR A τ s' o' hA hτ' hn
        simp only [E] at z
        rw [hm] at z
        exact z ho D' I'
    | handled own k =>
      cases own with
      | true =>
        obtain ⟨o, ho, _⟩ := h0
        cases ho
      | false =>
        rw [Sem.wp_handled]
        have z := ih (k none) T m i cs e A₀ τ₀ s Γ p K R hN hΓ hK hk D I h hR
        rw [← hΓ.hd] at z
        exact z
    | call c hd g l k =>
      cases hd with
      | some _ =>
        obtain ⟨o, ho, _⟩ := h0
        cases ho
      | none =>
        rw [Sem.wp_call]
        have hqt : C.qt c = true := by
          obtain ⟨o, ho, _⟩ := h0
          cases q : C.qt c with
          | true => rfl
          | false => simp only [E, q] at ho; cases ho
        have hΓ' : CtxOk b (K.length + 1) (Γ.enter c none p) := hΓ.enter c p (H.qt c hqt).2
        cases cs with
        | nil =>
          obtain ⟨o, ho, _⟩ := h0
          simp only [E, hqt] at ho
          cases ho
        | cons q cs =>
          match q, h, hR, h0 with
          | 0, h, hR, _ =>
            simp only [E, hqt] at h hR
            refine code_den ?_
            have z := ih (C.den c) T m i cs e A₀ τ₀ s (Γ.enter c none p) p (⟨Γ, p, k⟩ :: K) R hN hΓ' ⟨hΓ, hK⟩ hk D I h hR
            rw [H.den] at z
            exact z
          | 1, h, hR, h0 =>
            cases cs with
            | nil =>
              obtain ⟨o, ho, _⟩ := h0
              simp only [E, hqt] at ho
              cases ho
            | cons q cs =>
              cases hl : Nat.ble (K.map (·.k)).length 15 with
              | false =>
                obtain ⟨o, ho, _⟩ := h0
                simp only [E, hqt, hl] at ho
                cases ho
              | true =>
                cases ht : C.ov q c with
                | none =>
                  obtain ⟨o, ho, _⟩ := h0
                  simp only [E, hqt, hl, ht] at ho
                  cases ho
                | some t' =>
                  simp only [E, hqt, hl, ht] at h hR
                  have hb : K.length ≤ 15 := by have := ble_true hl; rwa [List.length_map] at this
                  exact H.ov q c t' ht (Γ.enter c none p) p s _ rfl (hΓ'.lift (by omega)) D.base
                    (fun p' => ih t' T m i cs e A₀ τ₀ s (Γ.enter c none p) p' (⟨Γ, p, k⟩ :: K) R hN hΓ' ⟨hΓ, hK⟩ hk D I h hR)
          | 2, h, hR, h0 =>
            cases cs with
            | nil =>
              obtain ⟨o, ho, _⟩ := h0
              simp only [E, hqt] at ho
              cases ho
            | cons q cs =>
              cases hl : Nat.ble (K.map (·.k)).length 15 with
              | false =>
                obtain ⟨o, ho, _⟩ := h0
                simp only [E, hqt, hl] at ho
                cases ho
              | true =>
                have hb : K.length ≤ 15 := by have := ble_true hl; rwa [List.length_map] at this
                simp only [E, hqt, hl] at h hR
                refine H.sp q c A₀ τ₀ T m i (Γ.enter c none p) p s _ hN rfl (hΓ'.lift (by omega)) hk D (fun A τ hA hτ hn => ?_) (fun A τ s' o hA hτ hn ho hi hk' D' I' => ?_)
                · obtain ⟨o, ho, hx⟩ := h A τ hA hτ hn
                  cases hs : C.sp q c A τ T m i with
                  | none => rw [hs] at ho; cases ho
                  | some o' =>
                    refine ⟨o', rfl, fun x hm => ?_⟩
                    rw [hs] at ho
                    exact hx x (E_mono C A τ _ _ _ _ _ _ _ _ _ ho x (List.mem_append_left _ hm))
                · refine ih (k o.r) o.T o.m o.i cs (o.e ++ e) A τ s' Γ p K R hn hΓ hK hk' D' ((I.congr hA).trans I') (fun A' τ' hA' hτ' hn' => ?_) (fun A' τ' s'' o' hA' hτ' hn' ho' D'' I'' => ?_)
                  · have hs := H.spx q c A τ A' τ' T m i o (fun j o e => (D.own j o e).1) ho hA' hτ'
                    have hz := h A' τ' (fun j hj => (hA' j (Nat.lt_of_lt_of_le hj I'.le)).trans (hA j hj)) (hτ'.trans hi hτ) hn'
                    rw [hs] at hz
                    exact hz
                  · have hs := H.spx q c A τ A' τ' T m i o (fun j o e => (D.own j o e).1) ho hA' hτ'
                    have hz := hR A' τ' s'' o' (fun j hj => (hA' j (Nat.lt_of_lt_of_le hj I'.le)).trans (hA j hj)) (hτ'.trans hi hτ) hn'
                    rw [hs] at hz
                    exact hz ho' D'' I''
          | q + 3, _, _, h0 =>
            obtain ⟨o, ho, _⟩ := h0
            simp only [E, hqt] at ho
            cases ho
    | _ =>
      obtain ⟨o, ho, _⟩ := h0
      cases ho
end
end Mine
end
section
open PySem PySem.W
namespace Mine

/-- the depth's ask, without the look at the stack -/
noncomputable def limT (ns : Sem Nat) : Sem Unit := do
  let l ← ns
  match Nat.beq l 1000 with
  | true => pure ()
  | false => unsupported "limit"
noncomputable def enterJ (bnd : FuncData → Args → Sem (List (Str × Value)))
    (nfe : Scope → Addr → List (Str × Addr) → List (Str × Value) → Str → Option Addr → Value → Option Env → Addr → Sem Env) (ns : Sem Nat) (loc : Str)
    (self : Addr) (fd : FuncData) (args : Args) (q : Str) : Sem Fin :=
  bnd fd args >>= fun bs =>
  nfe fd.scope fd.globals fd.closure bs (q ++ loc) (some self) fd.code none fd.builtins >>= fun env =>
  limT ns >>= fun _ =>
  match fd.scope.isGenerator, fd.scope.isCoroutine with
  | false, false => again (match fd.body with
    | .stmts b => .func b env
    | .expr e => .expr e env)
  | _, _ => unsupported "a generator"
noncomputable def enterT (fld : Value → Nat → Sem Value) (bnd : FuncData → Args → Sem (List (Str × Value)))
    (nfe : Scope → Addr → List (Str × Addr) → List (Str × Value) → Str → Option Addr → Value → Option Env → Addr → Sem Env) (ns : Sem Nat) (loc : Str)
    (self : Addr) (fd : FuncData) (args : Args) : Sem Fin :=
  match fd.code with
    | .none => enterJ bnd nfe ns loc self fd args fd.qualname
    | c => fld c 1 >>= fun v => match v with
      | .str q _ => enterJ bnd nfe ns loc self fd args q
      | _ => enterJ bnd nfe ns loc self fd args fd.qualname

theorem wp_lim {M : Model} {Γ : Ctx} {p : Pos} {s : Shared} {Q : Unit → Pos → Shared → Prop} {X : Value → Pos → Shared → Prop} (hΓ : fr ((Γ.code, p) :: Γ.below) < 700)
    (h : Sem.wp M Γ (limT currentRecursionLimit) Q X p s) : Sem.wp M Γ (enterFrame) Q X p s := by
  unfold limT at h
  rw [Sem.wp_bind'] at h
  have hf : ∀ l : List (Code × Pos), (l.map (·.1)).map (·.frames) = l.map (·.1.frames) := fun l => by rw [List.map_map]; rfl
  unfold enterFrame
  rw [Sem.wp_bind']
  show Sem.wp M Γ stack _ _ _ _
  unfold stack
  rw [Sem.wp_stack, Sem.wp_pure]
  simp only [Nat.sub_zero]
  rw [Sem.wp_bind']
  refine Sem.wp_mono M Γ _ (fun l p' s' h' => ?_) (fun _ _ _ h' => h') p s h
  cases hl : Nat.beq l 1000 with
  | false => rw [hl] at h'; simp [unsupported] at h'
  | true =>
    rw [hl] at h'
    have hl' : l = 1000 := Nat.eq_of_beq_eq_true hl
    subst hl'
    have h2 : Q () p' s' := by simpa using h'
    have hfr : ((((Γ.code, p) :: Γ.below).map (·.1)).map (·.frames)).sum + ((((Γ.code, p) :: Γ.below).map (·.1)).filter Code.isCreation).length < 700 := hΓ
    have hnear : nearTheLimitUnderAClaim (((Γ.code, p) :: Γ.below).map (·.1)) ((((((Γ.code, p) :: Γ.below).map (·.1)).map (·.frames)).sum) + ((((Γ.code, p) :: Γ.below).map (·.1)).filter Code.isCreation).length) 1000 = false := by
      unfold nearTheLimitUnderAClaim
      rw [Bool.and_eq_false_iff]
      left
      have hm : claimMargin = 300 := rfl
      exact decide_eq_false (by rw [hm]; omega)
    have h3 : ¬ (((((Γ.code, p) :: Γ.below).map (·.1)).map (·.frames)).sum ≥ 1000) := by omega
    have h4 : ¬ (((((Γ.code, p) :: Γ.below).map (·.1)).map (·.frames)).sum + ((((Γ.code, p) :: Γ.below).map (·.1)).filter Code.isCreation).length ≥ 1000) := by omega
    split
    · rename_i hc
      exact absurd (hnear.symm.trans hc) (by decide)
    · repeat' split
      all_goals first
        | (rename_i hc; exact absurd hc h3)
        | (rename_i hc; exact absurd hc h4)
        | (show Sem.wp M Γ (Sem.pure ()) Q X p' s'; rw [Sem.wp_pure]; exact h2)

noncomputable def locs : Str := ".<locals>."
/-- the entry of a def of the text, its tree without the look at the stack -/
noncomputable def pyT (fld : Value → Nat → Sem Value) (bnd : FuncData → Args → Sem (List (Str × Value)))
    (nfe : Scope → Addr → List (Str × Addr) → List (Str × Value) → Str → Option Addr → Value → Option Env → Addr → Sem Env) (ns : Sem Nat) (loc : Str) (c : Code) : Option (Sem Fin) := match c with
  | .call f args => match f with
    | .ref a => some (.load a none fun o => match o.data with
      | .func fd => enterT fld bnd nfe ns loc a fd args
      | _ => unsupported "no def")
    | _ => none
  | _ => none

theorem wp_unsup {α : Type} {M : Model} {Γ : Ctx} {Q : α → Pos → Shared → Prop} {X : Value → Pos → Shared → Prop} {p : Pos} {s : Shared} {x : String} : ¬ Sem.wp M Γ (unsupported x) Q X p s := by
  unfold unsupported
  rw [Sem.wp_unsupported]
  exact id

theorem py_ok {prog : Program} {w : World} {c : Code} {t' : Sem Fin} (h : pyT field bindArgs (fun a b c d e f g h i => newFunctionEnv a b c d e f g h i) currentRecursionLimit locs c = some t') (Γ : Ctx) (p : Pos) (s : Shared) (R : Result → Shared → Prop) (hc : Γ.code = c) (hf : fr Γ.below ≤ 690)
    (hw : Sem.wp (model prog w) Γ t' (Sem.finPost (model prog w) Γ R) (fun x _ s' => R (.error x) s') p s) : wpCode (model prog w) Γ R p s := by
  cases c with
  | call f args =>
    cases f with
    | ref a =>
      simp only [pyT, Option.some.injEq] at h
      subst h
      refine code_den ?_
      rw [hc]
      show Sem.wp (model prog w) Γ (callAny (.ref a) args) _ _ p s
      unfold callAny
      rw [Sem.wp_bind']
      rw [Sem.wp_load] at hw
      obtain ⟨o, ho, hw⟩ := hw
      show Sem.wp (model prog w) Γ (load a) _ _ p s
      unfold load
      rw [Sem.wp_load]
      refine ⟨o, ho, ?_⟩
      rw [Sem.wp_pure]
      cases hd : o.data with
      | func fd =>
        rw [hd] at hw
        show Sem.wp (model prog w) Γ (callFunction a fd args) _ _ p s
        have hw : Sem.wp (model prog w) Γ (enterT field bindArgs (fun a b c d e f g h i => newFunctionEnv a b c d e f g h i) currentRecursionLimit locs a fd args) _ _ p s := hw
        have key : ∀ (q : Str) (p : Pos) (s : Shared), Sem.wp (model prog w) Γ (enterJ bindArgs (fun a b c d e f g h i => newFunctionEnv a b c d e f g h i) currentRecursionLimit locs a fd args q) (Sem.finPost (model prog w) Γ R) (fun x _ s' => R (.error x) s') p s →
            Sem.wp (model prog w) Γ (do
              let env ← newFunctionEnv fd.scope fd.globals fd.closure (← bindArgs fd args) (q ++ ".<locals>.") (some a) fd.code none fd.builtins
              enterFrame
              let code : Code := match fd.body with
                | .stmts b => .func b env
                | .expr e => .expr e env
              match fd.scope.isGenerator, fd.scope.isCoroutine with
              | false, false => again code
              | true, false => ret (← newGenerator code fd.name fd.qualname)
              | false, true => ret (← newCoroutine code fd.name fd.qualname)
              | true, true => ret (← newAsyncGenerator code fd.name fd.qualname) : Sem Fin) (Sem.finPost (model prog w) Γ R) (fun x _ s' => R (.error x) s') p s := by
          intro q p1 s1 h1
          unfold enterJ at h1
          rw [Sem.wp_bind'] at h1 ⊢
          refine Sem.wp_mono _ _ _ (fun bs p2 s2 h2 => ?_) (fun _ _ _ h' => h') p1 s1 h1
          rw [Sem.wp_bind'] at h2 ⊢
          refine Sem.wp_mono _ _ _ (fun env p3 s3 h3 => ?_) (fun _ _ _ h' => h') p2 s2 h2
          rw [Sem.wp_bind'] at h3 ⊢
          have hfr : fr ((Γ.code, p3) :: Γ.below) < 700 := by have := fr_cons Γ.code p3 Γ.below; omega
          refine wp_lim hfr (Sem.wp_mono _ _ _ (fun u p4 s4 h4 => ?_) (fun _ _ _ h' => h') p3 s3 h3)
          cases hg : fd.scope.isGenerator with
          | true => rw [hg] at h4; exact absurd h4 (by cases fd.scope.isCoroutine <;> exact wp_unsup)
          | false =>
            cases hk : fd.scope.isCoroutine with
            | true => rw [hg, hk] at h4; exact absurd h4 wp_unsup
            | false => rw [hg, hk] at h4; exact h4
        unfold enterT at hw
        unfold callFunction
        cases hcd : fd.code <;> rw [hcd] at hw <;> dsimp only at hw ⊢ <;> rw [Sem.wp_bind'] <;> first
          | (rw [Sem.wp_pure']; have z := key _ _ _ hw; rw [hcd] at z; exact z)
          | (rw [Sem.wp_bind'] at hw
             refine Sem.wp_mono _ _ _ (fun v p1 s1 h1 => ?_) (fun _ _ _ h' => h') p s hw
             cases v <;> dsimp only at h1 ⊢ <;> rw [Sem.wp_bind', Sem.wp_pure'] <;> (have z := key _ _ _ h1; rw [hcd] at z; exact z))
      | _ => rw [hd] at hw; exact absurd hw wp_unsup
    | _ => simp [pyT] at h
  | _ => simp [pyT] at h
end Mine
end
section
open PySem PySem.W
namespace Mine
noncomputable def mk1 (o : Obj) : Obj := { o with slots := #[none] }
noncomputable def mk0 (o : Obj) : Obj := { o with slots := #[] }
/-- two addresses shown to be one: a mark laid at the one is seen at the other -/
noncomputable def sameT {α : Type} (x a : Addr) (t : Sem α) : Sem α :=
  .load x none fun o1 => match o1.slots with
    | ⟨[]⟩ => .load a none fun o2 => match o2.slots with
      | ⟨[]⟩ => .update x none mk1 fun _ => .load a none fun o3 => match o3.slots with
        | ⟨[]⟩ => unsupported "another"
        | _ => .update x none mk0 fun _ => t
      | _ => unsupported "marked"
    | _ => unsupported "marked"
theorem update_back {h : Heap} {x : Addr} {o : Obj} (e : h.get? x = some o) (ho : mk0 (mk1 o) = o) : (h.update x mk1).update x mk0 = h := by
  obtain ⟨objs, l⟩ := h
  show (⟨(objs.modify x mk1).modify x mk0, l⟩ : Heap) = ⟨objs, l⟩
  congr 1
  have hx : objs[x]? = some o := by
    unfold Heap.get? at e
    dsimp only at e
    split at e
    · cases e
    · exact e
  apply Array.ext_getElem?
  intro i
  rw [Array.getElem?_modify, Array.getElem?_modify]
  by_cases q : x = i
  · subst q
    rw [if_pos rfl, if_pos rfl, hx]
    exact congrArg some ho
  · rw [if_neg q, if_neg q]
theorem sameT_ok {α : Type} {M : Model} {Γ : Ctx} {Q : α → Pos → Shared → Prop} {X : Value → Pos → Shared → Prop} {p : Pos} {s : Shared} {x a : Addr} {t : Sem α} (h : Sem.wp M Γ (sameT x a t) Q X p s) : x = a ∧ Sem.wp M Γ t Q X p s := by
  unfold sameT at h
  rw [Sem.wp_load] at h
  obtain ⟨o1, e1, h⟩ := h
  split at h
  · rename_i hs1
    rw [Sem.wp_load] at h
    obtain ⟨o2, e2, h⟩ := h
    split at h
    · rename_i hs2
      rw [Sem.wp_update] at h
      obtain ⟨_, h⟩ := h
      rw [Sem.wp_load] at h
      obtain ⟨o3, e3, h⟩ := h
      split at h
      · exact absurd h wp_unsup
      · rename_i hs3
        rw [Sem.wp_update] at h
        obtain ⟨_, h⟩ := h
        have hb : mk0 (mk1 o1) = o1 := by
          obtain ⟨c, d, da, sl⟩ := o1
          have : sl = #[] := hs1
          subst this
          rfl
        have hxa : x = a := by
          by_cases q : x = a
          · exact q
          · exfalso
            have hs : Heap.SameBut x s.heap (s.heap.update x mk1) := Heap.SameBut.update ..
            have := hs.2 a (Ne.symm q)
            have e3' : (s.heap.update x mk1).get? a = some o3 := e3
            rw [this, e2] at e3'
            cases e3'
            exact hs3 hs2
        refine ⟨hxa, ?_⟩
        have e : ({ s with heap := (s.heap.update x mk1).update x mk0 } : Shared) = s := by rw [update_back e1 hb]
        have h' : Sem.wp M Γ t Q X p { s with heap := (s.heap.update x mk1).update x mk0 } := h
        rw [e] at h'
        exact h'
    · exact absurd h wp_unsup
  · exact absurd h wp_unsup
noncomputable def diN : Nat := 39281955226987371715819988748603916315237
theorem diN_eq : PySem.code "dict_itemiterator" = diN := by decide +kernel
noncomputable def letNR2 (uf : Addr → Nat → Value → Sem Unit) (it v : Value) : Sem Unit := match it with
  | .ref r => match v with
    | .ref a => .load r none fun o => match o.cls with
      | .type n => match o.data with
        | .fields vs => match vs[0]? with
          | none => pure ()
          | some f => match f with
            | .none => pure ()
            | .ref _ => pure ()
            | .int i t => match i with
              | .ofNat x => match t with
                | 0 => match Nat.beq (PySem.code n) diN with
                  | true => sameT x a (.rule "for.unpacks-the-owned-tuple" fun _ => uf r 0 .none)
                  | false => unsupported "an iterator"
                | _ => unsupported "an iterator"
              | _ => unsupported "an iterator"
            | _ => unsupported "an iterator"
        | _ => pure ()
      | _ => pure ()
    | _ => pure ()
  | _ => pure ()
noncomputable def letNR (uf : Addr → Nat → Value → Sem Unit) (target : Expr) (it v : Value) : Sem Unit := match target with
  | .Tuple .. => letNR2 uf it v
  | .List .. => letNR2 uf it v
  | _ => pure ()
theorem letNR2_ok {M : Model} {Γ : Ctx} {Q : Unit → Pos → Shared → Prop} {X : Value → Pos → Shared → Prop} {p : Pos} {s : Shared} {it v : Value} (h : Sem.wp M Γ (letNR2 updateField it v) Q X p s) :
    Sem.wp M Γ (do
      let (.ref r, .ref a) := (it, v) | return
      let o ← load r
      match o.cls, o.data with
      | .type n, .fields vs =>
        if ["enumerate", "zip", "dict_itemiterator", "dict_reverseitemiterator", "odict_iterator", "itertools.zip_longest", "itertools.pairwise"].contains n && vs[0]? == some (rawInt a) then
          rule "for.unpacks-the-owned-tuple"
          updateField r 0 .none
      | _, _ => pure () : Sem Unit) Q X p s := by
  unfold letNR2 at h
  cases it with
  | ref r =>
    cases v with
    | ref a =>
      dsimp only at h ⊢
      rw [Sem.wp_load] at h
      obtain ⟨o, ho, h⟩ := h
      rw [Sem.wp_bind']
      show Sem.wp M Γ (load r) _ _ p s
      unfold load
      rw [Sem.wp_load]
      refine ⟨o, ho, ?_⟩
      rw [Sem.wp_pure]
      cases hc : o.cls with
      | type n =>
        cases hd : o.data with
        | fields vs =>
          rw [hc, hd] at h
          dsimp only at h ⊢
          cases hv : vs[0]? with
          | none => rw [hv] at h; simpa using h
          | some f =>
            rw [hv] at h
            dsimp only at h
            cases f with
            | none => simpa [rawInt] using h
            | ref b => simpa [rawInt] using h
            | int i t =>
              dsimp only at h
              cases i with
              | ofNat x =>
                dsimp only at h
                cases t with
                | zero =>
                  cases hn : Nat.beq (PySem.code n) diN with
                  | true =>
                    rw [hn] at h
                    have h : Sem.wp M Γ (sameT x a (.rule "for.unpacks-the-owned-tuple" fun _ => updateField r 0 .none)) Q X p s := h
                    obtain ⟨hxa, h9⟩ := sameT_ok h
                    subst hxa
                    have en : n = "dict_itemiterator" := PySem.code_inj _ _ ((Nat.eq_of_beq_eq_true hn).trans diN_eq.symm)
                    subst en
                    have hcond : (["enumerate", "zip", "dict_itemiterator", "dict_reverseitemiterator", "odict_iterator", "itertools.zip_longest", "itertools.pairwise"].contains "dict_itemiterator" && some (Value.int (Int.ofNat x) 0) == some (rawInt x)) = true := by
                      have e1 : (["enumerate", "zip", "dict_itemiterator", "dict_reverseitemiterator", "odict_iterator", "itertools.zip_longest", "itertools.pairwise"].contains "dict_itemiterator") = true := by decide +kernel
                      rw [e1, Bool.true_and]
                      have : (some (Value.int (Int.ofNat x) 0)) = some (rawInt x) := rfl
                      rw [this]
                      exact beq_self_eq_true _
                    rw [if_pos hcond]
                    exact h9
                  | false => rw [hn] at h; exact absurd h wp_unsup
                | succ t => exact absurd h wp_unsup
              | negSucc x => exact absurd h wp_unsup
            | _ => exact absurd h wp_unsup
        | _ => rw [hc, hd] at h; exact h
      | _ => rw [hc] at h; exact h
    | _ => exact h
  | _ => exact h
theorem letNR_ok {M : Model} {Γ : Ctx} {Q : Unit → Pos → Shared → Prop} {X : Value → Pos → Shared → Prop} {p : Pos} {s : Shared} {target : Expr} {it v : Value} (h : Sem.wp M Γ (letNR updateField target it v) Q X p s) : Sem.wp M Γ (letOwnedTupleGo target it v) Q X p s := by
  cases target <;> first | exact h | exact letNR2_ok h
end Mine
end
section
open PySem PySem.W
namespace Mine

theorem units_ok {L : Nat} {Γ : Ctx} (h : CtxOk L 0 Γ) (hL : L ≤ 690) : Γ.units < cLine := by
  have h1 := h.un
  have h3 := frames_le Γ.code
  have h4 : ∀ c : Code, c.cUnits ≤ 10 := by
    intro c
    have h3 := frames_le c
    unfold Code.cUnits
    split <;> omega
  have h5 := h4 Γ.code
  show Γ.code.cUnits + unitsOf Γ.below < 9900
  omega

/-- the first node, if it's a look at the stack, answered by the empty stack -/
noncomputable def hd0 {α : Type} (t : Sem α) : Sem α := match t with
  | .stack k => k []
  | t => t

theorem room_hd0 {α : Type} {M : Model} {Γ : Ctx} {Q : α → Pos → Shared → Prop} {X : Value → Pos → Shared → Prop} {p : Pos} {s : Shared} {what : String} {vs hv : List Value} {f : Unit → Sem α} (hu : Γ.units < cLine) (hr : vs.any Value.onHeap = true)
    (h : Sem.wp M Γ (hd0 (holding hv (cRoomFor what vs >>= f))) Q X p s) : Sem.wp M Γ (holding hv (cRoomFor what vs >>= f)) Q X p s := by
  rw [Sem.wp_holding, Sem.wp_bind']
  refine Sem.wp_cRoomFor (M := M) (Γ := Γ) what vs hu ?_
  unfold cRoomFor at h
  rw [hr] at h
  simp only [if_true] at h
  rw [holding_eq_keep] at h
  have e : hd0 (Sem.keep (hv.filter Value.isRef) (cRoom what >>= f)) = Sem.keep (hv.filter Value.isRef) (f ()) := by rfl
  rw [e, Sem.wp_keep] at h
  exact h

theorem rich_hd0 {M : Model} {Γ : Ctx} {Q : Value → Pos → Shared → Prop} {X : Value → Pos → Shared → Prop} {p : Pos} {s : Shared} {op : CmpOp} {a b : Addr} (hu : Γ.units < cLine)
    (h : Sem.wp M Γ (hd0 (richCompare op (.ref a) (.ref b))) Q X p s) : Sem.wp M Γ (richCompare op (.ref a) (.ref b)) Q X p s := by
  unfold richCompare at h ⊢
  exact room_hd0 hu rfl h

/-- the functions that the room-free trees lean on -/
structure Fns where
  ev : Expr → Env → Sem Value
  tr : Expr → Env → Sem Value → Sem Bool
  exs : List Stmt → Env → Sem Flow
  cmp : CmpOp → Value → Value → Sem Value
  sws : List Expr → Expr → Nat → Env → Sem Bool
  sst : List Expr → Expr → Env → Sem (Option (List Str))
  ast : Env → Value → Option (List Str) → List (Value → Sem Unit) → Sem Flow
  ase : List Expr → Env → List (Bool × (Value → Sem Unit))
  tru : Value → Sem Bool
  nxt : Value → Sem (Option Value)
  let' : Expr → Value → Value → Sem Unit
  asg : Expr → Env → Value → Sem Unit
  opr : List Value → Sem Value → Sem Value
  hol : (α : Type) → List Value → Sem α → Sem α
noncomputable def F0 : Fns := { ev := eval, tr := isTrue, exs := execs, cmp := compareOp, sws := swapsWithSole, sst := swappedStores, ast := assignStores, ase := assignEach, tru := truthy, nxt := pyNext, let' := letNR updateField, asg := assign, opr := operate, hol := fun _ vs m => holding vs m }

noncomputable def cmpNR (F : Fns) (l r : Value) : Sem Value := match l with
  | .ref a => match r with
    | .ref b => hd0 (F.cmp .NotEq (.ref a) (.ref b))
    | r => F.cmp .NotEq (.ref a) r
  | l => F.cmp .NotEq l r
noncomputable def cmpView (e : Expr) : Option (Expr × Expr × Pos) := match e with
  | .Compare l ops rs pos => match ops with
    | [.NotEq] => match rs with
      | [r] => some (l, r, pos)
      | _ => none
    | _ => none
  | _ => none
theorem cmpView_eq {e l r : Expr} {pos : Pos} (h : cmpView e = some (l, r, pos)) : e = .Compare l [.NotEq] [r] pos := by
  unfold cmpView at h
  repeat' split at h
  all_goals first | (cases h; done) | (cases h; rfl)
inductive SV where
  | ifs (test : Expr) (body orelse : List Stmt) (pos : Pos)
  | asg (targets : List Expr) (test a b : Expr) (ipos pos : Pos)
  | no
noncomputable def stView (s : Stmt) : SV := match s with
  | .If test body orelse pos => .ifs test body orelse pos
  | .Assign targets value pos => match value with
    | .IfExp test a b ipos => .asg targets test a b ipos pos
    | _ => .no
  | _ => .no
theorem stView_if {s : Stmt} {test body orelse pos} (h : stView s = .ifs test body orelse pos) : s = .If test body orelse pos := by
  unfold stView at h
  repeat' split at h
  all_goals first | (cases h; done) | (cases h; rfl)
theorem stView_asg {s : Stmt} {targets test a b ipos pos} (h : stView s = .asg targets test a b ipos pos) : s = .Assign targets (.IfExp test a b ipos) pos := by
  unfold stView at h
  repeat' split at h
  all_goals first | (cases h; done) | (cases h; rfl)
noncomputable def testNR (F : Fns) (test : Expr) (env : Env) : Sem Bool := match cmpView test with
  | some (l, r, pos) => F.ev l env >>= fun lv => F.hol Value [lv] (F.ev r env) >>= fun rv => standAt pos >>= fun _ => F.opr [lv, rv] (cmpNR F lv rv) >>= fun c => F.hol Bool [c] (F.tru c)
  | none => F.tr test env (F.ev test env)
noncomputable def exNR (F : Fns) : Nat → List Stmt → Env → Sem Flow
  | 0, b, env => F.exs b env
  | n + 1, b, env => match b with
    | [] => pure .next
    | s :: rest => (match stView s with
      | .ifs test body orelse pos => standAt pos >>= fun _ => testNR F test env >>= fun b => match b with
          | true => exNR F n body env
          | false => exNR F n orelse env
      | .asg targets test a b ipos pos => standAt pos >>= fun _ => F.sws targets (.IfExp test a b ipos) pos.line env >>= fun z => match z with
            | true => unsupported "a swap"
            | false => (testNR F test env >>= fun c => match c with
              | true => F.ev a env
              | false => F.ev b env) >>= fun v => F.sst targets (.IfExp test a b ipos) env >>= fun x => F.ast env v x ((F.ase targets env).map (·.2))
      | .no => F.exs [s] env) >>= fun f => match f with
          | .next => exNR F n rest env
          | f => pure f
noncomputable def forNR (F : Fns) (n : Nat) (target : Expr) (it : Value) (body orelse : List Stmt) (env : Env) : Sem Fin :=
  standAt target.pos >>= fun _ => F.nxt it >>= fun r => match r with
  | none => again (.block orelse env)
  | some v => F.let' target it v >>= fun _ => F.asg target env v >>= fun _ => exNR F n body env >>= fun f => match f with
    | .next => again (.forLoop target it body orelse env)
    | .cont => again (.forLoop target it body orelse env)
    | .brk => pure (.done .next)
    | .ret v => pure (.done (.ret v))

section
variable {M : Model} {Γ : Ctx} {X : Value → Pos → Shared → Prop}
theorem bind_mono {α β : Type} {m m' : Sem α} {f f' : α → Sem β} {Q : β → Pos → Shared → Prop} {p : Pos} {s : Shared} (hm : ∀ (Q : α → Pos → Shared → Prop) p s, Sem.wp M Γ m Q X p s → Sem.wp M Γ m' Q X p s) (hf : ∀ a p s, Sem.wp M Γ (f a) Q X p s → Sem.wp M Γ (f' a) Q X p s)
    (h : Sem.wp M Γ (m >>= f) Q X p s) : Sem.wp M Γ (m' >>= f') Q X p s := by
  rw [Sem.wp_bind'] at h ⊢
  exact hm _ p s (Sem.wp_mono _ _ _ (fun a p' s' h' => hf a p' s' h') (fun _ _ _ h' => h') p s h)

theorem cmp_ne (l r : Value) : compareOp .NotEq l r = richCompare .NotEq l r := by unfold compareOp; rfl
theorem cmpNR_ref (F : Fns) (a b : Addr) : cmpNR F (.ref a) (.ref b) = hd0 (F.cmp .NotEq (.ref a) (.ref b)) := by unfold cmpNR; with_reducible rfl
theorem F0_cmp : F0.cmp = compareOp := by unfold F0; with_reducible rfl
theorem cmpNR_no (l r : Value) (h : ∀ a b, ¬ (l = .ref a ∧ r = .ref b)) (F : Fns) : cmpNR F l r = F.cmp .NotEq l r := by
  cases l with
  | ref a =>
    cases r with
    | ref b => exact absurd ⟨rfl, rfl⟩ (h a b)
    | _ => unfold cmpNR; with_reducible rfl
  | _ => unfold cmpNR; with_reducible rfl
theorem cmpNR_ok (hu : Γ.units < cLine) (l r : Value) (Q : Value → Pos → Shared → Prop) (p : Pos) (s : Shared) (h : Sem.wp M Γ (cmpNR F0 l r) Q X p s) : Sem.wp M Γ (compareOp .NotEq l r) Q X p s := by
  by_cases hz : ∃ a b, l = .ref a ∧ r = .ref b
  · obtain ⟨a, b, rfl, rfl⟩ := hz
    rw [cmpNR_ref, F0_cmp, cmp_ne] at h
    rw [cmp_ne]
    exact rich_hd0 hu h
  · rw [cmpNR_no l r (fun a b q => hz ⟨a, b, q⟩), F0_cmp] at h
    exact h
theorem opr_mono {m m' : Sem Value} {vs : List Value} (hm : ∀ (Q : Value → Pos → Shared → Prop) p s, Sem.wp M Γ m Q X p s → Sem.wp M Γ m' Q X p s) (Q : Value → Pos → Shared → Prop) (p : Pos) (s : Shared) (h : Sem.wp M Γ (operate vs m) Q X p s) : Sem.wp M Γ (operate vs m') Q X p s := by
  have e : ∀ m : Sem Value, operate vs m = (holding vs m >>= fun r => release vs [r] >>= fun _ => pure r) := fun _ => rfl
  rw [e, Sem.wp_bind', Sem.wp_holding] at h ⊢
  exact hm _ p s h
theorem behind_no (e : Expr) : behindInMarks .NotEq e = false := by
  cases e <;> first | rfl | (unfold behindInMarks; simp; done) | (unfold behindInMarks; decide)
theorem isTrue_ne (l r : Expr) (pos : Pos) (env : Env) (w : Sem Value) : isTrue (.Compare l [.NotEq] [r] pos) env w = (eval l env >>= fun lv => (holding [lv] (eval r env) >>= fun rv => standAt pos >>= fun _ => operate [lv, rv] (compareOp .NotEq lv rv) >>= fun c => holding [c] (truthy c))) := by
  have e1 : isTrue (.Compare l [.NotEq] [r] pos) env w = (eval l env >>= fun lv => testChain pos lv [.NotEq] (markedEach [.NotEq] [r] (evalEach [r] env))) := rfl
  have e2 : markedEach [.NotEq] [r] (evalEach [r] env) = [eval r env] := by
    show [markedBehindIn .NotEq r (eval r env)] = _
    unfold markedBehindIn
    rw [behind_no]
  rw [e1, e2]
  rfl
theorem testNR_ok (hu : Γ.units < cLine) (test : Expr) (env : Env) (Q : Bool → Pos → Shared → Prop) (p : Pos) (s : Shared) (h : Sem.wp M Γ (testNR F0 test env) Q X p s) : Sem.wp M Γ (isTrue test env (eval test env)) Q X p s := by
  unfold testNR at h
  cases hv : cmpView test with
  | none => rw [hv] at h; exact h
  | some x =>
    obtain ⟨l, r, pos⟩ := x
    rw [hv] at h
    have e := cmpView_eq hv
    subst e
    rw [isTrue_ne]
    refine bind_mono (fun _ _ _ h => h) (fun lv p s h => ?_) h
    refine bind_mono (fun _ _ _ h => h) (fun rv p s h => ?_) h
    refine bind_mono (fun _ _ _ h => h) (fun _ p s h => ?_) h
    exact bind_mono (fun Q p s h => opr_mono (fun Q p s h => cmpNR_ok hu lv rv Q p s h) Q p s h) (fun _ _ _ h => h) h
theorem exs1 (st : Stmt) (env : Env) (Q : Flow → Pos → Shared → Prop) (p : Pos) (s : Shared) (h : Sem.wp M Γ (execs [st] env) Q X p s) : Sem.wp M Γ (exec st env) Q X p s := by
  have e : execs [st] env = (exec st env >>= fun f => match f with | .next => execs [] env | f => pure f) := rfl
  rw [e, Sem.wp_bind'] at h
  refine Sem.wp_mono _ _ _ (fun f p' s' h' => ?_) (fun _ _ _ h' => h') p s h
  cases f with
  | next =>
    have e : execs [] env = (pure .next : Sem Flow) := rfl
    rw [e] at h'
    simpa using h'
  | _ => simpa using h'
theorem exNR_ok (hu : Γ.units < cLine) : ∀ (n : Nat) (b : List Stmt) (env : Env) (Q : Flow → Pos → Shared → Prop) (p : Pos) (s : Shared), Sem.wp M Γ (exNR F0 n b env) Q X p s → Sem.wp M Γ (execs b env) Q X p s
  | 0, _, _, _, _, _, h => h
  | n + 1, [], _, _, _, _, h => h
  | n + 1, st :: rest, env, Q, p, s, h => by
    have e : execs (st :: rest) env = (exec st env >>= fun f => match f with | .next => execs rest env | f => pure f) := rfl
    rw [e]
    have tail : ∀ (f : Flow) (p : Pos) (s : Shared), Sem.wp M Γ (match f with | .next => exNR F0 n rest env | f => pure f) Q X p s → Sem.wp M Γ (match f with | .next => execs rest env | f => pure f) Q X p s := by
      intro f p s h
      cases f with
      | next => exact exNR_ok hu n rest env Q p s h
      | _ => exact h
    refine bind_mono (fun Q p s h => ?_) tail h
    cases hv : stView st with
    | ifs test body orelse pos =>
      have e := stView_if hv
      subst e
      rw [hv] at h
      show Sem.wp M Γ (standAt pos >>= fun _ => isTrue test env (eval test env) >>= fun b => if b then execs body env else execs orelse env) Q X p s
      refine bind_mono (fun _ _ _ h => h) (fun _ p s h => ?_) h
      refine bind_mono (fun Q p s h => testNR_ok hu test env Q p s h) (fun b p s h => ?_) h
      cases b with
      | true => exact exNR_ok hu n body env Q p s h
      | false => exact exNR_ok hu n orelse env Q p s h
    | asg targets test a b ipos pos =>
      have e := stView_asg hv
      subst e
      rw [hv] at h
      show Sem.wp M Γ (standAt pos >>= fun _ => swapsWithSole targets (.IfExp test a b ipos) pos.line env >>= fun z => if z then (do
          evalThenUse (.IfExp test a b ipos) env fun v => assignAll v ((assignEach targets env).map (·.2))
          pure .next) else (do
          let v ← eval (.IfExp test a b ipos) env
          assignStores env v (← swappedStores targets (.IfExp test a b ipos) env) ((assignEach targets env).map (·.2)))) Q X p s
      refine bind_mono (fun _ _ _ h => h) (fun _ p s h => ?_) h
      refine bind_mono (fun _ _ _ h => h) (fun z p s h => ?_) h
      cases z with
      | true => exact absurd h wp_unsup
      | false =>
        show Sem.wp M Γ ((isTrue test env (eval test env) >>= fun c => if c then eval a env else eval b env) >>= fun v => swappedStores targets (.IfExp test a b ipos) env >>= fun x => assignStores env v x ((assignEach targets env).map (·.2))) Q X p s
        refine bind_mono (fun Q p s h => ?_) (fun _ _ _ h => h) h
        refine bind_mono (fun Q p s h => testNR_ok hu test env Q p s h) (fun c p s h => ?_) h
        cases c with
        | true => exact h
        | false => exact h
    | no => rw [hv] at h; exact exs1 st env Q p s h
end

noncomputable def forT (F : Fns) (ctc : Sem Fin → (Value → Sem Fin) → Sem Fin) (c : Code) : Option (Sem Fin) := match c with
  | .forLoop target it body orelse env => some (ctc (forNR F 3 target it body orelse env) fun _ => unsupported "a raise")
  | _ => none
theorem for_ok {prog : Program} {w : World} {c : Code} {t' : Sem Fin} (h : forT F0 Sem.tryCatch c = some t') (Γ : Ctx) (p : Pos) (s : Shared) (R : Result → Shared → Prop) (hc : Γ.code = c) (hu : Γ.units < cLine)
    (hw : Sem.wp (model prog w) Γ t' (Sem.finPost (model prog w) Γ R) (fun x _ s' => R (.error x) s') p s) : wpCode (model prog w) Γ R p s := by
  cases c with
  | forLoop target it body orelse env =>
    simp only [forT, Option.some.injEq] at h
    subst h
    have hw : Sem.wp (model prog w) Γ (forNR F0 3 target it body orelse env) (Sem.finPost (model prog w) Γ R) (fun _ _ _ => False) p s := by
      have z := hw
      rw [Sem.wp_tryCatch] at z
      exact Sem.wp_mono _ _ _ (fun _ _ _ h' => h') (fun _ _ _ h' => absurd h' wp_unsup) p s z
    refine code_den ?_
    rw [hc]
    show Sem.wp (model prog w) Γ ((forTurn target it body orelse env).onRaise _) _ _ p s
    rw [Sem.wp_onRaise]
    have main : Sem.wp (model prog w) Γ (forTurn target it body orelse env) (Sem.finPost (model prog w) Γ R) (fun _ _ _ => False) p s := by
      have e : forTurn target it body orelse env = (standAt target.pos >>= fun _ => (pyNext it).onRaise (fun _ => standAt { target.pos with line := 0 }) >>= fun r => match r with
        | none => again (.block orelse env)
        | some v => letOwnedTupleGo target it v >>= fun _ => assign target env v >>= fun _ => execs body env >>= fun f => match f with
          | .next => again (.forLoop target it body orelse env)
          | .cont => again (.forLoop target it body orelse env)
          | .brk => pure (.done .next)
          | .ret v => pure (.done (.ret v))) := by
        unfold forTurn
        refine congrArg _ (funext fun _ => congrArg _ (funext fun r => ?_))
        cases r with
        | none => rfl
        | some v =>
          refine congrArg _ (funext fun _ => congrArg _ (funext fun _ => congrArg _ (funext fun f => ?_)))
          cases f <;> rfl
      rw [e]
      unfold forNR at hw
      refine bind_mono (fun _ _ _ h => h) (fun _ p s h => ?_) hw
      refine bind_mono (fun Q p s h => ?_) (fun r p s h => ?_) h
      · rw [Sem.wp_onRaise]
        exact Sem.wp_mono _ _ _ (fun _ _ _ h' => h') (fun _ _ _ h' => h'.elim) p s h
      · cases r with
        | none => exact h
        | some v =>
          refine bind_mono (fun _ _ _ h => letNR_ok h) (fun _ p s h => ?_) h
          refine bind_mono (fun _ _ _ h => h) (fun _ p s h => ?_) h
          refine bind_mono (fun Q p s h => exNR_ok hu 3 body env Q p s h) (fun f p s h => ?_) h
          cases f <;> exact h
    exact Sem.wp_mono _ _ _ (fun _ _ _ h' => h') (fun _ _ _ h' => h'.elim) p s main
  | _ => simp [forT] at h
end Mine
end
section
open PySem PySem.W
set_option maxRecDepth 100000
namespace Mine
theorem str_new_eq (a : Addr) : Builtin.«str.__new__» ⟨[.type "str", .ref a], []⟩ = (Builtin.Str.strOf (.ref a) >>= fun m => ret m) := by kernel_rfl
theorem entry_list_new : entryFor table "list.__new__" = some Builtin.«list.__new__» := entryFor_of_fast (by kernel_rfl)
theorem entry_str_new : entryFor table "str.__new__" = some Builtin.«str.__new__» := entryFor_of_fast (by kernel_rfl)
noncomputable def litN (s : String) : Nat := PySem.code s
noncomputable def listNewN : Nat := 29827186395103491167075199597
noncomputable def strNewN : Nat := 116512446855873012371256692
theorem listNewN_eq : PySem.code "list.__new__" = listNewN := by decide +kernel
theorem strNewN_eq : PySem.code "str.__new__" = strNewN := by decide +kernel
theorem codeN {id : String} {s : String} {n : Nat} (e : PySem.code s = n) (h : Nat.beq (PySem.code id) n = true) : id = s := PySem.code_inj _ _ ((Nat.eq_of_beq_eq_true h).trans e.symm)

noncomputable def strTN : Nat := 7566708
noncomputable def hdC (c : Code) (t : Sem Fin) : Sem Fin := match t with
  | .stack k => k [(c, default)]
  | t => t
noncomputable def lnewT (bl : Builtin) (c : Code) : Option (Sem Fin) := match c with
  | .builtin id args => match Nat.beq (PySem.code id) listNewN with
    | true => some (hdC c (bl args))
    | false => none
  | _ => none
theorem den_b {prog : Program} {w : World} {id : String} {args : Args} {b : Builtin} (h : entryFor table id = some b) : (model prog w).den (.builtin id args) = b args := by
  show (match entryFor table id with | some b => b args | none => _) = _
  rw [h]
theorem lnewT_is {bl : Builtin} {c : Code} {t' : Sem Fin} (h : lnewT bl c = some t') : ∃ id args, c = .builtin id args ∧ Nat.beq (PySem.code id) listNewN = true ∧ t' = hdC c (bl args) := by
  unfold lnewT at h
  split at h
  · rename_i id args
    split at h
    · rename_i hn
      exact ⟨id, args, rfl, hn, (Option.some.inj h).symm⟩
    · cases h
  · cases h
theorem lnew_stack (args : Args) : ∃ k : List (Code × Pos) → Sem Fin, Builtin.«list.__new__» args = .stack k ∧ ∀ args' p p' below below', k ((.builtin "list.__new__" args', p) :: below) = k ((.builtin "list.__new__" args', p') :: below') := ⟨_, rfl, fun _ _ _ _ _ => rfl⟩
theorem lnew_ok0 {prog : Program} {w : World} {args : Args} (Γ : Ctx) (p : Pos) (s : Shared) (R : Result → Shared → Prop) (hc : Γ.code = .builtin "list.__new__" args)
    (hw : Sem.wp (model prog w) Γ (hdC (.builtin "list.__new__" args) (Builtin.«list.__new__» args)) (Sem.finPost (model prog w) Γ R) (fun x _ s' => R (.error x) s') p s) : wpCode (model prog w) Γ R p s := by
  obtain ⟨k, hk, hkk⟩ := lnew_stack args
  rw [hk] at hw
  refine code_den ?_
  rw [hc, den_b entry_list_new, hk, Sem.wp_stack, hc, hkk args p default Γ.below []]
  exact hw
theorem lnew_ok {prog : Program} {w : World} {c : Code} {t' : Sem Fin} (h : lnewT Builtin.«list.__new__» c = some t') (Γ : Ctx) (p : Pos) (s : Shared) (R : Result → Shared → Prop) (hc : Γ.code = c)
    (hw : Sem.wp (model prog w) Γ t' (Sem.finPost (model prog w) Γ R) (fun x _ s' => R (.error x) s') p s) : wpCode (model prog w) Γ R p s := by
  obtain ⟨id, args, h1, h2, h3⟩ := lnewT_is h
  have e : id = "list.__new__" := codeN listNewN_eq h2
  rw [h1, e] at hc
  rw [h3, h1, e] at hw
  exact lnew_ok0 Γ p s R hc hw

noncomputable def snewT (so : Value → Sem Value) (bnd : Sem Value → (Value → Sem Fin) → Sem Fin) (c : Code) : Option (Sem Fin) := match c with
  | .builtin id args => match Nat.beq (PySem.code id) strNewN with
    | true => match args with
      | ⟨[.type T, .ref a], []⟩ => match Nat.beq (PySem.code T) strTN with
        | true => some (bnd (hd0 (so (.ref a))) fun m => ret m)
        | false => none
      | _ => none
    | false => none
  | _ => none
theorem strN_eq : PySem.code "str" = strTN := by decide +kernel
theorem strOf_ref (a : Addr) : ∃ f : Unit → Sem Value, Builtin.Str.strOf (.ref a) = (cRoomFor "str" [.ref a] >>= f) := ⟨_, rfl⟩
theorem snewT_is {so : Value → Sem Value} {bnd : Sem Value → (Value → Sem Fin) → Sem Fin} {c : Code} {t' : Sem Fin} (h : snewT so bnd c = some t') : ∃ id T a, c = .builtin id ⟨[.type T, .ref a], []⟩ ∧ Nat.beq (PySem.code id) strNewN = true ∧ Nat.beq (PySem.code T) strTN = true ∧ t' = bnd (hd0 (so (.ref a))) fun m => ret m := by
  unfold snewT at h
  split at h
  · split at h
    · rename_i hn
      split at h
      · split at h
        · rename_i hT
          exact ⟨_, _, _, rfl, hn, hT, (Option.some.inj h).symm⟩
        · cases h
      · cases h
    · cases h
  · cases h
theorem snew_ok0 {prog : Program} {w : World} {a : Addr} (Γ : Ctx) (p : Pos) (s : Shared) (R : Result → Shared → Prop) (hc : Γ.code = .builtin "str.__new__" ⟨[.type "str", .ref a], []⟩) (hu : Γ.units < cLine)
    (hw : Sem.wp (model prog w) Γ (hd0 (Builtin.Str.strOf (.ref a)) >>= fun m => ret m) (Sem.finPost (model prog w) Γ R) (fun x _ s' => R (.error x) s') p s) : wpCode (model prog w) Γ R p s := by
  obtain ⟨f, hf⟩ := strOf_ref a
  refine code_den ?_
  rw [hc, den_b entry_str_new, str_new_eq a]
  refine bind_mono (fun Q p s h => ?_) (fun _ _ _ h => h) hw
  rw [hf] at h ⊢
  exact room_hd0 (hv := []) hu rfl h
theorem snew_ok {prog : Program} {w : World} {c : Code} {t' : Sem Fin} (h : snewT Builtin.Str.strOf Sem.bind c = some t') (Γ : Ctx) (p : Pos) (s : Shared) (R : Result → Shared → Prop) (hc : Γ.code = c) (hu : Γ.units < cLine)
    (hw : Sem.wp (model prog w) Γ t' (Sem.finPost (model prog w) Γ R) (fun x _ s' => R (.error x) s') p s) : wpCode (model prog w) Γ R p s := by
  obtain ⟨id, T, a, h1, h2, h3, h4⟩ := snewT_is h
  have e : id = "str.__new__" := codeN strNewN_eq h2
  have e2 : T = "str" := codeN strN_eq h3
  rw [h1, e, e2] at hc
  rw [h4] at hw
  exact snew_ok0 Γ p s R hc hu hw
end Mine
end
section
open PySem PySem.W
namespace Mine
theorem entry_is : entryFor table "proto.is" = some Builtin.«proto.is» := entryFor_of_fast (by kernel_rfl)
noncomputable def txNe (a b : Str) : Bool := !(a == b)
noncomputable def isNR (F : Fns) (l r : Value) : Sem Value := match l with
  | .str a t => match r with
    | .str b u => match txNe a b with
      | true => .call (.builtin "proto.is" ⟨[.str a t, .str b u], []⟩) none false [] fun r => match r with
        | .ok f => match f with
          | .ret v => match v with
            | .bool x => .pure (.bool (!x))
            | _ => unsupported "is"
          | _ => unsupported "is"
        | _ => unsupported "is"
      | false => F.cmp .IsNot (.str a t) (.str b u)
    | r => F.cmp .IsNot (.str a t) r
  | l => F.cmp .IsNot l r
noncomputable def isView (e : Expr) : Option (Expr × Expr × Pos) := match e with
  | .Compare l ops rs pos => match ops with
    | [.IsNot] => match rs with
      | [r] => some (l, r, pos)
      | _ => none
    | _ => none
  | _ => none
theorem isView_eq {e l r : Expr} {pos : Pos} (h : isView e = some (l, r, pos)) : e = .Compare l [.IsNot] [r] pos := by
  unfold isView at h
  repeat' split at h
  all_goals first | (cases h; done) | (cases h; rfl)
noncomputable def orView (e : Expr) : Option (Expr × Expr × Pos) := match e with
  | .BoolOp op vs pos => match op with
    | .Or => match vs with
      | [a, b] => some (a, b, pos)
      | _ => none
    | _ => none
  | _ => none
theorem orView_eq {e l r : Expr} {pos : Pos} (h : orView e = some (l, r, pos)) : e = .BoolOp .Or [l, r] pos := by
  unfold orView at h
  repeat' split at h
  all_goals first | (cases h; done) | (cases h; rfl)
noncomputable def testI (F : Fns) (test : Expr) (env : Env) : Sem Bool := match isView test with
  | some (l, r, pos) => F.ev l env >>= fun lv => F.hol Value [lv] (F.ev r env) >>= fun rv => standAt pos >>= fun _ => F.opr [lv, rv] (isNR F lv rv) >>= fun c => F.hol Bool [c] (F.tru c)
  | none => F.tr test env (F.ev test env)
noncomputable def testW (F : Fns) (test : Expr) (env : Env) : Sem Bool := match orView test with
  | some (a, b, _) => F.tr a env (F.ev a env) >>= fun x => match x with
    | true => pure true
    | false => testI F b env
  | none => F.tr test env (F.ev test env)
noncomputable def exW (F : Fns) : Nat → List Stmt → Env → Sem Flow
  | 0, b, env => F.exs b env
  | n + 1, b, env => match b with
    | [] => pure .next
    | s :: rest => (match stView s with
      | .ifs test body orelse pos => standAt pos >>= fun _ => testW F test env >>= fun b => match b with
          | true => exW F n body env
          | false => exW F n orelse env
      | _ => F.exs [s] env) >>= fun f => match f with
          | .next => exW F n rest env
          | f => pure f
noncomputable def whileW (F : Fns) (n : Nat) (test : Expr) (body orelse : List Stmt) (env : Env) : Sem Fin :=
  F.tr test env (F.ev test env) >>= fun b => match b with
  | true => exW F n body env >>= fun f => match f with
    | .next => again (.whileLoop test body orelse env)
    | .cont => again (.whileLoop test body orelse env)
    | .brk => pure (.done .next)
    | .ret v => pure (.done (.ret v))
  | false => F.exs orelse env >>= fun f => pure (.done f)
noncomputable def whileT (F : Fns) (ctc : Sem Fin → (Value → Sem Fin) → Sem Fin) (c : Code) : Option (Sem Fin) := match c with
  | .whileLoop test body orelse env => some (ctc (whileW F 7 test body orelse env) fun _ => unsupported "a raise")
  | _ => none

section
variable {prog : Program} {w : World} {Γ : Ctx} {X : Value → Pos → Shared → Prop}
theorem isNR_no (F : Fns) (l r : Value) (h : ∀ a t b u, ¬ (l = .str a t ∧ r = .str b u)) : isNR F l r = F.cmp .IsNot l r := by
  cases l with
  | str a t =>
    cases r with
    | str b u => exact absurd ⟨rfl, rfl⟩ (h a t b u)
    | _ => unfold isNR; with_reducible rfl
  | _ => unfold isNR; with_reducible rfl
theorem cmp_isnot (l r : Value) : compareOp .IsNot l r = (isSame l r >>= fun b => pure (.bool (!b))) := by unfold compareOp; rfl
theorem isNR_ok (l r : Value) (Q : Value → Pos → Shared → Prop) (p : Pos) (s : Shared) (h : Sem.wp (model prog w) Γ (isNR F0 l r) Q X p s) : Sem.wp (model prog w) Γ (compareOp .IsNot l r) Q X p s := by
  by_cases hz : ∃ a t b u, l = .str a t ∧ r = .str b u
  · obtain ⟨a, t, b, u, rfl, rfl⟩ := hz
    cases hn : txNe a b with
    | false =>
      have e : isNR F0 (.str a t) (.str b u) = F0.cmp .IsNot (.str a t) (.str b u) := by unfold isNR; dsimp only; rw [hn]
      rw [e, F0_cmp] at h
      exact h
    | true =>
      unfold isNR at h
      dsimp only at h
      rw [hn] at h
      dsimp only at h
      rw [Sem.wp_call, wpCode_iff_wp] at h
      have hd : (model prog w).den (.builtin "proto.is" ⟨[.str a t, .str b u], []⟩) = (isSame (.str a t) (.str b u) >>= fun x => ret (.bool x)) := by
        rw [den_b entry_is]; rfl
      have hq : (a == b) = false := by
        unfold txNe at hn
        cases q : (a == b) with
        | false => rfl
        | true => rw [q] at hn; cases hn
      rw [show ((Γ.enter (Code.builtin "proto.is" ⟨[.str a t, .str b u], []⟩) none p).code) = Code.builtin "proto.is" ⟨[.str a t, .str b u], []⟩ from rfl, hd, Sem.wp_bind'] at h
      rw [cmp_isnot, Sem.wp_bind']
      have e0 : isSame (.str a t) (.str b u) = (if (t == 0 || u == 0) = true then unsupported "internal:private-int-reached-python" else if (t == u) = true then pure true else if (!(a == b)) = true then pure false else (do
          if ← sharingNotTold t then unsupported "is:whether-what-a-reader-has-made-is-one-object-with-an-equal-value-is-not-told"
          if ← sharingNotTold u then unsupported "is:whether-what-a-reader-has-made-is-one-object-with-an-equal-value-is-not-told"
          rule "is.world.by-value"
          let w := (← ask).params
          return w.mergeTok t == w.mergeTok u) : Sem Bool) := rfl
      rw [e0] at h ⊢
      rw [hq] at h ⊢
      cases h0 : (t == 0 || u == 0) with
      | true => rw [h0] at h; exact absurd h wp_unsup
      | false =>
        rw [h0] at h
        cases h1 : (t == u) with
        | true =>
          rw [h1] at h
          simp only [Bool.false_eq_true, if_false, if_true] at h ⊢
          change Sem.wp _ _ (Sem.pure true) _ _ p s at h
          rw [Sem.wp_pure] at h
          change Sem.wp _ _ (Sem.pure (Fin.done (Flow.ret (.bool true)))) _ _ p s at h
          rw [Sem.wp_pure] at h
          have h' := h
          have h2 : Sem.wp (model prog w) Γ (Sem.pure (Value.bool (!true))) Q X p s := h'
          exact h2
        | false =>
          rw [h1] at h
          simp only [Bool.false_eq_true, if_false, Bool.not_false, if_true] at h ⊢
          change Sem.wp _ _ (Sem.pure false) _ _ p s at h
          rw [Sem.wp_pure] at h
          change Sem.wp _ _ (Sem.pure (Fin.done (Flow.ret (.bool false)))) _ _ p s at h
          rw [Sem.wp_pure] at h
          have h' := h
          have h2 : Sem.wp (model prog w) Γ (Sem.pure (Value.bool (!false))) Q X p s := h'
          exact h2
  · rw [isNR_no F0 l r (fun a t b u q => hz ⟨a, t, b, u, q⟩), F0_cmp] at h
    exact h
theorem behind_isnot (e : Expr) : behindInMarks .IsNot e = false := by
  cases e <;> first | rfl | (unfold behindInMarks; simp; done) | (unfold behindInMarks; decide)
theorem isTrue_isnot (l r : Expr) (pos : Pos) (env : Env) (w : Sem Value) : isTrue (.Compare l [.IsNot] [r] pos) env w = (eval l env >>= fun lv => (holding [lv] (eval r env) >>= fun rv => standAt pos >>= fun _ => operate [lv, rv] (compareOp .IsNot lv rv) >>= fun c => holding [c] (truthy c))) := by
  have e1 : isTrue (.Compare l [.IsNot] [r] pos) env w = (eval l env >>= fun lv => testChain pos lv [.IsNot] (markedEach [.IsNot] [r] (evalEach [r] env))) := rfl
  have e2 : markedEach [.IsNot] [r] (evalEach [r] env) = [eval r env] := by
    show [markedBehindIn .IsNot r (eval r env)] = _
    unfold markedBehindIn
    rw [behind_isnot]
  rw [e1, e2]
  rfl
theorem testI_ok (test : Expr) (env : Env) (Q : Bool → Pos → Shared → Prop) (p : Pos) (s : Shared) (h : Sem.wp (model prog w) Γ (testI F0 test env) Q X p s) : Sem.wp (model prog w) Γ (isTrue test env (eval test env)) Q X p s := by
  unfold testI at h
  cases hv : isView test with
  | none => rw [hv] at h; exact h
  | some x =>
    obtain ⟨l, r, pos⟩ := x
    rw [hv] at h
    have e := isView_eq hv
    subst e
    rw [isTrue_isnot]
    refine bind_mono (fun _ _ _ h => h) (fun lv p s h => ?_) h
    refine bind_mono (fun _ _ _ h => h) (fun rv p s h => ?_) h
    refine bind_mono (fun _ _ _ h => h) (fun _ p s h => ?_) h
    exact bind_mono (fun Q p s h => opr_mono (fun Q p s h => isNR_ok lv rv Q p s h) Q p s h) (fun _ _ _ h => h) h
theorem isTrue_or (a b : Expr) (pos : Pos) (env : Env) (w : Sem Value) : isTrue (.BoolOp .Or [a, b] pos) env w = (isTrue a env (eval a env) >>= fun x => match x with
    | true => pure true
    | false => isTrue b env (eval b env) >>= fun y => match y with
      | true => pure true
      | false => pure false) := by
  show (isTrue a env (eval a env) >>= fun x => _) = _
  refine congrArg _ (funext fun x => ?_)
  cases x with
  | true => rfl
  | false =>
    show (isTrue b env (eval b env) >>= fun y => _) = _
    refine congrArg _ (funext fun y => ?_)
    cases y <;> rfl
theorem testW_ok (test : Expr) (env : Env) (Q : Bool → Pos → Shared → Prop) (p : Pos) (s : Shared) (h : Sem.wp (model prog w) Γ (testW F0 test env) Q X p s) : Sem.wp (model prog w) Γ (isTrue test env (eval test env)) Q X p s := by
  unfold testW at h
  cases hv : orView test with
  | none => rw [hv] at h; exact h
  | some x =>
    obtain ⟨a, b, pos⟩ := x
    rw [hv] at h
    have e := orView_eq hv
    subst e
    rw [isTrue_or]
    refine bind_mono (fun _ _ _ h => h) (fun x p s h => ?_) h
    cases x with
    | true => exact h
    | false =>
      have h' := testI_ok b env Q p s h
      dsimp only
      rw [Sem.wp_bind']
      refine Sem.wp_mono _ _ _ (fun y p' s' h' => ?_) (fun _ _ _ h' => h') p s h'
      cases y with
      | true =>
        show Sem.wp (model prog w) Γ (Sem.pure true) Q X p' s'
        rw [Sem.wp_pure]; exact h'
      | false =>
        show Sem.wp (model prog w) Γ (Sem.pure false) Q X p' s'
        rw [Sem.wp_pure]; exact h'
theorem exW_ok : ∀ (n : Nat) (b : List Stmt) (env : Env) (Q : Flow → Pos → Shared → Prop) (p : Pos) (s : Shared), Sem.wp (model prog w) Γ (exW F0 n b env) Q X p s → Sem.wp (model prog w) Γ (execs b env) Q X p s
  | 0, _, _, _, _, _, h => h
  | n + 1, [], _, _, _, _, h => h
  | n + 1, st :: rest, env, Q, p, s, h => by
    have e : execs (st :: rest) env = (exec st env >>= fun f => match f with | .next => execs rest env | f => pure f) := rfl
    rw [e]
    have tail : ∀ (f : Flow) (p : Pos) (s : Shared), Sem.wp (model prog w) Γ (match f with | .next => exW F0 n rest env | f => pure f) Q X p s → Sem.wp (model prog w) Γ (match f with | .next => execs rest env | f => pure f) Q X p s := by
      intro f p s h
      cases f with
      | next => exact exW_ok n rest env Q p s h
      | _ => exact h
    refine bind_mono (fun Q p s h => ?_) tail h
    cases hv : stView st with
    | ifs test body orelse pos =>
      have e := stView_if hv
      subst e
      rw [hv] at h
      show Sem.wp (model prog w) Γ (standAt pos >>= fun _ => isTrue test env (eval test env) >>= fun b => if b then execs body env else execs orelse env) Q X p s
      refine bind_mono (fun _ _ _ h => h) (fun _ p s h => ?_) h
      refine bind_mono (fun Q p s h => testW_ok test env Q p s h) (fun b p s h => ?_) h
      cases b with
      | true => exact exW_ok n body env Q p s h
      | false => exact exW_ok n orelse env Q p s h
    | asg targets test a b ipos pos => rw [hv] at h; exact exs1 st env Q p s h
    | no => rw [hv] at h; exact exs1 st env Q p s h
theorem whileW_ok (n : Nat) (test : Expr) (body orelse : List Stmt) (env : Env) (Q : Fin → Pos → Shared → Prop) (p : Pos) (s : Shared) (h : Sem.wp (model prog w) Γ (whileW F0 n test body orelse env) Q X p s) : Sem.wp (model prog w) Γ (whileTurn test body orelse env) Q X p s := by
  have e : whileTurn test body orelse env = (isTrue test env (eval test env) >>= fun b => match b with
      | true => execs body env >>= fun f => match f with
        | .next => again (.whileLoop test body orelse env)
        | .cont => again (.whileLoop test body orelse env)
        | .brk => pure (.done .next)
        | .ret v => pure (.done (.ret v))
      | false => execs orelse env >>= fun f => pure (.done f)) := by
    unfold whileTurn
    refine congrArg _ (funext fun b => ?_)
    cases b with
    | true =>
      show (execs body env >>= fun f => _) = _
      refine congrArg _ (funext fun f => ?_)
      cases f <;> rfl
    | false => rfl
  rw [e]
  refine bind_mono (fun _ _ _ h => h) (fun b p s h => ?_) h
  cases b with
  | true => exact bind_mono (fun Q p s h => exW_ok n body env Q p s h) (fun _ _ _ h => h) h
  | false => exact h
theorem while_ok {c : Code} {t' : Sem Fin} (h : whileT F0 Sem.tryCatch c = some t') (p : Pos) (s : Shared) (R : Result → Shared → Prop) (hc : Γ.code = c)
    (hw : Sem.wp (model prog w) Γ t' (Sem.finPost (model prog w) Γ R) (fun x _ s' => R (.error x) s') p s) : wpCode (model prog w) Γ R p s := by
  cases c with
  | whileLoop test body orelse env =>
    simp only [whileT, Option.some.injEq] at h
    subst h
    have hw : Sem.wp (model prog w) Γ (whileW F0 7 test body orelse env) (Sem.finPost (model prog w) Γ R) (fun _ _ _ => False) p s := by
      have z := hw
      rw [Sem.wp_tryCatch] at z
      exact Sem.wp_mono _ _ _ (fun _ _ _ h' => h') (fun _ _ _ h' => absurd h' wp_unsup) p s z
    refine code_den ?_
    rw [hc]
    show Sem.wp (model prog w) Γ ((whileTurn test body orelse env).onRaise _) _ _ p s
    rw [Sem.wp_onRaise]
    refine Sem.wp_mono _ _ _ (fun _ _ _ h' => h') (fun _ _ _ h' => h'.elim) p s (whileW_ok 7 test body orelse env _ p s hw)
  | _ => simp [whileT] at h
end
end Mine
end
section
open PySem PySem.W
namespace Mine
open Builtin.List
/-! list.__init__ over a range: no look whether the range is the list itself -/
structure FnL where
  li : Value → Sem (Array Value)
  lu : Value → (Array Value → Array Value) → Sem Unit
  lg : List Value → List Value → Sem Unit
  ty : Value → Sem Value
  pi : Value → Sem Value
  lh : Value → Sem Bool
  lt : Value → Sem Unit
  hol : List Value → Sem Bool → Sem Bool
noncomputable def L0 : FnL := { li := listItems, lu := listUpdate, lg := fun r k => letGo r k, ty := typeOf, pi := pyIter, lh := listLengthHint, lt := listTouch, hol := fun vs m => holding vs m }
noncomputable def listN : Nat := 1970563693
noncomputable def rangeN : Nat := 439838794355
noncomputable def listInitN : Nat := 7635756109259221455878126594669
theorem listN_eq : PySem.code "list" = listN := by decide +kernel
theorem rangeN_eq : PySem.code "range" = rangeN := by decide +kernel
theorem listInitN_eq : PySem.code "list.__init__" = listInitN := by decide +kernel
noncomputable def tyN (v : Value) (n : Nat) : Bool := match v with
  | .type T => Nat.beq (PySem.code T) n
  | _ => false
theorem tyN_is {v : Value} {n : Nat} {T : String} (e : PySem.code T = n) (h : tyN v n = true) : v = .type T := by
  unfold tyN at h
  split at h
  · exact congrArg Value.type (codeN e h)
  · cases h
noncomputable def linitB (F : FnL) (S I : Addr) : Sem Fin :=
  F.li (.ref S) >>= fun old => F.lu (.ref S) (fun _ => #[]) >>= fun _ => F.lg old.toList.reverse [] >>= fun _ => F.ty (.ref I) >>= fun t => match tyN t rangeN with
  | true => F.pi (.ref I) >>= fun iter => F.hol [iter] (F.lh (.ref I)) >>= fun room => match room with
    | true => rule "list.extend.makes-room" >>= fun _ => F.lt (.ref S) >>= fun _ => again (.builtin "list.extend.loop" ⟨[.ref S, iter, .none], []⟩)
    | false => again (.builtin "list.extend.loop" ⟨[.ref S, iter, .none], []⟩)
  | false => unsupported "no range"
noncomputable def linitT (F : FnL) (c : Code) : Option (Sem Fin) := match c with
  | .builtin id args => match Nat.beq (PySem.code id) listInitN with
    | true => match args with
      | ⟨ps, kw⟩ => match kw with
        | [] => match ps with
          | [.ref S, .ref I] => some (.load S none fun oS => .load I none fun oI => match tyN oS.cls listN with
            | true => match tyN oI.cls rangeN with
              | true => linitB F S I
              | false => unsupported "no range"
            | false => unsupported "no list")
          | _ => none
        | _ => none
    | false => none
  | _ => none
theorem entry_list_init : entryFor table "list.__init__" = some Builtin.«list.__init__» := entryFor_of_fast (by kernel_rfl)
theorem linitT_is {F : FnL} {c : Code} {t' : Sem Fin} (h : linitT F c = some t') : ∃ S I, c = .builtin "list.__init__" ⟨[.ref S, .ref I], []⟩ ∧ t' = (.load S none fun oS => .load I none fun oI => match tyN oS.cls listN with
            | true => match tyN oI.cls rangeN with
              | true => linitB F S I
              | false => unsupported "no range"
            | false => unsupported "no list") := by
  unfold linitT at h
  split at h
  · rename_i id args
    split at h
    · rename_i hn
      have := codeN listInitN_eq hn
      subst this
      split at h
      · rename_i ps kw
        split at h
        · split at h
          · cases h
            exact ⟨_, _, rfl, rfl⟩
          · cases h
        · cases h
    · cases h
  · cases h
theorem linit_eq (S I : Addr) (hne : S ≠ I) (Γ : Ctx) (M : Model) (Q : Fin → Pos → Shared → Prop) (X : Value → Pos → Shared → Prop) (p : Pos) (s : Shared) (h : Sem.wp M Γ (linitB L0 S I) Q X p s) :
    Sem.wp M Γ (Builtin.«list.__init__» ⟨[.ref S, .ref I], []⟩) Q X p s := by
  show Sem.wp M Γ (listItems (.ref S) >>= fun old => listUpdate (.ref S) (fun _ => #[]) >>= fun _ => letGo old.toList.reverse [] >>= fun _ => listExtendWith (.ref S) (.ref I) .none) Q X p s
  unfold linitB at h
  refine bind_mono (fun _ _ _ h => h) (fun old p s h => ?_) h
  refine bind_mono (fun _ _ _ h => h) (fun _ p s h => ?_) h
  refine bind_mono (fun _ _ _ h => h) (fun _ p s h => ?_) h
  unfold listExtendWith
  refine bind_mono (fun _ _ _ h => h) (fun t p s h => ?_) h
  cases ht : tyN t rangeN with
  | false => rw [ht] at h; exact absurd h wp_unsup
  | true =>
    rw [ht] at h
    have e := tyN_is rangeN_eq ht
    subst e
    have h1 : listSameRef (.ref S) (.ref I) = false := by simp [listSameRef, hne]
    have h2 : (Value.type "range" == Value.type "list") = false := by decide
    have h3 : (Value.type "range" == Value.type "tuple") = false := by decide
    simp only [h1, h2, h3, Bool.or_false, Bool.false_eq_true, if_false]
    refine bind_mono (fun _ _ _ h => h) (fun iter p s h => ?_) h
    refine bind_mono (fun _ _ _ h => h) (fun room p s h => ?_) h
    cases room with
    | true => exact h
    | false => exact h
theorem linit_ok {prog : Program} {w : World} {c : Code} {t' : Sem Fin} (h : linitT L0 c = some t') (Γ : Ctx) (p : Pos) (s : Shared) (R : Result → Shared → Prop) (hc : Γ.code = c)
    (hw : Sem.wp (model prog w) Γ t' (Sem.finPost (model prog w) Γ R) (fun x _ s' => R (.error x) s') p s) : wpCode (model prog w) Γ R p s := by
  obtain ⟨S, I, rfl, rfl⟩ := linitT_is h
  refine code_den ?_
  rw [hc, den_b entry_list_init]
  rw [Sem.wp_load] at hw
  obtain ⟨oS, hS, hw⟩ := hw
  rw [Sem.wp_load] at hw
  obtain ⟨oI, hI, hw⟩ := hw
  cases q1 : tyN oS.cls listN with
  | false => rw [q1] at hw; exact absurd hw wp_unsup
  | true =>
    cases q2 : tyN oI.cls rangeN with
    | false => rw [q1, q2] at hw; exact absurd hw wp_unsup
    | true =>
      rw [q1, q2] at hw
      have hne : S ≠ I := fun e => by
        subst e
        rw [hS] at hI
        cases hI
        have a := tyN_is listN_eq q1
        have b := tyN_is rangeN_eq q2
        rw [a] at b
        injection b with b
        exact absurd b (by decide)
      exact linit_eq S I hne Γ _ _ _ p s hw
end Mine
end
section
open PySem PySem.W
namespace Mine

noncomputable def denT : Code → Sem Fin := Fast.tw11892475500146522536 Fast.tw14364793385576792824
theorem denT_eq : denT = denote table := by
  unfold denT
  rw [← Fast.te11892475500146522536, ← Fast.te14364793385576792824, ← table_eq_tree]
noncomputable def locsT : Str := ⟨#[46, 60, 108, 111, 99, 97, 108, 115, 62, 46]⟩
theorem locsT_eq : locsT = locs := by decide +kernel
noncomputable def pyTT : Code → Option (Sem Fin) := pyT Fast.tw6609576154772507232 Fast.tw9782568553167038054 (fun a b c d e f g h i => Fast.tw11113344188204177931 a b c d e f g h i) Fast.tw2211186353215096513 locsT
theorem pyTT_eq : pyTT = pyT field bindArgs (fun a b c d e f g h i => newFunctionEnv a b c d e f g h i) currentRecursionLimit locs := by
  unfold pyTT
  rw [← Fast.te6609576154772507232, ← Fast.te9782568553167038054, ← Fast.te11113344188204177931, ← Fast.te2211186353215096513, locsT_eq]

/-- iterators that are their own iterators -/
noncomputable def selfIter (T : String) : Bool := T == "list_iterator" || (T == "bytes_iterator" || (T == "str_ascii_iterator" || (T == "range_iterator" || (T == "str_iterator" || T == "tuple_iterator"))))
theorem slot_bytes_iterator_iter : Slot "bytes_iterator" "__iter__" "bytes_iterator.__iter__" :=
  .of (owner := "bytes_iterator") (n := "__iter__") (by rw [typeLookup_type, builtinLookup_eq_fast]; kernel_rfl) (by decide +kernel) (by decide +kernel) (by decide +kernel)
    (by first | exact .inl (by decide +kernel) | exact .inr (by decide +kernel)) (by rw [isSubtype_type]; kernel_rfl)
theorem slot_bytes_iterator_next : Slot "bytes_iterator" "__next__" "bytes_iterator.__next__" :=
  .of (owner := "bytes_iterator") (n := "__next__") (by rw [typeLookup_type, builtinLookup_eq_fast]; kernel_rfl) (by decide +kernel) (by decide +kernel) (by decide +kernel)
    (by first | exact .inl (by decide +kernel) | exact .inr (by decide +kernel)) (by rw [isSubtype_type]; kernel_rfl)
theorem entry_bytes_iterator_iter : entryFor table "bytes_iterator.__iter__" = some Builtin.«dict_keyiterator.__iter__» :=
  entryFor_alias (id' := "dict_keyiterator.__iter__") (by kernel_rfl) rfl (by decide +kernel) (by kernel_rfl)
theorem args_bytes_iterator_iter (a : Value) : argsOk "bytes_iterator.__iter__" ⟨[a], []⟩ := by unfold argsOk; kernel_rfl

noncomputable def TypeAt (s : Shared) (it : Addr) (T : String) : Prop := s.TypeIs (.ref it) T
theorem pyIter_self {prog : Program} {w : World} {A : Around} {X : Value → Shared → Prop} {s : Shared} {Q : Value → Shared → Prop} {it : Addr} {T : String} (hT : s.TypeIs (.ref it) T) (h : selfIter T = true) (hQ : Q (.ref it) s) :
    wpAny (model prog w) A (pyIter (.ref it)) Q X s := by
  unfold selfIter at h
  simp only [Bool.or_eq_true, beq_iff_eq] at h
  rcases h with h | h | h | h | h | h <;> subst h
  · refine wpAny_pyIter_slot hT slot_listiter_iter (wpAny_call_entry slot_listiter_iter hT entry_listiter_iter ?_ (args_listiter_iter _))
    show wpAny _ _ (ret (.ref it)) _ _ s
    exact wpAny_pure ⟨_, rfl, "list_iterator", _, hT, slot_listiter_next.lookup, hQ⟩
  · refine wpAny_pyIter_slot hT slot_bytes_iterator_iter (wpAny_call_entry slot_bytes_iterator_iter hT entry_bytes_iterator_iter ?_ (args_bytes_iterator_iter _))
    show wpAny _ _ (ret (.ref it)) _ _ s
    exact wpAny_pure ⟨_, rfl, "bytes_iterator", _, hT, slot_bytes_iterator_next.lookup, hQ⟩
  · refine wpAny_pyIter_slot hT F.slot_str_ascii_iterator_iter (wpAny_call_entry F.slot_str_ascii_iterator_iter hT F.entry_str_ascii_iterator_iter ?_ (F.args_str_ascii_iterator_iter_1 _))
    show wpAny _ _ (ret (.ref it)) _ _ s
    exact wpAny_pure ⟨_, rfl, "str_ascii_iterator", _, hT, F.slot_str_ascii_iterator_next.lookup, hQ⟩
  · refine wpAny_pyIter_slot hT F.slot_range_iterator_iter (wpAny_call_entry F.slot_range_iterator_iter hT F.entry_range_iterator_iter ?_ (F.args_range_iterator_iter_1 _))
    show wpAny _ _ (ret (.ref it)) _ _ s
    exact wpAny_pure ⟨_, rfl, "range_iterator", _, hT, F.slot_range_iterator_next.lookup, hQ⟩
  · refine wpAny_pyIter_slot hT F.slot_str_iterator_iter (wpAny_call_entry F.slot_str_iterator_iter hT F.entry_str_iterator_iter ?_ (F.args_str_iterator_iter_1 _))
    show wpAny _ _ (ret (.ref it)) _ _ s
    exact wpAny_pure ⟨_, rfl, "str_iterator", _, hT, F.slot_str_iterator_next.lookup, hQ⟩
  · refine wpAny_pyIter_slot hT F.slot_tuple_iterator_iter (wpAny_call_entry F.slot_tuple_iterator_iter hT F.entry_tuple_iterator_iter ?_ (F.args_tuple_iterator_iter_1 _))
    show wpAny _ _ (ret (.ref it)) _ _ s
    exact wpAny_pure ⟨_, rfl, "tuple_iterator", _, hT, F.slot_tuple_iterator_next.lookup, hQ⟩

noncomputable def cmpT (c : Code) : Option (Sem Fin) := match c with
  | .compStart e d it acc env => match it with
    | .ref a => match ((clausesOf e)[d]?).elim false (·.is_async != 0) with
      | true => none
      | false => some (.load a none fun o => match o.cls with
        | .type T => match selfIter T with
          | true => .pure (.again (.compLoop e d (.ref a) acc env))
          | false => unsupported "no iterator"
        | _ => unsupported "no iterator")
    | _ => none
  | _ => none
theorem cmp_ok {prog : Program} {w : World} {c : Code} {t' : Sem Fin} (h : cmpT c = some t') (Γ : Ctx) (p : Pos) (s : Shared) (R : Result → Shared → Prop) (hc : Γ.code = c)
    (hw : ∀ p', Sem.wp (model prog w) Γ t' (Sem.finPost (model prog w) Γ R) (fun x _ s' => R (.error x) s') p' s) : wpCode (model prog w) Γ R p s := by
  cases c with
  | compStart e d it acc env =>
    cases it with
    | ref a =>
      simp only [cmpT] at h
      cases ha : ((clausesOf e)[d]?).elim false (·.is_async != 0) with
      | true => rw [ha] at h; cases h
      | false =>
        rw [ha] at h
        simp only [Option.some.injEq] at h
        subst h
        have key : ∃ T, s.TypeIs (.ref a) T ∧ selfIter T = true ∧ ∀ p', (Code.compLoop e d (.ref a) acc env).quiet = true ∧ wpCode (model prog w) (Γ.goto (.compLoop e d (.ref a) acc env)) R p' s := by
          have h0 := hw p
          rw [Sem.wp_load] at h0
          obtain ⟨o, ho, h0⟩ := h0
          cases hT : o.cls with
          | type T =>
            cases hs : selfIter T with
            | true =>
              refine ⟨T, ⟨o, ho, hT⟩, hs, fun p' => ?_⟩
              have h1 := hw p'
              rw [Sem.wp_load] at h1
              obtain ⟨o', ho', h1⟩ := h1
              rw [ho] at ho'
              cases ho'
              rw [hT] at h1
              dsimp only at h1
              rw [hs] at h1
              dsimp only at h1
              rw [Sem.wp_pure] at h1
              exact h1
            | false => rw [hT] at h0; dsimp only at h0; rw [hs] at h0; exact absurd h0 wp_unsup
          | _ => rw [hT] at h0; exact absurd h0 wp_unsup
        obtain ⟨T, hT, hs, key⟩ := key
        refine code_den ?_
        rw [hc]
        have main : ∀ (X : Value → Pos → Shared → Prop), Sem.wp (model prog w) Γ (compStart e d (.ref a) acc env) (Sem.finPost (model prog w) Γ R) X p s := by
          intro X
          unfold compStart
          rw [ha]
          simp only [Bool.false_eq_true, if_false]
          rw [Sem.wp_bind']
          show Sem.wp _ _ ask _ _ _ _
          unfold ask
          rw [Sem.wp_ask, Sem.wp_pure]
          split
          · exact key p
          · rw [Sem.wp_bind']
            show Sem.wp _ _ (rule _) _ _ _ _
            unfold rule
            rw [Sem.wp_rule, Sem.wp_pure]
            have A : ∀ (p' : Pos), Sem.wp (model prog w) Γ (pyIter (.ref a) >>= fun x => again (.compLoop e d x acc env)) (Sem.finPost (model prog w) Γ R) X p' s := by
              intro p'
              have hin : Γ.In { handled := Γ.handled, depth := frameCount Γ.below + Γ.code.weight, units := Γ.units } :=
                ⟨rfl, Nat.le_refl _, fun l hl => (nomatch hl), fun g hg => (nomatch hg), Nat.le_refl _⟩
              rw [Sem.wp_bind']
              have z := pyIter_self (prog := prog) (w := w) (A := { handled := Γ.handled, depth := frameCount Γ.below + Γ.code.weight, units := Γ.units }) (X := fun _ _ => False) (Q := fun x s' => x = .ref a ∧ s' = s) hT hs ⟨rfl, rfl⟩ Γ p' hin
              refine Sem.wp_mono _ _ _ (fun x p2 s2 h2 => ?_) (fun _ _ _ h' => h'.elim) p' s z
              obtain ⟨rfl, rfl⟩ := h2
              exact key p2
            split
            · rw [Sem.wp_bind']
              show Sem.wp _ _ (standAt _) _ _ _ _
              unfold standAt
              rw [Sem.wp_at, Sem.wp_pure]
              exact A _
            · exact A _
        show Sem.wp (model prog w) Γ (if (Code.compStart e d (.ref a) acc env).isFrame then _ else _) _ _ p s
        split <;> (rw [Sem.wp_onRaise]; exact main _)
    | _ => simp [cmpT] at h
  | _ => simp [cmpT] at h

noncomputable def qtL (l : List Char) : Bool := match l with
  | _ :: _ :: c :: l => match Nat.beq c.val.toNat 102 with
      | true => false
      | false => match Nat.beq c.val.toNat 97 with
        | false => true
        | true => match l with
          | d :: _ => !Nat.beq d.val.toNat 105
          | _ => true
  | _ => true
noncomputable def qtT (c : Code) : Bool := match c with
  | .builtin id _ => qtL (S.toListS id)
  | _ => true
theorem qtL_life (r : List Char) : qtL ('l' :: 'i' :: 'f' :: r) = false := rfl
theorem qtL_call : qtL "claim.caller".toList = false := by decide
theorem qtT_ok (c : Code) (h : qtT c = true) : c.quiet = true ∧ c.isCaller = false := by
  cases c with
  | builtin id args =>
    refine ⟨Code.quiet_builtin args ?_, ?_⟩
    · cases hs : id.startsWith "lifetime." with
      | false => rfl
      | true =>
        exfalso
        rw [String.startsWith_string_iff] at hs
        obtain ⟨r, hr⟩ := hs
        have e : id.toList = 'l' :: 'i' :: 'f' :: ("etime.".toList ++ r) := hr.symm
        rw [S.toListS_eq] at e
        simp only [qtT, e, qtL_life] at h
        cases h
    · cases hc : (Code.builtin id args).isCaller with
      | false => rfl
      | true =>
        exfalso
        unfold Code.isCaller at hc
        split at hc
        · rename_i e
          injection e with e1 _
          subst e1
          simp only [qtT, S.toListS_eq, qtL_call] at h
          cases h
        · cases hc
  | _ => exact ⟨rfl, rfl⟩

noncomputable def rowN : Nat := 10139888712337904147300001983332972444938612
theorem rowN_eq : PySem.code "special-get-raises" = rowN := by decide +kernel
noncomputable def rowM : Nat := 2831041637402183652179144184793551905427079684854878925927
theorem rowM_eq : PySem.code "fstring-hands-on-the-str" = rowM := by decide +kernel
noncomputable def flw (P : Params) (b : Bool × Bool) : Params := { P with followText := fun r => match Nat.beq (PySem.code r) rowN with | true => b.1 | false => match Nat.beq (PySem.code r) rowM with | true => b.2 | false => P.followText r }
noncomputable def rows (P : Params) : Bool × Bool := (P.followText "special-get-raises", P.followText "fstring-hands-on-the-str")
theorem flw_self (P : Params) : flw P (rows P) = P := by
  have e : (fun r => match Nat.beq (PySem.code r) rowN with | true => (rows P).1 | false => match Nat.beq (PySem.code r) rowM with | true => (rows P).2 | false => P.followText r) = P.followText := by
    funext r
    cases h : Nat.beq (PySem.code r) rowN with
    | false =>
      cases h' : Nat.beq (PySem.code r) rowM with
      | false => rfl
      | true =>
        have : r = "fstring-hands-on-the-str" := PySem.code_inj _ _ ((Nat.eq_of_beq_eq_true h').trans rowM_eq.symm)
        rw [this]
        rfl
    | true =>
      have : r = "special-get-raises" := PySem.code_inj _ _ ((Nat.eq_of_beq_eq_true h).trans rowN_eq.symm)
      rw [this]
      rfl
  obtain ⟨a1, a2, a3, a4, a5, a6, a7, a8, a9⟩ := P
  unfold flw
  simp only [Params.mk.injEq, true_and, and_true]
  exact e

noncomputable abbrev SpF := Nat → Code → (Nat → Nat) → (Nat → Nat) → BT → Nat → Nat × Nat → Option Out
noncomputable abbrev ZF := List Addr → List (Option Obj) → Prop
noncomputable def FT : Fns := { ev := Fast.tw14044960220447912780, tr := Fast.tw15418851999007992765, exs := Fast.tw12563942051412417395, cmp := Fast.tw12886488535604756494, sws := Fast.tw7783108440312521181, sst := Fast.tw4016559146275205325, ast := Fast.tw2470068587113613483, ase := Fast.tw15628205474173192105, tru := Fast.tw15245631507167962100, nxt := Fast.tw9404975358583537561, let' := letNR Fast.tw12367529300394763782, asg := Fast.tw17772580674575903948, opr := Fast.tw8004119333741010377, hol := fun _ vs m => Fast.tw17359229931016689406 vs m }
theorem FT_eq : FT = F0 := by
  unfold FT F0
  rw [← Fast.te14044960220447912780, ← Fast.te15418851999007992765, ← Fast.te12563942051412417395, ← Fast.te12886488535604756494, ← Fast.te7783108440312521181, ← Fast.te4016559146275205325, ← Fast.te2470068587113613483, ← Fast.te15628205474173192105, ← Fast.te15245631507167962100, ← Fast.te9404975358583537561, ← Fast.te12367529300394763782, ← Fast.te17772580674575903948, ← Fast.te8004119333741010377, ← Fast.te17359229931016689406]
noncomputable def LT : FnL := { li := Fast.tw10557518346328741659, lu := Fast.tw2060155186595164805, lg := fun r k => Fast.tw3461954006293484611 r k, ty := Fast.tw14684505520029207082, pi := Fast.tw8711993805878244202, lh := Fast.tw15112759502256325868, lt := Fast.tw922294955767894045, hol := fun vs m => Fast.tw17359229931016689406 vs m }
theorem LT_eq : LT = L0 := by
  unfold LT L0
  rw [← Fast.te10557518346328741659, ← Fast.te2060155186595164805, ← Fast.te3461954006293484611, ← Fast.te14684505520029207082, ← Fast.te8711993805878244202, ← Fast.te15112759502256325868, ← Fast.te922294955767894045, ← Fast.te17359229931016689406]
noncomputable def BB (kt : Params → X.KT) (P : Params) (a : Addr) : Option Obj := match Nat.beq a 288 with
  | true => none
  | false => (kt P).get a
noncomputable def CC (kt : Params → X.KT) (sp : SpF) (P : Params) (b : Bool × Bool) : Cfg :=
  { B := BB kt P, den := denT, st := ⟨PySem.Challenge.pw_kt0048_01, flw P (true, b.2)⟩, st2 := ⟨PySem.Challenge.pw_kt0048_01, flw P (false, b.2)⟩, qt := qtT,
    ov := fun q c => match q with
      | 0 => pyTT c
      | 1 => cmpT c
      | 2 => forT FT R.catchR c
      | 3 => lnewT Fast.tw17251484188601376105 c
      | 4 => snewT Fast.tw14659325276902441207 R.bindR c
      | 5 => whileT FT R.catchR c
      | _ => linitT LT c,
    sp := sp }
structure SpOk (C : Cfg) (G : Lg) (prog : Program) (w : World) (L : Nat) : Prop where
  sp : ∀ q c (A₀ τ₀ : Nat → Nat) (T : BT) (m : Nat) (i : Nat × Nat) (Γ : Ctx) (p : Pos) (s : Shared) (R : Result → Shared → Prop), G.ok A₀ τ₀ → Γ.code = c → CtxOk L 0 Γ → TkI i τ₀ s → Rep C.B G A₀ T m s →
    (∀ A τ, (∀ j, j < m → A j = A₀ j) → agr i τ τ₀ → G.ok A τ → ∃ o, C.sp q c A τ T m i = some o ∧ ∀ x ∈ o.e, x.1 = x.2) →
    (∀ A τ s' o, (∀ j, j < m → A j = A₀ j) → agr i τ τ₀ → G.ok A τ → C.sp q c A τ T m i = some o → ile i o.i → TkI o.i τ s' → Rep C.B G A o.T o.m s' → Inv s m A o.m s' → R o.r s') →
    wpCode (model prog w) Γ R p s
  spx : ∀ q c (A τ A' τ' : Nat → Nat) (T : BT) (m : Nat) (i : Nat × Nat) (o : Out), (∀ j o', T.get j = some o' → j < m) → C.sp q c A τ T m i = some o → (∀ j, j < o.m → A' j = A j) → agr o.i τ' τ → C.sp q c A' τ' T m i = some o
theorem CC_ok {G : Lg} {kt : Params → X.KT} {sp : SpF} {w : World} {b : Bool × Bool} {L : Nat} (hL : L ≤ 690) (hb : b = rows w.params) (hs : SpOk (CC kt sp w.params b) G PySem.Challenge.pw_kt0048_01 w L) : (CC kt sp w.params b).Ok G PySem.Challenge.pw_kt0048_01 w L where
  den := denT_eq
  st := by
    subst hb
    have e := flw_self w.params
    show (⟨_, flw _ (true, (rows w.params).2)⟩ : Setting) = _ ∨ (⟨_, flw _ (false, (rows w.params).2)⟩ : Setting) = _
    cases q : (rows w.params).1 with
    | true => left; rw [← q]; exact congrArg _ e
    | false => right; rw [← q]; exact congrArg _ e
  qt := qtT_ok
  ov := fun q c t' h Γ p s R hc hΓ _ hw => by
    match q, h with
    | 0, h =>
      have h' : pyTT c = some t' := h
      rw [pyTT_eq] at h'
      exact py_ok h' Γ p s R hc (by have := hΓ.fr; omega) (hw p)
    | 1, h => exact cmp_ok h Γ p s R hc hw
    | 2, h =>
      have h' : forT FT PySem.W.R.catchR c = some t' := h
      rw [FT_eq, ← PySem.W.R.catchR_eq] at h'
      exact for_ok h' Γ p s R hc (units_ok hΓ hL) (hw p)
    | 3, h =>
      have h' : lnewT Fast.tw17251484188601376105 c = some t' := h
      rw [← Fast.te17251484188601376105] at h'
      exact lnew_ok h' Γ p s R hc (hw p)
    | 4, h =>
      have h' : snewT Fast.tw14659325276902441207 PySem.W.R.bindR c = some t' := h
      rw [← Fast.te14659325276902441207, ← PySem.W.R.bindR_eq] at h'
      exact snew_ok h' Γ p s R hc (units_ok hΓ hL) (hw p)
    | 5, h =>
      have h' : whileT FT PySem.W.R.catchR c = some t' := h
      rw [FT_eq, ← PySem.W.R.catchR_eq] at h'
      exact while_ok h' p s R hc (hw p)
    | q + 6, h =>
      have h' : linitT LT c = some t' := h
      rw [LT_eq] at h'
      exact linit_ok h' Γ p s R hc (hw p)
  sp := hs.sp
  spx := hs.spx
/-- the same, with the world's row as it is: for the runs at which the two ways are looked at one by one -/
noncomputable def CD (kt : Params → X.KT) (sp : SpF) (P : Params) (b : Bool × Bool) : Cfg :=
  { CC kt sp P b with st := ⟨PySem.Challenge.pw_kt0048_01, flw P b⟩, st2 := ⟨PySem.Challenge.pw_kt0048_01, flw P b⟩ }
theorem CD_ok {G : Lg} {kt : Params → X.KT} {sp : SpF} {w : World} {b : Bool × Bool} {L : Nat} (hL : L ≤ 690) (hb : b = rows w.params) (hs : SpOk (CD kt sp w.params b) G PySem.Challenge.pw_kt0048_01 w L) : (CD kt sp w.params b).Ok G PySem.Challenge.pw_kt0048_01 w L :=
  have h := CC_ok (kt := kt) (sp := sp) hL hb ⟨hs.sp, hs.spx⟩
  ⟨h.den, .inl (by subst hb; show (⟨_, flw _ _⟩ : Setting) = _; rw [flw_self]), h.qt, h.ov, h.sp, h.spx⟩
end Mine
end
section
open PySem PySem.W
namespace Mine
noncomputable def unp (b : Nat) : Nat → Nat → List Nat
  | 0, _ => []
  | n + 1, N => (N % b) :: unp b n (N / b)
noncomputable def vw {α : Type} (f : Out → α) (o : Option Out) : Option (List VV × α) := match o with
  | some o => some (o.e.map Prod.fst, f o)
  | none => none
noncomputable def wv {α : Type} (a : α) (o : Option Out) : Option (List VV × α) := match o with
  | some o => some (o.e.map Prod.snd, a)
  | none => some ([], a)
theorem map_eq {α : Type} : ∀ {l : List (α × α)}, l.map Prod.fst = l.map Prod.snd → ∀ x ∈ l, x.1 = x.2
  | [], _, _, h => (nomatch h)
  | y :: l, e, x, h => by
    rw [List.map_cons, List.map_cons] at e
    injection e with e1 e2
    cases h with
    | head => exact e1
    | tail _ h => exact map_eq e2 x h
theorem leaf_out {α : Type} {f : Out → α} {a : α} {o : Option Out} (h : vw f o = wv a o) : ∃ out, o = some out ∧ (∀ x ∈ out.e, x.1 = x.2) ∧ f out = a := by
  cases o with
  | none => cases h
  | some out =>
    have h' : (out.e.map Prod.fst, f out) = (out.e.map Prod.snd, a) := Option.some.inj h
    exact ⟨out, rfl, map_eq (congrArg Prod.fst h'), congrArg Prod.snd h'⟩

/-- what a leaf's run may lean on in the state -/
structure Gd (B : Addr → Option Obj) (G : Lg) (s : Shared) : Prop where
  base : ∀ a o, B a = some o → s.heap.get? a = some o
  z : ∃ Ls : List Addr, G.Z Ls (Ls.map s.heap.get?) ∧ ∀ a ∈ Ls, (s.heap.get? a).isSome = true ∧ ¬ G.Q a
  toks : G.N ≤ s.toks ∧ 0 < s.toks
  room : G.M ≤ s.heap.objs.size
theorem Rep.nil {B : Addr → Option Obj} {G : Lg} {A : Nat → Nat} {s : Shared} (g : Gd B G s) : Rep B G A .nil 0 s :=
  ⟨fun _ _ e => (nomatch e), fun _ _ h => absurd h (Nat.not_lt_zero _), fun _ h => absurd h (Nat.not_lt_zero _), g.base, fun _ _ _ _ h => absurd h (Nat.not_lt_zero _),
    let ⟨Ls, h1, h2⟩ := g.z
    ⟨Ls, h1, fun a ha => ⟨(h2 a ha).1, (h2 a ha).2, fun _ h => absurd h (Nat.not_lt_zero _)⟩⟩, g.toks, g.room⟩
theorem Rep.gd {B : Addr → Option Obj} {G : Lg} {A : Nat → Nat} {T : BT} {m : Nat} {s : Shared} (D : Rep B G A T m s) : Gd B G s :=
  ⟨D.base, let ⟨Ls, h1, h2⟩ := D.z; ⟨Ls, h1, fun a ha => ⟨(h2 a ha).1, (h2 a ha).2.1⟩⟩, D.toks, D.room⟩

theorem run_wp {prog : Program} {w : World} {C : Cfg} {G : Lg} {L b : Nat} (H : C.Ok G prog w L) (hL : b + 64 ≤ L) {α : Type} {f : Out → α} {a : (Nat → Nat) → (Nat → Nat) → α} {n : Nat} {t : Sem Fin} {T : BT} {m : Nat} {i : Nat × Nat} {cs : List Nat} {A₀ τ₀ : Nat → Nat} {s : Shared} {Γ : Ctx} {p : Pos} {R : Result → Shared → Prop}
    (hN : G.ok A₀ τ₀) (hΓ : CtxOk b 0 Γ) (hk : TkI i τ₀ s) (D : Rep C.B G A₀ T m s)
    (h : ∀ A τ : Nat → Nat, (∀ j, j < m → A j = A₀ j) → agr i τ τ₀ → G.ok A τ → vw f (E C A τ n [] t T m i cs []) = wv (a A τ) (E C A τ n [] t T m i cs []))
    (hR : ∀ (A τ : Nat → Nat) s' o, (∀ j, j < m → A j = A₀ j) → agr i τ τ₀ → G.ok A τ → E C A τ n [] t T m i cs [] = some o → f o = a A τ → Rep C.B G A o.T o.m s' → Inv s m A o.m s' → R o.r s') :
    Sem.wp (model prog w) Γ t (Sem.finPost (model prog w) Γ R) (fun x _ s' => R (.error x) s') p s :=
  E_sound H hL s m n t T m i cs [] A₀ τ₀ s Γ p [] R hN hΓ trivial hk D (Inv.refl s m A₀)
    (fun A τ hA hτ hn => let ⟨o, h1, h2, _⟩ := leaf_out (h A τ hA hτ hn); ⟨o, h1, h2⟩)
    fun A τ s' o hA hτ hn ho D' I' => by
      obtain ⟨o', h1, _, h3⟩ := leaf_out (h A τ hA hτ hn)
      have e : o' = o := Option.some.inj (h1.symm.trans ho)
      subst e
      exact hR A τ s' o' hA hτ hn ho h3 D'.2 I'

theorem run_wp2 {prog : Program} {w : World} {C : Cfg} {G : Lg} {L b : Nat} (H : C.Ok G prog w L) (hL : b + 64 ≤ L) {α : Type} {f : Out → α} {a : (Nat → Nat) → (Nat → Nat) → α} {n : Nat} {t : Sem Fin} {T : BT} {m : Nat} {i : Nat × Nat} {cs : List Nat} {A₀ τ₀ : Nat → Nat} {s : Shared} {Γ : Ctx} {p : Pos} {R : Result → Shared → Prop}
    (hN : G.ok A₀ τ₀) (hΓ : CtxOk b 0 Γ) (hk : TkI i τ₀ s) (D : Rep C.B G A₀ T m s)
    (h : ∀ A τ : Nat → Nat, (∀ j, j < m → A j = A₀ j) → agr i τ τ₀ → G.ok A τ → vw f (E C A τ n [] t T m i cs []) = wv (a A τ) (E C A τ n [] t T m i cs []))
    (hR : ∀ (A τ : Nat → Nat) s' o, (∀ j, j < m → A j = A₀ j) → agr i τ τ₀ → G.ok A τ → E C A τ n [] t T m i cs [] = some o → f o = a A τ → TkI o.i τ s' → Rep C.B G A o.T o.m s' → Inv s m A o.m s' → R o.r s') :
    Sem.wp (model prog w) Γ t (Sem.finPost (model prog w) Γ R) (fun x _ s' => R (.error x) s') p s :=
  E_sound H hL s m n t T m i cs [] A₀ τ₀ s Γ p [] R hN hΓ trivial hk D (Inv.refl s m A₀)
    (fun A τ hA hτ hn => let ⟨o, h1, h2, _⟩ := leaf_out (h A τ hA hτ hn); ⟨o, h1, h2⟩)
    fun A τ s' o hA hτ hn ho D' I' => by
      obtain ⟨o', h1, _, h3⟩ := leaf_out (h A τ hA hτ hn)
      have e : o' = o := Option.some.inj (h1.symm.trans ho)
      subst e
      exact hR A τ s' o' hA hτ hn ho h3 D'.1 D'.2 I'

/-- a call of a def of the text, by its run from nothing of its own -/
theorem call_leaf {prog : Program} {w : World} {C : Cfg} {G : Lg} {L b : Nat} (H : C.Ok G prog w L) (hL : b + 64 ≤ L) {α : Type} {f : Out → α} {a : α} {n : Nat} {c : Code} {t : Sem Fin} {cs : List Nat} {s : Shared} {Γ : Ctx} {p : Pos} {R : Result → Shared → Prop}
    (hc : Γ.code = c) (hΓ : CtxOk b 0 Γ) (g : Gd C.B G s) (ht : C.ov 0 c = some t)
    (h : ∀ A τ : Nat → Nat, G.ok A τ → vw f (E C A τ n [] t .nil 0 (0, 0) cs []) = wv a (E C A τ n [] t .nil 0 (0, 0) cs []))
    (hR : ∀ A s' o, f o = a → Rep C.B G A o.T o.m s' → Inv s 0 A o.m s' → R o.r s') : wpCode (model prog w) Γ R p s :=
  H.ov 0 c t ht Γ p s R hc (hΓ.lift (by omega)) g.base fun p' =>
    run_wp H hL (a := fun _ _ => a) (A₀ := fun _ => G.M) (τ₀ := fun _ => G.N) ⟨fun _ => Nat.le_refl _, fun _ => Nat.le_refl _⟩ hΓ (TkI.zero _ _ _) (Rep.nil g) (fun A τ _ _ hn => h A τ hn) fun A _ s' o _ _ _ _ hf D I => hR A s' o hf D I

noncomputable def vStr (o : Out) : Option Str := match o.r with | .ok (.ret (.str x _)) => some x | _ => none
noncomputable def vInt (o : Out) : Option Int := match o.r with | .ok (.ret (.int x _)) => some x | _ => none
noncomputable def vBytes (o : Out) : Option (Array UInt8) := match o.r with | .ok (.ret (.bytes x _)) => some x | _ => none
noncomputable def vBool (o : Out) : Option Bool := match o.r with | .ok (.ret (.bool x)) => some x | _ => none
theorem vStr_is {o : Out} {x : Str} (h : vStr o = some x) : ∃ t, o.r = .ok (.ret (.str x t)) := by
  unfold vStr at h; split at h <;> first | (cases h; exact ⟨_, by assumption⟩) | cases h
theorem vBytes_is {o : Out} {x : Array UInt8} (h : vBytes o = some x) : ∃ t, o.r = .ok (.ret (.bytes x t)) := by
  unfold vBytes at h; split at h <;> first | (cases h; exact ⟨_, by assumption⟩) | cases h
theorem vBool_is {o : Out} {x : Bool} (h : vBool o = some x) : o.r = .ok (.ret (.bool x)) := by
  unfold vBool at h; split at h <;> first | (cases h; assumption) | cases h
noncomputable def st0 (C : Cfg) (c : Code) : Sem Fin := match C.ov 0 c with | some t => t | none => unsupported "x"
noncomputable abbrev noSp : SpF := fun _ _ _ _ _ _ _ => none
end Mine
end
section
open PySem PySem.W
namespace Mine
/-- a value, its token struck -/
noncomputable def strk (v : Value) : Value := match v with
  | .str x _ => .str x 0
  | .int x _ => .int x 0
  | .bytes x _ => .bytes x 0
  | .float x _ => .float x 0
  | v => v
noncomputable def tokd (v : Value) (t : Nat) : Value := match v with
  | .str x _ => .str x t
  | .int x _ => .int x t
  | .bytes x _ => .bytes x t
  | .float x _ => .float x t
  | v => v
noncomputable def strkAll : List Value → List Value
  | [] => []
  | v :: l => strk v :: strkAll l
noncomputable def toksL : List Value → (Nat → Nat) → List Value
  | [], _ => []
  | v :: l, θ => tokd v (θ 0) :: toksL l fun n => θ (n + 1)
theorem strk_inv (v : Value) : ∃ t, v = tokd (strk v) t := by
  cases v with
  | str x t => exact ⟨t, rfl⟩
  | int x t => exact ⟨t, rfl⟩
  | bytes x t => exact ⟨t, rfl⟩
  | float x t => exact ⟨t, rfl⟩
  | _ => exact ⟨0, rfl⟩
theorem strkAll_inv : ∀ l : List Value, ∃ θ, l = toksL (strkAll l) θ
  | [] => ⟨fun _ => 0, rfl⟩
  | v :: l => by
    obtain ⟨t, ht⟩ := strk_inv v
    obtain ⟨θ, hθ⟩ := strkAll_inv l
    refine ⟨fun n => match n with | 0 => t | n + 1 => θ n, ?_⟩
    show v :: l = tokd (strk v) t :: toksL (strkAll l) θ
    rw [← ht, ← hθ]
theorem strk_inv' {v u : Value} (h : strk v = u) : ∃ t, v = tokd u t := by subst h; exact strk_inv v
theorem strkAll_inv' {l u : List Value} (h : strkAll l = u) : ∃ θ, l = toksL u θ := by subst h; exact strkAll_inv l

/-- the run's keeping with the own objects of an outer run in Q -/
noncomputable def Lg.out (G : Lg) (A : Nat → Nat) (m : Nat) : Lg := { G with Q := fun a => G.Q a ∨ ∃ j, j < m ∧ A j = a }
theorem Rep.gdOut {B : Addr → Option Obj} {G : Lg} {A : Nat → Nat} {T : BT} {m : Nat} {s : Shared} (D : Rep B G A T m s) : Gd B (G.out A m) s :=
  ⟨D.base, let ⟨Ls, h1, h2⟩ := D.z; ⟨Ls, h1, fun a ha => ⟨(h2 a ha).1, fun h => h.elim (h2 a ha).2.1 fun ⟨j, hj, e⟩ => (h2 a ha).2.2 j hj e⟩⟩, D.toks, D.room⟩
theorem Rep.sub {B : Addr → Option Obj} {G : Lg} {A : Nat → Nat} {T : BT} {m : Nat} {s : Shared} (D : Rep B G A T m s) (js : Nat → Nat) (n : Nat) (T₁ : BT) (h1 : ∀ k, k < n → js k < m) (h2 : ∀ i j, i < n → j < n → js i = js j → i = j)
    (h3 : ∀ k o, T₁.get k = some o → k < n ∧ (o.isFreed = false → T.get (js k) = some o)) : Rep B (G.out A m) (fun k => A (js k)) T₁ n s where
  own := fun k o e => ⟨(h3 k o e).1, fun hf => (D.own (js k) o ((h3 k o e).2 hf)).2 hf⟩
  inj := fun i j hi hj e => h2 i j hi hj (D.inj _ _ (h1 i hi) (h1 j hj) e)
  lt := fun j hj => D.lt _ (h1 j hj)
  base := D.base
  off := fun a o j e hj => D.off a o _ e (h1 j hj)
  z := let ⟨Ls, g1, g2⟩ := D.z
    ⟨Ls, g1, fun a ha => ⟨(g2 a ha).1, (fun h => h.elim (g2 a ha).2.1 fun ⟨j, hj, e⟩ => (g2 a ha).2.2 j hj e), fun j hj => (g2 a ha).2.2 _ (h1 j hj)⟩⟩
  toks := D.toks
  room := D.room
/-- back from a run on some of the own objects (js) to the outer run -/
theorem Rep.back {B : Addr → Option Obj} {G : Lg} {A A' A₂ : Nat → Nat} {T T' T₂ : BT} {m m' m₂ n : Nat} {s s' : Shared} {js r : Nat → Nat} (ht : ∀ Ls os, G.Z Ls os → tabA ∈ Ls) (D : Rep B G A T m s) (D₂ : Rep B (G.out A m) A₂ T₂ m₂ s') (I₂ : Inv s n A₂ m₂ s')
    (h1 : ∀ k, k < n → js k < m ∧ A₂ k = A (js k)) (hm : m ≤ m') (hA : ∀ j, j < m → A' j = A j) (hr : ∀ j, m ≤ j → j < m' → A' j = A₂ (r j) ∧ n ≤ r j ∧ r j < m₂) (hri : ∀ i j, m ≤ i → m ≤ j → i < m' → j < m' → r i = r j → i = j)
    (hT : ∀ j o, T'.get j = some o → j < m' ∧ (o.isFreed = false → (j < m ∧ (∀ k, k < n → js k ≠ j) ∧ T.get j = some o) ∨ (∃ k, k < n ∧ js k = j ∧ T₂.get k = some o) ∨ (m ≤ j ∧ T₂.get (r j) = some o))) :
    Rep B G A' T' m' s' ∧ Inv s m A' m' s' := by
  have hne : ∀ j, j < m → A j ≠ tabA := fun j hj e => by
    obtain ⟨Ls, g1, g2⟩ := D.z
    exact (g2 tabA (ht _ _ g1)).2.2 j hj e
  refine ⟨⟨fun j o e => ⟨(hT j o e).1, fun hf => ?_⟩, fun i j hi hj e => ?_, fun j hj => ?_, D₂.base, fun a o j e hj => ?_, ?_, D₂.toks, D₂.room⟩, ⟨hm, fun b o e hb h => I₂.keep b o e hb fun k hk q => h (js k) (h1 k hk).1 (((hA _ (h1 k hk).1).trans (h1 k hk).2.symm).trans q), I₂.size, fun j h1' h2' => ?_, I₂.gens, I₂.drawn, I₂.os, I₂.toks⟩⟩
  · rcases (hT j o e).2 hf with ⟨hj, hk, ho⟩ | ⟨k, hk, rfl, ho⟩ | ⟨hj, ho⟩
    · rw [hA j hj]
      refine I₂.keep (A j) o ((D.own j o ho).2 hf) (hne j hj) fun k hk' q => hk k hk' ?_
      exact D.inj _ _ (h1 k hk').1 hj ((h1 k hk').2.symm.trans q)
    · rw [hA _ (h1 k hk).1, ← (h1 k hk).2]
      exact (D₂.own k o ho).2 hf
    · rw [(hr j hj (hT j o e).1).1]
      exact (D₂.own _ o ho).2 hf
  · by_cases hi' : i < m <;> by_cases hj' : j < m
    · rw [hA i hi', hA j hj'] at e; exact D.inj i j hi' hj' e
    · have y := hr j (Nat.le_of_not_lt hj') hj
      rw [hA i hi', y.1] at e
      have := D.lt i hi'
      have := I₂.new _ y.2.1 y.2.2
      omega
    · have y := hr i (Nat.le_of_not_lt hi') hi
      rw [hA j hj', y.1] at e
      have := D.lt j hj'
      have := I₂.new _ y.2.1 y.2.2
      omega
    · have y := hr i (Nat.le_of_not_lt hi') hi
      have z := hr j (Nat.le_of_not_lt hj') hj
      rw [y.1, z.1] at e
      exact hri i j (Nat.le_of_not_lt hi') (Nat.le_of_not_lt hj') hi hj (D₂.inj _ _ y.2.2 z.2.2 e)
  · by_cases hj' : j < m
    · rw [hA j hj']; exact Nat.lt_of_lt_of_le (D.lt j hj') I₂.size
    · have y := hr j (Nat.le_of_not_lt hj') hj
      rw [y.1]; exact D₂.lt _ y.2.2
  · by_cases hj' : j < m
    · rw [hA j hj']; exact D.off a o j e hj'
    · have y := hr j (Nat.le_of_not_lt hj') hj
      rw [y.1]; exact D₂.off a o _ e y.2.2
  · obtain ⟨Ls, g1, g2⟩ := D₂.z
    refine ⟨Ls, g1, fun a ha => ⟨(g2 a ha).1, fun h => (g2 a ha).2.1 (.inl h), fun j hj e => ?_⟩⟩
    by_cases hj' : j < m
    · exact (g2 a ha).2.1 (.inr ⟨j, hj', (hA j hj').symm.trans e⟩)
    · have y := hr j (Nat.le_of_not_lt hj') hj
      exact (g2 a ha).2.2 _ y.2.2 (y.1.symm.trans e)
  · have y := hr j h1' h2'
    rw [y.1]
    exact I₂.new _ y.2.1 y.2.2
/-- with nothing of its own -/
theorem Rep.back0 {B : Addr → Option Obj} {G : Lg} {A A₂ : Nat → Nat} {T T₂ : BT} {m m₂ : Nat} {s s' : Shared} (ht : ∀ Ls os, G.Z Ls os → tabA ∈ Ls) (D : Rep B G A T m s) (D₂ : Rep B (G.out A m) A₂ T₂ m₂ s') (I₂ : Inv s 0 A₂ m₂ s') :
    Rep B G A T m s' ∧ Inv s m A m s' :=
  D.back (js := id) (r := id) ht D₂ I₂ (fun k hk => absurd hk (Nat.not_lt_zero _)) (Nat.le_refl _) (fun _ _ => rfl) (fun j h1 h2 => absurd h2 (Nat.not_lt.mpr h1)) (fun i j h1 _ h2 => absurd h2 (Nat.not_lt.mpr h1))
    fun j o e => ⟨(D.own j o e).1, fun hf => .inl ⟨(D.own j o e).1, fun k hk => absurd hk (Nat.not_lt_zero _), e⟩⟩

noncomputable def tabO (vs : List Value) : Obj := ⟨.none, none, .fields ⟨vs⟩, #[]⟩
noncomputable def lamT (a : Addr) : List Value := [rawInt 303, rawInt 39, .ref a]
noncomputable def genT (g : Addr) : List Value := [rawInt 302, rawInt 37, .ref g]
/-- the table's states: what stands in it -/
noncomputable def tabS (x : Nat) (a g : Addr) : List Value := match x with
  | 0 => []
  | 1 => lamT a
  | 2 => lamT a ++ genT g
  | _ => genT g ++ lamT a
/-- a run over the base: tokens free, own addresses behind the base, the code table in Z's hands -/
structure Lg.Fit (G : Lg) : Prop where
  N0 : G.N = 0
  M0 : G.M = 359
  zed : ∀ Ls os, G.Z Ls os ↔ (Ls = [tabA] ∧ ∃ x a g, os = [some (tabO (tabS x a g))])
theorem Lg.Fit.tab {G : Lg} (h : G.Fit) : ∀ Ls os, G.Z Ls os → tabA ∈ Ls := fun Ls os hz => by rw [((h.zed Ls os).mp hz).1]; exact .head _
theorem Lg.Fit.out {G : Lg} (h : G.Fit) (A : Nat → Nat) (m : Nat) : (G.out A m).Fit := ⟨h.N0, h.M0, h.zed⟩
/-- a spec by number, each with own indices in the number's low digits -/
structure FactOk (B : Addr → Option Obj) (prog : Program) (w : World) (L : Nat) (F : Nat → Code → (Nat → Nat) → (Nat → Nat) → BT → Nat → Nat × Nat → Option Out) : Prop where
  sp : ∀ (G : Lg), G.Fit → ∀ q c (A₀ τ₀ : Nat → Nat) (T : BT) (m : Nat) (i : Nat × Nat) (Γ : Ctx) (p : Pos) (s : Shared) (R : Result → Shared → Prop), (∀ j, G.M ≤ A₀ j) → Γ.code = c → CtxOk L 0 Γ → TkI i τ₀ s → Rep B G A₀ T m s →
    (∀ A τ, (∀ j, j < m → A j = A₀ j) → agr i τ τ₀ → (∀ j, G.M ≤ A j) → ∃ o, F q c A τ T m i = some o ∧ ∀ x ∈ o.e, x.1 = x.2) →
    (∀ A τ s' o, (∀ j, j < m → A j = A₀ j) → agr i τ τ₀ → (∀ j, G.M ≤ A j) → F q c A τ T m i = some o → ile i o.i → TkI o.i τ s' → Rep B G A o.T o.m s' → Inv s m A o.m s' → R o.r s') →
    wpCode (model prog w) Γ R p s
  spx : ∀ q c (A τ A' τ' : Nat → Nat) (T : BT) (m : Nat) (i : Nat × Nat) (o : Out), (∀ j o', T.get j = some o' → j < m) → F q c A τ T m i = some o → (∀ j, j < o.m → A' j = A j) → agr o.i τ' τ → F q c A' τ' T m i = some o
noncomputable abbrev FactF := Nat → Code → (Nat → Nat) → (Nat → Nat) → BT → Nat → Nat × Nat → Option Out
noncomputable def spOf (fs : List FactF) : SpF := fun q c A τ T m i => match fs[q / 128]? with
  | some F => F (q % 128) c A τ T m i
  | none => none
theorem spOf_ok {C : Cfg} {G : Lg} {prog : Program} {w : World} {L : Nat} {fs : List FactF} (hG : G.Fit) (hC : C.sp = spOf fs) (h : ∀ F ∈ fs, FactOk C.B prog w L F) : SpOk C G prog w L where
  sp := fun q c A₀ τ₀ T m i Γ p s R hN hc hΓ hk D h1 h2 => by
    rw [hC] at h1 h2
    unfold spOf at h1 h2
    cases hq : fs[q / 128]? with
    | none =>
      obtain ⟨o, ho, _⟩ := h1 A₀ τ₀ (fun _ _ => rfl) (agr.refl _ _) hN
      rw [hq] at ho; cases ho
    | some F =>
      rw [hq] at h1 h2
      exact (h F (List.mem_of_getElem? hq)).sp G hG (q % 128) c A₀ τ₀ T m i Γ p s R hN.2 hc hΓ hk D (fun A τ hA hτ hm => h1 A τ hA hτ ⟨fun _ => by rw [hG.N0]; exact Nat.zero_le _, hm⟩) fun A τ s' o hA hτ hm => h2 A τ s' o hA hτ ⟨fun _ => by rw [hG.N0]; exact Nat.zero_le _, hm⟩
  spx := fun q c A τ A' τ' T m i o hTI ho hA hτ => by
    rw [hC] at ho ⊢
    unfold spOf at ho ⊢
    cases hq : fs[q / 128]? with
    | none => rw [hq] at ho; cases ho
    | some F =>
      rw [hq] at ho
      exact (h F (List.mem_of_getElem? hq)).spx _ c A τ A' τ' T m i o hTI ho hA hτ
end Mine
end
section
open PySem PySem.W
namespace Mine
noncomputable abbrev HdF := Code → Option (List Value)
/-- the args of a call of the builtin of this number -/
noncomputable def hdB (n : Nat) : HdF := fun c => match c with
  | .builtin id a => match Nat.beq (PySem.code id) n with
    | true => match a.kw with
      | [] => some a.pos
      | _ => none
    | false => none
  | _ => none
/-- the args of a call of the def at this address -/
noncomputable def hdP (n : Nat) : HdF := fun c => match c with
  | .call f a => match f with
    | .ref x => match Nat.beq x n with
      | true => match a.kw with
        | [] => some a.pos
        | _ => none
      | false => none
    | _ => none
  | _ => none
theorem hdB_is {n : Nat} {id : String} (e : PySem.code id = n) {c : Code} {as : List Value} (h : hdB n c = some as) : c = .builtin id ⟨as, []⟩ := by
  unfold hdB at h
  repeat' split at h
  all_goals first | (cases h; done) | skip
  rename_i id' a _ hn _ hk
  have := codeN e hn
  subst this
  cases h
  obtain ⟨x, y⟩ := a
  cases hk
  rfl
theorem hdP_is {n : Nat} {c : Code} {as : List Value} (h : hdP n c = some as) : c = .call (.ref n) ⟨as, []⟩ := by
  unfold hdP at h
  repeat' split at h
  all_goals first | (cases h; done) | skip
  rename_i a _ x _ hn _ hk
  have := Nat.eq_of_beq_eq_true hn
  subst this
  cases h
  obtain ⟨x, y⟩ := a
  cases hk
  rfl
noncomputable def vRes (o : Out) : Option Value := match o.r with
  | .ok (.ret v) => some (strk v)
  | _ => none
theorem vRes_is {o : Out} {u : Value} (h : vRes o = some u) : ∃ t, o.r = .ok (.ret (tokd u t)) := by
  unfold vRes at h
  split at h
  · rename_i v hv
    obtain ⟨t, ht⟩ := strk_inv' (Option.some.inj h)
    exact ⟨t, by rw [hv, ht]⟩
  · cases h

theorem agr_odd (i : Nat × Nat) (τ₀ : Nat → Nat) (t : Nat) : agr i (fun j => if j = 2 * i.2 + 1 then t else τ₀ j) τ₀ :=
  ⟨fun j hj => if_neg (by omega), fun j hj => if_neg (by omega)⟩
theorem TkI.odd {i : Nat × Nat} {τ₀ : Nat → Nat} {s s' : Shared} {t : Nat} (h : TkI i τ₀ s) (hs : s.toks ≤ s'.toks) : TkI (i.1, i.2 + 1) (fun j => if j = 2 * i.2 + 1 then t else τ₀ j) s' :=
  ⟨fun j k h1 h2 => by
    show (if 2 * j = 2 * i.2 + 1 then t else τ₀ (2 * j)) < if 2 * k = 2 * i.2 + 1 then t else τ₀ (2 * k)
    rw [if_neg (by omega), if_neg (by omega)]
    exact h.1 j k h1 h2, fun j hj => by
    show 0 < (if 2 * j = 2 * i.2 + 1 then t else τ₀ (2 * j)) ∧ (if 2 * j = 2 * i.2 + 1 then t else τ₀ (2 * j)) < s'.toks
    rw [if_neg (by omega)]
    exact ⟨(h.2 j hj).1, Nat.lt_of_lt_of_le (h.2 j hj).2 hs⟩⟩
/-- own addresses lie behind the base -/
noncomputable def up (A : Nat → Nat) (j : Nat) : Nat := A j + 359
theorem up_is {G : Lg} (hG : G.Fit) {A τ : Nat → Nat} (hn : G.ok A τ) : ∃ A', A = up A' :=
  ⟨fun j => A j - 359, funext fun j => by
    have h1 := hn.2 j
    rw [hG.M0] at h1
    show A j = A j - 359 + 359
    omega⟩
section
variable {B : Addr → Option Obj} {prog : Program} {w : World} {L : Nat}
/-! values alone -/
noncomputable def vF (hd : HdF) (args : List Value) (res : Value) : FactF := fun _ c _ τ T m i => match hd c with
  | some as => some ⟨.ok (.ret (tokd res (τ (2 * i.2 + 1)))), T, m, (i.1, i.2 + 1), [(.l (strkAll as), .l args)]⟩
  | none => none
structure VOk (B : Addr → Option Obj) (prog : Program) (w : World) (L : Nat) (hd : HdF) (args : List Value) (res : Value) : Prop where
  ok : ∀ (G : Lg), G.Fit → ∀ c θ (Γ : Ctx) (p : Pos) (s : Shared) (R : Result → Shared → Prop), hd c = some (toksL args θ) → Γ.code = c → CtxOk L 0 Γ → Gd B G s →
    (∀ t s' A₂ T₂ m₂, Rep B G A₂ T₂ m₂ s' → Inv s 0 A₂ m₂ s' → R (.ok (.ret (tokd res t))) s') → wpCode (model prog w) Γ R p s
theorem vF_ok {hd : HdF} {args : List Value} {res : Value} (h : VOk B prog w L hd args res) : FactOk B prog w L (vF hd args res) where
  sp := fun G hG q c A₀ τ₀ T m i Γ p s R hm0 hc hΓ hk D h1 h2 => by
    obtain ⟨o, ho, he⟩ := h1 A₀ τ₀ (fun _ _ => rfl) (agr.refl _ _) hm0
    unfold vF at ho
    cases hh : hd c with
    | none => rw [hh] at ho; cases ho
    | some as =>
      rw [hh] at ho
      cases ho
      obtain ⟨θ, hθ⟩ := strkAll_inv' (VV.l.inj (he _ (.head _)))
      rw [hθ] at hh
      refine h.ok (G.out A₀ m) (hG.out A₀ m) c θ Γ p s R hh hc hΓ D.gdOut fun t s' A₂ T₂ m₂ D₂ I₂ => ?_
      obtain ⟨D', I'⟩ := D.back0 hG.tab D₂ I₂
      have z := h2 A₀ (fun j => if j = 2 * i.2 + 1 then t else τ₀ j) s' ⟨.ok (.ret (tokd res t)), T, m, (i.1, i.2 + 1), [(.l (strkAll as), .l args)]⟩ (fun _ _ => rfl) (agr_odd i τ₀ t) hm0 (by unfold vF; rw [hh, ← hθ]; simp only [if_true]) ⟨Nat.le_refl _, Nat.le_succ _⟩ (hk.odd I'.toks) D' I'
      exact z
  spx := fun q c A τ A' τ' T m i o hTI ho hA hτ => by
    unfold vF at ho ⊢
    cases hh : hd c with
    | none => rw [hh] at ho; cases ho
    | some as =>
      rw [hh] at ho
      cases ho
      show some _ = some _
      rw [hτ.2 i.2 (Nat.lt_succ_self _)]
theorem vB_ok {C : Cfg} {b : Nat} (hC : ∀ G : Lg, G.Fit → C.Ok G prog w (L + 64)) {id : String} {k : Nat} (e : PySem.code id = k) {args : List Value} {res : Value} {n : Nat} {cs : List Nat}
    (h : ∀ A τ θ : Nat → Nat, vw vRes (E C (up A) τ n [] (C.den (.builtin id ⟨toksL args θ, []⟩)) .nil 0 (0, 0) cs []) = wv (some res) (E C (up A) τ n [] (C.den (.builtin id ⟨toksL args θ, []⟩)) .nil 0 (0, 0) cs [])) :
    VOk C.B prog w L (hdB k) args res where
  ok := fun G hG c θ Γ p s R hh hc hΓ g hR => by
    have hc' := hdB_is e hh
    rw [hc'] at hc
    refine code_den ?_
    have z := run_wp (hC G hG) (Nat.le_refl _) (a := fun _ _ => some res) (A₀ := fun _ => G.M) (τ₀ := fun _ => 0) ⟨fun _ => by rw [hG.N0]; exact Nat.zero_le _, fun _ => Nat.le_refl _⟩ hΓ (TkI.zero _ _ _) (p := p) (R := R) (Rep.nil g) (fun A τ _ _ hn => by obtain ⟨A', rfl⟩ := up_is hG hn; exact h A' τ θ) fun A τ s' o _ _ _ _ hf D I => by
      obtain ⟨t, ht⟩ := vRes_is hf
      rw [ht]
      exact hR t s' A o.T o.m D I
    rw [(hC G hG).den, ← hc] at z
    exact z
theorem vP_ok {C : Cfg} (hC : ∀ G : Lg, G.Fit → C.Ok G prog w (L + 64)) {k : Nat} {args : List Value} {res : Value} {n : Nat} {cs : List Nat}
    (ht : ∀ θ, C.ov 0 (.call (.ref k) ⟨toksL args θ, []⟩) = some (st0 C (.call (.ref k) ⟨toksL args θ, []⟩)))
    (h : ∀ A τ θ : Nat → Nat, vw vRes (E C (up A) τ n [] (st0 C (.call (.ref k) ⟨toksL args θ, []⟩)) .nil 0 (0, 0) cs []) = wv (some res) (E C (up A) τ n [] (st0 C (.call (.ref k) ⟨toksL args θ, []⟩)) .nil 0 (0, 0) cs [])) :
    VOk C.B prog w L (hdP k) args res where
  ok := fun G hG c θ Γ p s R hh hc hΓ g hR => by
    have hc' := hdP_is hh
    rw [hc'] at hc
    refine call_leaf (hC G hG) (Nat.le_refl _) hc hΓ g (ht θ) (fun A τ hn => by obtain ⟨A', rfl⟩ := up_is hG hn; exact h A' τ θ) fun A s' o hf D I => ?_
    obtain ⟨t, ht'⟩ := vRes_is hf
    rw [ht']
    exact hR t s' A o.T o.m D I

/-! one sequence of its own, read -/
noncomputable def sF (hd : HdF) (args : Addr → List Value) (cls : Value) (xs : List Value) (res : Value) : FactF := fun j c A τ T m i => match hd c with
  | some as => match Nat.ble (j + 1) m with
   | false => none
   | true => match T.get j with
    | some ob => match ob with
      | ⟨cl, none, .seq ys _, ⟨[]⟩⟩ => some ⟨.ok (.ret (tokd res (τ (2 * i.2 + 1)))), T, m, (i.1, i.2 + 1), [(.l (strkAll as), .l (args (A j))), (.l (strkAll ys.toList), .l xs), (.v cl, .v cls)]⟩
      | _ => none
    | none => none
  | none => none
noncomputable def seqO (cls : Value) (xs : List Value) (ep : Nat) : Obj := ⟨cls, none, .seq ⟨xs⟩ ep, #[]⟩
noncomputable def one (o : Obj) : BT := BT.nil.ins 0 o
theorem one_get (o : Obj) (k : Nat) (o' : Obj) (h : (one o).get k = some o') : k = 0 ∧ o' = o := by
  unfold one at h
  rw [BT.get_ins o .nil 0 (by rfl)] at h
  split at h
  · rename_i hk
    exact ⟨hk, (Option.some.inj h).symm⟩
  · cases h
structure SOk (B : Addr → Option Obj) (prog : Program) (w : World) (L : Nat) (hd : HdF) (args : Addr → List Value) (cls : Value) (xs : List Value) (res : Value) : Prop where
  ok : ∀ (G : Lg), G.Fit → ∀ c θ θ' ep (A₀ : Nat → Nat) (Γ : Ctx) (p : Pos) (s : Shared) (R : Result → Shared → Prop), (∀ j, G.M ≤ A₀ j) → hd c = some (toksL (args (A₀ 0)) θ) → Γ.code = c → CtxOk L 0 Γ → Rep B G A₀ (one (seqO cls (toksL xs θ') ep)) 1 s →
    (∀ t s' A₂ T₂ m₂, A₂ 0 = A₀ 0 → T₂.get 0 = some (seqO cls (toksL xs θ') ep) → Rep B G A₂ T₂ m₂ s' → Inv s 1 A₂ m₂ s' → R (.ok (.ret (tokd res t))) s') → wpCode (model prog w) Γ R p s
theorem sF_ok {hd : HdF} {args : Addr → List Value} {cls : Value} {xs : List Value} {res : Value} (h : SOk B prog w L hd args cls xs res) : FactOk B prog w L (sF hd args cls xs res) where
  sp := fun G hG q c A₀ τ₀ T m i Γ p s R hm0 hc hΓ hk D h1 h2 => by
    obtain ⟨o, ho, he⟩ := h1 A₀ τ₀ (fun _ _ => rfl) (agr.refl _ _) hm0
    unfold sF at ho
    cases hh : hd c with
    | none => rw [hh] at ho; cases ho
    | some as =>
     cases hm : Nat.ble (q + 1) m with
     | false => rw [hh, hm] at ho; cases ho
     | true =>
      cases hT : T.get q with
      | none => rw [hh, hm, hT] at ho; cases ho
      | some ob =>
        rw [hh, hm, hT] at ho
        dsimp only at ho
        split at ho
        · rename_i cl ys ep
          cases ho
          obtain ⟨θ, hθ⟩ := strkAll_inv' (VV.l.inj (he _ (.head _)))
          obtain ⟨θ', hθ'⟩ := strkAll_inv' (VV.l.inj (he _ (.tail _ (.head _))))
          have hcl : cl = cls := VV.v.inj (he _ (.tail _ (.tail _ (.head _))))
          subst hcl
          have hob : (⟨cl, none, .seq ys ep, #[]⟩ : Obj) = seqO cl (toksL xs θ') ep := by rw [← hθ']; rfl
          have hT' : T.get q = some (seqO cl (toksL xs θ') ep) := hT.trans (congrArg some hob)
          have hq := (D.own q _ hT').1
          have D₁ := D.sub (fun _ => q) 1 (one (seqO cl (toksL xs θ') ep)) (fun _ _ => hq) (fun i j hi hj _ => by omega) (fun k o' e => by
            obtain ⟨e1, e2⟩ := one_get _ _ _ e
            subst e1; subst e2
            exact ⟨Nat.lt_succ_self _, fun _ => hT'⟩)
          have hh' := hh
          rw [hθ] at hh'
          refine h.ok (G.out A₀ m) (hG.out A₀ m) c θ θ' ep (fun _ => A₀ q) Γ p s R (fun _ => hm0 q) hh' hc hΓ D₁ fun t s' A₂ T₂ m₂ hA2 hT2 D₂ I₂ => ?_
          obtain ⟨D', I'⟩ := D.back (T' := T) (A' := A₀) (m' := m) (js := fun _ => q) (r := id) hG.tab D₂ I₂ (fun k hk => ⟨hq, (Nat.lt_one_iff.mp hk) ▸ hA2⟩) (Nat.le_refl _) (fun _ _ => rfl) (fun j h1 h2 => absurd h2 (Nat.not_lt.mpr h1)) (fun i j h1 _ h2 => absurd h2 (Nat.not_lt.mpr h1))
            fun j o e => ⟨(D.own j o e).1, fun hf => by
              by_cases hj : q = j
              · subst hj
                rw [hT'] at e
                cases e
                exact .inr (.inl ⟨0, Nat.lt_succ_self _, rfl, hT2⟩)
              · exact .inl ⟨(D.own j o e).1, fun _ _ => hj, e⟩⟩
          refine h2 A₀ (fun j => if j = 2 * i.2 + 1 then t else τ₀ j) s' ⟨.ok (.ret (tokd res t)), T, m, (i.1, i.2 + 1), [(.l (strkAll as), .l (args (A₀ q))), (.l (strkAll ys.toList), .l xs), (.v cl, .v cl)]⟩ (fun _ _ => rfl) (agr_odd i τ₀ t) hm0 ?_ ⟨Nat.le_refl _, Nat.le_succ _⟩ (hk.odd I'.toks) D' I'
          unfold sF
          rw [hh, hm, hT]
          dsimp only
          simp only [if_true]
        · cases ho
  spx := fun q c A τ A' τ' T m i o hTI ho hA hτ => by
    unfold sF at ho ⊢
    cases hh : hd c with
    | none => rw [hh] at ho; cases ho
    | some as =>
     cases hm : Nat.ble (q + 1) m with
     | false => rw [hh, hm] at ho; cases ho
     | true =>
      cases hT : T.get q with
      | none => rw [hh, hm, hT] at ho; cases ho
      | some ob =>
        rw [hh, hm, hT] at ho
        dsimp only at ho ⊢
        split at ho
        · cases ho
          rw [hτ.2 i.2 (Nat.lt_succ_self _), hA q (ble_true hm)]
        · cases ho
theorem sB_ok {C : Cfg} (hC : ∀ G : Lg, G.Fit → C.Ok G prog w (L + 64)) {id : String} {k : Nat} (e : PySem.code id = k) {args : Addr → List Value} {cls : Value} {xs : List Value} {res : Value} {n : Nat} {cs : List Nat}
    (h : ∀ (A τ θ θ' : Nat → Nat) (ep : Nat), vw (fun o => (vRes o, o.T.get 0)) (E C (up A) τ n [] (C.den (.builtin id ⟨toksL (args (up A 0)) θ, []⟩)) (one (seqO cls (toksL xs θ') ep)) 1 (0, 0) cs []) = wv (some res, some (seqO cls (toksL xs θ') ep)) (E C (up A) τ n [] (C.den (.builtin id ⟨toksL (args (up A 0)) θ, []⟩)) (one (seqO cls (toksL xs θ') ep)) 1 (0, 0) cs [])) :
    SOk C.B prog w L (hdB k) args cls xs res where
  ok := fun G hG c θ θ' ep A₀ Γ p s R hA0 hh hc hΓ D hR => by
    have hc' := hdB_is e hh
    rw [hc'] at hc
    refine code_den ?_
    have z := run_wp (hC G hG) (Nat.le_refl _) (a := fun _ _ => (some res, some (seqO cls (toksL xs θ') ep))) (τ₀ := fun _ => 0) ⟨fun _ => by rw [hG.N0]; exact Nat.zero_le _, hA0⟩ hΓ (TkI.zero _ _ _) (p := p) (R := R) D (fun A τ hA _ hn => by
        obtain ⟨A', rfl⟩ := up_is hG hn
        have y := h A' τ θ θ' ep
        rw [hA 0 (Nat.lt_succ_self _)] at y
        exact y) fun A τ s' o hA _ _ _ hf D' I => by
      obtain ⟨t, ht⟩ := vRes_is (congrArg Prod.fst hf)
      rw [ht]
      exact hR t s' A o.T o.m (hA 0 (Nat.lt_succ_self _)) (congrArg Prod.snd hf) D' I
    rw [(hC G hG).den, ← hc] at z
    exact z

/-! a new list -/
theorem ins_some : ∀ (U : BT) (n : Nat) (o o' : Obj), ((U.ins n o).get n).isSome = true → ((U.ins n o').get n).isSome = true
  | .nil, n, o, o', h => by
    show ((BT.node o' .nil .nil).get n).isSome = true
    have h : ((BT.node o .nil .nil).get n).isSome = true := h
    rw [BT.get_node] at h ⊢
    by_cases q : n = 0
    · rw [if_pos q]; rfl
    · rw [if_neg q] at h ⊢; exact h
  | .node v l r, n, o, o', h => by
    rw [BT.ins_node] at h ⊢
    by_cases q : n = 0
    · rw [if_pos q, BT.get_node, if_pos q]; rfl
    · rw [if_neg q] at h ⊢
      by_cases q1 : n % 2 = 1
      · rw [if_pos q1, BT.get_node, if_neg q, if_pos q1] at h ⊢
        exact ins_some l _ o o' h
      · rw [if_neg q1, BT.get_node, if_neg q, if_neg q1] at h ⊢
        exact ins_some r _ o o' h
noncomputable def nF (hd : HdF) (args : List Value) (cls : Value) (xs : List Value) (ep : Nat) : FactF := fun _ c A τ T m i => match hd c with
  | some as => match (T.ins m (seqO cls (toksL xs fun k => τ (2 * (i.2 + k) + 1)) ep)).get m with
    | none => none
    | some _ => some ⟨.ok (.ret (.ref (A m))), T.ins m (seqO cls (toksL xs fun k => τ (2 * (i.2 + k) + 1)) ep), m + 1, (i.1, i.2 + xs.length), [(.l (strkAll as), .l args)]⟩
  | none => none
structure NOk (B : Addr → Option Obj) (prog : Program) (w : World) (L : Nat) (hd : HdF) (args : List Value) (cls : Value) (xs : List Value) (ep : Nat) : Prop where
  ok : ∀ (G : Lg), G.Fit → ∀ c θ (Γ : Ctx) (p : Pos) (s : Shared) (R : Result → Shared → Prop), hd c = some (toksL args θ) → Γ.code = c → CtxOk L 0 Γ → Gd B G s →
    (∀ r θ' s' A₂ T₂ m₂, (∀ j, G.M ≤ A₂ j) → T₂.get r = some (seqO cls (toksL xs θ') ep) → Rep B G A₂ T₂ m₂ s' → Inv s 0 A₂ m₂ s' → R (.ok (.ret (.ref (A₂ r)))) s') → wpCode (model prog w) Γ R p s
theorem toksL_congr : ∀ (xs : List Value) (θ θ' : Nat → Nat), (∀ k, k < xs.length → θ k = θ' k) → toksL xs θ = toksL xs θ'
  | [], _, _, _ => rfl
  | v :: l, θ, θ', h => by
    show tokd v (θ 0) :: toksL l _ = tokd v (θ' 0) :: toksL l _
    rw [h 0 (Nat.succ_pos _), toksL_congr l (fun n => θ (n + 1)) (fun n => θ' (n + 1)) fun k hk => h (k + 1) (Nat.succ_lt_succ hk)]
theorem nF_ok {hd : HdF} {args : List Value} {cls : Value} {xs : List Value} {ep : Nat} (h : NOk B prog w L hd args cls xs ep) : FactOk B prog w L (nF hd args cls xs ep) where
  sp := fun G hG q c A₀ τ₀ T m i Γ p s R hm0 hc hΓ hk D h1 h2 => by
    obtain ⟨o, ho, he⟩ := h1 A₀ τ₀ (fun _ _ => rfl) (agr.refl _ _) hm0
    unfold nF at ho
    cases hh : hd c with
    | none => rw [hh] at ho; cases ho
    | some as =>
      rw [hh] at ho
      dsimp only at ho
      split at ho
      · cases ho
      · rename_i hg
        cases ho
        obtain ⟨θ, hθ⟩ := strkAll_inv' (VV.l.inj (he _ (.head _)))
        have hh' := hh
        rw [hθ] at hh'
        refine h.ok (G.out A₀ m) (hG.out A₀ m) c θ Γ p s R hh' hc hΓ D.gdOut fun r θ' s' A₂ T₂ m₂ hA2 hr D₂ I₂ => ?_
        have hrm := (D₂.own r _ hr).1
        have hins : ∀ o : Obj, ((T.ins m o).get m).isSome = true := fun o => by
          have : ∀ (U : BT) (n : Nat) (o o' : Obj), ((U.ins n o).get n).isSome = true → ((U.ins n o').get n).isSome = true := by
            intro U n o o' hs
            exact ins_some U n o o' hs
          exact this T m _ o (by rw [hg]; rfl)
        have hget := fun o => BT.get_ins o T m (hins o)
        have hτ : toksL xs (fun k => if 2 * (i.2 + k) + 1 < 2 * i.2 ∨ (2 * (i.2 + k) + 1) % 2 = 0 then τ₀ (2 * (i.2 + k) + 1) else θ' ((2 * (i.2 + k) + 1) / 2 - i.2)) = toksL xs θ' := toksL_congr _ _ _ fun k _ => by
          rw [if_neg (by omega)]
          congr 1
          omega
        obtain ⟨D', I'⟩ := D.back (T' := T.ins m (seqO cls (toksL xs θ') ep)) (A' := fun j => if j = m then A₂ r else A₀ j) (m' := m + 1) (js := id) (r := fun _ => r) hG.tab D₂ I₂ (fun k hk => absurd hk (Nat.not_lt_zero _)) (Nat.le_succ _) (fun j hj => if_neg (Nat.ne_of_lt hj))
          (fun j h1 h2 => ⟨if_pos (by omega), Nat.zero_le _, hrm⟩) (fun i j h1 h2 h3 h4 _ => by omega) fun j o e => by
            rw [hget] at e
            by_cases hj : j = m
            · rw [if_pos hj] at e
              subst hj
              refine ⟨Nat.lt_succ_self _, fun _ => .inr (.inr ⟨Nat.le_refl _, ?_⟩)⟩
              rw [← e]
              exact hr
            · rw [if_neg hj] at e
              exact ⟨Nat.lt_succ_of_lt (D.own j o e).1, fun _ => .inl ⟨(D.own j o e).1, fun k hk => absurd hk (Nat.not_lt_zero _), e⟩⟩
        refine (show R (.ok (.ret (.ref (if m = m then A₂ r else A₀ m)))) s' → R (.ok (.ret (.ref (A₂ r)))) s' by rw [if_pos rfl]; exact id) ?_
        refine h2 (fun j => if j = m then A₂ r else A₀ j) (fun j => if j < 2 * i.2 ∨ j % 2 = 0 then τ₀ j else θ' (j / 2 - i.2)) s' ⟨.ok (.ret (.ref (if m = m then A₂ r else A₀ m))), T.ins m (seqO cls (toksL xs θ') ep), m + 1, (i.1, i.2 + xs.length), [(.l (strkAll as), .l args)]⟩ (fun j hj => if_neg (Nat.ne_of_lt hj)) ⟨fun j hj => if_pos (by omega), fun j hj => if_pos (by omega)⟩ (fun j => by show G.M ≤ if j = m then A₂ r else A₀ j; split <;> first | exact hA2 r | exact hm0 j) ?_ ⟨Nat.le_refl _, Nat.le_add_right _ _⟩ ⟨fun j k h1 h2 => by
          show (if 2 * j < 2 * i.2 ∨ 2 * j % 2 = 0 then τ₀ (2 * j) else _) < if 2 * k < 2 * i.2 ∨ 2 * k % 2 = 0 then τ₀ (2 * k) else _
          rw [if_pos (by omega), if_pos (by omega)]
          exact hk.1 j k h1 h2, fun j hj => by
          show 0 < (if 2 * j < 2 * i.2 ∨ 2 * j % 2 = 0 then τ₀ (2 * j) else _) ∧ (if 2 * j < 2 * i.2 ∨ 2 * j % 2 = 0 then τ₀ (2 * j) else _) < _
          rw [if_pos (by omega)]
          exact ⟨(hk.2 j hj).1, Nat.lt_of_lt_of_le (hk.2 j hj).2 I'.toks⟩⟩ D' I'
        unfold nF
        rw [hh]
        dsimp only
        rw [hτ]
        split
        · rename_i hn
          have := hins (seqO cls (toksL xs θ') ep)
          rw [hn] at this
          cases this
        · rfl
  spx := fun q c A τ A' τ' T m i o hTI ho hA hτ => by
    unfold nF at ho ⊢
    cases hh : hd c with
    | none => rw [hh] at ho; cases ho
    | some as =>
      rw [hh] at ho
      dsimp only at ho ⊢
      split at ho
      · cases ho
      · rename_i hg
        cases ho
        have e : toksL xs (fun k => τ' (2 * (i.2 + k) + 1)) = toksL xs (fun k => τ (2 * (i.2 + k) + 1)) := toksL_congr _ _ _ fun k hk => hτ.2 _ (Nat.add_lt_add_left hk _)
        rw [e, hg, hA m (Nat.lt_succ_self _)]
end
end Mine
end
section
open PySem PySem.W
namespace Mine
/-! the law's texts -/
noncomputable def nmS (k : Nat) : Str := match k with
  | 0 => ⟨#[65, 117, 116, 104, 111, 114, 105, 122, 97, 116, 105, 111, 110]⟩
  | 1 => ⟨#[97, 117, 116, 104, 111, 114, 105, 122, 97, 116, 105, 111, 110]⟩
  | _ => ⟨#[65, 85, 84, 72, 79, 82, 73, 90, 65, 84, 73, 79, 78]⟩
noncomputable def wdS (k : Nat) : Str := match k with
  | 0 => ⟨#[66, 97, 115, 105, 99]⟩
  | 1 => ⟨#[98, 97, 115, 105, 99]⟩
  | _ => ⟨#[66, 101, 97, 114, 101, 114]⟩
noncomputable def lwS (k : Nat) : Str := match k with
  | 0 => ⟨#[98, 97, 115, 105, 99]⟩
  | 1 => ⟨#[98, 97, 115, 105, 99]⟩
  | _ => ⟨#[98, 101, 97, 114, 101, 114]⟩
noncomputable def usS (k : Nat) : Str := match k with
  | 0 => ⟨#[97, 110, 110]⟩
  | 1 => ⟨#[98, 111, 98]⟩
  | 2 => ⟨#[114, 111, 111, 116]⟩
  | _ => ⟨#[97, 49]⟩
noncomputable def pwS (k : Nat) : Str := match k with
  | 0 => ⟨#[112]⟩
  | 1 => ⟨#[97, 58, 98]⟩
  | 2 => ⟨#[255]⟩
  | _ => ⟨#[]⟩
noncomputable def txS (u p : Nat) : Str := match u with
  | 0 => match p with
    | 0 => ⟨#[89, 87, 53, 117, 79, 110, 65, 61]⟩
    | 1 => ⟨#[89, 87, 53, 117, 79, 109, 69, 54, 89, 103, 61, 61]⟩
    | 2 => ⟨#[89, 87, 53, 117, 79, 118, 56, 61]⟩
    | _ => ⟨#[89, 87, 53, 117, 79, 103, 61, 61]⟩
  | 1 => match p with
    | 0 => ⟨#[89, 109, 57, 105, 79, 110, 65, 61]⟩
    | 1 => ⟨#[89, 109, 57, 105, 79, 109, 69, 54, 89, 103, 61, 61]⟩
    | 2 => ⟨#[89, 109, 57, 105, 79, 118, 56, 61]⟩
    | _ => ⟨#[89, 109, 57, 105, 79, 103, 61, 61]⟩
  | 2 => match p with
    | 0 => ⟨#[99, 109, 57, 118, 100, 68, 112, 119]⟩
    | 1 => ⟨#[99, 109, 57, 118, 100, 68, 112, 104, 79, 109, 73, 61]⟩
    | 2 => ⟨#[99, 109, 57, 118, 100, 68, 114, 47]⟩
    | _ => ⟨#[99, 109, 57, 118, 100, 68, 111, 61]⟩
  | _ => match p with
    | 0 => ⟨#[89, 84, 69, 54, 99, 65, 61, 61]⟩
    | 1 => ⟨#[89, 84, 69, 54, 89, 84, 112, 105]⟩
    | 2 => ⟨#[89, 84, 69, 54, 47, 119, 61, 61]⟩
    | _ => ⟨#[89, 84, 69, 54]⟩
noncomputable def cat (a b : Str) : Str := ⟨⟨a.cps.toList ++ b.cps.toList⟩⟩
theorem cat_eq (a b : Str) : cat a b = a ++ b := by
  obtain ⟨⟨l1⟩⟩ := a
  obtain ⟨⟨l2⟩⟩ := b
  show Str.mk _ = Str.mk _
  congr 1
  show (⟨l1 ++ l2⟩ : Array Nat) = (⟨l1⟩ : Array Nat) ++ ⟨l2⟩
  simp
noncomputable def authS : Str := ⟨#[97, 117, 116, 104, 111, 114, 105, 122, 97, 116, 105, 111, 110]⟩
noncomputable def spS : Str := ⟨#[32]⟩
noncomputable def csS : Str := ⟨#[58, 32]⟩
noncomputable def emS : Str := ⟨#[]⟩
noncomputable def nlS : Str := ⟨#[13, 10]⟩
noncomputable def wwwS : Str := ⟨#[87, 87, 87, 45, 65, 117, 116, 104, 101, 110, 116, 105, 99, 97, 116, 101, 58, 32, 66, 97, 115, 105, 99, 59, 32, 114, 101, 97, 108, 109, 61, 34, 97, 32, 92, 34, 98, 92, 34, 32, 92, 92, 99, 92, 92, 34, 59, 32, 99, 104, 97, 114, 115, 101, 116, 61, 34, 117, 116, 102, 34]⟩
noncomputable def endS : Str := ⟨#[13, 10, 13, 10]⟩
noncomputable def xuS : Str := ⟨#[88, 45, 85, 115, 101, 114, 58, 32]⟩
noncomputable def vS (w u p : Nat) : Str := cat (wdS w) (cat spS (txS u p))
noncomputable def rowS (k w u p : Nat) : Str := cat (nmS k) (cat csS (vS w u p))
noncomputable def noS (k w u p : Nat) : Str := cat (rowS k w u p) (cat nlS (cat wwwS endS))
noncomputable def okS (k w u p : Nat) : Str := cat (rowS k w u p) (cat nlS (cat xuS (cat (usS u) endS)))
noncomputable def ocT (u p : Nat) : Array UInt8 := match u with
  | 0 => match p with
    | 0 => #[97, 110, 110, 58, 112]
    | 1 => #[97, 110, 110, 58, 97, 58, 98]
    | 2 => #[97, 110, 110, 58, 255]
    | _ => #[97, 110, 110, 58]
  | 1 => match p with
    | 0 => #[98, 111, 98, 58, 112]
    | 1 => #[98, 111, 98, 58, 97, 58, 98]
    | 2 => #[98, 111, 98, 58, 255]
    | _ => #[98, 111, 98, 58]
  | 2 => match p with
    | 0 => #[114, 111, 111, 116, 58, 112]
    | 1 => #[114, 111, 111, 116, 58, 97, 58, 98]
    | 2 => #[114, 111, 111, 116, 58, 255]
    | _ => #[114, 111, 111, 116, 58]
  | _ => match p with
    | 0 => #[97, 49, 58, 112]
    | 1 => #[97, 49, 58, 97, 58, 98]
    | 2 => #[97, 49, 58, 255]
    | _ => #[97, 49, 58]
/-! the classes of an answer: 0 another word, 1 basic and not known, 2 known and not may, 3 may and never, 4 well -/
noncomputable def lwC (cls : Nat) : Str := match cls with
  | 0 => lwS 2
  | _ => lwS 0
noncomputable def row2C (cls u : Nat) : Str := match cls with
  | 4 => cat xuS (usS u)
  | _ => wwwS
noncomputable def resC (cls k w u p : Nat) : Str := match cls with
  | 4 => okS k w u p
  | _ => noS k w u p
noncomputable def xsC (cls u : Nat) : List Value := match cls with
  | 4 => [.str (usS u) 0, .str (usS u) 0]
  | _ => []
noncomputable def bmC (cls : Nat) : Bool := match cls with
  | 3 => true
  | 4 => true
  | _ => false
noncomputable def bnC (cls : Nat) : Bool := match cls with
  | 3 => true
  | _ => false
end Mine
end
section
open PySem PySem.W
namespace Mine
/-- certificates with an escape for large ones -/
noncomputable def esc : List Nat → List Nat
  | [] => []
  | x :: l => match Nat.beq x 127 with
    | true => match l with
      | a :: b :: l => (a + 128 * b) :: esc l
      | _ => []
    | false => x :: esc l
noncomputable def sO (o : Option Obj) : Option (Value × List Value × Nat) := match o with
  | some ⟨cl, none, .seq ys ep, ⟨[]⟩⟩ => some (cl, strkAll ys.toList, ep)
  | _ => none
theorem sO_is {o : Option Obj} {cl : Value} {xs : List Value} {ep : Nat} (h : sO o = some (cl, xs, ep)) : ∃ θ, o = some (seqO cl (toksL xs θ) ep) := by
  unfold sO at h
  split at h
  · rename_i cl' ys ep'
    cases h
    obtain ⟨θ, hθ⟩ := strkAll_inv ys.toList
    exact ⟨θ, by rw [← hθ]; rfl⟩
  · cases h
noncomputable def rO (o : Out) : Option Addr := match o.r with
  | .ok (.ret (.ref a)) => some a
  | _ => none
theorem rO_is {o : Out} {a : Addr} (h : rO o = some a) : o.r = .ok (.ret (.ref a)) := by
  unfold rO at h; split at h <;> first | (cases h; assumption) | cases h
/-- a result pair: a tuple of a text and a list -/
noncomputable def pairF (r1 r2 : Nat) (o : Out) := (rO o, sO (o.T.get r1), sO (o.T.get r2))
noncomputable def tupV : Value := .type "tuple"
noncomputable def lisV : Value := .type "list"
noncomputable def pairW (r1 r2 e1 e2 : Nat) (S : Str) (xs : List Value) (A _ : Nat → Nat) : Option Addr × Option (Value × List Value × Nat) × Option (Value × List Value × Nat) :=
  (some (A r1), some (tupV, [.str S 0, .ref (A r2)], e1), some (lisV, xs, e2))
noncomputable def searchN : Nat := 35863170436209133097404895493593441986163
noncomputable def lowerN : Nat := 2128759343679922206068
noncomputable def splitN : Nat := 2165937967108325602676
noncomputable def modN : Nat := 116512097088030077292344692
noncomputable def joinN : Nat := 8028352891401237876
noncomputable def addN : Nat := 116512096292018843154609524
noncomputable def containsN : Nat := 32795317678217157189674408721764467370605
noncomputable def indexN : Nat := 573295221500217757297261
noncomputable def usV : List Value := [.str (usS 0) 0, .str (usS 1) 0, .str (usS 2) 0, .str (usS 3) 0]
noncomputable def fmtS : Str := ⟨#[37, 115, 58, 32, 37, 115]⟩
noncomputable def replaceN : Nat := 123784485916095431283275124
/-- str.replace of a text whose last two arguments are the run's two newest tokens -/
noncomputable def rF (x y z res : Str) : FactF := fun _ c A τ T m i => match hdB replaceN c with
  | some as => match as with
    | [a0, a1, a2] => match Nat.ble 2 i.1 with
      | true => some ⟨.ok (.ret (.str res (τ (2 * i.2 + 1)))), T, m, (i.1, i.2 + 1), [(.v (strk a0), .v (.str x 0)), (.v a1, .v (.str y (τ (2 * (i.1 - 2))))), (.v a2, .v (.str z (τ (2 * (i.1 - 1)))))]⟩
      | false => none
    | _ => none
  | none => none
noncomputable def rlA : Str := ⟨#[97, 32, 34, 98, 34, 32, 92, 99, 92]⟩
noncomputable def rlB : Str := ⟨#[97, 32, 34, 98, 34, 32, 92, 92, 99, 92, 92]⟩
noncomputable def rlC : Str := ⟨#[97, 32, 92, 34, 98, 92, 34, 32, 92, 92, 99, 92, 92]⟩
noncomputable def bsS : Str := ⟨#[92]⟩
noncomputable def bs2S : Str := ⟨#[92, 92]⟩
noncomputable def quS : Str := ⟨#[34]⟩
noncomputable def bqS : Str := ⟨#[92, 34]⟩
noncomputable def reS : Str := ⟨#[114, 101, 97, 108, 109]⟩
noncomputable def chS : Str := ⟨#[99, 104, 97, 114, 115, 101, 116]⟩
noncomputable def utS : Str := ⟨#[117, 116, 102]⟩
noncomputable def fpA : Str := ⟨#[114, 101, 97, 108, 109, 61, 34, 97, 32, 92, 34, 98, 92, 34, 32, 92, 92, 99, 92, 92, 34]⟩
noncomputable def fpB : Str := ⟨#[99, 104, 97, 114, 115, 101, 116, 61, 34, 117, 116, 102, 34]⟩
noncomputable def noF : FactF := fun _ _ _ _ _ _ _ => none
noncomputable def mayF (cls u : Nat) (may : Str) : FactF := match cls with
  | 0 => noF
  | 1 => noF
  | _ => vF (hdP 333) [.str may 0, .str (usS u) 0] (.bool (bmC cls))
noncomputable def nevF (cls u : Nat) (nev : Str) : FactF := match cls with
  | 3 => vF (hdP 333) [.str nev 0, .str (usS u) 0] (.bool (bnC cls))
  | 4 => vF (hdP 333) [.str nev 0, .str (usS u) 0] (.bool (bnC cls))
  | _ => noF
/-- what a run of _law_answered leans on; the user and the password are given, the header's name and the word aren't -/
noncomputable def anF (cls k w u p : Nat) (may nev : Str) : List FactF :=
  [vF (hdB searchN) [.ref 48, .str (nmS k) 0] .none,
   vF (hdB searchN) [.ref 53, .str (vS w u p) 0] .none,
   vF (hdB lowerN) [.str (nmS k) 0] (.str authS 0),
   nF (hdB splitN) [.str (vS w u p) 0, .str spS 0] lisV [.str (wdS w) 0, .str (txS u p) 0] 0,
   vF (hdP 269) [.str (txS u p) 0] (.bytes (ocT u p) 0),
   vF (hdB lowerN) [.str (wdS w) 0] (.str (lwC cls) 0),
   mayF cls u may,
   nevF cls u nev,
   sF (hdB modN) (fun a => [.str fmtS 0, .ref a]) tupV [.str (nmS k) 0, .str (vS w u p) 0] (.str (rowS k w u p) 0),
   sF (hdB joinN) (fun a => [.str nlS 0, .ref a]) lisV [.str (rowS k w u p) 0, .str (row2C cls u) 0, .str emS 0, .str emS 0] (.str (resC cls k w u p) 0),
   sF (hdB containsN) (fun a => [.ref a, .str (usS u) 0]) lisV usV (.bool true),
   sF (hdB indexN) (fun a => [.ref a, .str (usS u) 0]) lisV usV (.int u 0),
   vF (hdP 61) [.str reS 0, .str rlA 0] (.str fpA 0),
   vF (hdP 61) [.str chS 0, .str utS 0] (.str fpB 0)]
/-! the forms of the leaves -/
noncomputable abbrev C0 (kt : Params → X.KT) (P : Params) (b : Bool × Bool) : Cfg := CC kt noSp P b
noncomputable def vBL (kt : Params → X.KT) (id : String) (args : List Value) (res : Value) (n nc N : Nat) : Prop := ∀ (P : Params) (b : Bool × Bool) (A τ θ : Nat → Nat),
  vw vRes (E (C0 kt P b) (up A) τ n [] ((C0 kt P b).den (.builtin id ⟨toksL args θ, []⟩)) .nil 0 (0, 0) (esc (unp 128 nc N)) []) = wv (some res) (E (C0 kt P b) (up A) τ n [] ((C0 kt P b).den (.builtin id ⟨toksL args θ, []⟩)) .nil 0 (0, 0) (esc (unp 128 nc N)) [])
noncomputable def nBL (kt : Params → X.KT) (id : String) (args : List Value) (cls : Value) (xs : List Value) (ep r n nc N : Nat) : Prop := ∀ (P : Params) (b : Bool × Bool) (A τ θ : Nat → Nat),
  vw (fun o => (rO o, sO (o.T.get r))) (E (C0 kt P b) (up A) τ n [] ((C0 kt P b).den (.builtin id ⟨toksL args θ, []⟩)) .nil 0 (0, 0) (esc (unp 128 nc N)) []) = wv (some (up A r), some (cls, xs, ep)) (E (C0 kt P b) (up A) τ n [] ((C0 kt P b).den (.builtin id ⟨toksL args θ, []⟩)) .nil 0 (0, 0) (esc (unp 128 nc N)) [])
noncomputable def sBL (kt : Params → X.KT) (id : String) (args : Addr → List Value) (cls : Value) (xs : List Value) (res : Value) (n nc N : Nat) : Prop := ∀ (P : Params) (b : Bool × Bool) (A τ θ θ' : Nat → Nat) (ep : Nat),
  vw (fun o => (vRes o, o.T.get 0)) (E (C0 kt P b) (up A) τ n [] ((C0 kt P b).den (.builtin id ⟨toksL (args (up A 0)) θ, []⟩)) (one (seqO cls (toksL xs θ') ep)) 1 (0, 0) (esc (unp 128 nc N)) []) =
    wv (some res, some (seqO cls (toksL xs θ') ep)) (E (C0 kt P b) (up A) τ n [] ((C0 kt P b).den (.builtin id ⟨toksL (args (up A 0)) θ, []⟩)) (one (seqO cls (toksL xs θ') ep)) 1 (0, 0) (esc (unp 128 nc N)) [])
noncomputable def vPL (kt : Params → X.KT) (f : Nat) (args : List Value) (res : Value) (n nc N : Nat) : Prop := ∀ (P : Params) (b : Bool × Bool) (A τ θ : Nat → Nat),
  vw vRes (E (C0 kt P b) (up A) τ n [] (st0 (C0 kt P b) (.call (.ref f) ⟨toksL args θ, []⟩)) .nil 0 (0, 0) (esc (unp 128 nc N)) []) = wv (some res) (E (C0 kt P b) (up A) τ n [] (st0 (C0 kt P b) (.call (.ref f) ⟨toksL args θ, []⟩)) .nil 0 (0, 0) (esc (unp 128 nc N)) [])
noncomputable def vPLF (kt : Params → X.KT) (fs : List FactF) (f : Nat) (args : List Value) (res : Value) (n nc N : Nat) : Prop := ∀ (P : Params) (b : Bool × Bool) (A τ θ : Nat → Nat),
  vw vRes (E (CC kt (spOf fs) P b) (up A) τ n [] (st0 (CC kt (spOf fs) P b) (.call (.ref f) ⟨toksL args θ, []⟩)) .nil 0 (0, 0) (esc (unp 128 nc N)) []) = wv (some res) (E (CC kt (spOf fs) P b) (up A) τ n [] (st0 (CC kt (spOf fs) P b) (.call (.ref f) ⟨toksL args θ, []⟩)) .nil 0 (0, 0) (esc (unp 128 nc N)) [])
noncomputable def fpF : List FactF := [rF rlA bsS bs2S rlB, rF rlB quS bqS rlC]
noncomputable abbrev anCC (kt : Params → X.KT) (cls k w u p : Nat) (may nev : Str) (P : Params) (b : Bool × Bool) : Cfg := CC kt (spOf (anF cls k w u p may nev)) P b
noncomputable def anArgs (k w u p : Nat) (may nev : Str) : List Value := [.str (nmS k) 0, .str (vS w u p) 0, .str may 0, .str nev 0]
noncomputable abbrev anE (kt : Params → X.KT) (cls k w u p : Nat) (may nev : Str) (r1 r2 e1 e2 n nc N : Nat) (P : Params) (b : Bool × Bool) (A τ θ : Nat → Nat) : Prop :=
  vw (pairF r1 r2) (E (anCC kt cls k w u p may nev P b) (up A) τ n [] (st0 (anCC kt cls k w u p may nev P b) (.call (.ref 343) ⟨toksL (anArgs k w u p may nev) θ, []⟩)) .nil 0 (0, 0) (esc (unp 128 nc N)) []) =
    wv (pairW r1 r2 e1 e2 (resC cls k w u p) (xsC cls u) (up A) τ) (E (anCC kt cls k w u p may nev P b) (up A) τ n [] (st0 (anCC kt cls k w u p may nev P b) (.call (.ref 343) ⟨toksL (anArgs k w u p may nev) θ, []⟩)) .nil 0 (0, 0) (esc (unp 128 nc N)) [])
noncomputable def anL (kt : Params → X.KT) (cls k w u p : Nat) (may nev : Str) (r1 r2 e1 e2 n nc N : Nat) : Prop := ∀ (P : Params) (b : Bool × Bool) (A τ θ : Nat → Nat), anE kt cls k w u p may nev r1 r2 e1 e2 n nc N P b A τ θ
end Mine
end
section
open PySem PySem.W
namespace Mine
open PySem.MeetsSeq PySem.SeqAt
section
variable {B : Addr → Option Obj} {prog : Program} {w : World} {L : Nat}
theorem code_meets {id : String} {args : Args} {b : Builtin} {S : Spec} {Γ : Ctx} {p : Pos} {s : Shared} {R : Result → Shared → Prop} (hp : plainId id = true) (he : entryFor table id = some b) (hm : Meets (b args) S) (hc : Γ.code = .builtin id args)
    (h : S { handled := Γ.handled, depth := frameCount Γ.below, units := unitsOf Γ.below } R s) : wpCode (model prog w) Γ R p s :=
  (codeAny_builtin he (by rw [Around.under_plainId hp]; exact hm prog w _ R s h)) Γ p hc ⟨rfl, Nat.le_refl _, (fun _ h => by cases h), (fun _ h => by cases h), Nat.le_refl _⟩
theorem vM_ok {id : String} {k : Nat} (e : PySem.code id = k) {args : List Value} {res : Value} {b : Builtin} {S : (Nat → Nat) → Spec} (hp : plainId id = true) (he : entryFor table id = some b) (hm : ∀ θ, Meets (b ⟨toksL args θ, []⟩) (S θ))
    (h : ∀ θ A R (s : Shared), (∀ t s', s'.heap = s.heap → s.toks ≤ s'.toks → s'.gens = s.gens → s'.drawn = s.drawn → s'.os = s.os → R (.ok (.ret (tokd res t))) s') → S θ A R s) : VOk B prog w L (hdB k) args res where
  ok := fun G hG c θ Γ p s R hh hc hΓ g hR => by
    have hc' := hdB_is e hh
    rw [hc'] at hc
    refine code_meets hp he (hm θ) hc (h θ _ R s fun t s' h1 h2 h3 h4 h5 => ?_)
    refine hR t s' (fun _ => 0) .nil 0 ((Rep.nil g).shared h1 h2) ⟨Nat.le_refl _, fun b o e _ _ => by rw [h1]; exact e, by rw [h1]; exact Nat.le_refl _, fun j h1 h2 => absurd h2 (Nat.not_lt.mpr h1), by rw [h3]; exact fun h => h, h4, h5, h2⟩
theorem sM_ok {id : String} {k : Nat} (e : PySem.code id = k) {args : Addr → List Value} {cls : Value} {xs : List Value} {res : Value} {b : Builtin} {S : Addr → (Nat → Nat) → (Nat → Nat) → Nat → Spec} (hp : plainId id = true) (he : entryFor table id = some b) (hm : ∀ a θ θ' ep, Meets (b ⟨toksL (args a) θ, []⟩) (S a θ θ' ep))
    (h : ∀ a θ θ' ep A R (s : Shared), s.heap.get? a = some (seqO cls (toksL xs θ') ep) → (∀ t s', s'.heap = s.heap → s.toks ≤ s'.toks → s'.gens = s.gens → s'.drawn = s.drawn → s'.os = s.os → R (.ok (.ret (tokd res t))) s') → S a θ θ' ep A R s) : SOk B prog w L (hdB k) args cls xs res where
  ok := fun G hG c θ θ' ep A₀ Γ p s R hA0 hh hc hΓ D hR => by
    have hc' := hdB_is e hh
    rw [hc'] at hc
    have hg : (one (seqO cls (toksL xs θ') ep)).get 0 = some (seqO cls (toksL xs θ') ep) := rfl
    refine code_meets hp he (hm (A₀ 0) θ θ' ep) hc (h _ θ θ' ep _ R s ((D.own 0 _ hg).2 rfl) fun t s' h1 h2 h3 h4 h5 => ?_)
    refine hR t s' A₀ _ 1 rfl hg (D.shared h1 h2) ⟨Nat.le_refl _, fun b o e _ _ => by rw [h1]; exact e, by rw [h1]; exact Nat.le_refl _, fun j h1 h2 => absurd h2 (Nat.not_lt.mpr h1), by rw [h3]; exact fun h => h, h4, h5, h2⟩

theorem nB_ok {C : Cfg} (hC : ∀ G : Lg, G.Fit → C.Ok G prog w (L + 64)) {id : String} {k : Nat} (e : PySem.code id = k) {args : List Value} {cls : Value} {xs : List Value} {ep : Nat} {r : Nat} {n : Nat} {cs : List Nat}
    (h : ∀ A τ θ : Nat → Nat, vw (fun o => (rO o, sO (o.T.get r))) (E C (up A) τ n [] (C.den (.builtin id ⟨toksL args θ, []⟩)) .nil 0 (0, 0) cs []) = wv (some (up A r), some (cls, xs, ep)) (E C (up A) τ n [] (C.den (.builtin id ⟨toksL args θ, []⟩)) .nil 0 (0, 0) cs [])) :
    NOk C.B prog w L (hdB k) args cls xs ep where
  ok := fun G hG c θ Γ p s R hh hc hΓ g hR => by
    have hc' := hdB_is e hh
    rw [hc'] at hc
    refine code_den ?_
    have z := run_wp (hC G hG) (Nat.le_refl _) (a := fun A _ => (some (A r), some (cls, xs, ep))) (A₀ := fun _ => G.M) (τ₀ := fun _ => 0) ⟨fun _ => by rw [hG.N0]; exact Nat.zero_le _, fun _ => Nat.le_refl _⟩ hΓ (TkI.zero _ _ _) (p := p) (R := R) (Rep.nil g) (fun A τ _ _ hn => by obtain ⟨A', rfl⟩ := up_is hG hn; exact h A' τ θ) fun A τ s' o _ _ hn _ hf D I => by
      rw [rO_is (congrArg Prod.fst hf)]
      obtain ⟨θ', hθ'⟩ := sO_is (congrArg Prod.snd hf)
      exact hR r θ' s' A o.T o.m hn.2 hθ' D I
    rw [(hC G hG).den, ← hc] at z
    exact z
/-- a def that gives back a tuple of a text and a list (no look at the epochs left) -/
structure PQk (B : Addr → Option Obj) (prog : Program) (w : World) (L : Nat) (n : Nat) (args : List Value) (S : Str) (xs : List Value) : Prop where
  ok : ∀ (G : Lg), G.Fit → ∀ θ (Γ : Ctx) (p : Pos) (s : Shared) (R : Result → Shared → Prop), Γ.code = .call (.ref n) ⟨toksL args θ, []⟩ → CtxOk L 0 Γ → Gd B G s →
    (∀ r1 r2 θ₁ θ₂ s' A₂ T₂ m₂, r1 ≠ r2 → (∀ j, G.M ≤ A₂ j) → T₂.get r1 = some (seqO tupV (toksL [.str S 0, .ref (A₂ r2)] θ₁) 0) → T₂.get r2 = some (seqO lisV (toksL xs θ₂) 0) → Rep B G A₂ T₂ m₂ s' → Inv s 0 A₂ m₂ s' → R (.ok (.ret (.ref (A₂ r1)))) s') → wpCode (model prog w) Γ R p s
theorem pP_ok {C : Cfg} (hC : ∀ G : Lg, G.Fit → C.Ok G prog w (L + 64)) {k : Nat} {args : List Value} {S : Str} {xs : List Value} {r1 r2 n : Nat} {cs : List Nat} (hne : Nat.beq r1 r2 = false)
    (ht : ∀ θ, C.ov 0 (.call (.ref k) ⟨toksL args θ, []⟩) = some (st0 C (.call (.ref k) ⟨toksL args θ, []⟩)))
    (h : ∀ A τ θ : Nat → Nat, vw (pairF r1 r2) (E C (up A) τ n [] (st0 C (.call (.ref k) ⟨toksL args θ, []⟩)) .nil 0 (0, 0) cs []) = wv (pairW r1 r2 0 0 S xs (up A) τ) (E C (up A) τ n [] (st0 C (.call (.ref k) ⟨toksL args θ, []⟩)) .nil 0 (0, 0) cs [])) :
    PQk C.B prog w L k args S xs where
  ok := fun G hG θ Γ p s R hc hΓ g hR => by
    refine (hC G hG).ov 0 _ _ (ht θ) Γ p s R hc (hΓ.lift (by omega)) g.base fun p' => ?_
    refine run_wp (hC G hG) (Nat.le_refl _) (a := pairW r1 r2 0 0 S xs) (A₀ := fun _ => G.M) (τ₀ := fun _ => 0) ⟨fun _ => by rw [hG.N0]; exact Nat.zero_le _, fun _ => Nat.le_refl _⟩ hΓ (TkI.zero _ _ _) (Rep.nil g) (fun A τ _ _ hn => by obtain ⟨A', rfl⟩ := up_is hG hn; exact h A' τ θ) fun A τ s' o _ _ hn _ hf D I => ?_
    rw [rO_is (congrArg Prod.fst hf)]
    obtain ⟨θ₁, h1⟩ := sO_is (congrArg (fun x => x.2.1) hf)
    obtain ⟨θ₂, h2⟩ := sO_is (congrArg (fun x => x.2.2) hf)
    exact hR r1 r2 θ₁ θ₂ s' A o.T o.m (fun e => by rw [e, Nat.beq_refl] at hne; cases hne) hn.2 h1 h2 D I

noncomputable def strsV : List Str → List Value
  | [] => []
  | x :: l => .str x 0 :: strsV l
noncomputable def seqEq (x y : Str) : Bool := y.cps.toList == x.cps.toList
noncomputable def eStr (x : Str) (y : Value) : Bool := match y with
  | .str z _ => seqEq x z
  | _ => false
theorem eStr_gives (x : Str) (t : Tok) : ∀ (xs : List Str) (θ : Nat → Nat), ∀ y ∈ toksL (strsV xs) θ, EqGives y (.str x t) (eStr x y)
  | [], _, _, h => (nomatch h)
  | z :: l, θ, y, h => by
    cases h with
    | head => exact SeqRoads2.EqGives.str z x (θ 0) t
    | tail _ h => exact eStr_gives x t l _ y h
theorem eStr_any (x : Str) : ∀ (xs : List Str) (θ : Nat → Nat), (toksL (strsV xs) θ).any (eStr x) = xs.any (seqEq x)
  | [], _ => rfl
  | z :: l, θ => by
    show (seqEq x z || (toksL (strsV l) _).any (eStr x)) = (seqEq x z || l.any (seqEq x))
    rw [eStr_any x l]
theorem eStr_get (x : Str) : ∀ (xs : List Str) (θ : Nat → Nat) (n : Nat), ((toksL (strsV xs) θ)[n]?).map (eStr x) = (xs[n]?).map (seqEq x)
  | [], _, _ => rfl
  | z :: l, θ, 0 => rfl
  | z :: l, θ, n + 1 => eStr_get x l (fun n => θ (n + 1)) n
theorem contains_ok {x : Str} {xs : List Str} {r : Bool} (h : xs.any (seqEq x) = r) : SOk B prog w L (hdB containsN) (fun a => [.ref a, .str x 0]) lisV (strsV xs) (.bool r) :=
  sM_ok (id := "list.__contains__") (by decide +kernel) F.slot_list_contains.plain F.entry_list_contains (fun a θ θ' ep => SeqInW.list_containsW a ⟨toksL (strsV xs) θ'⟩ ep none #[] (.str x (θ 1)) (eStr x) fun y hy => eStr_gives x _ xs θ' y (Array.mem_def.mp hy))
    fun a θ θ' ep A R s hs hR => ⟨hs, by
      have := hR 0 s rfl (Nat.le_refl _) rfl rfl rfl
      have e : (⟨toksL (strsV xs) θ'⟩ : Array Value).any (eStr x) = r := by rw [← h, ← eStr_any x xs θ', ← Array.any_toList]
      rw [e]
      exact this⟩
theorem index_ok {x : Str} {xs : List Str} {j : Nat} (hj : xs[j]?.map (seqEq x) = some true) (hn : ∀ m, m < j → xs[m]?.map (seqEq x) = some false) (hs : j < 1000) : SOk B prog w L (hdB indexN) (fun a => [.ref a, .str x 0]) lisV (strsV xs) (.int j 0) := by
  have hl : ∀ (l : List Str) (θ : Nat → Nat), (toksL (strsV l) θ).length = l.length := by
    intro l
    induction l with
    | nil => intro _; rfl
    | cons a l ih => intro θ; exact congrArg Nat.succ (ih _)
  have hjl : j < xs.length := by
    cases q : xs[j]? with
    | none => rw [q] at hj; cases hj
    | some z => exact (List.getElem?_eq_some_iff.mp q).1
  have hget : ∀ θ m (hm : m < (⟨toksL (strsV xs) θ⟩ : Array Value).size), xs[m]?.map (seqEq x) = some (eStr x (⟨toksL (strsV xs) θ⟩ : Array Value)[m]) := fun θ m hm => by
    rw [← eStr_get x xs θ m]
    have : m < (toksL (strsV xs) θ).length := hm
    rw [List.getElem?_eq_getElem this]
    rfl
  refine sM_ok (id := "list.index") (by decide +kernel) F.slot_list_index.plain F.entry_list_index (fun a θ θ' ep => SeqAt.list_indexAt a ⟨toksL (strsV xs) θ'⟩ ep none #[] (.str x (θ 1)) (eStr x) j (by show j < (toksL (strsV xs) θ').length; rw [hl]; exact hjl) (by omega)
      (by have := hget θ' j (by show j < (toksL (strsV xs) θ').length; rw [hl]; exact hjl)
          rw [hj] at this
          exact (Option.some.inj this).symm)
      (fun m hm hmj => by
        have := hget θ' m hm
        rw [hn m hmj] at this
        exact (Option.some.inj this).symm))
    fun a θ θ' ep A R s hs hR => ⟨hs, fun y hy => (eStr_gives x _ xs θ' y (Array.mem_def.mp hy)).at _ _, hR _ _ rfl (Nat.le_succ _) rfl rfl rfl⟩
end
end Mine
end
section
open PySem PySem.W
namespace Mine
open PySem.MeetsSeq PySem.SeqAt Builtin Builtin.Str
section
variable {B : Addr → Option Obj} {prog : Program} {w : World} {L : Nat}
theorem replace_gives {x y z : Str} {t u v : Tok} (hc : ((occurrences x y 0 x.length (x.length + 1)).isEmpty || (y.length == 0 && z.length == 0)) = false) (h0 : (u == 0 || v == 0) = false) (huv : (u == v) = false) (hyz : (y == z) = false)
    (hl : tooLong (x.length + (occurrences x y 0 x.length (x.length + 1)).length * z.length) = false) :
    Gives (Builtin.«str.replace» ⟨[.str x t, .str y u, .str z v], []⟩) (.str (glued z (partsBetween x (occurrences x y 0 x.length (x.length + 1)) y.length))) := by
  show Gives (if ((occurrences x y 0 x.length (x.length + 1)).isEmpty || (y.length == 0 && z.length == 0)) = true then (do rule "str.replace.nothing"; ret (.str x t)) else
          (do let same ← isSame (.str y u) (.str z v)
              if same = true then (do rule "str.replace.old-is-new"; ret (.str x t)) else
              if tooLong (x.length + (occurrences x y 0 x.length (x.length + 1)).length * z.length) = true then unsupported "str.replace:memory" else
              retStr (glued z (partsBetween x (occurrences x y 0 x.length (x.length + 1)) y.length)))) _
  rw [hc, isSame_str_other y z u v h0 huv hyz, hl]
  exact .of_eq rfl
theorem rF_ok {x y z res : Str} (hc : ((occurrences x y 0 x.length (x.length + 1)).isEmpty || (y.length == 0 && z.length == 0)) = false) (hyz : (y == z) = false)
    (hl : tooLong (x.length + (occurrences x y 0 x.length (x.length + 1)).length * z.length) = false) (hr : glued z (partsBetween x (occurrences x y 0 x.length (x.length + 1)) y.length) = res) (hs : res.length ≤ sizeLine) : FactOk B prog w L (rF x y z res) where
  sp := fun G hG q c A₀ τ₀ T m i Γ p s R hm0 hc' hΓ hk D h1 h2 => by
    obtain ⟨o, ho, he⟩ := h1 A₀ τ₀ (fun _ _ => rfl) (agr.refl _ _) hm0
    unfold rF at ho
    split at ho
    · rename_i as hh
      split at ho
      · rename_i a0 a1 a2
        split at ho
        · rename_i hb
          cases ho
          have hb' : 2 ≤ i.1 := ble_true hb
          obtain ⟨t, ht⟩ := strk_inv' (VV.v.inj (he _ (.head _)))
          have hu := VV.v.inj (he _ (.tail _ (.head _)))
          have hv := VV.v.inj (he _ (.tail _ (.tail _ (.head _))))
          have hcode := hdB_is (id := "str.replace") (by decide +kernel) hh
          have ht : a0 = .str x t := ht
          rw [hcode] at hc'
          have z := h2 A₀ (fun j => if j = 2 * i.2 + 1 then s.toks else τ₀ j) { s with toks := s.toks + 1 } ⟨.ok (.ret (.str res s.toks)), T, m, (i.1, i.2 + 1), [(.v (strk a0), .v (.str x 0)), (.v a1, .v (.str y (τ₀ (2 * (i.1 - 2))))), (.v a2, .v (.str z (τ₀ (2 * (i.1 - 1)))))]⟩ (fun _ _ => rfl) (agr_odd i τ₀ s.toks) hm0 (by
            unfold rF
            rw [hh]
            dsimp only
            rw [hb]
            simp only [if_true]
            rw [if_neg (by omega), if_neg (by omega)]) ⟨Nat.le_refl _, Nat.le_succ _⟩ (hk.odd (Nat.le_succ _)) (D.shared rfl (Nat.le_succ _)) ⟨Nat.le_refl _, fun _ _ e _ _ => e, Nat.le_refl _, fun _ a b => absurd b (Nat.not_lt.mpr a), fun h => h, rfl, rfl, Nat.le_succ _⟩
          have k1 := hk.2 (i.1 - 2) (by omega)
          have k2 := hk.2 (i.1 - 1) (by omega)
          have k3 := hk.1 (i.1 - 2) (i.1 - 1) (by omega) (by omega)
          have g := replace_gives (t := t) (u := τ₀ (2 * (i.1 - 2))) (v := τ₀ (2 * (i.1 - 1))) hc (by
            rw [Bool.or_eq_false_iff]
            exact ⟨beq_eq_false_iff_ne.mpr (Nat.ne_of_gt k1.1), beq_eq_false_iff_ne.mpr (Nat.ne_of_gt k2.1)⟩) (beq_eq_false_iff_ne.mpr (Nat.ne_of_lt k3)) hyz hl
          rw [ht, hu, hv] at hc'
          refine code_meets F.slot_str_replace.plain F.entry_str_replace g.meets hc' ?_
          rw [hr]
          exact ⟨hs, z⟩
        · cases ho
      · cases ho
    · cases ho
  spx := fun q c A τ A' τ' T m i o hTI ho hA hτ => by
    unfold rF at ho ⊢
    split at ho
    · rename_i as hh
      split at ho
      · split at ho
        · rename_i hb
          have hb' : 2 ≤ i.1 := ble_true hb
          cases ho
          rw [hτ.2 i.2 (Nat.lt_succ_self _), hτ.1 (i.1 - 2) (by show _ < i.1; omega), hτ.1 (i.1 - 1) (by show _ < i.1; omega)]
        · cases ho
      · cases ho
    · cases ho
end
end Mine
end
section
namespace Mine
/-! certificates, printed by a program of ours (Gen4, Gen6, mkex.py) -/
noncomputable def dNc (u p : Nat) : Nat := match u with
  | 0 => match p with
    | 0 => 803
    | 1 => 1087
    | 2 => 809
    | _ => 740
  | 1 => match p with
    | 0 => 808
    | 1 => 1092
    | 2 => 814
    | _ => 745
  | 2 => match p with
    | 0 => 875
    | 1 => 1164
    | 2 => 877
    | _ => 818
  | _ => match p with
    | 0 => 735
    | 1 => 855
    | 2 => 742
    | _ => 509
noncomputable def dN (u p : Nat) : Nat := match u with
  | 0 => match p with
    | 0 => 10642088966609287802769274724666738274767088698685751886792823172980637716172543184699306842403579701218925174166237152362290872063973402912001221766048056027923896926756734309841634013797058892738849522187663647627004616250692727287237814061738943442206986186826385929154147803024336452759166796910388481019222918391018499272832365167745281154524671051741397232459687211432617829830789164915783375467483081371093207087782807231344159941674785272786656622156062021206642239048236726756443908313142900803553963457992655005762403016642970495783853250892463366274052903299523718512268086825229793506727252192211082556689644488855822187530443881327269762074254788483856665963324401967798489287670087393183017577999383029561714918800061238358412441497381952816386370616052276124449087259842124638473963647276505731721154831569760664123980042766638762963039463458590012912932469823328353245291163730131093115577083335812979585391213187334683772532006794827930154014578074610061101363188167886660416386999391709012130296169339954870317885592868776014992427046863019898234700870480068383980820007141892822690291216272464936593234167798552628659922864264674896189582441962826659900494692941381448229049201086612928318805230539398183790765188238890293960892188504439844680553177618731023954086405443091642355968017270486638037305489694141746683741910504482968668941927221123389037442255128102183071169818184981733964410610193576606854733335666659734612919088217875682680054971645014414787323474665180276058425013748198169119603542368731282684715953859466307757666048650847740302503996139307763191669188515113065647455137214274777327078092599060754877707601874525988933563479911900809733786218528768
    | 1 => 347978067815751556359021700882342577678595414382134819895313605985026271605529535159520332940058144534663323557323705138145162352784555149973105084060196852915270140276104330201438430976737017567652793359593738691650980432657167947769112424445735838194208280753420535710863233658697384211596930972613319204353507280848018336495196788479517968817191826232667208560242359538160371966680776595018173779156421734235261186717516294629046812009140407170673845178097595488129355687432094556343618866940132603393558821780954913674223431223106404881810382729363442159616404909438120743422621371960574549916396610455963713064323561944996175058627323523583966708412487520756640281878705389824563201878279714028337675819345616670542375131629570423608579871503453252108679765349944908601564467080283936798055324805084699917816909828017955731884893891543292378340404799081348889875606289396966220843516734660494999764997517210970210209164784682521982331267951763497590245183772200752257221324865923772394104768230191861817154659141674462898561072301127832478714782759631091478423321682868641975960562679205010741031015540544814148631498684138951774185952863438881561137538000177956012897653840983104798006467613802950827049199078124365438271247249009693263547968734612721129369874090388087819652331965809119485222269029386534203494315625927180159135060373272848333229778979450238423285263011031223078957104653728325411203698492259609221403949367701982382103404768758355507049104000037939176388770534401079198925997526915664871053659238326356919461638099186237717765126760654894146565919550522279237372159036530254615705155183998098835790558682509365624356224624970048628812274920842998946395142512391102808538408172551876384205196375900467138439132325138509284658015994604410580997964149036834385787860241206176111236207944910861095438206914320615972166214870212711849152867854684952634539965347526899699951016295975010288751008817824159614047531500203539104891314829990737539104114230560831085138297195641746595743180771822543709402356476276134254650121699776870144503033180123156330165152551751241343225943325248526909765169406126839299602336038540597887535326305425134672648914915178309602227822524993494600921149601187648642034892228960771862632373906009907291033305286687149747044984136912601088
    | 2 => 46804402250454350973691630772309038478454894569458178595784161131993896788157648149945559533560218470466288598338654860058837441693783844168577447318753038135612211279150163157535691805142610662706514500056311542994998101235461530668782806599370431461245615856786507361885837062901529555662100845505732985479863482186855827976002344638254629495816790622604518361865488600568351628072686261436866756457808431024283816150817339606728164423768545499587711957478814668110926724982370995947988562684617434521238298204237652375712035835777866061030776740021427917826193577396573290844038069456386056035231880621540408917254748037564623908785621983771260298007117295827312239967547561772981749891926533974916593209123937479300920507714675811182579314113199242327039894211553355752074317582966951653141049064534332968915440795406868257178455522073826867705762765031486613264989084413025086247499630634559806963047831798374016859464646312683849020274401046200996110843911628534855986397798737484804299784580148308712044854386444927971008655562201763151906577761015602915755634697619988522561079193446005068900869437382536279663854003618284757727511793338859125918519828966583511575030069907966123817867019429575222654426042879886485954843879250410059327508763443202693853068214214400264420904947295698939718665454883917256315352336899570142465070060730913802223025010818109405118241018058805907000196645654976009867616799027344341254025446225485013792802268375115036410355162697092333456196329904332887211334765807480254235674370163446510461263413925417138983223051449775569251500077846724547818009965562187240835441085485308402695547213381952854982843370431159424737301838724116604190958239826536399145795584
    | _ => 1770097181349451268181988480450700719317999154586136623332630802765759190694463494572882120229325196339371140993411102075192944714138153074002252947115732296994840701277269178499987313438132401541960094191166195737118950782072981398026967350452117378031466915740424662776636132630612434163656853575805429252677304473387576067702773406720549741272496201081025556383537685934558256827687001977496571631916650748183442043777212954777969592730336458602117763495907587948008099785121532056323114013934358312933162313591862473973672304397176321135542405218747563095056587148732205539761948574796304508169391378824191295605659458417659250882393625300002279252052129278455475683976278172475696081379366984441932611643070039936406073460031500375851398510941141806086517533077966103750982401774332599560391203675502543914963130490513710316198692576122190817521115866236445242710398252812817379810024055081103535952243011420877911539317597065137330779735523190371606328863302561660477212179833962928853865282254717263566704205707578639184544980772064458605093071585870710085221028499827337105032033048054888322022951072379770277503401288991821097921488012271469918263892161052910222146015915031406419587490366246066969781151302525916365921217067302284452932247541589551952686709725886080922060528499034336228982812384919779620703260960353355428031474410157047650958969537711465119989445830069027242163832494313565890084861878149793090073540787637408958998371220105745194976498331559959707453282717636071422219184353919251046459581160747397604329935729011256991940608
  | 1 => match p with
    | 0 => 365659392581674616981965865408664363112928863823892020279563758843702318657481626171449683855939206800517879674520741094209667513232686282567011307177758110434470400618360649668247592227676645802394644531689933929648422665902043208349865676557581495790981373881144588764733102053918199653610162855513538949061433454584811156062518317486364292936068676739097799702074129691940247094317861417475521534826628367377217313678260465677563784560691761715529031818736923113841494997475127263080117947706970287406691148986060184463681700022826415901476444779571303768201012744362438907092009661590803446369813633259927244077904712812019142037075483797311429608629003520876494434112597135123620452869994891129463630720803833761159734319372468652373137301686150055735956437568639188646963646384577435563211977700363772695191278343556083159677878184315158774177204418496249245866101226781617400464488113749555317793074568755066663132567200042931105676214978376285935670918847501510883063333073594938911384319238935696805184714704873472593049917961927710431533438831540238837722306968437004232329537775495328839935420084850399423797235244516478849833608063195406137651612833009268415916314563238362921639067486735441524320485815683645111225070322410541183150866020867490269618363720490631237266590775198490205184761635812661405699884343299679117275461719723784563778448895727572245558248393337181461969523202975623810530175720878007014668385111091571892585584760094517114326805302976865964894708529112731552528622690810308358518520499673790306517840543451407751800749909588872383313603672531456281660977198255784482289683021328959270110477972687612179775362819423951924319621101554205359986074941281782005235712
    | 1 => 11956435367951384705784792318751645719983255231894696784905776650956141617972502130177775784196650072918560904394973558831045075246560631224342892924879011028745660091929604067993305225621110617965169719700008604216086313636787733725182192175533650813594178099586619528103661603943293529196444499690749421093656436753121007213241547740830073935313493569822564380942817440402179692800713097179882343256972462535392402935759056606230852073858544814961344442579971744942021911160579554722203778974371560971829390052811950639050342682401178307964082712766873623788320567929044562629594927193290552746086743808588926366191981143327909781775161897486436973780675215837263129484042088704923441036418057155935541879109915421767455262180101601247421734824889712550972981039319739022763427844363904919534228611491970885255980123416944834953770909604868893865104778939646754604653076169055051841116943271964285497297536175538513482228864557490509255311085528297021413422983384897159130910161063473498093020821970670770480243142300153990621481367936284035291572864514881335396899650172868006005467479143549283296455496546461910326162960030750654318798756568540403199225202149772506044175819537209756767827715182134655923779697788299988625021709693012807631440277139137123809694354446836681067061695066284466940688006177030618774347956282072067687881279601539488607920086160376240699302476089100722872009522196900496879725096147996245981359885916159144044018393376540635436139193170125852174615558615208624851944301618237282970172187917919781951288332500739961688663181170457519214739641421281672351145952342466503112053515951013576207168990775572580562532846546209790722226912867053353802636753471832490592369701288075471468768395102001831285750222584690688382388265928566847221940920501549388690616855438393583927807770035580144320846667887104957272233113149379855644666021923852415589263568821850177822755408618844828022627494627192818216503955421267695670591688297069165782288720327607013678120699228804964411095007887682211860278164719833549132771674354828877340311264178880066034938881552556865233335908890471588613174917439600132737566006677608952547584436587647315748027157561809540360507895812357285018803976810576778350995674730517553142904043927034047868420547941439560445951001903769853905676009472
    | 2 => 1608187015796241908583290484447796341361354982295607020068961404293665007813892311170328659016497222218142811202897620452673307582840867657577603576617657490344762083057538219477439138046581739299082932991133185884406517891107235757508185299771111818523675292226216550186903256565974114479569078064808574025155652180297794737791455544324996673641040676254127077648350136724015018041604344029918789501567072120658966177518696618244983742097572703953737634726717212899052195072413356833084475149699822748321119265679169964523999189025967691622364209182956217970279014616668216853137917959153236872173954808368737675536607303376481913398191467962529645797150262086514106673928967033115971137525407982855197217287384002274769044186641986466171593912338415901812922257007370946513701425442886591992431531258450828565331222445573809426895869624781539954898957012358139313879423194807408814884722202780112786098908144461802147100426271849472972235841547515371706709582331242170454861186931391098590116279612656613983556246998904890724462494180680531927813052246743346151141553232005597922361546386533194502235687196191305301518102550873589616439571454757684734169509009111917272540732803770465853389004071416177251781425310558448906947342353330273595208559137135647388784225674463771743532313018875084141468056846191891011394925032641320537458012713862984651978789436099810459331905560181720456170924153383454185894341053065842491064926840091092760140734523476678504098772473506856539318915596055906117736148138075180917800170587095359822495584081657194712463082174778028027531437650990203825979838054591207552177231068285823740392617147961659166470222744257585938654488841386523368523799101501554211020944193093632000
    | _ => 60820076037101394755098927198275959438035854344824841697612158620169296581153185899651217558784733907411023742183245079170171443497275490229452353905453501941470399141724612398769854781053439871525268610305107062333284054966696625517937469570012919620787354096088892414219845940323190825470874382994759803995925945237073132347965549042906141999253060863417956886459987150979575274253475046541080824889626918090414519893876239606391250736473875494180429364444685760599508295361612860538587237589818857958349327765893964939572589699254634352181985709085604076583716648585429685241820774031871501793959206402193988386193407091335347131293918102899103824904185889105042763638410767924654096194877886138881931024342837172514224042292870857952747718082842417904319732408803701070456098747938327098708353574018867379836563604020294592381529629219222400488997571479297943365887543159732725247235712076373138516038751615177800973361200780416563339581586013056765050155636042855078184656525117931916029809203790558309964855024157654357166438408455725440902564171980012444002573522705938836103039191790295534048167131338233937870959624519872931416444836704935520822037969695930388076952901368741393773820647828850917426240199841814566941526445047828994522693720086502693463100383656860785186179439655602085791570392865479107571757520038860440763470626103496922654891638486254975933070501878632689305012043146164923472889485027780362219890503987713577870513633918738269436735259713893448834345551327002049855892243870665331138271953950688249619508245447047970312479215118712832
  | 2 => match p with
    | 0 => 588309962631108277864911462370605282867864031723314403415977403287217985804856270755969708995164068644802863638269116156503877843367846202136373409876046235875295120659402599469526848538206466796291119796567275859478787452740613453190720804773522400528407701477969466505229327220258038254144592173490327805125534720637231155986654924571493900564028187655445043014669328408116101550067196027900269922971224879032294635174089160967807891838851126892837410503517426300570027148265088686073620323508854624278129116642352928860998680512106602121977454552456675387187558055623030030261990771095715567242457634198349994313311229359364345222778220052463645523622684294614813955965102212245397296928413728154364299690604259032767794574000905050731793352052341271302565382580976583250273458221478345578439699809786017381757265827703538622948919469482325870847230069388239548545834175933322173026846721984533706595923037930387661252980460952918945890089338248089883361139259675075650169217275278401526200409922952826360106015460199481838733176431298203896665561352757890456545132823559633892029991930394023555114675921397362980093207022851305282771061370890159188632325208345138882944333564802209736334421932336056917978691481549499040942191193331454160287233949425106594589619464791744836807747120540249998436142319242146305017342735409016141029737968872278082318865238084121444598426100426947722736259150442899179328318874438932707175761784452372919430480008856949161616214139911868712709740292020847644122074194861901370429034799600623742672998983947467664506988236062191407673669819213287315709895018811667308792043173664104728466872151725300630255302355039068312186149031316942424317602136199641820183399518926153942781189688909052129789891258293489048852383606121928845047534887781026503111838765437033309298661734122545082921494938363415756800
    | 1 => 656006912746620923647677745289979591959814582539695350785732659088720720873815073237908388638342605091910098008739658155607388087277401138374375931300680951889317388984078896477861030872082870536416440175361263175010602077122046552111348804919693463767935810246643368592825404678599217075001366606926494397830831271132929692926544186120425179690935576145701582724998318494474657625847508887552058372759912248015480709255411721384717765471646609880877501066840922675530797101635240540311774479399806493409232770142193483679064205147288195190573225885458952997165006665768518510743622809447494414319564337732348093262575341737414540647426342337288754974510002150595482279189421066228707834574784707436067428556694919820851831973502234780832525032945833338797089272043386617600559140322706604414914605246077745735102722373881297874544233474267830885258563677082814561324178287677631392419053101992403061631857851722470162846024247347650996120987429060180540358971491212591807783464584871676222113936674505666095922684618084788132684384758841548690514365346199852205308574503024783826024621773694511855861376267478431932301151370898440850970126912981615605564783751243597259576906876977513780217087548815237585748097674977396403314622739768986404309561667321527572448153065806757519830276969909795747543602019588863709758078550220398640600862297030585101659498120195211677461462037141642864812955329556282728432959752956791207822424849985834284898443293624885259015739582880680269816086239735668700081283896036418186848604348770524628384302406285308380626975345139290898748566366756820730743567823279670279954710902646023967942545488592019201645591830204777891409698584788569510374801132498358868059871678958815430325587718041086189484961001563507398247980128460065026322445495394797583002405240689693586268056338754353448130119697169237911390195588201239717070617714630757016799270316112719120752133437926400431886322990462096315092495830501312812476790242195172651489066617543371064720420602974993897118257332854078482824323875718556963842301221899084748680013037341682757655358069940967899085637778054436603682550488853576254656014278220188318432051353469896462270829445999019672519108261576439145232212581838614069417267492010665867947373071869732830840528441395107947928112307582791456699575190032854595537234245978071103938058011203488903278012235495943379460812956645357761553285395736394254114111421047209733893048628743079800306489243616673792
    | 2 => 9638870427748078024538709399479996954507084295754783185567373775457779479426765140065807712176768100676450117849401199108159534585738792175802341947409141528580835256883652189708727886449974751990433706746958247681700453625702210817076769665409391010257431781015051739221677297176707698755904998170465530759176760862920395259685354284179356066841037826546811584752342276639371126101506635814023891325453414318197994116526371597047466395645834398701632073130242021528195122852485905139678309650178030753140324278921823294670613308008007362608567185561169143748104580642787320133411339800595545493469999529593562533900486870162380366657736023544692170630856453758875866608642116425852242950836624048215454275328392983323108491507988958780928593350826383771006697278928260687376064897549636429209195155298746693082186669158335005063051017123533012623237688531835276529262619123224385630116882134099755902619655208030418820867147054205903113242671103783749560709950031210533394578540323435864912472915425558182886612399919205504616125683434298452947833352488964142327140796055474428952635172708751843004671784789507207709694819174860540573516864339102104743147795946341676294666163241211228910866602788762328265400276541301881901244142483210882730561930101657042721045984920830359274968071343679802762528529871209295717425921141166799233529318193698344194697537212869426310761374437027781076253195145192235421903587138281349307453411166011804558969953754996218957277397887863329259301324183082640084484688954431013496499992643338198611295793620948022528634969815991730765262613465087483714663762328480178973400186661562004681500685880301922817835314983371425032599361406223957288444491253040469658402796765450666662765985454102572698259059754607445019645423199258260011189790184960884505720659750878009418952840128679385665718249567365196882640896
    | _ => 431694414918543399816865895173205119088466985450393197229012806007970324283765745683901067252961943368860496998371731267528285740028146085097495871476591826072511806977060146182854456733781118430022447499292280709613426919471529175466215144676555096632392023864677694804168260904172255504519328153826487121152412963995632746233449801944608694287315934244824973970482276599173317518846289061252127902821169719293976606350808275244250130522548325278969706368180361596619948038377467983167418651850690356829160364090891303853863790624834579302354353286129162246162679589983847033588068118538846347745920592408577328657358616479426519855764306370779020248874866033341580242247210814715829514741438510766881193777368064889749116360634587514554411477025301532073254098198801827955601551827138111571236794290322531105922610877778413304978333014669903484414943588769727009922124155574852183760503501985069897782732502987465176979186807939432482141576621789848530689910171024927026288244560585084488722045873217933055130441967066232093924862352052803355689798148814645006274868621524549622339356124052762782020223569933356110873313737880676665829911334044895861523634034739847245968409361069092443216456212541556988697941341497164813669743918239930597263336542085870021427905634840335240870322588833543114851128714898156542563840511391540669887975573113795454802100558450345473671414811119388528595020951110275101178033606415927075521502962795667790932043346912587823772769632797691723828946856782913836515127793803287885784256177788220847263991974398057632185490530556649753562250163102665851382278794905011653125951612313102849438665851692428928455822641021954920325138332503916431435084900989003787762672748940952719729885184
  | _ => match p with
    | 0 => 51516608257936641695617828531269354260235534590498329586484201798615953614192068768108790979875635714833948906552136819669771494638935926894257221927276471891523126433523988191154416226727550428534162178145669043795175116453115519777259537672278162151093912419758989207232258417370392538247887673083617970483531956368462883043765713423506523868781985979324252006584361833943934669592621560950547329613375790306117910768872038309286860537550425465513188493668206150993009208035699908399046796512491080005450935433591291814291505395904248980458954624402824993540366636928874803617042913833143914745132657316528667582427975058963892095457683347856052393144852663380617551320125072042316004774399182078007056788194542213292411364494586631341113299829644061211900236295375446961394044998924057393724626472937605186164317113128566787089418938886922325065727258637521099628974044098366108313357442784611969175591565505628113482529812724996426328663431160648913156842742980518494498778484355761568940103820285113640786731475468601660818157944884963738940979687609125005775348661605927898144999148381740917274272071413090832840521967185779831820468805117445782947542424395238517234190557666520704500978082000072026488024772555790702471961422906893584219732230456736002661370580849404579972277958298708829130856678010133046077839467928091219356341162325480438532971929014177259043490104651543414202314281804875210170802530528456337693229647693745324295394162350745355652618671212998517720811226018058088898069538893526118644280764627566169817528571789312
    | 1 => 422091697757164824190397967365780049586845606350269877008062401613788294319461487350848082995453732493378646247864949145208499840629365926853078341443087381601688953800148648182532261326114743262416545845447808765620539226965599223856000380685037177395222229441193085040920194795787929787453211138370484386486348769443177613832634858504327527371752133831371748871697156277305786559200629423797952890831603723724187890146563278100278911497259310260433348532996323243344698057920141926836324111565219464326129862058786747018708915611440759457314725064953603045996170415609307615678078869041440404323076077180233464142271239797022788098654204240695080414350646043912933070639523744328575003055400690859315308780421180304319746901305598160031594762207567565575629965023033717373813394723043825591946787948704018330668991290940512238734928810568095617072906369923535120412730282407851736065001881318857515024006686216359698910122530793306154263208552448038167051363906716886752350994905814805419344666591820466107696636335018838267906255165520295840334737734290995985529844107667578494537266986006142356770124499414317710090288972216210648985125818603837211186008604378043168670752016494088531650861003903429710326667735852013592249299179678039831503978679124217312588616517554688706566759728670799084111883172009122217936434447468635965002558364994867322175513060863781736583509127597416475647067217665664091819213237991918949292065855542103609245784654572548977294897064303685357890796874181248631550873596658722471078847383810135793693180587754224259080120888119034234998981831237147454803090928155201218796906302328587994906809530355586173005617860999639285360192382497576235357882484375338001312401303909043913978271062984206833664392683891940390868001734236577569447343843251560927169351377747968
    | 2 => 29001272219229409577893699263704280585306098148739262436681823072514198580338089895082100657837264016824256774036047496399961206196439499964452912285544157953963470049726778220543792143370361266863474183228066950956956889613483727225273833069807491121667553947491117674932406397019954121337353888985996152875864956491982046293242239495709486961008577758511522715787881446351802479864823840399303829617322405858237514445245857051082253807293832537737097437116949920940164706879431181210797900004300526599096931345889074773584647035243336845484726767103960073749407123844828455563459765449462653061847308394840177439833855496669127005903087811190394532155206103827541166111258086647962340588864781028961805954227315074376179262426298655037114588964116003569661936434951613125066063859561499374825491652919201713248806886914798006268441070613718111449574345423618206360347100499835573948676191708426947628730386478786074148098037497680995358705230945187377780997007294113106113033939036705759134049994333181308824626965190584783991198982692471743594720578666767775503562944839406893586070980935357029851091889881576153965644879274487496543661734089754943476303914503890849218998888435059247667581144649089837000953287734421981435724637199802560373246087033238739901290421066812847377456930759997728622176255659148093744935498703574018873183618455597032834621505713664965024194853726741734614758968196705297528090264840630461745753375306427762289489143008317565397957507021641178380141628836555178601946665358113444819607542514292623066439556355176188332126240768
    | _ => 268033456757575146406775852510968174658906802942955057915633488284857449036773609294554369451546878355561704190727829494610115135152261130527054449622442010628042899923368425273708123619606453334603563162253243465066355146481466868256519033409526170143436597592950106320671879744469348110167782502013562328170284822243881260934747065471059169886194313489810968274889365663402827244287108427328039446367519837977897527246255226854300267023923566525748828981513283608721514427668291630867823070477229004190041150220000533342747865953332623341612707488908917074222619953489029534768351736135727305575130666394912314838861776564698878195582012980868993657824168271449445106969480027062242943874706326172417965983272509421317713056915034264481456162329202302650999233142573960813720829192554637302749785571991711688035880669774870107569797395769465910775431644804998178902431181224748738238288532391749268302857299648617521488790437491243766462766809114478388989713053251070673966368193612553783078499607988283227767052072122271715188199973135331926430715850323404225773568
noncomputable def an0c (u p : Nat) : Nat := match u with
  | 0 => match p with
    | 0 => 1490
    | 1 => 1534
    | 2 => 1490
    | _ => 1468
  | 1 => match p with
    | 0 => 1490
    | 1 => 1534
    | 2 => 1490
    | _ => 1468
  | 2 => match p with
    | 0 => 1512
    | 1 => 1556
    | 2 => 1512
    | _ => 1490
  | _ => match p with
    | 0 => 1468
    | 1 => 1512
    | 2 => 1468
    | _ => 1446
noncomputable def an0N (u p : Nat) : Nat := match u with
  | 0 => match p with
    | 0 => 251609958073540197747600660652000269077914706697228501050148678847590719049300215881750978566150501665091008624983976942435504701039150672968080418106727337609571734802909491138722858282622978161568685228903237590868541444495987117579480034377925289797376793742295368780287248185262612189849205689546627745720277630290496367513267402134532381598861736516388131625437574581851879521757634419230685359508501731769328870038622070082636141383105458270952008084727796027488831977189227559910805892405941581414626535648215643563630238450143424572423074372447617051411538283440050404161037813675864843548044063690309017731170179111410615837329978030701231527984003495110339879873860501211549752942965437123874621881334372795435342093903620772234676409488749553783566562669579320695940341380095761052651144070037617258845283333459828946085475646541973315324791757437526248434372229385772865288154618698571732711515574977086207952427773518851195483501277299136983116768695626438258525087191602335530300470367328724167129166557840543078335912789432401478804364788573819232223393501348519902826321865182485828473907668417653009069509356596624726788981849995320406979973826650235134430537118465580748833615178340335987753742625273540104414487505416485084159310115338839421450103873568087241301972398032367469964865068543585419263362522865030923598194063365463204001096345056078850212164726718760086048054426743906010085115151962410444863156788552519599755943862567411842377870632111117562858798234081048969693926917537129986574017405748566473210736257472150718329256717024615664163003097221127368661790456783148681468842888322309293939448734055042420892447395332485454715473964893608852692522143420303644831212213583847588788043379833845611259873455454975337053534050580782318052384406398689537606083058394132141868232182587988491353698287566079100913776207636053976546032693211333924968683899274054603534652471136114098474862297831618246609645166490893679271286256830366099196710833135274834838544007691474794556731949733636410634827664692163652519459201170824425007857525682844494485478002928431363501034323926778402033039027626598230176288988971659278398317761836175315867365772479518686309125547257032358852584931619846175342262715765747855795014774101661342182098794399606290016878185594420767850102768396703153471424049715859472045267485262994394471458223973602903014133773712480855654862251026649868370031037499660371844827076277732884029037219243756417308368212352415420096627444192595452394470068060207709598038110619738872043914077642405910551888268824100125023979335392355794717449973916242524675376456343877849668444831747764882559283823087291161975972687580469329055021688904096318969138648303866155229255206307123563602654666147397319701405690255652268459376118218354484304247661577880854349282968108064078192777766537484762264329572165407821634753232735930642678852214470472375614523400547828568852590330182588052322590731041900847888096105014133790335450169515666750164606789986980607357916950379141947676193151520380088670030446634392601630141442768285602705383958477335715244857891828938071397884989512173698989086512058799767552
    | 1 => 131209865369552145058867937982325606467657738665069987519177865832789134044274462205780244677380325040261847114406085802283892328865666169772833984591249752871183486677972704668258136163657874402460225600092721331581117941641126598474340053260657037760417721362808553534443329504809274509225443652835188890573899668105424529173382591325408258672781384188906413460573684234626965431573839395306908647318144212004024141682256788018913628906213603258707667800880153623773453729668078147037109146191021572412589888578003267787263493139867108592523078187711099068741214910953608560837530346683330159531659133128600011829001134961471329213677731536734231615373407758823899412139739492069394439045577455488600953278289836974188698911601472839383269215054519141847467848929507507771365120065449258837586356836780208689445244842838805264484120115317865118402624543522056856922730977369266356364782010127838434986082736046219978984462380996477642272606463832153181853682608153294826623834782001364377539968953035583925156046738016537096704901303777948907421469915465016220618270827784920874507566428669479629237106060229769059748694164442525998526777432821967496087299979381314680996535925080008057557364339199706858974788811249005146690951974952537476019871633196119483636575289154688457805885111189174185439170680023465252503256392856304310925181131269472316408379084567129564958353049099451622667126732287297505395827193285761945732168455364679951589002666295361590274457537102592603414852150462879049589343109128847244261072084082482840548614466187328219434414211735854828934005274902004758002654302545833489598059446948081763238774280168132599101059078870754466569260081437011372409628264508501885681667150396286515170505279301583607020554693651300035768751770442489502873285853004756606376940475921148374810279762155233165707486676241183665784084606334437211931458122498350334262065369903592244178132896485961045783587002546615828395471658318627178294720094523485593687530777160666782971807713159656279438441246849453884793691427285783344077433316478553767579159254360519530809619033219789825277319147560427242585995856267707535478567862042711464139572567195108663384830173471827888873255798439265459884631966560331539074015370858887600068824226565528982303722307785557555460185927142657399975378999367306305540785829139366407532110176494264505839178892611302696988733628607370461933888642430568832888141234440774386257942318478952013605867401529033725972915739834295258210769343417347727843139233806476442818991283276942576473398896623991885857506703414233592011312828231701476512236916618206810302264676359699825419105337727540736064827420847817062030715049146077606718498525425840476835381119074467892978108253488861869850019937286702349470460183266963032639334271019731098951291115212309389955763418464319937796955236499571990097015225101193028934982148492147695794720362152551580866153076301198927031813499073084378657192229869895044661336489982756036434225378386950862457319517446866511733980124868182751977103967596189487026161006770738221766596781807990611063267109733750415057929531896301786552768241204305088750822997874278016467062218386547048274270935450853603410451597058292917947387456735681493829303089053780618002432
    | 2 => 251609958073540197747600660652000269077914706697228501050148678847590719049300215881750978566150501665091008624983976942435504701039150672968080418106727337609571734802909491138722858282622978161568685228903237590868541444495987117579480034377925289797376793742295368780287248185262612189849205689546627745720277630290496367513267402134532381598861736516388131625437574581851879521757634419230685359508501731769328870038622070082636141383105458270952008084727796027488831977189227559910805892405941581414626535648215643563630238450143424572423074372447617051411538283440050404161037813675864843548044063690309017731170179111410615837329978030701231527984003495110339879873860501211549752942965437123874621881334372795435342093903620772234676409488749553783566562669579320695940341380095761052651144070037617258845283333459828946085475646541973315324791757437526248434372229385772865288154618698571732711515574977086207952427773518851195483501277299136983116768695626438258525087191602335530300470367328724167129166557840543078335912789432401478804364788573819232223393501348519902826321865182485828473907668417653009069509356596624726788981849995320406979973826650235134430537118465580748833615178340335987753742625273540104414487505416485084159310115338839421450103873568087241301972398032367469964865068543585419263362522865030923598194063365463204001096345056078850212164726718760086048054426743906010085115151962410444863156788552519599755943862567411842377870632111117562858798234081048969693926917537129986574017405748566473210736257472150718329256717024615664163003097221127368661790456783148681468842888322309293939448734055042420892447395332485454715473964893608852692522143420303644831212213583847588788043379833845611259873455454975337053534050580782318052384406398689537606083058394132141868232182587988491353698287566079100913776207636053976546032693211333924968683899274054603534652471136114098474862297831618246609645166490893679271286256830366099196710833135274834838544007691474794556731949733636410634827664692163652519459201170824425007857525682844494485478002928431363501034323926778402033039027626598230176288988971659278398317761836175315867365772479518686309125547257032358852584931619846175342262715765747855795014774101661342182098794399606290016878185594420767850102768396703153471424049715859472045267485262994394471458223973602903014133773712480855654862251026649868370031037499660371844827076277732884029037219243756417308368212352415420096627444192595452394470068060207709598038110619738872043914077642405910551888268824100125023979335392355794717449973916242524675376456343877849668444831747764882559283823087291161975972687580469329055021688904096318969138648303866155229255206307123563602654666147397319701405690255652268459376118218354484304247661577880854349282968108064078192777766537484762264329572165407821634753232735930642678852214470472375614523400547828568852590330182588052322590731041900847888096105014133790335450169515666750164606789986980607357916950379141947676193151520380088670030446634392601630141442768285602705383958477335715244857891828938071397884989512173698989086512058799767552
    | _ => 11018145245540108991958087460609188048278561638207868006351866905160796285667698833457104799433445747274879282329185005771837826217625358205990170401640361691648771326279872811791701475216164918960900741970230844187186525585892297214680777674780399077606739390215316934331865188058508675443015790174948677517855047504213152518796880685526524446805002987882465877823510148744559642079809224306230322086922522544312063346825375715865890347511712976682502001966660753679799903364592117632483206101515958183539334577703133555728016701810657493597214855102138283272691536930440350697310658189049810302381089336421583213994059168470992656704786035901775602983554676481606926252149409262064088531238924335033480365727432993186570909911979327161667728861431126306860400177619089557886799883622481799309729524225253458828123075532969152878647255431353572248513450978920688120103006772223778699628458325394435445824089708080476901804446615980481615339453507152522608329677963244566069733148968142140788810540637712286600873347634684794189718878065945734042804305997565939701840000957086276034543098879716933513973238797897951475245349004355573257158261901892204040944775791626125077336376190915108666370343773763100090940309037526468882056405685542221952794919606006397222253701944050429399848099329365620406039307457422340440825726483784328978839825477205829464771633295302208753742328283515632348615879602415906076944200826612641508996444974739223577692793562734578961400201754872467165574848683082527043968118406715809943516429199233171297431271418452025514899521322338829834708356256978543574571353022499464754548876309424896499165971513547650970510858822752223643357431647984334352348012517889387321902224022004763960664145036562552475537712989047073443466116800734798647586822567164625992751064493942354136361359984250571064402155567182426318400355324316409783299207151396051549039569271967255398097720640726860724201683155291314696548354278665373377354680982145512224874389175476163069476463248436951408678744010260040009742450365032712738409595450393587581639741456318757074577190574271109114953197617797016791859906338209121670121080601594711951083726689951579253601601320362339621039314887402709087577875995657586992566263724877978897546437943420451076945479139605574376308451527509207114932821661705445691391263452960505624267903759616459170749729593657711562426102626104821382204653458791448660796729033097656762993568017536514323536376721800266770356416068422077428299981446811462391891527312106433176478911561630060995777326133726449165408662466785196200794039902336158304442412754169105303962573780589096655791850919417492769671771197830868488109517942793037537247508344060334357874904838306422255017618719662832506096352694969033485088773481063909562522778036954295941691026966987646640656041619807645413274499208474948426070437870132701031732383690316801718340001180052140200929883322735414809981024141841155015864364961394333332871486256440995724366042311039890019420230578659247968429409410445863520654172674592543064574538990362844683197399556252971310634042236229582532489789440
  | 1 => match p with
    | 0 => 251609958073540197747600660652000269077914706697228501050148678847590719049300215881750978566150501665091008624983976942435504701039150672968080418106727337609571734802909491138722858282622978161568685228903237590868541444495987117579480034377925289797376793742295368780287248185262612189849205689546627745720277630290496367513267402134532381598861736516388131625437574581851879521757634419230685359508501731769328870038622070082636141383105458270952008084727796027488831977189227559910805892405941581414626535648215643563630238450143424572423074372447617051411538283440050404161037813675864843548044063690309017731170179111410615837329978030701231527984003495110339879873860501211549752942965437123874621881334372795435342093903620772234676409488749553783566562669579320695940341380095761052651144070037617258845283333459828946085475646541973315324791757437526248434372229385772865288154618698571732711515574977086207952427773518851195483501277299136983116768695626438258525087191602335530300470367328724167129166557840543078335912789432401478804364788573819232223393501348519902826321865182485828473907668417653009069509356596624726788981849995320406979973826650235134430537118465580748833615178340335987753742625273540104414487505416485084159310115338839421450103873568087241301972398032367469964865068543585419263362522865030923598194063365463204001096345056078850212164726718760086048054426743906010085115151962410444863156788552519599755943862567411842377870632111117562858798234081048969693926917537129986574017405748566473210736257472150718329256717024615664163003097221127368661790456783148681468842888322309293939448734055042420892447395332485454715473964893608852692522143420303644831212213583847588788043379833845611259873455454975337053534050580782318052384406398689537606083058394132141868232182587988491353698287566079100913776207636053976546032693211333924968683899274054603534652471136114098474862297831618246609645166490893679271286256830366099196710833135274834838544007691474794556731949733636410634827664692163652519459201170824425007857525682844494485478002928431363501034323926778402033039027626598230176288988971659278398317761836175315867365772479518686309125547257032358852584931619846175342262715765747855795014774101661342182098794399606290016878185594420767850102768396703153471424049715859472045267485262994394471458223973602903014133773712480855654862251026649868370031037499660371844827076277732884029037219243756417308368212352415420096627444192595452394470068060207709598038110619738872043914077642405910551888268824100125023979335392355794717449973916242524675376456343877849668444831747764882559283823087291161975972687580469329055021688904096318969138648303866155229255206307123563602654666147397319701405690255652268459376118218354484304247661577880854349282968108064078192777766537484762264329572165407821634753232735930642678852214470472375614523400547828568852590330182588052322590731041900847888096105014133790335450169515666750164606789986980607357916950379141947676193151520380088670030446634392601630141442768285602705383958477335715244857891828938071397884989512173698989086512058799767552
    | 1 => 131209865369552145058867937982325606467657738665069987519177865832789134044274462205780244677380325040261847114406085802283892328865666169772833984591249752871183486677972704668258136163657874402460225600092721331581117941641126598474340053260657037760417721362808553534443329504809274509225443652835188890573899668105424529173382591325408258672781384188906413460573684234626965431573839395306908647318144212004024141682256788018913628906213603258707667800880153623773453729668078147037109146191021572412589888578003267787263493139867108592523078187711099068741214910953608560837530346683330159531659133128600011829001134961471329213677731536734231615373407758823899412139739492069394439045577455488600953278289836974188698911601472839383269215054519141847467848929507507771365120065449258837586356836780208689445244842838805264484120115317865118402624543522056856922730977369266356364782010127838434986082736046219978984462380996477642272606463832153181853682608153294826623834782001364377539968953035583925156046738016537096704901303777948907421469915465016220618270827784920874507566428669479629237106060229769059748694164442525998526777432821967496087299979381314680996535925080008057557364339199706858974788811249005146690951974952537476019871633196119483636575289154688457805885111189174185439170680023465252503256392856304310925181131269472316408379084567129564958353049099451622667126732287297505395827193285761945732168455364679951589002666295361590274457537102592603414852150462879049589343109128847244261072084082482840548614466187328219434414211735854828934005274902004758002654302545833489598059446948081763238774280168132599101059078870754466569260081437011372409628264508501885681667150396286515170505279301583607020554693651300035768751770442489502873285853004756606376940475921148374810279762155233165707486676241183665784084606334437211931458122498350334262065369903592244178132896485961045783587002546615828395471658318627178294720094523485593687530777160666782971807713159656279438441246849453884793691427285783344077433316478553767579159254360519530809619033219789825277319147560427242585995856267707535478567862042711464139572567195108663384830173471827888873255798439265459884631966560331539074015370858887600068824226565528982303722307785557555460185927142657399975378999367306305540785829139366407532110176494264505839178892611302696988733628607370461933888642430568832888141234440774386257942318478952013605867401529033725972915739834295258210769343417347727843139233806476442818991283276942576473398896623991885857506703414233592011312828231701476512236916618206810302264676359699825419105337727540736064827420847817062030715049146077606718498525425840476835381119074467892978108253488861869850019937286702349470460183266963032639334271019731098951291115212309389955763418464319937796955236499571990097015225101193028934982148492147695794720362152551580866153076301198927031813499073084378657192229869895044661336489982756036434225378386950862457319517446866511733980124868182751977103967596189487026161006770738221766596781807990611063267109733750415057929531896301786552768241204305088750822997874278016467062218386547048274270935450853603410451597058292917947387456735681493829303089053780618002432
    | 2 => 251609958073540197747600660652000269077914706697228501050148678847590719049300215881750978566150501665091008624983976942435504701039150672968080418106727337609571734802909491138722858282622978161568685228903237590868541444495987117579480034377925289797376793742295368780287248185262612189849205689546627745720277630290496367513267402134532381598861736516388131625437574581851879521757634419230685359508501731769328870038622070082636141383105458270952008084727796027488831977189227559910805892405941581414626535648215643563630238450143424572423074372447617051411538283440050404161037813675864843548044063690309017731170179111410615837329978030701231527984003495110339879873860501211549752942965437123874621881334372795435342093903620772234676409488749553783566562669579320695940341380095761052651144070037617258845283333459828946085475646541973315324791757437526248434372229385772865288154618698571732711515574977086207952427773518851195483501277299136983116768695626438258525087191602335530300470367328724167129166557840543078335912789432401478804364788573819232223393501348519902826321865182485828473907668417653009069509356596624726788981849995320406979973826650235134430537118465580748833615178340335987753742625273540104414487505416485084159310115338839421450103873568087241301972398032367469964865068543585419263362522865030923598194063365463204001096345056078850212164726718760086048054426743906010085115151962410444863156788552519599755943862567411842377870632111117562858798234081048969693926917537129986574017405748566473210736257472150718329256717024615664163003097221127368661790456783148681468842888322309293939448734055042420892447395332485454715473964893608852692522143420303644831212213583847588788043379833845611259873455454975337053534050580782318052384406398689537606083058394132141868232182587988491353698287566079100913776207636053976546032693211333924968683899274054603534652471136114098474862297831618246609645166490893679271286256830366099196710833135274834838544007691474794556731949733636410634827664692163652519459201170824425007857525682844494485478002928431363501034323926778402033039027626598230176288988971659278398317761836175315867365772479518686309125547257032358852584931619846175342262715765747855795014774101661342182098794399606290016878185594420767850102768396703153471424049715859472045267485262994394471458223973602903014133773712480855654862251026649868370031037499660371844827076277732884029037219243756417308368212352415420096627444192595452394470068060207709598038110619738872043914077642405910551888268824100125023979335392355794717449973916242524675376456343877849668444831747764882559283823087291161975972687580469329055021688904096318969138648303866155229255206307123563602654666147397319701405690255652268459376118218354484304247661577880854349282968108064078192777766537484762264329572165407821634753232735930642678852214470472375614523400547828568852590330182588052322590731041900847888096105014133790335450169515666750164606789986980607357916950379141947676193151520380088670030446634392601630141442768285602705383958477335715244857891828938071397884989512173698989086512058799767552
    | _ => 11018145245540108991958087460609188048278561638207868006351866905160796285667698833457104799433445747274879282329185005771837826217625358205990170401640361691648771326279872811791701475216164918960900741970230844187186525585892297214680777674780399077606739390215316934331865188058508675443015790174948677517855047504213152518796880685526524446805002987882465877823510148744559642079809224306230322086922522544312063346825375715865890347511712976682502001966660753679799903364592117632483206101515958183539334577703133555728016701810657493597214855102138283272691536930440350697310658189049810302381089336421583213994059168470992656704786035901775602983554676481606926252149409262064088531238924335033480365727432993186570909911979327161667728861431126306860400177619089557886799883622481799309729524225253458828123075532969152878647255431353572248513450978920688120103006772223778699628458325394435445824089708080476901804446615980481615339453507152522608329677963244566069733148968142140788810540637712286600873347634684794189718878065945734042804305997565939701840000957086276034543098879716933513973238797897951475245349004355573257158261901892204040944775791626125077336376190915108666370343773763100090940309037526468882056405685542221952794919606006397222253701944050429399848099329365620406039307457422340440825726483784328978839825477205829464771633295302208753742328283515632348615879602415906076944200826612641508996444974739223577692793562734578961400201754872467165574848683082527043968118406715809943516429199233171297431271418452025514899521322338829834708356256978543574571353022499464754548876309424896499165971513547650970510858822752223643357431647984334352348012517889387321902224022004763960664145036562552475537712989047073443466116800734798647586822567164625992751064493942354136361359984250571064402155567182426318400355324316409783299207151396051549039569271967255398097720640726860724201683155291314696548354278665373377354680982145512224874389175476163069476463248436951408678744010260040009742450365032712738409595450393587581639741456318757074577190574271109114953197617797016791859906338209121670121080601594711951083726689951579253601601320362339621039314887402709087577875995657586992566263724877978897546437943420451076945479139605574376308451527509207114932821661705445691391263452960505624267903759616459170749729593657711562426102626104821382204653458791448660796729033097656762993568017536514323536376721800266770356416068422077428299981446811462391891527312106433176478911561630060995777326133726449165408662466785196200794039902336158304442412754169105303962573780589096655791850919417492769671771197830868488109517942793037537247508344060334357874904838306422255017618719662832506096352694969033485088773481063909562522778036954295941691026966987646640656041619807645413274499208474948426070437870132701031732383690316801718340001180052140200929883322735414809981024141841155015864364961394333332871486256440995724366042311039890019420230578659247968429409410445863520654172674592543064574538990362844683197399556252971310634042236229582532489789440
  | 2 => match p with
    | 0 => 5745755713956856793266614384533093532158941741012554904154942008614076323093539914891327890271571210228672840134622411847330733452881821065636759694005925769373317448521720381889717332674710376293193805398616970323056871769821869253139070289090790236366044768171636010958389947690862616491436996246856954520738805846364511265230291814494792642946469053169915634965165262615031841058971209067730574596139461051288574963690785077353865269923294666017410414167256721963708469480092903023761712091971448461096678277016972937448242555983503609893913398345597357874604370177746083285828263866166795536144978183263194306723938227241978672848601265065677765461026909466327354025362352663121080667712826037372239818399702522666021161595860736226514068959222649093665426343834007764813267864901445314538845769920953946030835345527190376797261708958455658322242128177959077818437877674763994324132384144812628089987913033285172088375923790212029132550086978875900170640784454246581214072264765176002236297524681609224829534329951789566405804593982264364751698102451651099295312866797925775244682582797910624393055701806818898210677655320818005750295902256835130685571984980936743331892702528606410513200979942827011957563652044101466661516208266341625317752746390338804977679802059741831086528174727519954349136394689470314659794590583858100055599454825513941438687380028038552266709775493199220505013285726893987147612068686207844717864721412993435781796413323374943227276333844059402263648581143627959762441423239987574649282597538824695441610485128288581046155015811092263375012473054276179276373477400806470558422851969681972600127562199934707183459573144292101637279696787033605467020002237558924405525187921066051932198651457825848229918749390680957993516619595853859587405704240467381655567921037332649952414778090732046137810648771721154575199891697861543082119976406050249002405797454771755170152838475828891444577241058810846416193245071101131249637520269270002053199351087243163892318927249163555586635037065713379734308285462421553998600920187445059428121639402376626901117352743490647143265799079351808708132596172610161465747335089164829894084000307026786153895225720681908926599347429155461446402154605688199350903370659852442519506248953473441577534383504513807871607397013632746366354215221627445012582750950312108125828452947235492765184792569928391135921394261177396889570800016816420871483762948024568987255564808106243069082071042189407978269680676751859366343166126280518157469852655700918695568744615291522086187829656170062414767744671191235426876276650311026077023101749628772434687850564210953012226324570488029399040740033740445435006812374866012578102931870686678270060689256153138574092111757895316486831075183992750127035573509351414154913363642479489218000182794543394305068230838467677561837766423902845248203027187879470047141391035395987784870246872841968723344654196765610937307806151491868615894310338858458690731907501137246283192171121276403935483462224959794869811620399985084601219991284108238010324136440769914415063863240986941947547264275184516219020192611274424516965684124684077785695169845211281935212000738843171579766135648570070936568910069760
    | 1 => 2996303641743246832942099458744457477056257438674731340656998704824406462893583681762035197647138671451423583340468677477550726567314540216334276103256333957804964346901952485264831595168739176425672162488443423141045996086934523292807216511986673791836267450453515338388979043277893626425838970424061392518865410050823513869063393673844706386594089844431450228955382349871999244464593420473510482744317814522054463715426010220009965544994303729933482925401258891237170746764923152428248551985022986151238447131208999073099806964391659062990219377698675519273929447221920204363024880236530143984858877075022788996639768336333122950766877950527121929359461559068584510306823037984219743825713320210594791864892971650631578498023580848995342411987309462982520987408221659753660272093973997220270910749557464383460891272319831553472106958956003332421367623417063028426488205334598527448251056317628347613290024063196832110271695670061223769878602557647850922802338183013379576398170956147185627692699515549886295858152059474932162262072114847110828770838774987813315697814150425631768059613998554675142058800304408860222529386556648654036686854194473636500750271306669684723291259075690384792281860981304429236667669980280397572232879097533975469021426689953804402990728896710935672821271428561885757447961787706741181519267448735781679681208035902348454945426722230212819585197926325992626904286313657762107618530777680760645686475401896616081727366491983188064002862153256213777105864369730079020482461114065998664202721924202321267805208981449612033264931884388567073663986975163278324099844394714239685003331590908710932854023270351097880699409590339676610486621303163778126961680138475773152409384172302114825161061831061392236887820981735780611693741768775325856701593913075831892697865228984463848290705517183863265357201835099151954250872137452361868154704662953658724289128917411034940081259434175189360456558362938229143561685289779688397609136357495726973822995352791712554689512312942761150257242307789942158424242840454492710976541620096016063901373874985748430109302404561084834301168991514318345871363379169500520810926814259904125969944253457246610652973247096898766565767237049384528361361564595211281168781961428580009641178300082713369988102974794613845259355547055087548193555386180168450662250164892652860432444846522272412965804253914041367049615708288198464539380071632210304030394569973192808021998981394064332797993887748928273596636424774152040448812446598608493890646777646169929724059410010220567117606552666478268872774613356634309857427637036258331564794083852937204356594922991364772148890168702611494410956002716491065262446000969504647235870816252985267902183615661974105333631492889929100358192901606299027099972264346301693210023151355279696001750065533623192263334642734892547912303752561578702606218402494260901147032144796885678617641048225334501932767682426320483532101605611282401859194459723624091946069503204664315302158803429843815805455717948053947632131044375869814877081353868939025981017670199086805936907650857252897211156074669326936771149907160646698411621993210290918276716613013332928206780518412721902332245925266150030090616740383645623287103978552055408391165577886720647893536279484880874955612044338907840860120254791680
    | 2 => 5745755713956856793266614384533093532158941741012554904154942008614076323093539914891327890271571210228672840134622411847330733452881821065636759694005925769373317448521720381889717332674710376293193805398616970323056871769821869253139070289090790236366044768171636010958389947690862616491436996246856954520738805846364511265230291814494792642946469053169915634965165262615031841058971209067730574596139461051288574963690785077353865269923294666017410414167256721963708469480092903023761712091971448461096678277016972937448242555983503609893913398345597357874604370177746083285828263866166795536144978183263194306723938227241978672848601265065677765461026909466327354025362352663121080667712826037372239818399702522666021161595860736226514068959222649093665426343834007764813267864901445314538845769920953946030835345527190376797261708958455658322242128177959077818437877674763994324132384144812628089987913033285172088375923790212029132550086978875900170640784454246581214072264765176002236297524681609224829534329951789566405804593982264364751698102451651099295312866797925775244682582797910624393055701806818898210677655320818005750295902256835130685571984980936743331892702528606410513200979942827011957563652044101466661516208266341625317752746390338804977679802059741831086528174727519954349136394689470314659794590583858100055599454825513941438687380028038552266709775493199220505013285726893987147612068686207844717864721412993435781796413323374943227276333844059402263648581143627959762441423239987574649282597538824695441610485128288581046155015811092263375012473054276179276373477400806470558422851969681972600127562199934707183459573144292101637279696787033605467020002237558924405525187921066051932198651457825848229918749390680957993516619595853859587405704240467381655567921037332649952414778090732046137810648771721154575199891697861543082119976406050249002405797454771755170152838475828891444577241058810846416193245071101131249637520269270002053199351087243163892318927249163555586635037065713379734308285462421553998600920187445059428121639402376626901117352743490647143265799079351808708132596172610161465747335089164829894084000307026786153895225720681908926599347429155461446402154605688199350903370659852442519506248953473441577534383504513807871607397013632746366354215221627445012582750950312108125828452947235492765184792569928391135921394261177396889570800016816420871483762948024568987255564808106243069082071042189407978269680676751859366343166126280518157469852655700918695568744615291522086187829656170062414767744671191235426876276650311026077023101749628772434687850564210953012226324570488029399040740033740445435006812374866012578102931870686678270060689256153138574092111757895316486831075183992750127035573509351414154913363642479489218000182794543394305068230838467677561837766423902845248203027187879470047141391035395987784870246872841968723344654196765610937307806151491868615894310338858458690731907501137246283192171121276403935483462224959794869811620399985084601219991284108238010324136440769914415063863240986941947547264275184516219020192611274424516965684124684077785695169845211281935212000738843171579766135648570070936568910069760
    | _ => 251609958073540197747600660652000269077914706697228501050148678847590719049300215881750978566150501665091008624983976942435504701039150672968080418106727337609571734802909491138722858282622978161568685228903237590868541444495987117579480034377925289797376793742295368780287248185262612189849205689546627745720277630290496367513267402134532381598861736516388131625437574581851879521757634419230685359508501731769328870038622070082636141383105458270952008084727796027488831977189227559910805892405941581414626535648215643563630238450143424572423074372447617051411538283440050404161037813675864843548044063690309017731170179111410615837329978030701231527984003495110339879873860501211549752942965437123874621881334372795435342093903620772234676409488749553783566562669579320695940341380095761052651144070037617258845283333459828946085475646541973315324791757437526248434372229385772865288154618698571732711515574977086207952427773518851195483501277299136983116768695626438258525087191602335530300470367328724167129166557840543078335912789432401478804364788573819232223393501348519902826321865182485828473907668417653009069509356596624726788981849995320406979973826650235134430537118465580748833615178340335987753742625273540104414487505416485084159310115338839421450103873568087241301972398032367469964865068543585419263362522865030923598194063365463204001096345056078850212164726718760086048054426743906010085115151962410444863156788552519599755943862567411842377870632111117562858798234081048969693926917537129986574017405748566473210736257472150718329256717024615664163003097221127368661790456783148681468842888322309293939448734055042420892447395332485454715473964893608852692522143420303644831212213583847588788043379833845611259873455454975337053534050580782318052384406398689537606083058394132141868232182587988491353698287566079100913776207636053976546032693211333924968683899274054603534652471136114098474862297831618246609645166490893679271286256830366099196710833135274834838544007691474794556731949733636410634827664692163652519459201170824425007857525682844494485478002928431363501034323926778402033039027626598230176288988971659278398317761836175315867365772479518686309125547257032358852584931619846175342262715765747855795014774101661342182098794399606290016878185594420767850102768396703153471424049715859472045267485262994394471458223973602903014133773712480855654862251026649868370031037499660371844827076277732884029037219243756417308368212352415420096627444192595452394470068060207709598038110619738872043914077642405910551888268824100125023979335392355794717449973916242524675376456343877849668444831747764882559283823087291161975972687580469329055021688904096318969138648303866155229255206307123563602654666147397319701405690255652268459376118218354484304247661577880854349282968108064078192777766537484762264329572165407821634753232735930642678852214470472375614523400547828568852590330182588052322590731041900847888096105014133790335450169515666750164606789986980607357916950379141947676193151520380088670030446634392601630141442768285602705383958477335715244857891828938071397884989512173698989086512058799767552
  | _ => match p with
    | 0 => 11018145245540108991958087460609188048278561638207868006351866905160796285667698833457104799433445747274879282329185005771837826217625358205990170401640361691648771326279872811791701475216164918960900741970230844187186525585892297214680777674780399077606739390215316934331865188058508675443015790174948677517855047504213152518796880685526524446805002987882465877823510148744559642079809224306230322086922522544312063346825375715865890347511712976682502001966660753679799903364592117632483206101515958183539334577703133555728016701810657493597214855102138283272691536930440350697310658189049810302381089336421583213994059168470992656704786035901775602983554676481606926252149409262064088531238924335033480365727432993186570909911979327161667728861431126306860400177619089557886799883622481799309729524225253458828123075532969152878647255431353572248513450978920688120103006772223778699628458325394435445824089708080476901804446615980481615339453507152522608329677963244566069733148968142140788810540637712286600873347634684794189718878065945734042804305997565939701840000957086276034543098879716933513973238797897951475245349004355573257158261901892204040944775791626125077336376190915108666370343773763100090940309037526468882056405685542221952794919606006397222253701944050429399848099329365620406039307457422340440825726483784328978839825477205829464771633295302208753742328283515632348615879602415906076944200826612641508996444974739223577692793562734578961400201754872467165574848683082527043968118406715809943516429199233171297431271418452025514899521322338829834708356256978543574571353022499464754548876309424896499165971513547650970510858822752223643357431647984334352348012517889387321902224022004763960664145036562552475537712989047073443466116800734798647586822567164625992751064493942354136361359984250571064402155567182426318400355324316409783299207151396051549039569271967255398097720640726860724201683155291314696548354278665373377354680982145512224874389175476163069476463248436951408678744010260040009742450365032712738409595450393587581639741456318757074577190574271109114953197617797016791859906338209121670121080601594711951083726689951579253601601320362339621039314887402709087577875995657586992566263724877978897546437943420451076945479139605574376308451527509207114932821661705445691391263452960505624267903759616459170749729593657711562426102626104821382204653458791448660796729033097656762993568017536514323536376721800266770356416068422077428299981446811462391891527312106433176478911561630060995777326133726449165408662466785196200794039902336158304442412754169105303962573780589096655791850919417492769671771197830868488109517942793037537247508344060334357874904838306422255017618719662832506096352694969033485088773481063909562522778036954295941691026966987646640656041619807645413274499208474948426070437870132701031732383690316801718340001180052140200929883322735414809981024141841155015864364961394333332871486256440995724366042311039890019420230578659247968429409410445863520654172674592543064574538990362844683197399556252971310634042236229582532489789440
    | 1 => 5745755713956856793266614384533093532158941741012554904154942008614076323093539914891327890271571210228672840134622411847330733452881821065636759694005925769373317448521720381889717332674710376293193805398616970323056871769821869253139070289090790236366044768171636010958389947690862616491436996246856954520738805846364511265230291814494792642946469053169915634965165262615031841058971209067730574596139461051288574963690785077353865269923294666017410414167256721963708469480092903023761712091971448461096678277016972937448242555983503609893913398345597357874604370177746083285828263866166795536144978183263194306723938227241978672848601265065677765461026909466327354025362352663121080667712826037372239818399702522666021161595860736226514068959222649093665426343834007764813267864901445314538845769920953946030835345527190376797261708958455658322242128177959077818437877674763994324132384144812628089987913033285172088375923790212029132550086978875900170640784454246581214072264765176002236297524681609224829534329951789566405804593982264364751698102451651099295312866797925775244682582797910624393055701806818898210677655320818005750295902256835130685571984980936743331892702528606410513200979942827011957563652044101466661516208266341625317752746390338804977679802059741831086528174727519954349136394689470314659794590583858100055599454825513941438687380028038552266709775493199220505013285726893987147612068686207844717864721412993435781796413323374943227276333844059402263648581143627959762441423239987574649282597538824695441610485128288581046155015811092263375012473054276179276373477400806470558422851969681972600127562199934707183459573144292101637279696787033605467020002237558924405525187921066051932198651457825848229918749390680957993516619595853859587405704240467381655567921037332649952414778090732046137810648771721154575199891697861543082119976406050249002405797454771755170152838475828891444577241058810846416193245071101131249637520269270002053199351087243163892318927249163555586635037065713379734308285462421553998600920187445059428121639402376626901117352743490647143265799079351808708132596172610161465747335089164829894084000307026786153895225720681908926599347429155461446402154605688199350903370659852442519506248953473441577534383504513807871607397013632746366354215221627445012582750950312108125828452947235492765184792569928391135921394261177396889570800016816420871483762948024568987255564808106243069082071042189407978269680676751859366343166126280518157469852655700918695568744615291522086187829656170062414767744671191235426876276650311026077023101749628772434687850564210953012226324570488029399040740033740445435006812374866012578102931870686678270060689256153138574092111757895316486831075183992750127035573509351414154913363642479489218000182794543394305068230838467677561837766423902845248203027187879470047141391035395987784870246872841968723344654196765610937307806151491868615894310338858458690731907501137246283192171121276403935483462224959794869811620399985084601219991284108238010324136440769914415063863240986941947547264275184516219020192611274424516965684124684077785695169845211281935212000738843171579766135648570070936568910069760
    | 2 => 11018145245540108991958087460609188048278561638207868006351866905160796285667698833457104799433445747274879282329185005771837826217625358205990170401640361691648771326279872811791701475216164918960900741970230844187186525585892297214680777674780399077606739390215316934331865188058508675443015790174948677517855047504213152518796880685526524446805002987882465877823510148744559642079809224306230322086922522544312063346825375715865890347511712976682502001966660753679799903364592117632483206101515958183539334577703133555728016701810657493597214855102138283272691536930440350697310658189049810302381089336421583213994059168470992656704786035901775602983554676481606926252149409262064088531238924335033480365727432993186570909911979327161667728861431126306860400177619089557886799883622481799309729524225253458828123075532969152878647255431353572248513450978920688120103006772223778699628458325394435445824089708080476901804446615980481615339453507152522608329677963244566069733148968142140788810540637712286600873347634684794189718878065945734042804305997565939701840000957086276034543098879716933513973238797897951475245349004355573257158261901892204040944775791626125077336376190915108666370343773763100090940309037526468882056405685542221952794919606006397222253701944050429399848099329365620406039307457422340440825726483784328978839825477205829464771633295302208753742328283515632348615879602415906076944200826612641508996444974739223577692793562734578961400201754872467165574848683082527043968118406715809943516429199233171297431271418452025514899521322338829834708356256978543574571353022499464754548876309424896499165971513547650970510858822752223643357431647984334352348012517889387321902224022004763960664145036562552475537712989047073443466116800734798647586822567164625992751064493942354136361359984250571064402155567182426318400355324316409783299207151396051549039569271967255398097720640726860724201683155291314696548354278665373377354680982145512224874389175476163069476463248436951408678744010260040009742450365032712738409595450393587581639741456318757074577190574271109114953197617797016791859906338209121670121080601594711951083726689951579253601601320362339621039314887402709087577875995657586992566263724877978897546437943420451076945479139605574376308451527509207114932821661705445691391263452960505624267903759616459170749729593657711562426102626104821382204653458791448660796729033097656762993568017536514323536376721800266770356416068422077428299981446811462391891527312106433176478911561630060995777326133726449165408662466785196200794039902336158304442412754169105303962573780589096655791850919417492769671771197830868488109517942793037537247508344060334357874904838306422255017618719662832506096352694969033485088773481063909562522778036954295941691026966987646640656041619807645413274499208474948426070437870132701031732383690316801718340001180052140200929883322735414809981024141841155015864364961394333332871486256440995724366042311039890019420230578659247968429409410445863520654172674592543064574538990362844683197399556252971310634042236229582532489789440
    | _ => 482490937883848101452875368670885336890178681712384179386276613311621997217739518705542776029545787814067627129238261225977554160582920772842291271047106986616417114869671645627594840855885880609765015609285596451008465882941706892121496328638359989211706842937647137344066131085602860692413965911173039735995791121331274612364246662153044210765988599985221065542530590226190348824508687384327404099578091291926306619215659890631454460546868788621972263739074931961453729476198440009368538425205783147658053704685138848909286420329500296733294475782444028084010164717185965759727494741135193766676882134705760518120396132920510139957598739720698384959583085997199760611514626575306712553006182225259570885591503666299388691547072320762578032264109768251452940321385428680862032276282374205515923718167109683193430598925634580681004177795402116525581665690432850534635732116847398973462315350637637099780448396172940228905492520138347548378984558130288779820378495160608944378460248884114229982591565622075173709496481291296893466380722400048187799474833389683387241522472330038125032602779347051418478048738993141144423107802357374370228305963868278209598784123331978395019711455956725757828279993375324039236775101333209671976631327074156282255949765739834033124643031406698477189799130937127029385295909722640823641009505865161317741884773865811185700607319600049714636691713640118598680551150264401101608388154740672970119740895401176158415238346557850403143247088683528889912126739954114769488473812490737871874664243199001438602645447243155898618090919015107497403132000810067530984253683873223014090035695201427374815505405044759311848261811435841501958268895834607359296995475798888952110386008231129916367285178411851763276531165917307822635404802143815446882878464942149837845386946244267725792126331697660326262070029646326084381910813455898609170874322178799703133694062442130035535471849250839014294235188307673439086598850506777203799108966888351711065664991769621016244665213856781632340651199523588365151096853985429175795535609353209160813874079551157658409520247173835392003317007192931305905722262017644548183023991353089693549278408991016171363618959412737915830004611810940616560728429094996638929454588398235456523304731239506420110742116523214703102971654392920443090874913731878680400156616267193130351323139763790650132314892274714200996187792181687024490127940940423576334959883815005826650405986832550271927583147878031404517463041724439182329012598841786978494027440952938825204601261013299116794215166279891741895933225214943308627247705046570060050981857619138553976365567935009460777731325837765346080816968333216973297551980988034669720222654449125602796023721770198088206172652402126205511002131347796962926382341802096956459931838486069207267750928309284991521307979357382129324442584386323095955565415820514884979298535960087005461305699824235308423826199171708716218774688042216986112063001913176945849254115673608761796196224850491091445961585926462659552671239859566753506869795167350710377658156673155072
noncomputable def an1c (u p : Nat) : Nat := match u with
  | 0 => match p with
    | 0 => 0
    | 1 => 1535
    | 2 => 1491
    | _ => 1469
  | 1 => match p with
    | 0 => 1491
    | 1 => 0
    | 2 => 1491
    | _ => 1469
  | 2 => match p with
    | 0 => 1513
    | 1 => 1557
    | 2 => 0
    | _ => 1491
  | _ => match p with
    | 0 => 1469
    | 1 => 1513
    | 2 => 1469
    | _ => 0
noncomputable def an1N (u p : Nat) : Nat := match u with
  | 0 => match p with
    | 0 => 0
    | 1 => 16794862767302674567535096061737677627860190549128958402454766826597009157667131162339871318704681605153516430643978982692338218094805269730922750027679968367511486294780506197537041428948207923514908876811868330442383096530064204604715526817364100833333468334439494852408746176615587137180856787562904177993459157517494339734192971689652257110116017176180020922953431582032251575241451442599284306856722459136515090135328868866420944499995341217114581478512659663843002077397514002820749970712450761268811505737984418276769727121902989899842954008027020680798875508602061895787203884375466260420052369040460801514112145275068330139350749636701981646767796193129459124753886654984882488197833914302540922019621099132696153460684988523441058459526978450156475884662976960994734735368377505131211053675107866712248991339883367073853967374760686735155535941570823277686109565103266093614692097296363319678218590213916157310011184767549138210893627370515607277271373843621737807850852096174640325116025988554742419973982466116748378227366883577460149948149179522076239138665956469871936968502869693392542349575709410439647832853048643327811427511401211839499174397360808279167556598410241031367342635417562477948772967839872658776441852793924796930543569049103293905481637011800122599153294232214295736213847043003552320416818285606951798423184802492456500272522824592584314669190284729807701392221732774080690665880740577529053717562286679033803392341285806283555130564749131853237101075259248518347435917968492447265417226762557803590222651671978012087605019102189418103552675187456609024339750926320670476995552230515999757329132404195158559718405019635753268030789069552670244404181622344657781043615093887654421603264618160718462509083885440149939620139811602802855221361105332725584059769460603229131584770208097862444266808840274806803140550439602121136517283198888568668304735154127831195021203062342651374354275574141483513674012022039756146744553748516761909581677011487654089193752867304691445260537751173822512708953664269767158721851104089155515776299341723282553930346440220941190572283862322548727581037508392194594806377256655276074539254363806705419402386356970190683329863271625559757976887984511365935707810047853928449726727280482016922870127389846087099764200196773403204212878260536373698774701564526402458759991258133481614228473807650723327404482968369203142897824079233614524309897736797229382047268261856171919529342006755540458124596576465553284651451075741022318497613429807129308123406660030696896591432541492134333026175305273646024081266256417001004056409522834010913261557817256358534189526336550617078145033875749272480039793597125171656312047288768171197856570745168117945968224806334051063115298523237649349045608160758627395238616853279987782407606825067681978076875918112612830893675314938410006348932434679578322513509838821814300283014367847334223355918228644936694883452216059136907216694152238014598170758352915086248744973755243123068888397590456626902420139561759002183623185301866780463463719455897011562216042624172276427763016896238224073722411384202055676845723718092464741987689734093085817996201441817342898938635131685495755210397026628780544556541588650040501263088762910299050229760
    | 2 => 32206074633413145311692884563456034441973082457245248134419030892491612038310427632864125256467264213131649103997949048631744601733011286139914293517661099214025182054772414865756525860175741204680791709299614411631173304895486351050173444400374437094064229599013807203876767767713614360300698328261968351452195536677183535041698227473220144844654302274097680848056009546477040578784977205661527726017088221666474095364943624970577426097037498658681857034845157891518570493080221127668583154227960522421072196562971602376144670521618358345270153519673294982580676900280326451732612840150510699974149640152359554269589782926260558827178237187929757635581952447374123504623854144155078368376699575951855951600810799717815723788019663458846038580414559942884296520021706153049080363696652257414739346440964815009132196266682858105098940882757372584361573344952003359799599645361378926756883791193417181787073993597067034617910755010412953021888163494289533838946393040184097091211160525098947878460207018076693392533319403589514026996837047347389286958692937448861724594368172610547561769198743358186044660181557459585160897197644367965028989676799401012093436649811230097207108751163594335850702742827563006432479056035013133365054400693310090772391694763371445945613295816715166886652466948143036155502728773578933665710402926723958220568840110779290112140332167178092827157085020001291014150966623219969290894739451188536942484068934722508768760814408628715824367440910223048045926173962374268120822645444752638281474227935816508570974240956435291946144859779150805012864396444304303188709178852636524199468313985575957179108945923650377756280042586620207056235305571029402957109157639667086401145951484843257048959520896228099703230197522757966205034943778584494062791350082971519837774792920086876049945685389748211582881527905072647024160834696370108873370801369026459290766809964039364271223955158681847806091216786575059904965097395282678465584503322069151561139361219915830709201397279440723408165859811373064428552050102390764068293612089893644441131666964882571226596842885535686438623894107998233484271284287492939886378347582850340703691751500877411937729910555568710876108905875536369866219872719251927305322205215073058250371241534356260419205165455218128824404195405945724952188291917900549761837767171116259876308278370195011857813694885038981769131465047457339382001911194226772775990399719457355884879006480713320303169004671690457249646852707822405611187393158594690654508581275711301181767847824617988782560037894243535556619719291944258371811183314355615378494755597062838310056558629817940574619523423028106882880333195713451866026237036871155570315165918312068790460218859185676316550654172027709677959414277473906557790013204725519310780314813125595880679851562227013049150135564120836079767825829786553201142208402551514033634393227259911127539042561839098060778929034779541687422487067598389349546599324112588340512866006047990305006765447448751343066316296830315196710547059519819013143559939705975213464772851390725485787524908760238996931357295396394491372600081461933590465492118207827156935110377927193149440
    | _ => 1410322591429133950970635194957976070179655889690607104813038963860581924565465450682509414327481055651184548138135680738795241755856045850366741811409966296531042729763823719909337788827669109626995294972189548055959875274994214043479139542371891081933662641947560567594478744071489110456706021142393430722285446080539283522406000727747395129191040382448955632361409299039303634186215580711197481227126082885671944108393648091630833964481499261015360256251732576471014387630667791056957850380994042647493034825946001095133186137831764159180443501453073700258904516727096364889255764248198375718704779435061962651391239573564287060058212612595427277181894998589645686560275124385544203331998582314884285486813111423127881076468733353876693469294263184167278131222735243463409510385103677670311645379100832442729999753668220051568466848695213257247809721725301848079373184866844643673552442665650487737065483482634301043430969166845501646763450048915522893866198779295304456925843067922194020967749201627172684911788497239653656284016392441053957478951167688440281835520122507043332421516656603767489788574566130937788831404672557513376916257523442202117240931301328144009899056152437133909295404003041676811640359556803388016903219927749404409957749709568818844448473848838454963180556714158799411973031354550059576425692989924394109291497661082346171490769061798682720479018020290000940622832589109235977848857705806418113151544956766620617944677576030026107059225824623675797193580631434563461627919156059623672770102937501845926071202741561859265907138729259370218842669600893253577545133203712744344749576531858728843512911002853218838219017453527702004552495305676541906764511627593716509259297750637280061893821555505737371576496820345163110259162267170677263930929771270132535546069426243056309425758714761939251241204391070992987771779719640415026007776532546938731283189546745251307490754039308727730156951383609311884205195862139515092040239497356619004344822395772546712091636107502302238860347655645923526162270016125527246421990867496713397979991920101580893471948597795018002564159045803596070015615557445975333968638487621958651447153618908382954679154534907273406330193485509631919033087221615267505635886511825196154782673390612670688042006435290544498409233296657947325757130962641442749309565706210383517693491148648811301846617406009249239453881828011001691080576725569317624243953196864472100274195818777208030510443804694573108505182210188401849760327386151785616499641708567435995790187573462541079349239868362064785409104098271260330070266589059755388903971212029550005402700021976478318169859993161662853410450207146423200357763542772786832876391038382461466342840928779549287882582781103356723105043244842099794628777710872655244503341730751105386259231488397312561092558374735254284666891769954170662611889111227668325903629591429087101266676737326071075362466273489304848051617536870765822523990319742715514658991174202603648289574728469578682949157076180742694535701799014552412816909881829638058499869823424640592597500473002727655946136960818836843014744195072
  | 1 => match p with
    | 0 => 32206074633413145311692884563456034441973082457245248134419030892491612038310427632864125256467264213131649103997949048631744601733011286139914293517661099214025182054772414865756525860175741204680791709299614411631173304895486351050173444400374437094064229599013807203876767767713614360300698328261968351452195536677183535041698227473220144844654302274097680848056009546477040578784977205661527726017088221666474095364943624970577426097037498658681857034845157891518570493080221127668583154227960522421072196562971602376144670521618358345270153519673294982580676900280326451732612840150510699974149640152359554269589782926260558827178237187929757635581952447374123504623854144155078368376699575951855951600810799717815723788019663458846038580414559942884296520021706153049080363696652257414739346440964815009132196266682858105098940882757372584361573344952003359799599645361378926756883791193417181787073993597067034617910755010412953021888163494289533838946393040184097091211160525098947878460207018076693392533319403589514026996837047347389286958692937448861724594368172610547561769198743358186044660181557459585160897197644367965028989676799401012093436649811230097207108751163594335850702742827563006432479056035013133365054400693310090772391694763371445945613295816715166886652466948143036155502728773578933665710402926723958220568840110779290112140332167178092827157085020001291014150966623219969290894739451188536942484068934722508768760814408628715824367440910223048045926173962374268120822645444752638281474227935816508570974240956435291946144859779150805012864396444304303188709178852636524199468313985575957179108945923650377756280042586620207056235305571029402957109157639667086401145951484843257048959520896228099703230197522757966205034943778584494062791350082971519837774792920086876049945685389748211582881527905072647024160834696370108873370801369026459290766809964039364271223955158681847806091216786575059904965097395282678465584503322069151561139361219915830709201397279440723408165859811373064428552050102390764068293612089893644441131666964882571226596842885535686438623894107998233484271284287492939886378347582850340703691751500877411937729910555568710876108905875536369866219872719251927305322205215073058250371241534356260419205165455218128824404195405945724952188291917900549761837767171116259876308278370195011857813694885038981769131465047457339382001911194226772775990399719457355884879006480713320303169004671690457249646852707822405611187393158594690654508581275711301181767847824617988782560037894243535556619719291944258371811183314355615378494755597062838310056558629817940574619523423028106882880333195713451866026237036871155570315165918312068790460218859185676316550654172027709677959414277473906557790013204725519310780314813125595880679851562227013049150135564120836079767825829786553201142208402551514033634393227259911127539042561839098060778929034779541687422487067598389349546599324112588340512866006047990305006765447448751343066316296830315196710547059519819013143559939705975213464772851390725485787524908760238996931357295396394491372600081461933590465492118207827156935110377927193149440
    | 1 => 0
    | 2 => 32206074633413145311692884563456034441973082457245248134419030892491612038310427632864125256467264213131649103997949048631744601733011286139914293517661099214025182054772414865756525860175741204680791709299614411631173304895486351050173444400374437094064229599013807203876767767713614360300698328261968351452195536677183535041698227473220144844654302274097680848056009546477040578784977205661527726017088221666474095364943624970577426097037498658681857034845157891518570493080221127668583154227960522421072196562971602376144670521618358345270153519673294982580676900280326451732612840150510699974149640152359554269589782926260558827178237187929757635581952447374123504623854144155078368376699575951855951600810799717815723788019663458846038580414559942884296520021706153049080363696652257414739346440964815009132196266682858105098940882757372584361573344952003359799599645361378926756883791193417181787073993597067034617910755010412953021888163494289533838946393040184097091211160525098947878460207018076693392533319403589514026996837047347389286958692937448861724594368172610547561769198743358186044660181557459585160897197644367965028989676799401012093436649811230097207108751163594335850702742827563006432479056035013133365054400693310090772391694763371445945613295816715166886652466948143036155502728773578933665710402926723958220568840110779290112140332167178092827157085020001291014150966623219969290894739451188536942484068934722508768760814408628715824367440910223048045926173962374268120822645444752638281474227935816508570974240956435291946144859779150805012864396444304303188709178852636524199468313985575957179108945923650377756280042586620207056235305571029402957109157639667086401145951484843257048959520896228099703230197522757966205034943778584494062791350082971519837774792920086876049945685389748211582881527905072647024160834696370108873370801369026459290766809964039364271223955158681847806091216786575059904965097395282678465584503322069151561139361219915830709201397279440723408165859811373064428552050102390764068293612089893644441131666964882571226596842885535686438623894107998233484271284287492939886378347582850340703691751500877411937729910555568710876108905875536369866219872719251927305322205215073058250371241534356260419205165455218128824404195405945724952188291917900549761837767171116259876308278370195011857813694885038981769131465047457339382001911194226772775990399719457355884879006480713320303169004671690457249646852707822405611187393158594690654508581275711301181767847824617988782560037894243535556619719291944258371811183314355615378494755597062838310056558629817940574619523423028106882880333195713451866026237036871155570315165918312068790460218859185676316550654172027709677959414277473906557790013204725519310780314813125595880679851562227013049150135564120836079767825829786553201142208402551514033634393227259911127539042561839098060778929034779541687422487067598389349546599324112588340512866006047990305006765447448751343066316296830315196710547059519819013143559939705975213464772851390725485787524908760238996931357295396394491372600081461933590465492118207827156935110377927193149440
    | _ => 1410322591429133950970635194957976070179655889690607104813038963860581924565465450682509414327481055651184548138135680738795241755856045850366741811409966296531042729763823719909337788827669109626995294972189548055959875274994214043479139542371891081933662641947560567594478744071489110456706021142393430722285446080539283522406000727747395129191040382448955632361409299039303634186215580711197481227126082885671944108393648091630833964481499261015360256251732576471014387630667791056957850380994042647493034825946001095133186137831764159180443501453073700258904516727096364889255764248198375718704779435061962651391239573564287060058212612595427277181894998589645686560275124385544203331998582314884285486813111423127881076468733353876693469294263184167278131222735243463409510385103677670311645379100832442729999753668220051568466848695213257247809721725301848079373184866844643673552442665650487737065483482634301043430969166845501646763450048915522893866198779295304456925843067922194020967749201627172684911788497239653656284016392441053957478951167688440281835520122507043332421516656603767489788574566130937788831404672557513376916257523442202117240931301328144009899056152437133909295404003041676811640359556803388016903219927749404409957749709568818844448473848838454963180556714158799411973031354550059576425692989924394109291497661082346171490769061798682720479018020290000940622832589109235977848857705806418113151544956766620617944677576030026107059225824623675797193580631434563461627919156059623672770102937501845926071202741561859265907138729259370218842669600893253577545133203712744344749576531858728843512911002853218838219017453527702004552495305676541906764511627593716509259297750637280061893821555505737371576496820345163110259162267170677263930929771270132535546069426243056309425758714761939251241204391070992987771779719640415026007776532546938731283189546745251307490754039308727730156951383609311884205195862139515092040239497356619004344822395772546712091636107502302238860347655645923526162270016125527246421990867496713397979991920101580893471948597795018002564159045803596070015615557445975333968638487621958651447153618908382954679154534907273406330193485509631919033087221615267505635886511825196154782673390612670688042006435290544498409233296657947325757130962641442749309565706210383517693491148648811301846617406009249239453881828011001691080576725569317624243953196864472100274195818777208030510443804694573108505182210188401849760327386151785616499641708567435995790187573462541079349239868362064785409104098271260330070266589059755388903971212029550005402700021976478318169859993161662853410450207146423200357763542772786832876391038382461466342840928779549287882582781103356723105043244842099794628777710872655244503341730751105386259231488397312561092558374735254284666891769954170662611889111227668325903629591429087101266676737326071075362466273489304848051617536870765822523990319742715514658991174202603648289574728469578682949157076180742694535701799014552412816909881829638058499869823424640592597500473002727655946136960818836843014744195072
  | 2 => match p with
    | 0 => 735456731386477669538126641220235972116344542849607027731832577102601769355973109106089969954761114909270123537231668716458333881968873096401505240832758498479784633410780208881883818582362928165528807091022972201351279586537199264401800997003621150254853730325969409402673913304430414910903935519597690178654567148334657441949477352255333458297148038805749201275541153614724075655548314760669513548305851014564937595352420489901294754550181717250228533013408860411354684093451891587041499147772345403020374819458172535993375047165888462066420914988236461807949359382751498660586017774869349828626557207457688871260664093086973270124620961928406753979011444411689901315246381140879498325467241732783646696755161922901250708684270174236993800826780499083989174572010752993896098286707385000260972258549882105091946924227480368230049498746682324265246992406778761960760048342369791273488945170536016395518452868260502027312118245147139728966411133296115221842020410143562395401249889942528286246083159245980778180394233829064499942988029729838688217357113811340709800046950134499231319370598132559922311129831272818970966739881064704736037875488874896727753214077559903146482265923661620545689725432681857530568147461644987732674074658091728040672351537963367037143014663646954379075606365122554156689458520252200276453707594733836807116730217665784504151984643588934690138851263129500224641700573042430354894344791834604123886684340863159780069940905391992733091370732039603489747018386384378849592502174718409555108172484969561016526142096420938373907842023819809712001596550947350947375805116081223846433257660285187959741198778006709244227829171313238449057288005036645371295158555508722447538604732770919262619458938014360243606368280313886653506441060683713489148052587977570841280242402335510414016591746994336196460848116729933520869664164005814476041272254881529915076975438074679045539368710368529790427040850784455652198947918465394787319279223175718735426838467361126678681167622977637340735010675247542032141413625439938790895349186797745807630430275811503261654988484038044525326559844701873090063717060150574833346873788890734714182708866877465971441367744133659894902062123297429588768814141747109175511353735904501184098483564851065350487754378841261282881259154667479276273329631049248161569249068807759487651391840468036616550469279250415560811742428922549743486733498940787260963845997572403582448645393179718641537040114118680913327557084210130790305719607675941731272170042962627317616891042217680996857119204169819945283565835061864936732825418186397120020754214182388906061660823635255540656918154380367350154162794315711821898762751957995953921517052589686172748376762616648850299736846648311830394808682652413789970572147150835999930650475176860138676276515410029333060822966909367277212289128959531647375841592845701081291360703058412795806173257917919252537161816087726445748820159709985101636730969755494587927357503629038964094210479137952048846563503540279114643979732085753889831201078664420412899931719204510365909053141558859447374751626283700069552590469580673800302218024467090121989503433977832256401480717806187468104807015322966917208402106007552
    | 1 => 383526866143135594616588730719290557063200952150365611604095834217524027250378711265540505298833749945782218667579990717126493000616261147690787341216810746599035436403449918113898444181598614582486036798520758162053887499127618981479323713534294245355042233658049963313789317539570384182507388214279858242414772486505409775240114390252122417484043500087225629306288940783615903291467957820609341791272680258822971355574529308161275589759270877431485814451361138078357855585910163510815814654082942227358521232794751881356775291442132360062748080345430466467062969244405786158467184670275858430061936265602916991569890347050639737698160377667471606958011079560778817319273348861980127209691304986956133358706300371280842047747018348671403828734375611261762686388252372448468514828028671644194676575943355441082994082856938438844429690746368426549935055797384067638590490282828611513376135208656428494501123080089194510114777045767836642544461127378924918118699287425712585778965882386839760344665537990385445869843463612791316769545230700430186082667363198440104409320211254480866311630591814998418183526438964334108483761479251027716695917336892625472096034727253719644581281161688369253412078205606966942293461757475890889245808524484348860034742616314086963582813298778999766121122742855921376953339108826462871234466233438180054999194628595500602233014620445467240906905334569727056243748648148193549775171939543137362647868851442766858461102910973848072192366355616795363469550639325450114621755022600447829017948406297897122279066749625550340257911281201736585428990332820899625484780087100982453829537777322730587196366580603107212246849584739862218676805538888049214444699467279547415364981915372610234596713146262215965816237910846874851723137989240509856903126036702607156486859995450202333937513801154301644088602251040363853598102697280451608286854328230286762985080075386213266258165774259125417794891903565937474489926573073459256933936179036424152171591231993481862914355879906773465215719083002325583548598577011455387098319643960356073689071327958861686060226904743104257278636371796007144753835272020252913183832107417074786361060422704273341395127298147057050623828633426525575128553353040901649186926962049942872781335961321561375159427675287519327158400973817565458278925696910585413099285689912767952768716389248422452964558702828835234278954501520648899355438764174674391970606284475230982703787378296949458999870394920236516743260386454675535413364779950715120699896249875212299799783244125921416140644384926361223741440004039835475103641206813794376974185970115886351259280213668695977631120690145716878384171254721975855411125623663342610092239630141488312057114356438063428215031712538722000987149578688765385005370636310241431297645876792648329297575336901163049098652518001808233242840520073186994610743234381467106799731743005094698457509800363982897668507971150901543834877870469390670167370794928039557017924856051020378273717647507173834319427817602931851355921876414265791473714185611001932997485198267827569028797815011940539342423221987514517810848745235764364964251901595411247124769707936394204238028284471128088929314384032451054280540315707837654920238591586545213099951401731869588255854405496135732927770946574731053002546369735442432
    | 2 => 0
    | _ => 32206074633413145311692884563456034441973082457245248134419030892491612038310427632864125256467264213131649103997949048631744601733011286139914293517661099214025182054772414865756525860175741204680791709299614411631173304895486351050173444400374437094064229599013807203876767767713614360300698328261968351452195536677183535041698227473220144844654302274097680848056009546477040578784977205661527726017088221666474095364943624970577426097037498658681857034845157891518570493080221127668583154227960522421072196562971602376144670521618358345270153519673294982580676900280326451732612840150510699974149640152359554269589782926260558827178237187929757635581952447374123504623854144155078368376699575951855951600810799717815723788019663458846038580414559942884296520021706153049080363696652257414739346440964815009132196266682858105098940882757372584361573344952003359799599645361378926756883791193417181787073993597067034617910755010412953021888163494289533838946393040184097091211160525098947878460207018076693392533319403589514026996837047347389286958692937448861724594368172610547561769198743358186044660181557459585160897197644367965028989676799401012093436649811230097207108751163594335850702742827563006432479056035013133365054400693310090772391694763371445945613295816715166886652466948143036155502728773578933665710402926723958220568840110779290112140332167178092827157085020001291014150966623219969290894739451188536942484068934722508768760814408628715824367440910223048045926173962374268120822645444752638281474227935816508570974240956435291946144859779150805012864396444304303188709178852636524199468313985575957179108945923650377756280042586620207056235305571029402957109157639667086401145951484843257048959520896228099703230197522757966205034943778584494062791350082971519837774792920086876049945685389748211582881527905072647024160834696370108873370801369026459290766809964039364271223955158681847806091216786575059904965097395282678465584503322069151561139361219915830709201397279440723408165859811373064428552050102390764068293612089893644441131666964882571226596842885535686438623894107998233484271284287492939886378347582850340703691751500877411937729910555568710876108905875536369866219872719251927305322205215073058250371241534356260419205165455218128824404195405945724952188291917900549761837767171116259876308278370195011857813694885038981769131465047457339382001911194226772775990399719457355884879006480713320303169004671690457249646852707822405611187393158594690654508581275711301181767847824617988782560037894243535556619719291944258371811183314355615378494755597062838310056558629817940574619523423028106882880333195713451866026237036871155570315165918312068790460218859185676316550654172027709677959414277473906557790013204725519310780314813125595880679851562227013049150135564120836079767825829786553201142208402551514033634393227259911127539042561839098060778929034779541687422487067598389349546599324112588340512866006047990305006765447448751343066316296830315196710547059519819013143559939705975213464772851390725485787524908760238996931357295396394491372600081461933590465492118207827156935110377927193149440
  | _ => match p with
    | 0 => 1410322591429133950970635194957976070179655889690607104813038963860581924565465450682509414327481055651184548138135680738795241755856045850366741811409966296531042729763823719909337788827669109626995294972189548055959875274994214043479139542371891081933662641947560567594478744071489110456706021142393430722285446080539283522406000727747395129191040382448955632361409299039303634186215580711197481227126082885671944108393648091630833964481499261015360256251732576471014387630667791056957850380994042647493034825946001095133186137831764159180443501453073700258904516727096364889255764248198375718704779435061962651391239573564287060058212612595427277181894998589645686560275124385544203331998582314884285486813111423127881076468733353876693469294263184167278131222735243463409510385103677670311645379100832442729999753668220051568466848695213257247809721725301848079373184866844643673552442665650487737065483482634301043430969166845501646763450048915522893866198779295304456925843067922194020967749201627172684911788497239653656284016392441053957478951167688440281835520122507043332421516656603767489788574566130937788831404672557513376916257523442202117240931301328144009899056152437133909295404003041676811640359556803388016903219927749404409957749709568818844448473848838454963180556714158799411973031354550059576425692989924394109291497661082346171490769061798682720479018020290000940622832589109235977848857705806418113151544956766620617944677576030026107059225824623675797193580631434563461627919156059623672770102937501845926071202741561859265907138729259370218842669600893253577545133203712744344749576531858728843512911002853218838219017453527702004552495305676541906764511627593716509259297750637280061893821555505737371576496820345163110259162267170677263930929771270132535546069426243056309425758714761939251241204391070992987771779719640415026007776532546938731283189546745251307490754039308727730156951383609311884205195862139515092040239497356619004344822395772546712091636107502302238860347655645923526162270016125527246421990867496713397979991920101580893471948597795018002564159045803596070015615557445975333968638487621958651447153618908382954679154534907273406330193485509631919033087221615267505635886511825196154782673390612670688042006435290544498409233296657947325757130962641442749309565706210383517693491148648811301846617406009249239453881828011001691080576725569317624243953196864472100274195818777208030510443804694573108505182210188401849760327386151785616499641708567435995790187573462541079349239868362064785409104098271260330070266589059755388903971212029550005402700021976478318169859993161662853410450207146423200357763542772786832876391038382461466342840928779549287882582781103356723105043244842099794628777710872655244503341730751105386259231488397312561092558374735254284666891769954170662611889111227668325903629591429087101266676737326071075362466273489304848051617536870765822523990319742715514658991174202603648289574728469578682949157076180742694535701799014552412816909881829638058499869823424640592597500473002727655946136960818836843014744195072
    | 1 => 735456731386477669538126641220235972116344542849607027731832577102601769355973109106089969954761114909270123537231668716458333881968873096401505240832758498479784633410780208881883818582362928165528807091022972201351279586537199264401800997003621150254853730325969409402673913304430414910903935519597690178654567148334657441949477352255333458297148038805749201275541153614724075655548314760669513548305851014564937595352420489901294754550181717250228533013408860411354684093451891587041499147772345403020374819458172535993375047165888462066420914988236461807949359382751498660586017774869349828626557207457688871260664093086973270124620961928406753979011444411689901315246381140879498325467241732783646696755161922901250708684270174236993800826780499083989174572010752993896098286707385000260972258549882105091946924227480368230049498746682324265246992406778761960760048342369791273488945170536016395518452868260502027312118245147139728966411133296115221842020410143562395401249889942528286246083159245980778180394233829064499942988029729838688217357113811340709800046950134499231319370598132559922311129831272818970966739881064704736037875488874896727753214077559903146482265923661620545689725432681857530568147461644987732674074658091728040672351537963367037143014663646954379075606365122554156689458520252200276453707594733836807116730217665784504151984643588934690138851263129500224641700573042430354894344791834604123886684340863159780069940905391992733091370732039603489747018386384378849592502174718409555108172484969561016526142096420938373907842023819809712001596550947350947375805116081223846433257660285187959741198778006709244227829171313238449057288005036645371295158555508722447538604732770919262619458938014360243606368280313886653506441060683713489148052587977570841280242402335510414016591746994336196460848116729933520869664164005814476041272254881529915076975438074679045539368710368529790427040850784455652198947918465394787319279223175718735426838467361126678681167622977637340735010675247542032141413625439938790895349186797745807630430275811503261654988484038044525326559844701873090063717060150574833346873788890734714182708866877465971441367744133659894902062123297429588768814141747109175511353735904501184098483564851065350487754378841261282881259154667479276273329631049248161569249068807759487651391840468036616550469279250415560811742428922549743486733498940787260963845997572403582448645393179718641537040114118680913327557084210130790305719607675941731272170042962627317616891042217680996857119204169819945283565835061864936732825418186397120020754214182388906061660823635255540656918154380367350154162794315711821898762751957995953921517052589686172748376762616648850299736846648311830394808682652413789970572147150835999930650475176860138676276515410029333060822966909367277212289128959531647375841592845701081291360703058412795806173257917919252537161816087726445748820159709985101636730969755494587927357503629038964094210479137952048846563503540279114643979732085753889831201078664420412899931719204510365909053141558859447374751626283700069552590469580673800302218024467090121989503433977832256401480717806187468104807015322966917208402106007552
    | 2 => 1410322591429133950970635194957976070179655889690607104813038963860581924565465450682509414327481055651184548138135680738795241755856045850366741811409966296531042729763823719909337788827669109626995294972189548055959875274994214043479139542371891081933662641947560567594478744071489110456706021142393430722285446080539283522406000727747395129191040382448955632361409299039303634186215580711197481227126082885671944108393648091630833964481499261015360256251732576471014387630667791056957850380994042647493034825946001095133186137831764159180443501453073700258904516727096364889255764248198375718704779435061962651391239573564287060058212612595427277181894998589645686560275124385544203331998582314884285486813111423127881076468733353876693469294263184167278131222735243463409510385103677670311645379100832442729999753668220051568466848695213257247809721725301848079373184866844643673552442665650487737065483482634301043430969166845501646763450048915522893866198779295304456925843067922194020967749201627172684911788497239653656284016392441053957478951167688440281835520122507043332421516656603767489788574566130937788831404672557513376916257523442202117240931301328144009899056152437133909295404003041676811640359556803388016903219927749404409957749709568818844448473848838454963180556714158799411973031354550059576425692989924394109291497661082346171490769061798682720479018020290000940622832589109235977848857705806418113151544956766620617944677576030026107059225824623675797193580631434563461627919156059623672770102937501845926071202741561859265907138729259370218842669600893253577545133203712744344749576531858728843512911002853218838219017453527702004552495305676541906764511627593716509259297750637280061893821555505737371576496820345163110259162267170677263930929771270132535546069426243056309425758714761939251241204391070992987771779719640415026007776532546938731283189546745251307490754039308727730156951383609311884205195862139515092040239497356619004344822395772546712091636107502302238860347655645923526162270016125527246421990867496713397979991920101580893471948597795018002564159045803596070015615557445975333968638487621958651447153618908382954679154534907273406330193485509631919033087221615267505635886511825196154782673390612670688042006435290544498409233296657947325757130962641442749309565706210383517693491148648811301846617406009249239453881828011001691080576725569317624243953196864472100274195818777208030510443804694573108505182210188401849760327386151785616499641708567435995790187573462541079349239868362064785409104098271260330070266589059755388903971212029550005402700021976478318169859993161662853410450207146423200357763542772786832876391038382461466342840928779549287882582781103356723105043244842099794628777710872655244503341730751105386259231488397312561092558374735254284666891769954170662611889111227668325903629591429087101266676737326071075362466273489304848051617536870765822523990319742715514658991174202603648289574728469578682949157076180742694535701799014552412816909881829638058499869823424640592597500473002727655946136960818836843014744195072
    | _ => 0
noncomputable def an2c (u : Nat) : Nat := match u with
  | 0 => 1499
  | 1 => 1543
  | 2 => 1521
  | _ => 1455
noncomputable def an2N (u : Nat) : Nat := match u with
  | 0 => 2320692251489693196640286565502969944047861347761651233660344461470982629534529982261171642287566038383843822857095536169884063671134720476962912505084811686781010714958073840158004888876906432783049849750973608009514343976821964629499364697688265824219580092508213800011928700583170931627822269840545468059418543258400979606097333723100230772755028151198985721667426922113660774841783121326372439518871841393626450753044232395677608566757395181176009868109487558191698114470165667920800001278659613856881733489535794480169474858450406878875016254382761587901378961334019277956919816315174027825399885461279572109700790547974143319263028775444995416879784103278054572781091928974213354159519243534686885114864006290416329551339395805159850918944499897184514110597216226980118484504277432417118127675150146996707895372831154471639015186467006257659662132199593762273720979110258414159292345736779806749658462770696564027695326589471705910938912214262317411985010382367404456114022636079649854934926231266095543670012231139801960621544381528955261933839741100212414288173227231757578334864645601952583291958936011674966792062412164681825500075299072216178926314601832886259225123513338307692602314357462906311919232977212880107323335674501104982994367901200408489058636297015440473646088062353983973871820890010262273786352222691596288269710906809857961824692351826350480089069411945207889958706293145628476279384141296547473096872343854418487096550138107317069811992145476638384862563109364949275067178780797336603494597238633428535903842684120348422971032712227676060822753322915123096643112708451718677316559194176263906538227769806483349558350684791919861256272863531338673227030514910032626331734386270918801231781481534881922045392515075269583349695693624223788497869275275195078083244585842523259811589527118082845228660031878933983801114233982539041455301098810300323950111581529318698380240373292720833074300929356907002136796498190411462805487245594581704544053647473366386059504980007985195020296893459660603829529843841663331308203010776629750069559890257343578132453763653305182854785524718647993896249970842369246626129995047926699104313062495628951264752378384790628911656129004665181592815127213403971522166721575225851304698360729597987758729622500648173726030726084190645726461096219557917791526523446293670943335793926226959918527491895095602806335343467330815554060692753840030813013877268584050548596475002901359847982417686948049681227965356537208567290423932681302453967468932678349586242182078249233775631833779918187650367238318075242569454235792402234438386549654423838543159229847077755997556503579900298842544712498536924684843391952946614996932705267559470673245810663843069573975254194771209342669062402118071701011567117579495904948600772488001476500380601903993350508726657904987529594454603627095130467405707865233494701139473862017048743623258423538185167114035017640305698647772553749795683653057979506583211864593588228726922941814142020321565745858593018101433739181057840612476105127404405059321426819367234810049961171693261617293382994301593036880895671260555647649548203416685352873024175631881015466461914007093248
  | 1 => 1210197403209007079268608266393991310194671385209884662302142181390562326591554585564047397524298802627487161452312837435790807871059043261585136969675227206552829538490858166149920104356118078526716534230071981462027507639671733022013619145040290327358674032959115791286607110678106642829521168511770755382607840265046182374801989269467184385919295928506231670610740211889296362938306947703190488136066451967406725539737292290942785329195203431369683665639468904901189054354285537463972413823198892061682651219551113176207558413839426650605985042800973766914001293707407062811731100947006029899590487362426773378033456925035840598254793762069285206271101281331051735925168679905200167273790011856131486967571773922878751343586289080819814034284667410233322404698749628025753203444954782083506481272489375012039408606637541831564387790221391959859034477537146223226852867225116707921877985371577896291827526838389758897128556411259076551398237969169829201565830324059397594305525992685148601492416206650746102341303722107817739878464243603381255644988214239218689076266719378099722788438059325738795156800864510071436638716457535670155371101201037736559689105031186753088033756660803413621290564064083301471855278254423073460574132243455123584242955584645904148409840762887964021158799114280279240984621434371042186623180982977462353528477879650651072664404869675345884206887521807181793336047872168922496909706058951366236188241418910769690602297197718968446242693282760499464475544003132536888145049529967308817928076323028444202583785774653347730300809934693719158588666335980409462831252232517163952673479168880818458702714538736703204626861926764201913218359446457093562247963127354095788117116977320138058732271727615849176441657298435390926397716637156962639555859381398751669672506031375284182033907606196404147370569179980171558934942112264993100549556680259010029559456639847941596247514164683854402774586164550051039152389434200972034518472869591990862400623815880734480406209785089173369053472875748153611054380249046771239251126936576232730186413644122645021246024327038423937878789317192259665914512134480326999694563650282766647517247081815972726012894665135117843448964607093933228767375075885256452259309829347917002532188130293130780593486800208148616116831993909446542652783819155657138410672238672698399688672677548523923188791798516121188286768645863164730734542783324159918924139684225073012353677931848653440837784184902159304977301996730725583700594381407847804365260717218679131032853454259738784540167183107243435574420431234177625749805955605823632930833616610476150760986289003594813498129119544367006381762873680735612505006491146976631475076480550753093290354251548279418838041140600625976614798505918153446834431535682898123594374073085516522804772602279355169639585709216936808554291104078956580582039835989786931339940527149031402053485586166806205388401607353534236238516481148656944687227363117095143504972766456303921397280513321523983024052557184297689179364199116916311631428627506356639259533004760295944540995996032628668399527519853525929980790391352565632267345921317227264044298144322627832826871512502139512819277126708167879134295469053640601997654975059081066928898230801538042086662551670004304068608
  | 2 => 52995242582708220840440013349302645071050947688099086638996285689796145786996897112504443282369172375805635859743126520545272089034390812359969498425237254861475389355550204384633511627116284469030311444904028377062922220009815816167652984430360735873966781384326667332322286257064259651581447251867559570766706204664275510990813401601193294922381567803113820609687198715491263105278207711531325502591851027243285585587195023539109099283771600575554764999332576005030527215919008594107713369933774078499372601483991279428982128460524866661771358297724497953688994187280745687286049416001111217655249145534518946528413147607126033627593031301523926813356539129654811169788221971149732261403082961281209218051771829005818814740018985600410202455662563240266341697010674640728500759391955951618442382069108572596636225425005181074388130228077694434177763495632281829387882344681797042336116906340992240941211211833425308526634280008569337677504719303426740046054766036488253028109517006808686729583300898115351360486273673251984092142647886842299521418321717061256164224850829220744525419769133303444668820387312726796973625406323781149936964133687240260318385427292729338936532688833222053750987514912868603171851959903851838739842555484109966404508737403866234936810425898388680993815351046316105043302252343625579758169177600565879325252556086860415716568967805234366629565073180738878431635299594054833551769233690922415136388590036185411921869202260995417395537912405947131462245044221122268635733579557074268610285974631838969173954509753107290206030653674066879562216189908939515823672999747781758170037632253672531788734802966318307599813443476686064807664355911107305937780956327503708949162381965300007274146768954654232451765441959576467214334010165046751470762533525791010368601126185643323295934349301940453734688167321370050943265963196386848894885414087394664470492091191049893833394334775717356900869709321618551693417757001547668269527822233961388238231405406703612505043979648885871994247655264262638936009748302110115486758887597681567267989045435324864930776073806130095819418478099680211484808611728545932016631367308100951188804371495641763552647565378544650977225081911683151094201580677985668632012505677803754133716754289828157969460757461138239638375089857724898518361392026469205350640387681030312838827035927740304256628000569229239928958139800114230107716292210906051985474535228231840832714035049222697136211579007293488666762035948152660935603083977260013686092190833612640050151567068911190997177027253084776914103380124793412361315274293573326542553132835800729126248687970140878690644120792624037562815995200355901511557417728648689544524196045022817031105701137143838791987768201715262524879817445338754574292008679567417315848758566504688204138121647996631124443720223294010141913443475770393039021428945582601088360266797444467858283311632869928214227176895278228673092906360851079007239485278913550864147346061191353832527084094436518666550330665538758765345172229804207764605123284265445909622230331567735978416503320422319292964430237090310730785286615296639475551673302229606079294425535733556002701053331979182428699315481855212817105399030078706254748309274624
  | _ => 4450193424513719176294485718260881820814267155865003524965269367920521219195513728423169207667785169565078952128457346318981804972345999362913125402149036996838725756348222366211412320674065184412562538655791696151372036233157282606833808877652036339877406278554246697945867289431820848716144672936440261840307793710335870392252298802362263256803880777915698193674255938924556521786367656837942627102478189995967584487589490305432789462683147969066247843202928076253031834498574255636864293656582017831773672286291308006936774415150280161384146660461515014404133038312531365626269795344254808260178649418060892052558414262752432481536566896303181482711123281933278126006528177473780369719213456941898981188115917948402010365805918759714395931066963616616496162688071649910123246351302494062324633422529896379973762423513718295496343000491630547263703916801503207317452478738403874077017211375124337956623219043978155727627387688949598953507095600985187592295180676244419989378503260498464810486907652465774632920606562426820149440412246594698763227277442737396687463549545548006667675646044321020459303990007721521068409373184658728310377997144865095000618298574919538728019631796501627016566532453558309352522665505358230547190370402214582751771174276029141596220607591808827989478407236194880038516569117062441943394760145128436287000984693631270799671030659648687909891688982809937236767338972819306970214984794732163988969569514706670561654199276876275621814322297091967186986743333746607271177259721459623146213540034558639655140545893199976060807340781860727901800591390387926270274811431680182153686495041905221689142369953502793255630294320295181581898219367587415072064864160719697158871867460070658801514276735138605433609266478721140341657795270425594408371780612099656400508155888170114652182685995759598728520783454180095627537381629173907428068622255448382166422496938518188938760500068411497377386252678753832280786803627382468436694725515452594271526777255548211525804304832510211431102270476064962393646047141846092088912445396214702602416147457043173406687746276071261265551134026652845787820287516715840627995163591860362481072791627907720007845660616609633014963743685635299990912201994021092785346264084871005974471946351054426623533749652682147152173908408309463841254932477597126661590697323084220633156144655044115010380748227155614572055666722421744801041522407748517951370542576177007652011490700723635310615096466892349226851245960396163866660930950450254985256404393332603815806824797729667813505235284593404131558990691325052858279718318868840458280902378231132065726060977738456838177288018148107129241754178484449039983017220830957718446179263824719273284934388885237079551674759643594532632457758678145857664149590717705583407539595711234602901572817310077524587770418118792080829689731265528908874871865135564728215484492502746638639144624156015577515602291860557176851424974874416730388870718317387297616076200130404427401770786789921631103814200809550026053531820927565381298921337826178290684782877090282260355239021121650688
noncomputable def an3c (u : Nat) : Nat := match u with
  | 0 => 1507
  | 1 => 1551
  | 2 => 1529
  | _ => 1463
noncomputable def an3N (u : Nat) : Nat := match u with
  | 0 => 167223500144809274738264921602475617900459961413072739499473886349415299572677465472700071121553518175749132646440482111861077528821823101771202627977063115958977649236380832208370479425494279022479715215700473936829275677732129966989714602505869413620269763288426795361982365944738925216121045996168888945852487983832965583576305414739029733549875354311950377740581905894651771553878532986498047091187311483409970968603470394077997924466713292815763573574579109029253842002947724628720948009634490836792878057953697074479663353296447999597699189277645123594981978245130335076416035411709651686721044190439372157757285115869074904850235944179168371642620387413373896678250817135649299035655358632717172144283531889164180645067124299711620960994600977547631640521106135791773362663367921641170362877016914832232020427051675225864084836472712214405248003551327829418542034623526385820125357252103644076559806505488382305728036554943887433402417430737867839944106074231868295874221505515044620152840061392903584915164682076707435940758848512323013032382076246754129397242411445063051205436431276339117701156699529933341856744819111714772597650946607904354039695608107627582849605897459155254566604851943761225486047683635885671873000923845149382184979808235622621655924072830874679101636130581608576151088191239114229677786078067091877327750402779607726222817437607985696135722551646154039336056615193781534547803128551687251248650759603869978507177826348195761304707669305481315347382948490207775101339888060103829754592080682769168680838924142548961278371740222566975717562979968386331933244302679946690564661804281522516194016390091480344209468450299637870389872631223201842822030692872634239844187053490304383854655698999404634102532060036783082947448537845338622393521708119130293271406956038893084842281078078672307258127326021483871269952200426004769102346035243866512051992707242492487100013832651286740026042807594462920579901476916675996261448578819136571786148310151872180155188679394291603334688754704655539753647197556474458902502417875534892101424090532492697531560419911140965368407195085370947845775199523076834254512103307358790636023149959954419449308514821755881845988712844883144922036859800223722827439328174230858538787930415512521282519412481889905778758931449420405967883175480116166072426725030443080793482588858029315512361558678122242556785916459715127195437032491391756405547179531210352011495556070952067567196552206573490910225967577805806631932437699025158206494066692365437160463522984388446746032956757074038013339371222822077474536807255106319166160215891789640363006229515042026240310018516895994431203886199800380146440065887774501885348377051820389330407240221065961222586069793126745137203376194286119321917595987305223837731602332762439034841641114823043847847386646124706209160350723454972420954286976700124648693098716340161197146162882912000964428597920611464528768608803161644964163211306716729425696558632980533022991469140105044593134461858857594476272331083271174177107928899227443411493830793501429612996722200922812661362316420987789622575636179683326933068016046364833484759407574006775471313730980106978786296417143603871744
  | 1 => 87203913186189218917340606530908771006397944836491117622266718676092756879911283082387968829342241848685766551075173701321203452747854759693561241241880167444613888711376129802806291122942324041670425867441908431386283950616329771373630981891959492112401274802789422054454307167263865308656792925439699102392926871858755879484332215327440830488750066271501425332255380631890125935448840623532610559612448982721382743778697046800806581304475657232498136739050355135613666694987424196100577013131201562682354331808426623264671273191682385018509212465103352421252331906636251496471955913483693263984136198269633721695274822889277797389277197377730682764652346932229833628133144170983570622795765527133911145644174296485480692296509539271802129572819378895874862425501390236711021049820526887787008621658823231219456393513823613567280902031227111945084983698821831157736253381433155371581991678034780419352756116515864621331906402194326038294198298758357149863218020851880416052828396092727362052907105405753428810804385560184372654827082146864583156154222524137390885089237429947585567704343660579620105528747209139989646192015982484853497207345047314782299516702381360947715911870929714781007550801770541270865001424107479326550175875237152663438506037053704622754324486499854121148274030669181542396777128675799501987618494567454957859625808076884960026521780593035882908885772524110292634702238535326966888344927507009143175280053456564669081922809476474883966231199250795580944566299723521777791974050751479769364311415824408214184374344228115282989599855045920909430831291688468724142871932283505836919158780047957333177723897163012505161873470057879851882040757634753669595833076622765055357505572189496965185732746826728066856178957604517333503096116101624756347291846401036705603432512795308560758285698203332273320345635168572438722603164758327375972589381263682386676009515151818654094328776568178332595401405446097970993003909722087367940116746305848112357933408801306430407171909655737996607686509183653489289316845910879336278903919598803782241262751064498929047926712688040305627436927315601641647282426882683899044264362227826679316828982816332641687186536360327695320095000934590022665142319344022839654374532485195350458361919728478675951667021670737934535016377298525725695144796379200090325504252861743046136447646746765148662789617326480274432714962830011275554246729497572348870511512616462561761986409794451102780832963414630104219120253005892212336793885739668816094841042465983027708749352236732276945278973079658725202933587671632246213295580487791998511848583791965760041872563865092013517638910577262195100383218269499937206509372751032508750369885514019818841720757765122556976702114904006660486976753518019741802708420980654072169251858137562441689101336731842705574209815160385759361314792245315108605833907916156473895965880990376772038506469974332490748637483705606453684514394195548404360677018679827494870198785265003150183517218921467378766199367739485457857403436295247397138553044607575860383424208974043030405189470577193839116639638725878256007287861163721698019367902091905393206509898947722331411076571485483387038968530290671286863959597984116252840505259756484142373484286721943545939385192264124739825069924697900528451584
  | 2 => 3818709675966300566764197369988705219807386708709818413457189041445646843764536961848505443118638505701145829935735260435726153922315750089847540500086317562707219234375885707217330816308323829506414057689623480301266476210472366029697588332365762842831251949619285108476275621936926458415850171960051779477330264289206374936428112889564603644911589339285460692497834220837888000287751183941346495625276124687051171835111942724875221870205528197656026686334521324134357673164575772448358741419827029237424427660240421181872472316604896582212621526202160721549916049435083072191265247141806471613575097089883638890140024449253435281969075194115699024852755472495450504710308144918799936976446113999950494421596226660016362407233143249741501326645215715451849038041240637766062431039330819005774868327332084552892636415864073358955912993851754148444237203323342163841086759271835511211677862160368776967111123261455795116037548897918245122785635287645074476420489609977661941195686289614659546058652719819916096633729117938116446163659676034844812863445708790567605123821057638877377250651732013782871570032445881779414738242178064712746033253870612461355261620465355071966668355892179768345009196177116445585118746712367432968776905180203538505007502192052764691079946035597486706854691472520766123173836386514165569773653779886206347878938868801118701474598043340071015943337962364650525476513788083612028155103130433765057595692789318271435011488685132981926274297791026550211677448546481291111248519420881267993858552191013087301649341423394164868933562298068276982929245420440704270808908434210802419482271507797047606355461852565097364354755127063796224109986209302329495197210050224286244745517654311758611349792281595141612506943610127918111569300410577093862659606891893061252530683258460162033794643028882643966827024742352974197916369777282408984740309656140154901642258432912290418128607199179776939561633460883644664946733328766789509036352727335732655758203614159203124524517014155576715049774489020215954633372106437653829372736344736485441424113431238324809144309763962870689090313060537609527453978245133492316116778395207051214918751382763336154655105866173764545506982787243609536836477376978850715196367176833093569604465630349800615026968948829027163353775892710075037459857865586602730583142006850023328094302962053767466753426780754471559601290948172803946308297613939995145435239652377398822610326654478012837076191649150646942330533043676000091580181782331962662271046483256921294576837702511809007176582545190539561697552118018078737815691914407018706729181058690724522846984210228306571634547624887531882872490079227108546537776163974137860630531314268793153056782955751353828781161405225504616683903014723352595017835591869993089969311772373218374301049102772357971851808080058441765876384816093561035049566631096240766996243426202293089987675578223287424293351837057674026525841927439330044090166224350876995548557359705489738859310162843037067255421226011285476629310446839555149428989689471770319505395766771518799213951754727898589900990013125039307581160653036882682719072917901108367403950647211677009999610301087544601506193455660085160984401316839250641306588291541437571654226034688
  | _ => 320670231173865875228019648365710979801327969128262135385066122548910681090425316752432403138182293253336080883431277638645779406000666733772673481191751829221867121706014522694508238789164604356072981084296213351981322210802821710667362718225351973599950415961657328715427580407660823415586951601288417514816830153117571972508358323408946291508764348338662701362729717184107274576084723937855751780063220140998952071730320333615698919966575718039021070638166878886980700288101568516357895164445390639114756328569001447052229681919871872919530574439039287485435242326069866269166542280845163922709793822619295190495731634101568274686135876571694843092221844606148280618134577795341147823819160820422504340697994717431329508251277128210106973095722238251091341958894018594812566876749696728054833642795718433883393971352284109245480715047782099929420319705355233981975558178156607862900373826426059107931333410905222318304133561206413479968307467269260745039491389274031566157155581986943166377329635367271449675124244376923719820300992169235077535393240325092911424580989320712281465038508168565269849881261991626567767390195639908001093376133995253011844609159499701493109354522047654861420461202906534893290963636173589297164476176419476453238019009761232801895056092880271299504910692612338473730467593338757882617231414297838025343366475927347476383776907323109007956877126227937183244383183843919136472517881385651460994164371360652834924775919723748781293403641171534172188689952107452759634706843839836363433756318386678214226595341997803931441726201514795825197022532141375808702180917150770615893517957681085933065723639162702240555192278668456427699413947837454545040661345839037028389932141224959552126340867792610324469711771671508499206074600683224928251548273211325172030249953199137795083704318084732236249216913635897237746784929397956760060961503507545382438261362325750217251740184854002163146568877172259565350887085583452242595515460774917905564871247730779296965649499942257731430517302431306487189037718623597310498918549396526913965034162902485587737457749095074671224692560183840891091026129087804041315182964563427140786936987703932040175723829187542333528907307667491791660205624646448329230995681528349341598557725354478858135254464151699668584350045592675342121438388149557080108198926676329159655673359612483573530444405921872441257517834465396629177409196279976551161662482644161458882112408540120524278426367887618537265151361883911240859427799161742066063441235205074601067697282189263410332126826197509501737870764604414945878669074135262549612895615557454715255599182507945145206083612390226201587477446173642398077255088438732802395064336414724749697612056140949214290366870127552379468518876192716180066888977541743975690560269374218343391841666918721721091272138291109518029849632129818807216042427420758071126467663462930827790609901701105037437924055542863738825760093578062800715578162312274772598378148826844142874724022027369299306490639639802938921734037325187806307052496303466114273282718038702889393685215066273295461085553329455104
noncomputable def an4c (u : Nat) : Nat := match u with
  | 0 => 1479
  | 1 => 1523
  | 2 => 1501
  | _ => 1435
noncomputable def an4N (u : Nat) : Nat := match u with
  | 0 => 2859809579445311175646299464603815757453604840402200326023518040591213439919896015612145740607770141320983515504567783865281291839676013801002740707123287187600420005997943098608789882467798928659445933348343716660051157672162651205943556320725501164444467001561917447102164343280674269066942137062513420826523678673937536619893201099865854707606137010913372819212561537531427909148395972297882058390037358096476785913857506701454699772452990325104138485110539947164681704391282197222007759425514944603257679608210671107054061723533352340823323819895311284279021842122403293472970467674033282226446766922995079225229188716310032493488176101744684251463988415463323307964492468730940183377897736501100279335993295199589623949479589100370959748481904775190357536341061715032900031908889809048164942910184100149670351987275469488489801055763437379193906650573953355820118129745923168782273041438579834698564913871582326498359641476449743398581326598305019478045363724166755898532163773178973854866621743455073187723355148493987823954642559302676718074701211298344691791706778844555656288732157642839616119597509680542563528806015670812828728849025224709713506237022424122309434078999073308892810487349668733345879342506144790234207266935898744534850939479355570189375339779275784434835398162393772169277856773597548261897710965566204642134392260228418611462755300703670951502446062575613720488259727238407174943515693613080593341723742771923529262717527606553980744682304263149877862145264838450777179482098988001470240345162996107026067787098506793159303156871309164209396396981891514485826072477626744103372621662566095135880994531353308821962808428079741004802904146736819942865961675181457327153817280515315818312282906093611986299966935185532023685855117112835316156805788976306785392195251655137442299790018373302564476597322101060084666978608201385666148613102722419866362627153361025876556765545747062774943604793159719770349205532964889803082265533109798295932812065361982946353010827734504439038767637363407782728391292246935474774497302661967840498148918310738604933406315029422122113708831226893449008949443924642099508006170163361015242550422806486202285948138112720369714222437449735501346701606553956989774117097589954129781655286522293123351964405099556822298768469456766057464461013956017729488617561474766486194618479086943992589192070874492334169932099256979523116742213532139240493098169266121339653104605299040380346092051956013301540408526705592733124421114993624067460993415046181922634257327272960310910830141780281477808188392341422415802567625963710149471981186255017233755362700142378705004517040328735246728069700904761526611361077434611463433691199085119531532742419232419211873448807160823114866265839625660049114118437604145225539716336566710656653973557601372416111791994903490123003090808740068996141974062115273636205438491669522275933027645294474684840826961879915795746962655158182316513333306288397578587896414857019693652813351630665014309782361448201787962624681771503095891262460882511013761232323185229555396182093570183292992088448854035978404895158703153514808367055592505344
  | 1 => 1491336959691800448770057932322670417054480251646909921151967901851942262829147864440911234613675644389948123508354923264393597791288629962425425065191404085163548793715468831556429105542305279512891864997574356783502351403346243023870782136337244728138918330659995298569968563574140417490967842958197645274451996509651880517139284170787374043192134495501457326746182755599333890300450017022360408096972670400275809032849944248172313662681074380814465740253696887514702149468563187317844385829790020305859243809635225354639637151977074273542154613897925017872692282860967700732276188663263812570531973923954440106445680853112330282870436532266271895372812042852288646668122260547215613012250361221052714280719209039872118239414543059882534988379162343181411131711259004978536130077609250772685939957578852062120646335825632510685793268456622145817769365996774885694384134913963402028923282570163995402594850496445149461467270661478159770358522544305474531392522348852912673172758581390181900743159575217899178823989167497628976978021748470894224708933928551322219887954741151698252110739539052773112824867670004081961837993091014117150929022132737726205362425260159248475454928905815277152608293155560023419623159629308354763772730658579624781222697685266330135866651418866505005101467626619539877732895877381414744464006461604748581146251217194904722687107206677256220150825164461610027685936790704125425452422023002603281017383132904391357247016007791777188659950310914750996312214874586948001765515652201522808952350450755447339348059159799069161232064970988890673106894674751847605110186780415345524333381585912015365145603844122853692197650957420154938876379884734570199852261447245131075172949968664220249042157775039092951637486290767852125345154293841349804048757162340823484313724865400963927304417826797654123004145109737963894296752942174847150931427818236595040844129387307260473579305458765265949722336519761732438432320026247920789890454314692202117270400983068262236743769860715079536575541285842473149450752297509095513219538640703643362434699175339872576623407745480180441978438448010240300998164338663952479448310140414437884839224067736914666747084771912823317394513223378789718134665625341152373931780503005590873361008837453791823889078952516740400414469618585870002647885987807721387191702277040248503201765743032481459288525973871640309019919573064413342531986412723393122680463153122254191890253912638582124042483153710827646786674996254265172715819465240396644714868683793196281038001973128921545614314052991679680499372384999584787882860299022946291575840818768116762254559630706681124528158877788984056814152796930435260620195070474257084960172560140937767281624942694896807904739539780257042416982631813795200370883578127087973926885706318295665428512888847174476538714071871952206517281024047744972261366108295537038412364773716593168801642414892306554741967535637244145367520560480030141755866689815281591803747294316151474953579809350583882901061036760802315054812260689582605253387907548892271394993284925961525790731019206528537498427645913976689079411250578174111316246545422125494102315431221388673363861418060771422635211957499576821340121924208975058392694091581279453184
  | 2 => 65306505981467549539480739464684581498583871498488976264922221028855958281388648770846530915308023400502436317008134805390636680648838679468302237482270672416131925476210896480767219123466320141267131483244528081028304346825697176436946176127622747113497919193178582880880671824101400415529262105421278842824017879259885852379308652529747449894033632780777907534349493755454229755668155933649216706177103245606020179700292554921438135188976981676335243018553162386626541817558205527045056024643149851930333612585295779201559859853671095311537183051962823420818531242912861785167562549110851574273587077122948435336970446618858672034667334388705656807141470224242138514595034903230919411788280946578388151194684877449165714699158162845460786151193350017980344200524617644309377578618243406191094586434770514485436596856134926151686363978875860832008071491650449035186566876146143338126348125964278004905789725276845484239403257529915125210476656665519981722966636227211620516839459946389192691919817315517820161631872408682409616778467401974148287570248336898856268264230379227840594866014627634564714959124536508698374963214936635688255130583457019442470991652193360464736287291297755169165510466975592295697117248246024186373726199305408675799201803737572688314917894084551338601744788804758623581064154806365558078912254239607263059703863357195808220026050268612814466267539890900715841301239394722493326809019536331686137490171633935684914345938069857609809394097510774243389765136518311527069021778682321373804337794339488419176385178734191078130295760878876294286540799090683279357720544496387453558292166031662115079289333119144635749375541378174519331635382134351075402416798637741907486432228928468297633843840650022180435492358417239898318313508085556177396018258733484429533647589432607729783179614280390108847900312575031973575467933882967230711182961276726061029730616787871099067164866791245631781843059415004980511417422405875504918728171144964876767845154394990219505792962384371513510115527632566210583392225573767578575736637078288540488373550216607641609227186111388947747735236064552774453361043162055242328727128490778492349709793089172534954220254377132860385970666756699497887245948315044368684887303821585641943856331256381013517222034839985067196004279269472317840874949277665046610457266148267664388899545230532595992285683506595657568989396731585502220476584709301836912257368695757982038998096916435845442880733801215414641901675330707359966332830457437851045673993019213586772227835592496400953649054424127352643355335448832918391569858064059627866761827685679774661515610350425607975605475895293864317427867348511992394570700015094872509560584612914312609249791665243229833622959597002025223448076235732870928472123403828245189804933412707207482103956491940783596137797476219576517829896539267262173216001923912502182225465504547159534997156140146312507885428120766993139249584183476565511971128282864809835363598423612346286232996205795434264357912765566837196377264313171712511980553035125575148310679848710751947132943989534011001285642758409835244979442162315473345330089137972813594286522864338397567844974148748231442593497088
  | _ => 5484012702519850260099702170222303615220915781147945282772156739435666508422012947258735840768311097591327965383716573730548683810223741348126171017659557607122925892900863852308972147433990674285000431886729764581135073332547055633174014242233640541163857622708531806951483764766292521211522167193460751301730472414526583212996654489194493455021355609650380322107630066034800293058430994972266368254647935290766634673993109650419774237851058174686479217072489382706187150816779703606921442908715566235372432779352228938620559001494738957224465472007633645585311237109188972706978048530930183122378898609746793066798384064530323580428011860328268824190860341809525433652194456805664364672631657669834476429114101836818693751211807127602771128028173630187786112460385619997085825376652119816479485283582094875229890094173260734667615987587277325586904668151284862557511802617676640839998187932922956516906792009886330057575072019168365540486019547489519758575331084818727223612870590480703894344541517945767586778773299664246030303050464048034142249173972240245745016147968172686164674805794354855359353910138275884990547560673780777701933511312979071655768405015725681795462510656944307866690997087348796111889539284594922247955782971080171827775300264860558892413470940941440594705263808554194394040988641231677921556905653157646948946953355284584120708357776825224170398542797675034639570647178263517810850035940756755943035184469191661772130404253489597156719895770735820875696858025250410708549737461899877414059671866764030967418701745368744783470204473530839577727002948902676756679069092653371946879279802940043764729709202980854043818854391115367130322336633052638811241015385965764203185227622543201612473276183807201922765836323706827677800866254979328635883343217292401801878718519616416450900892485636682492423558498008407115559865366731829440348052577675964126582833258266127891019866028599973419818666121945188212011269728591555431974924215513674609537792409646823108647368096474928846849472910191897636478888992093125111109233640876857541152506341827790469102609277361701308653055101998191957532017696042974151239144465897937979479007201389037472765152522213087778623251826814604601338740175431933062560037006765807005145304543242377139414983622406896197702872403809492645980662230822432952717480529099722191184125477950431689357562390705858437829280717051234177453640940690752243163456920609453448508454083013940183166004859809374469649256371555493381550772348525472947484368841014576913957179589089762867803961994869922049567748403347442297609445587799317890906263967023466652435113043580324476734157041996319681256152782433149366153420249607358268680413549260935314774168270106127750356450127645217260377031821717565045172624185334783869470734461642071227163683142136139956807763612081608632706767777084205871748511254191933384657338402632110436175988217313494877231000993801588895364137765842683815531554326867777129558683822847778392048520292194926093522207959212829478296772032377650161454239260360704
end Mine
end
section
open PySem PySem.W
namespace Mine
theorem ov_st {kt : Params → X.KT} {sp : SpF} {P : Params} {b : Bool × Bool} {k : Nat} {as : Args} : (CC kt sp P b).ov 0 (.call (.ref k) as) = some (st0 (CC kt sp P b) (.call (.ref k) as)) := by
  have h : ∃ t, (CC kt sp P b).ov 0 (.call (.ref k) as) = some t := ⟨_, rfl⟩
  obtain ⟨t, h⟩ := h
  unfold st0
  rw [h]
theorem ovD_st {kt : Params → X.KT} {sp : SpF} {P : Params} {b : Bool × Bool} {k : Nat} {as : Args} : (CD kt sp P b).ov 0 (.call (.ref k) as) = some (st0 (CD kt sp P b) (.call (.ref k) as)) := by
  have h : ∃ t, (CD kt sp P b).ov 0 (.call (.ref k) as) = some t := ⟨_, rfl⟩
  obtain ⟨t, h⟩ := h
  unfold st0
  rw [h]
/-- the leaves of the facts and of _law_answered -/
structure LvA (kt : Params → X.KT) : Prop where
  fs_nm : ∀ k, vBL kt "re.Pattern.search" [.ref 48, .str (nmS k) 0] .none 11 2 0
  fl_nm : ∀ k, vBL kt "str.lower" [.str (nmS k) 0] (.str authS 0) 6 0 0
  fl_wd : ∀ w, vBL kt "str.lower" [.str (wdS w) 0] (.str (lwS w) 0) 6 0 0
  fs_v : ∀ w u p, u < 4 → p < 4 → vBL kt "re.Pattern.search" [.ref 53, .str (vS w u p) 0] .none 10 2 0
  fp_v : ∀ w u p, u < 4 → p < 4 → nBL kt "str.split" [.str (vS w u p) 0, .str spS 0] lisV [.str (wdS w) 0, .str (txS u p) 0] 0 0 8 0 0
  fm : ∀ k w u p, u < 4 → p < 4 → sBL kt "str.__mod__" (fun a => [.str fmtS 0, .ref a]) tupV [.str (nmS k) 0, .str (vS w u p) 0] (.str (rowS k w u p) 0) 10 4 2113665
  fj : ∀ k w u p, u < 4 → p < 4 → sBL kt "str.join" (fun a => [.str nlS 0, .ref a]) lisV [.str (rowS k w u p) 0, .str wwwS 0, .str emS 0, .str emS 0] (.str (noS k w u p) 0) 8 2 129
  fk : ∀ k w u p, u < 4 → p < 4 → sBL kt "str.join" (fun a => [.str nlS 0, .ref a]) lisV [.str (rowS k w u p) 0, .str (cat xuS (usS u)) 0, .str emS 0, .str emS 0] (.str (okS k w u p) 0) 8 2 129
  fd : ∀ u p, u < 4 → p < 4 → vPL kt 269 [.str (txS u p) 0] (.bytes (ocT u p) 0) 3000 (dNc u p) (dN u p)
  fpa : vPLF kt fpF 61 [.str reS 0, .str rlA 0] (.str fpA 0) 120 37 7293989873213489960835543069156514019615030350865417017539177589150356340736
  fpb : vPLF kt fpF 61 [.str chS 0, .str utS 0] (.str fpB 0) 120 33 27172229610549429820171808009939002923526099789118746191808532840448
  an0 : ∀ k may nev u p, u < 4 → p < 4 → anL kt 0 k 2 u p may nev 70 69 0 0 3000 (an0c u p) (an0N u p)
  an1 : ∀ k w may nev u p, u < 4 → p < 4 → u ≠ p → anL kt 1 k w u p may nev 70 69 0 0 3000 (an1c u p) (an1N u p)
  an2 : ∀ k w may nev u, u < 4 → anL kt 2 k w u u may nev 70 69 0 0 3000 (an2c u) (an2N u)
  an3 : ∀ k w may nev u, u < 4 → anL kt 3 k w u u may nev 70 69 0 0 3000 (an3c u) (an3N u)
  an4 : ∀ k w may nev u, u < 4 → anL kt 4 k w u u may nev 70 61 0 0 3000 (an4c u) (an4N u)

theorem cd_search : PySem.code "re.Pattern.search" = searchN := by decide +kernel
theorem cd_lower : PySem.code "str.lower" = lowerN := by decide +kernel
theorem cd_split : PySem.code "str.split" = splitN := by decide +kernel
theorem cd_mod : PySem.code "str.__mod__" = modN := by decide +kernel
theorem cd_join : PySem.code "str.join" = joinN := by decide +kernel
section
variable {kt : Params → X.KT} {w : World}
noncomputable abbrev progD : Program := PySem.Challenge.pw_kt0048_01
theorem noF_ok {B : Addr → Option Obj} {prog : Program} {w : World} {L : Nat} : FactOk B prog w L noF where
  sp := fun G hG q c A₀ τ₀ T m i Γ p s R hN _ _ _ _ h1 _ => by
    obtain ⟨o, ho, _⟩ := h1 A₀ τ₀ (fun _ _ => rfl) (agr.refl _ _) hN
    cases ho
  spx := fun q c A τ A' τ' T m i o hTI ho => by cases ho
theorem noSp_ok {C : Cfg} {G : Lg} {prog : Program} {L : Nat} (hC : C.sp = noSp) : SpOk C G prog w L where
  sp := fun q c A₀ τ₀ T m i Γ p s R hN _ _ _ _ h1 _ => by
    obtain ⟨o, ho, _⟩ := h1 A₀ τ₀ (fun _ _ => rfl) (agr.refl _ _) hN
    rw [hC] at ho; cases ho
  spx := fun q c A τ A' τ' T m i o hTI ho => by rw [hC] at ho; cases ho
theorem c0_ok {L : Nat} (hL : L ≤ 626) : ∀ G : Lg, G.Fit → (C0 kt w.params (rows w.params)).Ok G progD w (L + 64) := fun G _ => CC_ok (by omega) rfl (noSp_ok rfl)
theorem cs_ok {L : Nat} {fs : List FactF} (hL : L ≤ 626) (h : ∀ F ∈ fs, FactOk (BB kt w.params) progD w (L + 64) F) : ∀ G : Lg, G.Fit → (CC kt (spOf fs) w.params (rows w.params)).Ok G progD w (L + 64) :=
  fun G hG => CC_ok (by omega) rfl (spOf_ok hG rfl h)
noncomputable abbrev VK (kt : Params → X.KT) (w : World) (L : Nat) (hd : HdF) (args : List Value) (res : Value) : Prop := VOk (BB kt w.params) progD w L hd args res
theorem vbl {L : Nat} (hL : L ≤ 626) {id : String} {k : Nat} (e : PySem.code id = k) {args : List Value} {res : Value} {n nc N : Nat} (h : vBL kt id args res n nc N) : VK kt w L (hdB k) args res :=
  vB_ok (b := 0) (C := C0 kt w.params (rows w.params)) (c0_ok hL) e (h w.params (rows w.params))
theorem nbl {L : Nat} (hL : L ≤ 626) {id : String} {k : Nat} (e : PySem.code id = k) {args : List Value} {cls : Value} {xs : List Value} {ep r n nc N : Nat} (h : nBL kt id args cls xs ep r n nc N) : NOk (BB kt w.params) progD w L (hdB k) args cls xs ep :=
  nB_ok (C := C0 kt w.params (rows w.params)) (c0_ok hL) e (h w.params (rows w.params))
theorem sbl {L : Nat} (hL : L ≤ 626) {id : String} {k : Nat} (e : PySem.code id = k) {args : Addr → List Value} {cls : Value} {xs : List Value} {res : Value} {n nc N : Nat} (h : sBL kt id args cls xs res n nc N) : SOk (BB kt w.params) progD w L (hdB k) args cls xs res :=
  sB_ok (C := C0 kt w.params (rows w.params)) (c0_ok hL) e (h w.params (rows w.params))
theorem vpl {L : Nat} (hL : L ≤ 626) {k : Nat} {args : List Value} {res : Value} {n nc N : Nat} (h : vPL kt k args res n nc N) : VK kt w L (hdP k) args res :=
  vP_ok (C := C0 kt w.params (rows w.params)) (c0_ok hL) (fun _ => ov_st) (h w.params (rows w.params))
theorem vplf {L : Nat} (hL : L ≤ 626) {fs : List FactF} (hf : ∀ F ∈ fs, FactOk (BB kt w.params) progD w (L + 64) F) {k : Nat} {args : List Value} {res : Value} {n nc N : Nat} (h : vPLF kt fs k args res n nc N) : VK kt w L (hdP k) args res :=
  vP_ok (C := CC kt (spOf fs) w.params (rows w.params)) (cs_ok hL hf) (fun _ => ov_st) (h w.params (rows w.params))
theorem fpF_ok {L : Nat} : ∀ F ∈ fpF, FactOk (BB kt w.params) progD w L F := by
  intro F hF
  unfold fpF at hF
  rcases List.mem_cons.mp hF with rfl | hF
  · exact rF_ok (by decide +kernel) (by decide +kernel) (by decide +kernel) (by decide +kernel) (by decide +kernel)
  · rcases List.mem_cons.mp hF with rfl | hF
    · exact rF_ok (by decide +kernel) (by decide +kernel) (by decide +kernel) (by decide +kernel) (by decide +kernel)
    · cases hF
theorem all_nil {P : FactF → Prop} : ∀ F ∈ ([] : List FactF), P F := fun _ h => (nomatch h)
theorem all_cons {P : FactF → Prop} {F : FactF} {l : List FactF} (h : P F) (hl : ∀ F ∈ l, P F) : ∀ F' ∈ F :: l, P F' := fun F' hF => by
  cases hF with
  | head => exact h
  | tail _ hF => exact hl _ hF
theorem two {P : Nat → Prop} (h0 : P 0) (h1 : ∀ n, P (n + 1)) : ∀ u, P u
  | 0 => h0
  | n + 1 => h1 n
theorem thr3 {P : Nat → Prop} (h0 : P 0) (h1 : P 1) (h2 : ∀ n, P (n + 2)) : ∀ u, P u
  | 0 => h0
  | 1 => h1
  | n + 2 => h2 n
theorem thr {P : Nat → Prop} (h0 : P 0) (h1 : P 1) (h2 : P 2) : ∀ u, u < 3 → P u
  | 0, _ => h0
  | 1, _ => h1
  | 2, _ => h2
  | n + 3, h => absurd h (by omega)
theorem four {P : Nat → Prop} (h0 : P 0) (h1 : P 1) (h2 : P 2) (h3 : P 3) : ∀ u, u < 4 → P u
  | 0, _ => h0
  | 1, _ => h1
  | 2, _ => h2
  | 3, _ => h3
  | n + 4, h => absurd h (by omega)
theorem four2 {P : Nat → Nat → Prop} (a0 : P 0 0) (a1 : P 0 1) (a2 : P 0 2) (a3 : P 0 3) (b0 : P 1 0) (b1 : P 1 1) (b2 : P 1 2) (b3 : P 1 3) (c0 : P 2 0) (c1 : P 2 1) (c2 : P 2 2) (c3 : P 2 3) (d0 : P 3 0) (d1 : P 3 1) (d2 : P 3 2) (d3 : P 3 3) : ∀ u p, u < 4 → p < 4 → P u p :=
  fun u p hu hp => four (P := fun u => P u p) (four (P := fun p => P 0 p) a0 a1 a2 a3 p hp) (four (P := fun p => P 1 p) b0 b1 b2 b3 p hp) (four (P := fun p => P 2 p) c0 c1 c2 c3 p hp) (four (P := fun p => P 3 p) d0 d1 d2 d3 p hp) u hu
theorem four2n {P : Nat → Nat → Prop} (a1 : P 0 1) (a2 : P 0 2) (a3 : P 0 3) (b0 : P 1 0) (b2 : P 1 2) (b3 : P 1 3) (c0 : P 2 0) (c1 : P 2 1) (c3 : P 2 3) (d0 : P 3 0) (d1 : P 3 1) (d2 : P 3 2) : ∀ u p, u < 4 → p < 4 → u ≠ p → P u p :=
  four2 (P := fun u p => u ≠ p → P u p) (fun h => absurd rfl h) (fun _ => a1) (fun _ => a2) (fun _ => a3) (fun _ => b0) (fun h => absurd rfl h) (fun _ => b2) (fun _ => b3) (fun _ => c0) (fun _ => c1) (fun h => absurd rfl h) (fun _ => c3) (fun _ => d0) (fun _ => d1) (fun _ => d2) (fun h => absurd rfl h)
theorem us_any : ∀ u, ([usS 0, usS 1, usS 2, usS 3] : List Str).any (seqEq (usS u)) = true
  | 0 => by decide +kernel
  | 1 => by decide +kernel
  | 2 => by decide +kernel
  | n + 3 => by kernel_rfl
theorem us_idx : ∀ u, u < 4 → ([usS 0, usS 1, usS 2, usS 3] : List Str)[u]?.map (seqEq (usS u)) = some true ∧ ∀ m, m < u → ([usS 0, usS 1, usS 2, usS 3] : List Str)[m]?.map (seqEq (usS u)) = some false :=
  four ⟨by decide +kernel, by decide +kernel⟩ ⟨by decide +kernel, by decide +kernel⟩ ⟨by decide +kernel, by decide +kernel⟩ ⟨by decide +kernel, by decide +kernel⟩
theorem anF_ok (V : LvA kt) {cls k w' u p : Nat} {may nev : Str} {L : Nat} (hL : L ≤ 626) (hu : u < 4) (hp : p < 4) (hc : lwS w' = lwC cls)
    (hm : FactOk (BB kt w.params) progD w L (mayF cls u may)) (hn : FactOk (BB kt w.params) progD w L (nevF cls u nev))
    (hj : sBL kt "str.join" (fun a => [.str nlS 0, .ref a]) lisV [.str (rowS k w' u p) 0, .str (row2C cls u) 0, .str emS 0, .str emS 0] (.str (resC cls k w' u p) 0) 8 2 129) :
    ∀ F ∈ anF cls k w' u p may nev, FactOk (BB kt w.params) progD w L F := by
  unfold anF
  refine all_cons (vF_ok (vbl hL cd_search (V.fs_nm k))) ?_
  refine all_cons (vF_ok (vbl hL cd_search (V.fs_v w' u p hu hp))) ?_
  refine all_cons (vF_ok (vbl hL cd_lower (V.fl_nm k))) ?_
  refine all_cons (nF_ok (nbl hL cd_split (V.fp_v w' u p hu hp))) ?_
  refine all_cons (vF_ok (vpl hL (V.fd u p hu hp))) ?_
  refine all_cons (vF_ok (vbl hL cd_lower (hc ▸ V.fl_wd w'))) ?_
  refine all_cons hm ?_
  refine all_cons hn ?_
  refine all_cons (sF_ok (sbl hL cd_mod (V.fm k w' u p hu hp))) ?_
  refine all_cons (sF_ok (sbl hL cd_join hj)) ?_
  refine all_cons (sF_ok ?_) ?_
  · exact contains_ok (xs := [usS 0, usS 1, usS 2, usS 3]) (us_any u)
  refine all_cons (sF_ok ?_) ?_
  · exact index_ok (xs := [usS 0, usS 1, usS 2, usS 3]) (us_idx u hu).1 (us_idx u hu).2 (by omega)
  refine all_cons (vF_ok (vplf hL fpF_ok V.fpa)) ?_
  exact all_cons (vF_ok (vplf hL fpF_ok V.fpb)) all_nil

/-- the class of an answer -/
noncomputable def clsOf (w u p : Nat) (m n : Bool) : Nat := match Nat.beq w 2 with
  | true => 0
  | false => match Nat.beq u p with
    | false => 1
    | true => match m with
      | false => 2
      | true => match n with
        | true => 3
        | false => 4
theorem an_ok (V : LvA kt) {k w' u p : Nat} {may nev : Str} {m n : Bool} (hw : w' < 3) (hu : u < 4) (hp : p < 4)
    (hm : VK kt w 432 (hdP 333) [.str may 0, .str (usS u) 0] (.bool m)) (hn : VK kt w 432 (hdP 333) [.str nev 0, .str (usS u) 0] (.bool n)) :
    PQk (BB kt w.params) progD w 368 343 (anArgs k w' u p may nev) (resC (clsOf w' u p m n) k w' u p) (xsC (clsOf w' u p m n) u) := by
  have lw : w' ≠ 2 → lwS w' = lwS 0 := fun h => by
    have : w' = 0 ∨ w' = 1 := by omega
    rcases this with rfl | rfl <;> rfl
  have bq : ∀ a b : Nat, a ≠ b → Nat.beq a b = false := fun a b h => by
    cases e : Nat.beq a b with
    | false => rfl
    | true => exact absurd (Nat.eq_of_beq_eq_true e) h
  have key : ∀ (cls r1 r2 n' nc N : Nat) (hne : Nat.beq r1 r2 = false) (hc : lwS w' = lwC cls) (hm : FactOk (BB kt w.params) progD w 432 (mayF cls u may)) (hn : FactOk (BB kt w.params) progD w 432 (nevF cls u nev))
      (hj : sBL kt "str.join" (fun a => [.str nlS 0, .ref a]) lisV [.str (rowS k w' u p) 0, .str (row2C cls u) 0, .str emS 0, .str emS 0] (.str (resC cls k w' u p) 0) 8 2 129) (h : anL kt cls k w' u p may nev r1 r2 0 0 n' nc N),
      PQk (BB kt w.params) progD w 368 343 (anArgs k w' u p may nev) (resC cls k w' u p) (xsC cls u) := fun cls r1 r2 n' nc N hne hc hm hn hj h =>
    pP_ok (C := anCC kt cls k w' u p may nev w.params (rows w.params)) (cs_ok (by omega) (anF_ok V (by omega) hu hp hc hm hn hj)) hne (fun _ => ov_st) (h w.params (rows w.params))
  unfold clsOf
  by_cases h2 : w' = 2
  · subst h2
    exact key 0 _ _ _ _ _ rfl rfl noF_ok noF_ok (V.fj _ _ _ _ hu hp) (V.an0 k may nev u p hu hp)
  · rw [bq _ _ h2]
    dsimp only
    by_cases h3 : u = p
    · subst h3
      rw [Nat.beq_refl u]
      dsimp only
      cases m with
      | false => exact key 2 _ _ _ _ _ rfl (lw h2) (vF_ok hm) noF_ok (V.fj _ _ _ _ hu hp) (V.an2 k w' may nev u hu)
      | true =>
        cases n with
        | true => exact key 3 _ _ _ _ _ rfl (lw h2) (vF_ok hm) (vF_ok hn) (V.fj _ _ _ _ hu hp) (V.an3 k w' may nev u hu)
        | false => exact key 4 _ _ _ _ _ rfl (lw h2) (vF_ok hm) (vF_ok hn) (V.fk _ _ _ _ hu hp) (V.an4 k w' may nev u hu)
    · rw [bq _ _ h3]
      exact key 1 _ _ _ _ _ rfl (lw h2) noF_ok noF_ok (V.fj _ _ _ _ hu hp) (V.an1 k w' may nev u p hu hp h3)
end
end Mine
end
section
namespace Mine
/-! certificates, printed by a program of ours (Gen8, mkey.py) -/
noncomputable def vaNk0 : Nat × Nat := (1097, 320243691651482006376621418022070464746880537690012679099137672109455032983289023624200295430526090878428541881905452394578421914964540009723969892033727552750694266981283949516567755338673840959812297591401954584795993393570559797929928448720149203520653899893606251305839347021996595277086033542315556273888120077447138258459340976627162731152452817285703853254086531544108759464517575542569746826614106283558754998087686365014069570870685487818781911023840279091976773005772410658108445835250894296808310656818341035512371130292377286442958799594566271609391321071996152416508212994470982411371657273642923078246476798401577907597541785419434928631770930930435812066118265131262540728251867593750855751659759003472779283749067474564953838215296386379247889526694573737587532949244723037223444165645611509824067373848069419079663475616984590553542948647606920604134599103376938511462292796797234987557522179240928674576092854707486581695340983529787262061087836106922250964757245452648324106958428245867452975505623312020573204618330760165252014061011915083139761114150951066849018659848650925674100268951017030363573594502222164709498610121214760343164160561280502154230881090765173394946703547297125778410287826723303292441500434399163281169668648648046938526903290479303826671081712992059023081073389064849792142728666992195228645046446683754870709597221434457224731667317355586085780752014964422389803327346895880874437951348879611832375068005895424486317828502038236152632186469646846452714030890145363323713458891708429614386853962227763429134138517012362063714200510083877872133833157836930183703818642827648210917460729804486928913578074644240238993231560254183132830714226881772286181094338825817495716811864658400119762019636060893656352934630887764205661266519017375993111592017276929420915536570860714985978179170885928780971143599589918626992499893299878660699751574409137942163817646122769568547429456711265461404392456350360543589481467987823622226966256240739663264096627438459667320924462736118199992579982962334630537882211442679011012024474570011378883736729126773980783668109261109623373377546207099915095535062234485746875812488662705760190627274835234471103087909472563732737921524956031857318170277438126413716341333866668122933289029885638357062736691296222252496931807603090176098304)
noncomputable def vaNk1 : Nat × Nat := (1468, 19071257185626013507280435056582338953459156255109238767688065210120143325302252941832098092269327945138564467160954304563901442997383079208406547410544729474031968294357474302884808685925607302738856774608727677400117813340129715805730398827648726473886830991437515409405906715599950563723047936133865714103820387977916877556341030123807253899140920224138164480749348617690566411176937931245662928675952973457041433153322641527536394141211697579308775243708871793575063064786926080930932570410568995585347051563654000710770462074717066518122779308590573078771174477424314269486218003683702783564681015335413807354432307651263100272352554209930107130096512801788747476340939882585035304307583405473494240911336872581200643542760327909885664651904394049062420667590743654718179192053491874055992842711444191613714892513394069499128056633254486135610481163067499617031097496001637732624161484931241881254281033733438382642588258366348230626175988978415375011430172888806855846621775995887173373995334697896054900848225723470875897668922097409561354076946375074781368798796913372182151551095626587008903692384455281270928229178771773958307891184367682382369308914073183379705022939595010051481647351959267813577966371707876402031874262884984519136610706074278765601291498089247973982596629039683232632873278521301506751943032407910318282823684129960549693554065591442106048291585865246226326282100228645555877560423898319714823683245876238936952042268872560820647602905048438457314837394805982491778133384340563523617286146289720591576995203843772051671519214801107178624890684822661146682318441155156110221951252740777453843677671749317871473357475295459368231226939076793638851732910534901163540502052328590957761285214300486579874121072828996126745064952507613327465773324084828492049365880481701217938551636353973427527385339556845300859340592246034447218091956682132846608976887163676172777865708257481816394827441856306101735479962172269533101338582216229303629181575787282962245634995063693903602340441278096135302721467367797677236086178025655583419244054535989315036525882880914166280953374529387477934129491870808541217292952221028936717530835725368858827416560000147559547454347031754865054270099594612722066548022285329443056063441677411707907067573795223134408293442494687247967044037699586647309411939690711822555035501908776086915178535553469951257399326204512082155016243403643751480380604676820571039306803626652021685465427506603147367073122045512711851285165724809588579499032594885803120558038883954965880348204589588323357215562255565917030721440276452990905484508976656916996958244797852614576495253567967486524419093082481982884786581261146246468527330517454008992362746190993806355019033071935832331956447031612607950774418474068392883467095087267030017007941740091757637475616616664635948078153064565044186270726478796690802779447692463672934225137144112285770170779088660880573774795471684132369393344713076574171049668401700314634054570061034099924396513660962290156449551721003838369903070105204237229970928660364111416666519734338382783087974470747775618818529837056)
noncomputable def vaNk2 : Nat × Nat := (1009, 1177614798255598653464782944565736373857093640109501108526139267950338617592265615138575986747382781474329330455895889990142588782292185899103268269604245108319703873503300604668865120283746027349900217658519475301632817684979806409110023461674807315116476472732742368683856202762813745265154893591701227615147223028109658623052652522582453867975488226635404193447825468820771642712210487733900812150042394185233272773419880834091884994991171563086917497680828043638626548642301244102377920492544233371598871630734049787372851360737814263054585767027211667801188769360938089048341917497703262417705168494240429924396210945514557784439889921484347093125097920118762975697387117517474803548267187624803925856812711776862991631126665567217369014915223863983744280109307834290115640635523877997652110999764981912827447212515658177974295454424639389026428568333445612904911032957647387963241225861936065830694616806499558833760140550169575511592358717501566189434047900497679323763243331775697678322168007417108389512445642146040538723261680244176334304125756449761604926389208720395851485266370912967360070294498048983240449844269102445969092366832562793458532004740855335155467276546381262715563492864341266280730693919358850477938900024320713881387270490860964486830517837253871959913080599823373923757551284537727799816138479942625173864394842556486839706592580654964286964956459770110681134289007280605825825630083893255762772050051812010849145689140993621861814945441923410345780415204264387986225294143893782689676362051931446431031289501002841771346637470086830162032344179889523160515375796464900146969330161119792959576214012012951197499642962193497807118824231462185856326382341348406527744057569749354881549315754495738301375161638582747811045604681702426740389785735963478771233205862171768209272622574837075208604055650565789051656839387348368274836501190059347160701942532859167168339284256525575994454546180658506066105175214656876290078487673860911825301859932651077687199380099858170346141028517525316379147746286585880586183800881470039376179067993342380737660225207526852886194402742555111936429495490638266368)
noncomputable def vaNk3 : Nat × Nat := (1194, 803244275903867548923445962596777056982448375208957994851824030397263236353011602126388731653982478429298986468928437254886783631496044988280327195661837885964671535878350706157721763583132010808133333584866253449073446222413434031044804134458384114442196588971828330753876782985212345131795749248328705041963163560429701937614267275054086558817861602140500142132256530497448948977180403730252763822845365241097163478052163869778455689443962714316308099318383170889976515976149634893004707721045950659748776495183767187692722024383458427643480863026771682862986623663865342446322050430559246406941611347149200164258204023153555905696529645963019681293890538430662945100215048767161585036014937304440294513756365134873537093778327186044791736115002630706065264585849179764287867557865519876497689251596702635264117108221493566543304206923075933503822056037474908823161750626069910364660407168465001624752031532340839295496015055386112225049313783289769896312543540254461877833481557544805013316746493454228665809693500992531698951028499244569076238144945215722102366003203334612794246124642698924901631485101367275423627522489483012471173045054787087213326006833142674024552601697372584353507945532909242912109315280977782260235115744452315620495622487043563601499617598582022064425520421079163654160748036272018877229962999753823805903041900862518298146173664682274967230716353952654636446496539183993298097131980032349678806340795544625056561120237190450178971869289016788360194604038900168535464108693166948853885481328428934287416852673792764921659148214947750443923312662859292691853860512503658989644989503479897269181645679275935127118970904225866590677184540561422165701816505103561164184802465741809121169178891698819685917208465193511701835055103661294662991358600612865007274903883234415089921637082839386668838401426462928779032294558007236775112855913547198773198292442921318929735154355770528677274026251495923752424220464233160469142857651855203706467194872494739785842042989147112729444202152664873142346112648096389765863838284384425994381538867891026765310004661175377768912366128425306515999609868054368337908172146364560826419967938770156779688053519641547834261482741923540471633057123273413369948765562955158595784364610853922522605638784339842864754576836117549586296387783052476177868118044369916174430622254103910754387141304031846156070993911173042969307882027290462331477039240136025680683070824409181725335911905417007151813247100556115340380898603931109824983798346343895681246722801664)
noncomputable def vaNk4 : Nat × Nat := (1556, 5186288262177662708269326367655176001513280806208251485824308749242957412236372455505870374454003684645250782700440396224025417988096237721484206882795449662370099817059241810708129975620548434242817481911075474441425663327646389530612649525280726366194100791180877220356789091868105359860068952412358172980081417093591985618146512847648271353354709114948077986910351049161382229194936596274665076527978960285199833892423163007213370324311368392668756994911655330077307305807304811015916201620998115263475544933268544125196138396144981756035133164964406996416762251777191665023186645603688812348159983116400822888210127667941205239036355235893177049209958230865393656003515817734019108566058275638920045079309164947701246708847474097641392616976554828938571987882127898861678609747873840866371959939393282511404777359693098226553979527885750023192381918798649300446905010967903765692487906078064319600014911289505572339496410697205607334122924549313601454448772336537481140896409610864983996955222864346303537707572480506368938294053640419137975417845292491773913097980408551185441383047197294903521949584327294412328157851505793748211506399127748945310671910399018921930062201379876378557751990653182406608586011378824866188109882261071133531192059497028556805035148183804482241840553818170046914821265940028454133249801119718748352233041288415695416323477236457136271739843520696289330540562873074552887549139369268329189017461790659206997207753677872468772460110467665093992840545260451777132316856887006278433107212078767520440737690629171786973753692761869717820708131977968309805252588317874288347615474387398769653975930330342878850522266080468616754527654979878447961304381327096131239456990881056603694645942355442657016457580781835362132899457317128144595023661569707545591188568472115433355892333524464267270330159705212750887104341407524153396426444265308821868453315050516155050193266435886369396035272541729894261274550144751433063316390663856540525668361855982161715986187416647256403795809354494764949823451285235366692991811759318639833148512721325670507096239323743930983316965913042410207699165377386172332211557935352193361775778780198216038838225174699902820194963482329820868703530365674233734654393426184503663798375758970438940620234696603938408863852221811899559177593550240095152833628445003970777868009049912210405944943954266492946180661665774390796271254937899057814561881868670883243141928736048228036456883060599627488023013096507785836903599277765573644070996898408660055288698151167532272755502763052724395227863832967276421239452251634050083806632192145367849945269723688632886932236877851974681698244207218493923435388260129368138010223388526968460102618109418869352849166042575332432052935435543797448059690402890257036258641732150275279673863523766739167044984808025945084478268904093105805347806115817769633236547955058588936053818681851192379961250733075751333584112551056672286857386428535228606844043017601239364699501474068062575723794165532497472341979192935500655809669269288744852744707987832821756689026479124129131718815763049059021985362796770094617959145358341646486433660283524378411299743125463236984521383305005314902281909696566080753660541135565627054741010169320779302062850074111675951336921482753083701135011763911147520)
noncomputable def vaNk5 : Nat × Nat := (735, 49598845881614482506447874390387496165374538022168430776331439566829594860575800789417681553244253865858360963197929605455890164930707923971494144694986839825761971373529189164701047513182866179548890309100300637813404986184061434947084126714834187692323499905247067438837455197128169014937962181497784462947154513785949301826910897559056165448927681207068751398317028778165722865697463157310185788529258128585481149302849334402729605949464923844233063728903326717043031728917362506753193684909855142198039812079936966051883425099709184265739829015427132652091884267466519586205458244390273724115857762613034481168222995674064690674166046288540945079247501985835300679634600851853689702465573277350410634312885041122336701147473332469906147336728153950070217594700870790354950445979355153188910133476741898538532234964117009273919347383809943676891373803711283209802778191002901856099778953248322755446334515831681267742260498118396234022817803460296966151080084141955545822354082590162936140574831313482592589806985214756906516137724796083051922038333251979945205959878025003771986954498819366086054859142947277451591446221186787409709714920183520398931690618075735193333100924352906111642127952890877914003478984470247875087585183499345743690077520433671506784482893221725003195041853482407340798098773008800255492902733816608926233335867459050414870342491340084578631716950405988230485137758364136149653962155219959100605309006353777002032677073079555807578851443223543222171027966810576442186685422807978108802577986717023629665162371279110144)
noncomputable def vaN (u p : Nat) : Nat × Nat := match u with
  | 0 => match p with
    | 0 => vaNk0
    | 1 => vaNk1
    | 2 => vaNk0
    | _ => vaNk2
  | 1 => match p with
    | 0 => vaNk0
    | 1 => vaNk1
    | 2 => vaNk0
    | _ => vaNk2
  | 2 => match p with
    | 0 => vaNk3
    | 1 => vaNk4
    | 2 => vaNk3
    | _ => vaNk0
  | _ => match p with
    | 0 => vaNk2
    | 1 => vaNk3
    | 2 => vaNk2
    | _ => vaNk5
noncomputable def biNk0 : Nat × Nat := (940, 93716205952030173459313072287150394308137641994185743956136682518878327471776512889594588368949250526918483940261232119528222648627308381509031487021073694483794996640598979278610169424723085304201267675748417678149732813938617134010926366983313281089387440415275286183642889335535348236911405651275638128381477479352952577569188352869709779669894736565317865162870292636213795428163245065151088616168430625561598111800798414478722362015370130866440175779091227448541666919438227303685751232150080893167404666135173144134842788054047670265915159919887340792140725259855764920789988158363515933079335635671992465256940016249714844612195762759733226664552551693497057710796331055596589884391674312369580530276086511956746972789454360230329335930025148427645462592682023217526751064168410739562239287592352202821333168050138793707384359585628755627219280612368267377346838261379864830323155767844638706908725854473998573322171580457399774359826841605208164305873577995169833961340207440273408758848253126956662553149707528888987194850571999187376132090275081506047865457079663645555940582036999793182346392228768256231806234028920212755244533250281096476847102051193896397913374368558420301020640408709361538659475088190153285652947139804770381063038589685502966058012345619875142515135773428249886391374216088876752655267516897414937167103401206555173989067231931692055229666733540048439200132328331777555846643588009633283711167673644037992507419980673925597042399979156184518428501113562923891419717612754344648440699917211379860532486390267700831881031058541869547132052078689080574849181836416897946906512721305545304300039513283896032293170394541528475201076890980276667439666665042367760017354539794378863266673782112574934742249503175637005173492222926013804926398484810788540997727485689934776801255787019893094712012346312287540318642367440603836834059355019812464897628977546058166428908851459538137453904763359681993350157317327233437231660363460820797607542595277324288)
noncomputable def biNk1 : Nat × Nat := (1359, 781705856002667817528921741913944409212918319084431566175374534090535319566070421768938632335003472844464285125697301851463159211035833744769445740089724906743191904493250468708395440359313962228152752435477068366996389411624096894676820569094697085846918913048350367476575541229889804774860709757846398274145541306884637375062430607574161246636655725438811299060348616860048613719745519074178459394251246757347567313730327900123641163470900918269859767134552464645675031317482465796707754634501093661065300831755075179403022951467471416713666878524990879585324733657944211746123954458712357847041282513143115019461131163224387891014669942531467012292865919537709121814126105878590486839133226237651385525236773997164905212308559907597057647963593143953948219312695729581342246050447069464032791020631920676144467081848326792338561458263077805189009553384229426119941566438388616911614597240555425740128058908677060568544002312386399097651118023991486543112640834971394490116509982939718697385291506279957646666358806701899265682051184279892664006314835628391426920859443702657056043958800929960032234383487050394478529269122047478458695001319551995408051110315432177366593681247349828972799236420937006994047078554574384954124474822739880658574893430782425088018558037218990422955507313187220900504927763225161000488852695962731296999724761385939483276721002013239952304121689006701816930928951403705549432012215107779497855063631333191792967229943575186002547092839896966412133714093730704447614102592974413376580538931903709962910505393786938772152529989322394435612834792854383782728701146005871298217525508653310381852218960619048984394185083856892800543451326263368993555552956667129003645732257548259098583315592608592586113355009774236773232318031083094529153223908694529360277018892539933409598480015947224861182012159338414653084401869649309934439954191824798111533527758250235080182246412110683605526956122156146340179049624448861063936426484275602986221182117221307483391020226456209914887945363463911121641909495943894887548592649540598364356801064539411369682467372985663217093126183600526685283123050284709525896507580720230651018703772505810438438502259928503416171935049757678070426270476752130189288866859077100234687467052083962097574964880038763307844494908919008376018317783150431069060372347644449812379055310816278974868404900608422712408794999206068413278620816952159936637007914243085282403129414597538823122138195394613178686637099116180508637206246507579806523302282471100771261460270946453013719679175512173388682792256829829196032706142388613690160794943161323075116017952825680453980663577714888955939529955954750090059030410985695187983528271555996835495483280173348316772735801825149329340458499316500070560079737390731304486187049598100039762217226426668822916974569532921670024871601393042560212791532841210579650846081190756352)
noncomputable def biNk2 : Nat × Nat := (890, 40861679749291755479422652693333470192257411790827916196961305669216321321413279952610119149862815349320595192156900292251517468833792417503993343426082564020268416383927313192105200781612940419261289703121742290081195324188926236938893563298130018245013720434320962494074433574717205828101143821708649968701770108532198348800208169276741625584546818649998787753606214528862238477156855686500232020250861308133423636892533103465811512995812947164027449209129064099278306311331985447246906215991456413175315244048838015814491755400977697179067929140634337039067585738241120541730411838037906054174592097602535419714223466061268471420824517534591623080980032657357502049599103795799766926265658364320374461220192476926846696506351922868735456252430884044943471768686153146605653449557221473592001574259544876019158897364534576083819206696506005916242553869049850730846220985016001255624826333185643310017051768570783774250512693727076472448279213461029280972561792414734542549457575743001628088438168352127263046788098469882461789994211465482527779689262593183392666709371098827677259108136075596972557064163392550362847740286508314591574882700940833018430209082019102938091424224770575624557833404480455245582858380951062024524492660069161600557805988647176766360151471781771708953859942542617434573004254534040474705061997756719417014195323571014701654957349255492423819029605603189103067237754063855113168807954584024869056218094756844386768503166122236283785851097651206561083043437008554341352839142819726716263644207595241913636689485976242372736006819749077267114752558657062898279125770989277609036818479883979893234925856908529342671136839578875979991160563349614237938671424185712030506234114959844774886472047036466057936171602363124948912266464716439783861852789900846234721258544831719503835376701243812078054813166290948520985021408363897050696567895785767731200)
noncomputable def biNk3 : Nat × Nat := (990, 214937988646821704956501814320362341722341269286635796080744997716962283256749160154619410086972832564656576211486333283403439110977886890447856122774577451036198772252537839490664922009875323381487313064674621860677557374196755051593859489056710416180625575861914242724237910801397883259170160207722455410878577324880424592877525833983888831809571049140345433894332262124498919918671326418729100569640120795092748374233552755555689734803901191184763844089351951727656522581471833414143311232543290970626331215142718939794839292268875127311804532253826911175717065958319612643707873449776984768728346642535221260776784662148660410415984727582029888846954640535384034871657625923826457318324435373042824246200554571871904219658042211715092798050179871514141979298501203881511881970304419879554517186783915232743051854569111571123893144111371845447429076870672995661186311455627192328833795161344470909903842577465897780156208068752151723591995384895891960807013191749325791835272630356096617891504781395251318141368447633380298826303147866171202070115342985579439991730171403188801261563439880328712781942440510245499704244104533049945938984480175700746368631991542486408030142726972806528841351800117421894268761402440597603916620221754299542270364784289278835032133557251321337513521827213719979804153354380727254706173176465099476931373264243662631972790505503966709656309429077074143924613065608178672231811310350049226503872020219679873255761841805137451808822388194783908701433166121796196062092977687647935312283298592692063058144275884106639918604761643462685192028227343164263331091415640243182642551335046066177936965628936130005301413105430576963664095143003365548045816028612126579697232122517143837222703038432751389033078237543975765111485470536397122195953630358451280999470641691677301922682296382839044046129253741013180486105632087628148552075024276359434854870606406737322121799978123845921692171405624963950926200865033753032960780053509652524632725870859740014692796460109904994655918124774914720412733669003780281931982076049901374801891217086710189344139079876608)
noncomputable def biNk4 : Nat × Nat := (1409, 1792841298853452774295246754481384596267631114461880107431902162406785786764234700147902293380854329141563022167895777940583881967745238933073370076315680949797021504001951326974436871539856406196909320212178270425389170048956353136738951586243492470697713451281617836152621879484377741937305331072829855917066873397379702212678269682079554466004082406483085666237438444923099899248853659429266511351048440518674058212097573489536133190858851281217506125245662352890378225202258561627768023437499233655421572559069491938907843055781958727297146340282102192448603773695323238817138942078514998760813809861925293604678098350659422229058845917639254500627055360343328623370411406126284138138815094651496011950381584286858958505052929049304653167979677459248369878706762332831956583965886428452969945296501899788590168035056902424685993854265317399798876509765012042316192063752912929592786708054552270821018271921704875862026779813833324018998038424759867687361003467902547053486435140730365066627396909573912053499702657455418596724802318273263419150521094108430848785190528709260404524449266288785318735271529813333780834552647969266730706294996941415342776835705128242965364685802963276432463771046538092788754978191904423062048939995744177410765137508203833825463993597149566640096359607785270527372419611992659155543168791796508795007040823237444266879934364744898198557869238086012824250168884597230745662736046292741070893649814948603198903945761805490377345570117394150310298972077506781453119104647830503753871105101745529918886450871268710198786068467481542474273867444013984527939075488574942066989329528389193258933360685268846619256557723785252435189267038727557073614638598384556481971998590856335798437976334620361389924644717446822614933589030911731301317435094442243890544932305071788310129069909275958006379397455486186438656799236523342180197746918698665068636368206500746937655538021293855338378879724221972928786614426800107673118962435961106176002361139919447297306509705106700665157054418570047702690560036396911030715676711003338123307180909064312609250498358619966351977445769254320487910040243045436108113814223555017950456429602950150296407602956308267499456783192231127101859622067586289878519558574126750591806462115590923380169706700420968311919484610356496993846735805782951192826659287754544091781308618658666457733163745972335933183820917748559696234727592183043011977932653625021772574020611644074688207720067410985547384085777841021906283977701539889391297367140301006430723687922731892213150260013802287436359930895776088936665312822191360268580293162220478071320714984368450210353237206078012875754756120052142558717224941302979884130112545646889145080795841324134071878147262563586623638868112073134268627007798090540095931467649680464212095191109133071921333357633969765983712698037515503448210353243193335331642305289430567214980721427671686890699928670492587577302100599387722079721617457286492278734172338267770021268237322321920)
noncomputable def biNk5 : Nat × Nat := (521, 11235331354172869361718028553532746785266972984343434057127829714607504157020792307321313291559187889616566017115894335921733495287190816766750874014525384560522120355395248223902855145739229365810611390080527410754038097975191442986820923725548835077824344850002199323194085300964779452696303853477672136101094801796436069416716687502149250862083711411257733548416560013690544447769059882814707415152716065079539357220466620090496112319996214000901910316651145118659617344704611228333288601561734685091785175015327650489311285059726695366746931401888342159784421441942226674606251127120973623620745413348317410847306378880134023066258289111989334856423992332991926448063552306347235792000659397312354413264357515465391390829347599624338293349338811295447830402337916581721904861545367769830654454449940097083756511471641738300470414982781030248276662677309384967312468534344299205089669690692994956597611743979383342114209852924386287642867277596216469946704171796444079180753274040330849548872370753113485375270433730505302459989471104286993224772031580254016644857591633358020900949425569955840)
noncomputable def biN (u p : Nat) : Nat × Nat := match u with
  | 0 => match p with
    | 0 => biNk0
    | 1 => biNk1
    | 2 => biNk0
    | _ => biNk2
  | 1 => match p with
    | 0 => biNk0
    | 1 => biNk1
    | 2 => biNk0
    | _ => biNk2
  | 2 => match p with
    | 0 => biNk3
    | 1 => biNk4
    | 2 => biNk3
    | _ => biNk0
  | _ => match p with
    | 0 => biNk2
    | 1 => biNk3
    | 2 => biNk2
    | _ => biNk5
end Mine
end
section
open PySem PySem.W
namespace Mine
/-! _law_value and _law_bits -/
noncomputable def vaF (w u p : Nat) : List FactF := [vF (hdB addN) [.str (wdS w) 0, .str spS 0] (.str (cat (wdS w) spS) 0), vF (hdB addN) [.str (cat (wdS w) spS) 0, .str (txS u p) 0] (.str (vS w u p) 0)]
noncomputable def octW : List UInt8 → List Value
  | [] => []
  | b :: l => .int (Int.ofNat b.toNat) 0 :: octW l
noncomputable def octV (u p : Nat) : List Value := octW (ocT u p).toList
noncomputable abbrev vaCC (kt : Params → X.KT) (w u p : Nat) (P : Params) (b : Bool × Bool) : Cfg := CC kt (spOf (vaF w u p)) P b
noncomputable def sPL (kt : Params → X.KT) (f : Nat) (args : Addr → List Value) (cls : Value) (xs : List Value) (res : Value) (n nc N : Nat) : Prop := ∀ (P : Params) (b : Bool × Bool) (A τ θ θ' : Nat → Nat) (ep : Nat),
  vw (fun o => (vRes o, o.T.get 0)) (E (C0 kt P b) (up A) τ n [] (st0 (C0 kt P b) (.call (.ref f) ⟨toksL (args (up A 0)) θ, []⟩)) (one (seqO cls (toksL xs θ') ep)) 1 (0, 0) (esc (unp 128 nc N)) []) =
    wv (some res, some (seqO cls (toksL xs θ') ep)) (E (C0 kt P b) (up A) τ n [] (st0 (C0 kt P b) (.call (.ref f) ⟨toksL (args (up A 0)) θ, []⟩)) (one (seqO cls (toksL xs θ') ep)) 1 (0, 0) (esc (unp 128 nc N)) [])
structure LvB (kt : Params → X.KT) : Prop where
  va1 : ∀ w, vBL kt "str.__add__" [.str (wdS w) 0, .str spS 0] (.str (cat (wdS w) spS) 0) 50 0 0
  va2 : ∀ w u p, u < 4 → p < 4 → vBL kt "str.__add__" [.str (cat (wdS w) spS) 0, .str (txS u p) 0] (.str (vS w u p) 0) 50 0 0
  va : ∀ w u p, u < 4 → p < 4 → vPLF kt (vaF w u p) 338 [.str (wdS w) 0, .int (Int.ofNat u) 0, .int (Int.ofNat p) 0] (.str (vS w u p) 0) 3100 (vaN u p).1 (vaN u p).2
  bi : ∀ u p, u < 4 → p < 4 → sPL kt 348 (fun a => [.ref a]) lisV (octV u p) (.str (txS u p) 0) 2600 (biN u p).1 (biN u p).2
theorem cd_add : PySem.code "str.__add__" = addN := by decide +kernel
section
variable {kt : Params → X.KT} {w : World}
theorem sP_ok {prog : Program} {w : World} {L : Nat} {C : Cfg} (hC : ∀ G : Lg, G.Fit → C.Ok G prog w (L + 64)) {k : Nat} {args : Addr → List Value} {cls : Value} {xs : List Value} {res : Value} {n : Nat} {cs : List Nat}
    (ht : ∀ a θ, C.ov 0 (.call (.ref k) ⟨toksL (args a) θ, []⟩) = some (st0 C (.call (.ref k) ⟨toksL (args a) θ, []⟩)))
    (h : ∀ (A τ θ θ' : Nat → Nat) (ep : Nat), vw (fun o => (vRes o, o.T.get 0)) (E C (up A) τ n [] (st0 C (.call (.ref k) ⟨toksL (args (up A 0)) θ, []⟩)) (one (seqO cls (toksL xs θ') ep)) 1 (0, 0) cs []) = wv (some res, some (seqO cls (toksL xs θ') ep)) (E C (up A) τ n [] (st0 C (.call (.ref k) ⟨toksL (args (up A 0)) θ, []⟩)) (one (seqO cls (toksL xs θ') ep)) 1 (0, 0) cs [])) :
    SOk C.B prog w L (hdP k) args cls xs res where
  ok := fun G hG c θ θ' ep A₀ Γ p s R hA0 hh hc hΓ D hR => by
    have hc' := hdP_is hh
    rw [hc'] at hc
    refine (hC G hG).ov 0 _ _ (ht (A₀ 0) θ) Γ p s R hc (hΓ.lift (by omega)) D.base fun p' => ?_
    exact run_wp (hC G hG) (Nat.le_refl _) (a := fun _ _ => (some res, some (seqO cls (toksL xs θ') ep))) (τ₀ := fun _ => 0) ⟨fun _ => by rw [hG.N0]; exact Nat.zero_le _, hA0⟩ hΓ (TkI.zero _ _ _) (p := p') (R := R) D (fun A τ hA _ hn => by
        obtain ⟨A', rfl⟩ := up_is hG hn
        have y := h A' τ θ θ' ep
        rw [hA 0 (Nat.lt_succ_self _)] at y
        exact y) fun A τ s' o hA _ _ _ hf D' I => by
      obtain ⟨t, ht⟩ := vRes_is (congrArg Prod.fst hf)
      rw [ht]
      exact hR t s' A o.T o.m (hA 0 (Nat.lt_succ_self _)) (congrArg Prod.snd hf) D' I
theorem spl {L : Nat} (hL : L ≤ 626) {k : Nat} {args : Addr → List Value} {cls : Value} {xs : List Value} {res : Value} {n nc N : Nat} (h : sPL kt k args cls xs res n nc N) : SOk (BB kt w.params) progD w L (hdP k) args cls xs res :=
  sP_ok (C := C0 kt w.params (rows w.params)) (c0_ok hL) (fun _ _ => ov_st) (h w.params (rows w.params))
theorem va_ok (V : LvB kt) {w' u p L : Nat} (hL : L ≤ 562) (hu : u < 4) (hp : p < 4) : VK kt w L (hdP 338) [.str (wdS w') 0, .int (Int.ofNat u) 0, .int (Int.ofNat p) 0] (.str (vS w' u p) 0) :=
  vplf (by omega) (all_cons (vF_ok (vbl (by omega) cd_add (V.va1 w'))) (all_cons (vF_ok (vbl (by omega) cd_add (V.va2 w' u p hu hp))) all_nil)) (V.va w' u p hu hp)
theorem bi_ok (V : LvB kt) {u p L : Nat} (hL : L ≤ 626) (hu : u < 4) (hp : p < 4) : SOk (BB kt w.params) progD w L (hdP 348) (fun a => [.ref a]) lisV (octV u p) (.str (txS u p) 0) := spl hL (V.bi u p hu hp)
end
end Mine
end
section
open PySem PySem.W
namespace Mine
/-! facts that give new objects -/
noncomputable def insL : BT → Nat → List Obj → Option BT
  | T, _, [] => some T
  | T, m, o :: l => match (T.ins m o).get m with
    | none => none
    | some _ => insL (T.ins m o) (m + 1) l
theorem insL_get : ∀ (l : List Obj) (T T' : BT) (m : Nat), insL T m l = some T' → (∀ j o, T.get j = some o → j < m) → ∀ j o, T'.get j = some o → (j < m ∧ T.get j = some o) ∨ (m ≤ j ∧ l[j - m]? = some o)
  | [], T, T', m, h, hT, j, o, e => by
    cases h
    exact .inl ⟨hT j o e, e⟩
  | x :: l, T, T', m, h, hT, j, o, e => by
    unfold insL at h
    split at h
    · cases h
    · rename_i y hy
      have hg := BT.get_ins x T m (by rw [hy]; rfl)
      have := insL_get l (T.ins m x) T' (m + 1) h (fun j o e => by
        rw [hg] at e
        by_cases q : j = m
        · omega
        · rw [if_neg q] at e
          have := hT j o e
          omega) j o e
      rcases this with ⟨h1, h2⟩ | ⟨h1, h2⟩
      · rw [hg] at h2
        by_cases q : j = m
        · rw [if_pos q] at h2
          refine .inr ⟨by omega, ?_⟩
          have : j - m = 0 := by omega
          rw [this]
          exact h2
        · rw [if_neg q] at h2
          exact .inl ⟨hT j o h2, h2⟩
      · refine .inr ⟨by omega, ?_⟩
        have : j - m = (j - (m + 1)) + 1 := by omega
        rw [this]
        exact h2
noncomputable def shp : BT → BT
  | .nil => .nil
  | .node _ l r => .node ⟨.none, none, .seq #[] 0, #[]⟩ (shp l) (shp r)
noncomputable def ob0 : Obj := ⟨.none, none, .seq #[] 0, #[]⟩
theorem shp_ins : ∀ (T : BT) (n : Nat) (o : Obj), shp (T.ins n o) = (shp T).ins n ob0
  | .nil, n, o => rfl
  | .node v l r, n, o => by
    show shp ((BT.node v l r).ins n o) = (BT.node _ (shp l) (shp r)).ins n ob0
    rw [BT.ins_node, BT.ins_node]
    by_cases q : n = 0
    · rw [if_pos q, if_pos q]; rfl
    · rw [if_neg q, if_neg q]
      by_cases q1 : n % 2 = 1
      · rw [if_pos q1, if_pos q1, ← shp_ins l]; rfl
      · rw [if_neg q1, if_neg q1, ← shp_ins r]; rfl
theorem shp_get : ∀ (T : BT) (n : Nat), ((shp T).get n).isSome = (T.get n).isSome
  | .nil, n => rfl
  | .node v l r, n => by
    show ((BT.node _ (shp l) (shp r)).get n).isSome = _
    rw [BT.get_node, BT.get_node]
    by_cases q : n = 0
    · rw [if_pos q, if_pos q]; rfl
    · rw [if_neg q, if_neg q]
      by_cases q1 : n % 2 = 1
      · rw [if_pos q1, if_pos q1, shp_get l]
      · rw [if_neg q1, if_neg q1, shp_get r]
theorem insL_some : ∀ (l l' : List Obj) (T U : BT) (m : Nat) (T' : BT), shp T = shp U → l.length = l'.length → insL T m l = some T' → ∃ U', insL U m l' = some U'
  | [], [], T, U, m, T', _, _, _ => ⟨U, rfl⟩
  | x :: l, y :: l', T, U, m, T', hs, hl, h => by
    unfold insL at h ⊢
    have e : ((T.ins m x).get m).isSome = ((U.ins m y).get m).isSome := by
      rw [← shp_get (T.ins m x) m, ← shp_get (U.ins m y) m, shp_ins, shp_ins, hs]
    split at h
    · cases h
    · rename_i z hz
      rw [hz] at e
      split
      · rename_i hn
        rw [hn] at e; cases e
      · exact insL_some l l' _ _ (m + 1) T' (by rw [shp_ins, shp_ins, hs]) (Nat.succ.inj hl) h
  | [], _ :: _, _, _, _, _, _, hl, _ => by cases hl
  | _ :: _, [], _, _, _, _, _, hl, _ => by cases hl

theorem back_new {B : Addr → Option Obj} {G : Lg} {A₀ A₂ : Nat → Nat} {T T₂ T' : BT} {m m₂ n : Nat} {s s' : Shared} {js r : Nat → Nat} {l : List Obj} (ht : ∀ Ls os, G.Z Ls os → tabA ∈ Ls) (D : Rep B G A₀ T m s) (D₂ : Rep B (G.out A₀ m) A₂ T₂ m₂ s') (I₂ : Inv s n A₂ m₂ s')
    (h1 : ∀ k, k < n → js k < m ∧ A₂ k = A₀ (js k)) (hsame : ∀ k, k < n → ∀ o, T.get (js k) = some o → o.isFreed = false → T₂.get k = some o)
    (hr : ∀ x, x < l.length → n ≤ r x ∧ r x < m₂) (hri : ∀ x y, x < l.length → y < l.length → r x = r y → x = y)
    (hobj : ∀ x o, l[x]? = some o → o.isFreed = false → T₂.get (r x) = some o) (hT : insL T m l = some T') :
    Rep B G (fun j => if j < m then A₀ j else A₂ (r (j - m))) T' (m + l.length) s' ∧ Inv s m (fun j => if j < m then A₀ j else A₂ (r (j - m))) (m + l.length) s' := by
  refine D.back (js := js) (r := fun j => r (j - m)) ht D₂ I₂ h1 (Nat.le_add_right _ _) (fun j hj => if_pos hj) (fun j h1 h2 => ⟨if_neg (Nat.not_lt.mpr h1), hr _ (by omega)⟩) (fun i j h1 h2 h3 h4 e => ?_) fun j o e => ?_
  · have := hri (i - m) (j - m) (by omega) (by omega) e
    omega
  · rcases insL_get l T T' m hT (fun j o e => (D.own j o e).1) j o e with ⟨h3, h4⟩ | ⟨h3, h4⟩
    · refine ⟨by omega, fun hf => ?_⟩
      by_cases q : ∃ k, k < n ∧ js k = j
      · obtain ⟨k, hk, rfl⟩ := q
        exact .inr (.inl ⟨k, hk, rfl, hsame k hk o h4 hf⟩)
      · exact .inl ⟨h3, fun k hk e => q ⟨k, hk, e⟩, h4⟩
    · have := (List.getElem?_eq_some_iff.mp h4).1
      exact ⟨by omega, fun hf => .inr (.inr ⟨h3, hobj _ o h4 hf⟩)⟩

/-- a tuple of a text and a list, as the newest objects -/
noncomputable def pairO (A τ : Nat → Nat) (m i : Nat) (S : Str) (xs : List Value) : List Obj :=
  [seqO tupV [.str S (τ (2 * i + 1)), .ref (A (m + 1))] 0, seqO lisV (toksL xs fun k => τ (2 * (i + 1 + k) + 1)) 0]
noncomputable def pF (k : Nat) (args : List Value) (S : Str) (xs : List Value) : FactF := fun _ c A τ T m i => match hdP k c with
  | some as => match insL T m (pairO A τ m i.2 S xs) with
    | none => none
    | some T' => some ⟨.ok (.ret (.ref (A m))), T', m + 2, (i.1, i.2 + 3), [(.l (strkAll as), .l args)]⟩
  | none => none
section
variable {B : Addr → Option Obj} {prog : Program} {w : World} {L : Nat}
theorem toksL_pair (S : Str) (a : Addr) (θ : Nat → Nat) : toksL [.str S 0, .ref a] θ = [.str S (θ 0), .ref a] := rfl
theorem pairO_congr {A A' τ τ' : Nat → Nat} {m i : Nat} {S : Str} {xs : List Value} (hx : xs.length ≤ 2) (hA : A' (m + 1) = A (m + 1)) (hτ : ∀ j, j < i + 3 → τ' (2 * j + 1) = τ (2 * j + 1)) : pairO A' τ' m i S xs = pairO A τ m i S xs := by
  unfold pairO
  rw [hA, hτ i (by omega), toksL_congr xs (fun k => τ' (2 * (i + 1 + k) + 1)) (fun k => τ (2 * (i + 1 + k) + 1)) fun k hk => hτ _ (by omega)]
/-- the tokens of a pair, put behind those that stand -/
noncomputable def tkP (i : Nat) (τ₀ θ₁ θ₂ : Nat → Nat) (j : Nat) : Nat := if j < 2 * i ∨ j % 2 = 0 then τ₀ j else if j = 2 * i + 1 then θ₁ 0 else θ₂ (j / 2 - (i + 1))
theorem tkP_agr (i : Nat × Nat) (τ₀ θ₁ θ₂ : Nat → Nat) : agr i (tkP i.2 τ₀ θ₁ θ₂) τ₀ := ⟨fun j hj => if_pos (by omega), fun j hj => if_pos (by omega)⟩
theorem tkP_TkI {i : Nat × Nat} {τ₀ θ₁ θ₂ : Nat → Nat} {s s' : Shared} (hk : TkI i τ₀ s) (hs : s.toks ≤ s'.toks) : TkI (i.1, i.2 + 3) (tkP i.2 τ₀ θ₁ θ₂) s' :=
  ⟨fun j k h1 h2 => by
    show tkP i.2 τ₀ θ₁ θ₂ (2 * j) < tkP i.2 τ₀ θ₁ θ₂ (2 * k)
    unfold tkP
    rw [if_pos (by omega), if_pos (by omega)]
    exact hk.1 j k h1 h2, fun j hj => by
    show 0 < tkP i.2 τ₀ θ₁ θ₂ (2 * j) ∧ tkP i.2 τ₀ θ₁ θ₂ (2 * j) < _
    unfold tkP
    rw [if_pos (by omega)]
    exact ⟨(hk.2 j hj).1, Nat.lt_of_lt_of_le (hk.2 j hj).2 hs⟩⟩
theorem pairO_tkP (A : Nat → Nat) (m i : Nat) (τ₀ θ₁ θ₂ : Nat → Nat) (S : Str) (xs : List Value) : pairO A (tkP i τ₀ θ₁ θ₂) m i S xs = [seqO tupV (toksL [.str S 0, .ref (A (m + 1))] θ₁) 0, seqO lisV (toksL xs θ₂) 0] := by
  unfold pairO
  rw [toksL_pair, toksL_congr xs (fun k => tkP i τ₀ θ₁ θ₂ (2 * (i + 1 + k) + 1)) θ₂ fun k hk => by
    unfold tkP
    rw [if_neg (by omega), if_neg (by omega)]
    congr 1
    omega]
  unfold tkP
  rw [if_neg (by omega), if_pos (by omega)]
theorem pF_ok {k : Nat} {args : List Value} {S : Str} {xs : List Value} (hx : xs.length ≤ 2) (h : PQk B prog w L k args S xs) : FactOk B prog w L (pF k args S xs) where
  sp := fun G hG q c A₀ τ₀ T m i Γ p s R hm0 hc hΓ hk D h1 h2 => by
    obtain ⟨o, ho, he⟩ := h1 A₀ τ₀ (fun _ _ => rfl) (agr.refl _ _) hm0
    unfold pF at ho
    cases hh : hdP k c with
    | none => rw [hh] at ho; cases ho
    | some as =>
      rw [hh] at ho
      dsimp only at ho
      cases hi : insL T m (pairO A₀ τ₀ m i.2 S xs) with
      | none => rw [hi] at ho; cases ho
      | some T' =>
        rw [hi] at ho
        cases ho
        obtain ⟨θ, hθ⟩ := strkAll_inv' (VV.l.inj (he _ (.head _)))
        have hcode := hdP_is hh
        rw [hcode, hθ] at hc
        refine h.ok (G.out A₀ m) (hG.out A₀ m) θ Γ p s R hc hΓ D.gdOut fun r1 r2 θ₁ θ₂ s' A₂ T₂ m₂ hne hA2 hr1 hr2 D₂ I₂ => ?_
        let r : Nat → Nat := fun x => if x = 0 then r1 else r2
        let A' : Nat → Nat := fun j => if j < m then A₀ j else A₂ (r (j - m))
        let τ' := tkP i.2 τ₀ θ₁ θ₂
        have eA1 : A' (m + 1) = A₂ r2 := by
          show (if m + 1 < m then _ else A₂ (r (m + 1 - m))) = _
          rw [if_neg (by omega)]
          show A₂ (if m + 1 - m = 0 then r1 else r2) = _
          rw [if_neg (by omega)]
        have eA0 : A' m = A₂ r1 := by
          show (if m < m then _ else A₂ (r (m - m))) = _
          rw [if_neg (by omega)]
          show A₂ (if m - m = 0 then r1 else r2) = _
          rw [if_pos (by omega)]
        have eO : pairO A' τ' m i.2 S xs = [seqO tupV (toksL [.str S 0, .ref (A₂ r2)] θ₁) 0, seqO lisV (toksL xs θ₂) 0] := by rw [pairO_tkP, eA1]
        obtain ⟨U, hU⟩ := insL_some (pairO A₀ τ₀ m i.2 S xs) (pairO A' τ' m i.2 S xs) T T m T' rfl rfl hi
        have hU' := hU
        rw [eO] at hU'
        obtain ⟨D', I'⟩ := back_new (n := 0) (js := id) (r := r) (l := [seqO tupV (toksL [.str S 0, .ref (A₂ r2)] θ₁) 0, seqO lisV (toksL xs θ₂) 0]) hG.tab D D₂ I₂ (fun k hk => absurd hk (Nat.not_lt_zero _)) (fun k hk => absurd hk (Nat.not_lt_zero _))
          (fun x hx => by
            refine ⟨Nat.zero_le _, ?_⟩
            show (if x = 0 then r1 else r2) < m₂
            split
            · exact (D₂.own _ _ hr1).1
            · exact (D₂.own _ _ hr2).1)
          (fun x y hx hy e => by
            have hx' : x < 2 := hx
            have hy' : y < 2 := hy
            have e : (if x = 0 then r1 else r2) = if y = 0 then r1 else r2 := e
            by_cases q1 : x = 0 <;> by_cases q2 : y = 0
            · omega
            · rw [if_pos q1, if_neg q2] at e; exact absurd e hne
            · rw [if_neg q1, if_pos q2] at e; exact absurd e.symm hne
            · omega)
          (fun x o hx hf => by
            match x, hx with
            | 0, hx => cases hx; exact hr1
            | 1, hx => cases hx; exact hr2) hU'
        refine (show R (.ok (.ret (.ref (A' m)))) s' → R (.ok (.ret (.ref (A₂ r1)))) s' by rw [eA0]; exact id) ?_
        refine h2 A' τ' s' ⟨.ok (.ret (.ref (A' m))), U, m + 2, (i.1, i.2 + 3), [(.l (strkAll as), .l args)]⟩ (fun j hj => if_pos hj) (tkP_agr i τ₀ θ₁ θ₂) (fun j => by show G.M ≤ if j < m then A₀ j else A₂ (r (j - m)); split <;> first | exact hm0 j | exact hA2 _) ?_ ⟨Nat.le_refl _, Nat.le_add_right _ _⟩ (tkP_TkI hk I'.toks) D' I'
        unfold pF
        rw [hh]
        dsimp only
        rw [hU]
  spx := fun q c A τ A' τ' T m i o hTI ho hA hτ => by
    unfold pF at ho ⊢
    cases hh : hdP k c with
    | none => rw [hh] at ho; cases ho
    | some as =>
      rw [hh] at ho
      dsimp only at ho ⊢
      cases hi : insL T m (pairO A τ m i.2 S xs) with
      | none => rw [hi] at ho; cases ho
      | some T' =>
        rw [hi] at ho
        cases ho
        rw [pairO_congr hx (hA (m + 1) (Nat.lt_succ_self _)) (fun j hj => hτ.2 j hj), hi, hA m (by show m < m + 2; omega)]
end
end Mine
end
section
open PySem PySem.W
namespace Mine
open Builtin.Str
/-! _law_told -/
theorem cat_assoc (a b c : Str) : cat (cat a b) c = cat a (cat b c) := by
  rw [cat_eq, cat_eq, cat_eq, cat_eq]
  obtain ⟨a⟩ := a
  obtain ⟨b⟩ := b
  obtain ⟨c⟩ := c
  show Str.mk _ = Str.mk _
  congr 1
  exact Array.append_assoc
theorem cat_len (a b : Str) : (cat a b).length = a.length + b.length := by
  unfold cat
  show (⟨_⟩ : Array Nat).size = _
  simp [Str.length]
noncomputable def r1S (k : Nat) : Str := cat (nmS k) csS
noncomputable def r2S (k w : Nat) : Str := cat (r1S k) (wdS w)
noncomputable def r3S (k w : Nat) : Str := cat (r2S k w) spS
noncomputable def r4S (k w u p : Nat) : Str := cat (r3S k w) (txS u p)
noncomputable def r5S (k w u p : Nat) : Str := cat (r4S k w u p) nlS
noncomputable def r6S (cls k w u p : Nat) : Str := match cls with
  | 4 => cat (r5S k w u p) xuS
  | _ => cat (r5S k w u p) wwwS
noncomputable def r7S (cls k w u p : Nat) : Str := match cls with
  | 4 => cat (r6S 4 k w u p) (usS u)
  | _ => noS k w u p
noncomputable def aF (a b c : Str) : FactF := vF (hdB addN) [.str a 0, .str b 0] (.str c 0)
/-- one own sequence, its contents as they stand -/
noncomputable def xF (hd : HdF) (args : Addr → List Value) (cls : Value) (Lc : List Value) (res : Value) : FactF := fun j c A τ T m i => match hd c with
  | some as => match Nat.ble (j + 1) m with
   | false => none
   | true => match T.get j with
    | some ob => match ob with
      | ⟨cl, none, .seq ys _, ⟨[]⟩⟩ => some ⟨.ok (.ret (tokd res (τ (2 * i.2 + 1)))), T, m, (i.1, i.2 + 1), [(.l (strkAll as), .l (args (A j))), (.l ys.toList, .l Lc), (.v cl, .v cls)]⟩
      | _ => none
    | none => none
  | none => none
noncomputable def strNeN : Nat := 455125451010842570225012
noncomputable def td5 (cls k w u p : Nat) : FactF := match cls with
  | 4 => aF (r5S k w u p) xuS (r6S 4 k w u p)
  | _ => aF (r5S k w u p) wwwS (r6S 0 k w u p)
noncomputable def td6 (cls k w u p : Nat) : FactF := match cls with
  | 4 => aF (r6S 4 k w u p) (usS u) (r7S 4 k w u p)
  | _ => aF (r6S 0 k w u p) endS (noS k w u p)
noncomputable def td7 (cls k w u p : Nat) : FactF := match cls with
  | 4 => aF (r7S 4 k w u p) endS (okS k w u p)
  | _ => noF
noncomputable def tdM (cls u : Nat) (L0 : List Value) : FactF := match cls with
  | 0 => noF
  | 1 => noF
  | _ => xF (hdB containsN) (fun a => [.ref a, .str (usS u) 0]) lisV L0 (.bool (bmC cls))
noncomputable def tdN (cls u : Nat) (L1 : List Value) : FactF := match cls with
  | 3 => xF (hdB containsN) (fun a => [.ref a, .str (usS u) 0]) lisV L1 (.bool (bnC cls))
  | 4 => xF (hdB containsN) (fun a => [.ref a, .str (usS u) 0]) lisV L1 (.bool (bnC cls))
  | _ => noF
noncomputable def tdW (cls w : Nat) : FactF := match cls with
  | 0 => noF
  | _ => vF (hdB strNeN) [.str (wdS w) 0, .str (wdS 2) 0] (.bool true)
noncomputable def tdF (cls k w u p : Nat) (L0 L1 : List Value) : List FactF :=
  [aF (nmS k) csS (r1S k), aF (r1S k) (wdS w) (r2S k w), aF (r2S k w) spS (r3S k w), aF (r3S k w) (txS u p) (r4S k w u p), aF (r4S k w u p) nlS (r5S k w u p),
   td5 cls k w u p, td6 cls k w u p, td7 cls k w u p,
   sF (hdP 348) (fun a => [.ref a]) lisV (octV u p) (.str (txS u p) 0),
   tdM cls u L0, tdN cls u L1, tdW cls w]
noncomputable def rqV (k w u p : Nat) : List Value := [.str (nmS k) 0, .str (wdS w) 0, .int (Int.ofNat u) 0, .int (Int.ofNat p) 0]
noncomputable def lstO (L : List Value) (ep : Nat) : Obj := ⟨lisV, none, .seq ⟨L⟩ ep, #[]⟩
noncomputable def three (o0 o1 o2 : Obj) : BT := ((BT.nil.ins 0 o0).ins 1 o1).ins 2 o2
noncomputable abbrev tdCC (kt : Params → X.KT) (cls k w u p : Nat) (L0 L1 : List Value) (P : Params) (b : Bool × Bool) : Cfg := CC kt (spOf (tdF cls k w u p L0 L1)) P b
noncomputable def pair3 (r1 r2 : Nat) (o : Out) := (pairF r1 r2 o, o.T.get 0, o.T.get 1, o.T.get 2)
noncomputable def tdL (kt : Params → X.KT) (cls k w u p : Nat) (r1 r2 n nc N : Nat) : Prop := ∀ (P : Params) (b : Bool × Bool) (A τ θ θ₁ : Nat → Nat) (L0 L1 : List Value) (e0 e1 e2 : Nat),
  vw (pair3 r1 r2) (E (tdCC kt cls k w u p L0 L1 P b) (up A) τ n [] (st0 (tdCC kt cls k w u p L0 L1 P b) (.call (.ref 353) ⟨toksL [.ref (up A 0), .ref (up A 1), .ref (up A 2)] θ, []⟩)) (three (seqO tupV (toksL (rqV k w u p) θ₁) e0) (lstO L0 e1) (lstO L1 e2)) 3 (0, 0) (esc (unp 128 nc N)) []) =
    wv (pairW r1 r2 0 0 (resC cls k w u p) (xsC cls u) (up A) τ, some (seqO tupV (toksL (rqV k w u p) θ₁) e0), some (lstO L0 e1), some (lstO L1 e2))
      (E (tdCC kt cls k w u p L0 L1 P b) (up A) τ n [] (st0 (tdCC kt cls k w u p L0 L1 P b) (.call (.ref 353) ⟨toksL [.ref (up A 0), .ref (up A 1), .ref (up A 2)] θ, []⟩)) (three (seqO tupV (toksL (rqV k w u p) θ₁) e0) (lstO L0 e1) (lstO L1 e2)) 3 (0, 0) (esc (unp 128 nc N)) [])
end Mine
end
section
namespace Mine
/-! certificates, printed by a program of ours (Gen9, mktd.py) -/
noncomputable def td0Nk0 : Nat × Nat := (289, 45204668163529544740881285721434661234192763483304791372553911594374534571876319583635698473075986712401859634921613165070050656538772430503188645168673745522337172522930854737235458036991866606548420581475076927651903598752235947947030336950524255258235999061136414237578598677360434082205002984442765867003076528379973992938619198603501425086332954548083653603378890346713282998335627733365307063631421966437790634479893689755524345705637038474108073200916509924528210287778990931153437697968907168560068777561302948296335765849277107977959372735327560654968875496664971750569701156661592840772952493457408)
noncomputable def td0Nk1 : Nat × Nat := (333, 23573385048927197775656852631017721289997780249317084820491238203237017286269676842691625594614591466575728530303781112790069823812016514258106859913335406841778959541259316672121221207856718806092634995711651249340679151278461929904881277561252226690173155541159393041296481113036268885121251033768703759370951924763593176000389769039014527370992937811286907948324888719887186964307549066070353063403853163140678551785750238335884519264443021668027943476448855452217079263289539607495289204361112876501032661885335579303627650505147001696515357461749357703066000074183976661730280351106302609623689981408834322428495156008040110011946577336451717745141234387738502786330788871256088550878950774079488)
noncomputable def td0Nk2 : Nat × Nat := (267, 1979538502433340617780408142325455493473641522388439529269541767512965147854924211303451353196167102167707805068288346649347720073580915286449562651258803438051034098047922470445562283167061386177012070800124261065812824982020996940959167858362727681446414846842127678207589834920269852532552413815143448149443518362940813589891241680525412534788713263333191164976292396711862281582726780448968068853233665758820202275080890918824269848171495085389365042815420883683064582678582434978514148881143747023821792953426472055696625820193363496367343821287123824214016)
noncomputable def td0Nk3 : Nat × Nat := (311, 1032292133374977655443810511115535230959810279888097523488258202982227854882253939022915764019960944407236303964358810636262547528150112533838823525405275683139906067850650107699503464435869553716181171249512813051237979360065111641491977203330308137698056015440081267079246679499858733434711755599084312849417840761864432306619636917621618264896355493647586253466807184154705181740838281000299576839324489640721318254719408256157794754799484032181649639748780151829769737641263352399858937577015590209439879045270786061169679193651581604806743598426214109159611946474111069658479957950829380790516024149581102048926033096241948614975459130959079250395136)
noncomputable def td0Nk4 : Nat × Nat := (355, 538320950725608227305849568348052844205691795293196718335521317908141868673509652522289270530462459263229607198406980893383102757171171906603278624911416770932622160658342757974905664269310171615497728803881119817056294807741492052243974900195186851209601610507290029895260996672818364310262996135478098296787634839865054359609900747262296868168067772323452323069478970025336622827507971035080955332839603367844952056705795835613333013647326018761622856293735954912844144342634174847340894176812171598292584461134778183264177620411337521419649265977235445225147306107228605785907797091325947639401131249869151301371647588143439762770402970149661715228112526843107221813307553402224030495193270368282500414042209618886794841936443743131651088121856)
noncomputable def td0Nk5 : Nat × Nat := (245, 86685133235365261507051277027258456431385300953702989299583462418372832581759036565257672712321899642305016681543839319161762172589259549128189796149807443271822777762307367334963051091563815082057155741995617971010656275918743530953622748637851076370044379072060975465934137898181983956487953054768271002338478315437417644806797948207280328669059310370449976070758976099329518875379766422798661255066724009006661865879741736867534828272810291466820469581037581341603158577270839120619060235236548103154199997513728)
noncomputable def td0N (u p : Nat) : Nat × Nat := match u with
  | 0 => match p with
    | 0 => td0Nk0
    | 1 => td0Nk1
    | 2 => td0Nk0
    | _ => td0Nk2
  | 1 => match p with
    | 0 => td0Nk0
    | 1 => td0Nk1
    | 2 => td0Nk0
    | _ => td0Nk2
  | 2 => match p with
    | 0 => td0Nk3
    | 1 => td0Nk4
    | 2 => td0Nk3
    | _ => td0Nk0
  | _ => match p with
    | 0 => td0Nk2
    | 1 => td0Nk3
    | 2 => td0Nk2
    | _ => td0Nk5
noncomputable def td1Nk0 : Nat × Nat := (340, 13270636015276218689961345282017272333546779152329499715352677915690970931551162645187844873852394107716553140827921707944037365404361260542308713860128137422754019183293759887699814646744659629926119783591141175214659017574265120623668738247615320220026550167413438967590343387301014779836780460899472296533100276282407182995820273441921781243885404909280788350665832642287807721024479516757495620936938133768961006189474864432318659482018771529581107225925412186271689628789599434206211646971377725709311064528151526168893256265720243191914214093577720753805248943257984592458622641448063253549543254908605043790718791219218504891017935619790010563051976852416379256884177895969731718003906136856497145257366978560)
noncomputable def td1Nk1 : Nat × Nat := (296, 25447965837084822679303476529332118377391848401390971181527217743472787795805288740711702287888861233643093032114672060609949725827570563113703147417825523227988155369842609398194962445590364226367193290654247888433558067539243602160207516873869169509867883594087523459426701381300279034899833592809161947063321521219904452815787480700803977309547485244938614836972177647830754061184479149119885280306249836499999551838266268601449790951077910746250386943824146071638682113643197480819879275882131844584171006560671146643080629650926184953301046465814910653870327230600500031881660588321804483987831611063566427746818129920)
noncomputable def td1Nk2 : Nat × Nat := (274, 1114381107740542811949667330401263697149957649263474565260523860476812076699484203593967229537858193630314632693550020896659925890583292846810804962848214922607764362489468766097333640630147279745243024690776331189210297395753118229037732668730326138799179660111032827705559273693020819947807429012933748387266168148276230351793966323738854409486322913668755439894799557979293625665698278430127152041452886894323595907315160529044850927038757088602658744901062236584801292350402904075637464420675840935485082303452380037335520462498288338293502890422670932988417686632239529984)
noncomputable def td1Nk3 : Nat × Nat := (318, 581128808400630465804621907343755865740755112157479127819283603814295931074689556845703534068297647332315885980521743297827059892858834472234737715684932565165089192383282432978600102275380502873204283191809574720624234360631278259398468686993978700943656868994566484499760826077404603972274885099336518128872953160772637272520368988920425280092217571288887371234525021902074223356749648421524145917056440885314027240135878240818147946341045151287502028446318393214665966507641670044438849013338756684103589383384533071464778315838160761854340424241116958756287389157557558877875306324772709620544683548390949477529229671726574603155166027960205951933596309413227986944)
noncomputable def td1Nk4 : Nat × Nat := (362, 303047754136697543850348784589297404906489607181230852265807456349741255562792201662821503579240271535923760596400375683628370034914142888335476359596092441008366142820004371615653627560218733470269753163039122662231498771198401122922006269371741695392108918843816495116730826099316889569326126367403429187319226483946497599412327889474709511096829249336751429602577576382648025373851990668740977595188439734823483237100284239112215730724240959768701318395641285820340823621228324485527877807778984451251266321521495182980811375261910251423048860892999854730793990776627347051759797129479644610713020416499327603122698401096862851234800312802888446978023154346891943971745404470486444220891216368856839893207134925130066684839780530207303928047843849317979848704)
noncomputable def td1N (u p : Nat) : Nat × Nat := match u with
  | 0 => match p with
    | 0 => (0, 0)
    | 1 => td1Nk0
    | 2 => td1Nk1
    | _ => td1Nk2
  | 1 => match p with
    | 0 => td1Nk1
    | 1 => (0, 0)
    | 2 => td1Nk1
    | _ => td1Nk2
  | 2 => match p with
    | 0 => td1Nk3
    | 1 => td1Nk4
    | 2 => (0, 0)
    | _ => td1Nk1
  | _ => match p with
    | 0 => td1Nk2
    | 1 => td1Nk3
    | 2 => td1Nk2
    | _ => (0, 0)
noncomputable def td2N (u : Nat) : Nat × Nat := match u with
  | 0 => (322, 155995576677759869775757637677687265096071812694416790538689557429150245286488625104990462102521447091549233526827587363193038479560395431532677935297511268824124080023808786770762991821211339446872138228968604819013899841287752949346400063202485327417909326003124826931287130240812782992800826461717523996112709581665790708604778164425859085382670096942539652233208720766478303595220519584069092646004583883217816758091927761340596518266871758331564887200039623766645591091077539694504866147284034492102790672247496193471413961774375207211577773750580501703305689425298416683311600441594323285382674672571233756426495350189514570638089725428705333537379049097931141346133868544)
  | 1 => (366, 81348762071460291517549179562358811198057332013753928774772331562435492664259332080142102488810835503396188655998326964647452026585606752740759067278313268022216405240334780350201515227314404283321606272003497618739878121242859438861048641801334272145872802462383966125625170601857603482513500946644397902335839333891010389617598546282574535127148628555323090247246325805251833539656089151853387740228698344627816240273038218198685902809625230629330150305492697462661803551413245604872934488140698350704629596835366573086602682903750682376728488998531789367337079457256594565637065286884210564238376511031245070162870176866990820109966334337056845133776010237867450932666499346350131616077225267147780573437544729068856775710414400437017873595012351847128672462090338304)
  | 2 => (344, 3562309230170694729995531717709072565744169580008609325680046916928140541561213097249288518462637173683389467837295410465787061047164978263028985140433989044602643100143534424279637722683956835812771255352656184938758969665020452611615017023404297737934005926795701776389723027586321643904596076538194342568362174859809595701231791228760118643389556739658431089513675132928308383750710367170566534873003085244296638583668146190713214110910100856903143755558752828082546572468455854574911495587812772312543129288031252207639168856595969666983595553647577525056421684637790625720702495565073806472727454340906024339760662925088985346543927204210651784800127199517173602113988523255222133163154532841459299303201437931666472960)
  | _ => (278, 299139400814117739413234169408233618197815034004337050045823270284657039212688037121351458218524200228592776844475072318575170107171634228880539122571472387642679234642101440406773321767615272519227304597674569465405974818960522772418557786363118888914472732114377578914754749491424697015174560610547024860105452494308369297301287212052416723817495777168597181366890998563175885090391104429202439742314347918246764350166669449072009346258006204244315459452606773890090824214229328738072184380059907168066987060794025688739237911286506472182637306526065130952114837760892596903160643584)
noncomputable def td3N (u : Nat) : Nat × Nat := match u with
  | 0 => (348, 956250102613879397683148496129029330315219963300642069020488399684066485526019794113049303357070432279510862399329098038339597169520941563027065181358375904391210299683966790559491830360768346459993105398492003060301323882287250453233106164460454862717807431043759588562961965797653617632913535105558759408696320259913553737920637374006365277287083904377743942386227745242139335905257072509707553730797642369071005092041792365066120430313823517840219798685309112950637347157481806922478994055643937504826261788485287125126757153550031509812800691881676049600373264915916207109270571848610799181752517374998689357211039079529196070890294090114337448703866282956363698557556658512079400133932854795837979830424516525542327090912755712)
  | 1 => (392, 498666460517892179026662564264940711478195701490280283579095673439556177787187113540826338248662315028235231715592135037863455298518044945363879013394767398436055991548877279969392370720134722855693193464978714948692925127962459680097728829962520441819881867919355113820728610684268694137693617605254726454345007707668621182933740618683772265695419078951401401662710322188535858844247844105125146042408582855913954550878897566065015504336555687552218962868765044083539087187030639577538135344382721703389231391373470765639562537671717259411953636471926940916474816595456976633984766708783680414678140804893387124485710458533829167551296967981604198198301288509977744056522366867464607777278527491056846798929899828292913706756677513037659285246808754329600524252440271472226773522440499237802432817106451049136279453775757312)
  | 2 => (370, 21836892041687947939406270259155270364141146730561320474193249654437909184132794088215320631615467124245176114242270786705538516622251409100927052875801156759259378709191825977930927115564312101679195191225980970365173719353690559734203318536196788671938771123861373960771623385549086803759153872184101885793454542809955371124221309653980930790384704786333478158900194418537869538131705560236291427619692613479498956760926605183596573138370632249100505210411002017083483902837646171051324719235340674003428136063569072757912758056093064201432416247510655559427410229997974753755694887584128622146119799877638284579148167405608552257144160729481873121833817227765178199018389589752873121726876839904443930328820908206197676695486317942955193854579469884968718470559190540129206272)
  | _ => (304, 1833719191379717115786401940540888122039250147239287288335014744776824334706126027327335743888127316208306680365733107129465427264539456857121664281807412775249640923184752499260985107603436659274422783732720441701119668895642749730487366759906424118474958803127112170382391443877339888394724765331306235130004790226801542865569748852817017435879282719114648722909648941381850618797480478441043969040595052872907443159033017862904552927573984682717312841586826048879583893485503124732424174254188211737392521750958945662642898910039984820734092713159360473167817631033172599508067086997551255707751131543131483349373119619100277622572122112)
noncomputable def td4N (u : Nat) : Nat × Nat := match u with
  | 0 => (396, 557063274441040761017873415240253692792921889808482650875663266986569200837798318403214603102640802561049988654042830109047587835044546898787731901838119701304914547683262491318589973918478623468770030219102827838987788880525821568263588895476192487239941270236118295615452744493055282760968070085490430034056475554913118365438725683054927196925370026726723082785565030817121310717694750470943118196701956834695125089488925485496358190507718467409544308591646978269931594577007912524612591828597154696993300742890172016747701056894728560139482690699491710427603615478468329336137024285797474132883745774957492158530097032776030679707845182725903801903931666131563628071910161684495873212177544606164647684947466938340382250473470607385346960504043745002175848900943255796961986061984522826842551143746769277883309005024486126793064448)
  | 1 => (440, 290498030369559356300158802424990938035371096544133587331830430347145306330496098475446910211978531526385142874235689308414091796728824657292981626677599266538040443603134912866110007668952262959504022768005641139301585464218070245186590497155921184991434220591522848479363325244189282913095596239258863005131752710490645530557228306954601696612251095420656295515514392849355182658526168451459535424034995818791784798120297502081191806237754830658917103919110262919849528742725093640645516527851737209173718546324209822031485248554411202203144555759365046141656245475968057780808398251845963477151538692179992940045943713335388156340197512740563126799386622072305611758202150622627570990132914625870109064555065751531359446362532575957047943652807233211474046165037837355196752426263347047468964135869999060612992134949792715045301821696756407075985826368076893952964013822995413868735505974040552616735392053015214046358601728)
  | 2 => (418, 12721076370195237427312317644954292644357873461886732516580346082021136046316534039793564562349172718443331152894552246788307110494799298367899746552367267730868951916507520735356131889190582947550246927532302018897902891841632970310261968971882947691017864472958294561403884705722990880528995801391265050908268237700632392147900364087708528845789198011157364875689180972602467660110487217474686550641317723660553910082631991421812167975703106638421219264073165419720855886009707188295780946405957394997434583432391343906908931249649003695065733928494631584519881164084368755097059886120447568654852777701316412892999282574215463358633730224038158556938303141562233819561965834085542719651004110391880998063315389344405207691314595915669833718178420227413114980278466167602804815876924300858082842638822688346449233150998733872399689396414049151067445320840063722152648664636522496)
  | _ => (352, 1068232687623385646979314155198353008670005479147248086509350191282025904552585823283188055130774037115600535181884088162973602309796319091597487130409781413656183525183856865707438866109014591883905635713028729566132267737598972380355188206198654528402359521490986150152549712871685104809621040272084020467378355881222839292226550872008422396341609181795840803845514509307162638860303192817241076416112499603139681795850181589406710026415807964864679109195874729764797991121716809833631370126278993934465694297211162864696282024667383914678295447202988693563935207631362076069861393267599365795406585218821601753495937142698461338899033047243507829243130184771419705293413608313951234309147294720834374348308686775878418292633437718846701568)
end Mine
end
section
namespace Mine
/-! certificates, printed by a program of ours (Gen12, mktk.py) -/
noncomputable def tkNk0 : Nat × Nat := (353, 6280496628965331582207406768912239838043959285338489781852352003217009021358023927062793220170086884151102905653535218358716295701821690717196886319125577822671764979776986042217966671427994243391537168860209545637502329176705558672598113162942246716867544600695883148091462587811275208198340356925385636118511207779392266637562333530507298730086492064121528590245058830934341411208979071120778348068210997942372918730927647015408370840695584501009984134912069106566837776564953237701668626111224798147358087197026868667340745848382120631894711549024096098011833517357705726669923863090674539242586298644342978402234953617409241973087594071496640013518220898099128896050277796156210304838201497774185041930329473009459656376039864622517338112)
noncomputable def tkNk1 : Nat × Nat := (188, 12397074130928258409793882323196967653687126853618762816761933982680197402870560192209400202604407649783318341085040223766890081658692094458226536777764987097884875977499939778020894055136739760709444111829330365275260724135803957372921895117256394298523518832840161858237159014504087418227689533570036366325840515469040081884023924687674034338961925720003532408976078988731539309924152644747264)
noncomputable def tkNk2 : Nat × Nat := (338, 154826195498847018262972496348177237745460853822400743566814780292303383891536460371015158127168940120078426600684998380233102119470755115861272782548209284377016068216714746436982288138211628653470801291215904841121975835840651295956000479071479590127139014607578609543655017164434858158489774633212289704640800054528128736588919035070886278084897431980035221324279082842179810229236682546716150808890733326166237807553422094428632955366570974435210100542656471969199927450994148195402272515241681110722113171823725186957975498150974893382815477449479859839005841496225051510819572309764734614972662079892802371292968545287586134637035842620556933878148342288949209478072694207188409502463625266760012672286720)
noncomputable def tkNk3 : Nat × Nat := (344, 685565249193857833116748493213632393713641045643014003790614488935919472270300818602647070534205232676398784769488150292677156925688775754943136473528203833126195699336742200995328968618073166641764667085774129957919724289105030024565646472443050163635018990022894921185536558323005842564932609618230553653177936235538110940852115287674224514309699863920011295609125392447723681593370268075727826821739255986838473614022121271360274536970714670755022747210158630599350034231689118751649306802030123711540468716302593529584646049775751351509849024966175406367525026350706928032840461563983659864745809235618216370399408966140359627235065177860108571703108613943545682892406626071853632606319812240304538649786389567725649920)
noncomputable def tkNk4 : Nat × Nat := (312, 25429028390074122304326813310922928717569915522730431769576392055431976604923220072598557000868169793213784271283033239899042714215738402704186835024274086428479528561057951259068100503456273129731220338931692087969382269742863911107781165742769548117806708387450260813415386574731960733000796424194291411738621585881726674930631726405102627654013979504409337459192688344606563512513525067942468013343501058346144194998519103682981966091328287759514179108068467404952995196495585097763879378812103298212248914849659533864984955057592129512856662583843825930295781566739543342868441720865487155432423439511364158418788587534588227856284193997311957083897856)
noncomputable def tkNk5 : Nat × Nat := (602, 3092514847016418547052806443369075103501456013205890669738962162415418249579897049404535821982748078411712423227377994222835200104019621446336361238729846242778064382212673752983248612898290370821336297335939402043510063747182312179212022014785877192583736414047647758734856447467451983207271745420062274887771765682031332508090385954721070304286317092515897169508782390077739233037163541947852971703796370444300785993900856461016025461882829486470160712493963045384458263301176744872751843190783381646200023450224045627440883686847011288535042767643979468097317036954968908158781434928076291424680688701343272173559549325738295984486261176509947641773978879881467262561144257596953280918682296732473304496172718581254503413919322580032906932206191035817109185865657527573412938312097128280977638114957393883954458941137813686736283248068432564722659049944939967301115647297564291865409767972984213402443585247203245936050704596680598133387173929910738470849075260117488068706164325657292523887171444260135193815866741066773620305526484458413741718964644438535127418902699266432950380835859370088213380368100644957773343690713984333339285927737181113301852632209225323230835184126923335425549937581404958008795528845407909585144882035639516725916823086383749849432064)
noncomputable def tkNk6 : Nat × Nat := (710, 1172164367847057827617810476434169859982710354536289534140148233560573069011917504752152562546078407800850917338228032936085817114756952228240595869040225580879427366985532454819114421742662723464186505043721568209337720529624723953890930455026242719602203453041349668285954345707613423981900877462599494270171188519719433574882334082945229113832154390934261759784237741649755492144029595506369948037146837286433262613927293489391251439421507178050848050113485202342766767408680190291841097620665311504728308849035615749462740052175724350890780060777796058238583662052434849896954913092453201245830834775651634898816922286275735663111844499965262523079825243791068992569552483115304337291963543530694078083730653624195579864764211262111577754383898267122650334876031813169816287366525003235472843337786479975426439326383129850406145070496347656087575507336434672697314427379050535141185517067073796784786487163135716933740101248860940051691591812524042837994684814316759857425298585836900541155601555515309481518774861652135201450375890380099669177511814237884753476147261904355331297005776584202173374594430320493808913351846937819024641978620473444161855225087688733474292018804630438962999048914823654357554330162928219539551018534085257218626101606444737151949981176989212838294883185516408685186175371710546320179379163262856822678897675690408206421124535096646861642848046027926056324666814576965540662912825024890181267110138582204134265769039327701491069131595158431296317454550973825024)
noncomputable def tkNk7 : Nat × Nat := (503, 75253169847110140157326998078655377182799658890027549260225121203740758956336177757745699144669170461124539877818021856678765849569909948310428427812664917662385115710904349413880494132007354363918954044363360051252158232961796377447830485331484612068159210538654426028093435651073209561480005257430757544857584456583734153442971590377497002305056372771205450113774182747585372596108646129918682033826899848876130078983517394143356900229268683161237503316649705214234042201760791378680333279531484878770923335466443749741917747173336057158141810289525153666982398555141972333867846285615626502269600426443715424002982804204763343548059811748976076279249332103744124549585291914344015367279625036914468968354220262931279969298979717377692064572925619480068055693537903938693563631181839273375446122413300377928457560722606067821499099520772990732577216994413632453709857988375816128124165483864619337892607069536156089154408220731570153701720418707421730087525935471687602184966758510888962572017949718992115797396860391464244270609763074406819828545953480704)
noncomputable def tkNk8 : Nat × Nat := (381, 639355459582233916089913152017010519036522085911372476859713795973447631668682865549292502807250697498435980715424647258730488977420685407006880614448713244141242138220084536108735005790301682873493315687463942397558526014778018843230383744474105328753632619322965384210613527763836015057695656300650320189976738789647401671937134150891281380050048303855293124985823134804483291234827720124035323424726189569566763398334887999008221646923227777752146134435413780413305723136943844776341230606606536162487866014686336755205221203396225365744020415829859507856270167083132447419211923229278891904219120353300398986754712621594254721432576417644515427590062221896642686909936532073406282094847890296604113824422965936030737471730370567446718953722728299383193635965178404967150562847939442112330310107136)
noncomputable def tkNk9 : Nat × Nat := (216, 1262620468073656083150771116683081124422704891617404457516541840710655732784134991577545317254408402297272592896160532946988349023725868002009264348103499884717007513113504658646455582294593633089469352201744985402871481005692547911208094476919846316425187660296760551902121645766741825146316099823742626467766559552855828517689344685899202607926621948692565395747048877679490860604195089620422481883541052255177017943706407795677731726263317168079781888)
noncomputable def tkNk10 : Nat × Nat := (366, 15761328956376158543453060008696916595764369798599623378543962269952393222879657739620166792806593931962514526239479488135989815297071082305064143375209535927557442187814546061065449276108675750632535782636462827445081183895670534927534910207542889646504260847320888246367750603772290133529423236341804684039555074911927169388450901187832554951723494278390852676288202599881422390586680550687851507161081036290229851337256949302931633056410267571947158348708652560988299693021898902299116536321754159058002889735945739928116256394586578323003459715993474572546034734089018253360814263903285774604019310363756415321202565681941702902482547688598827283734688678868431336688597822354070609773376565472732902642803059028397665461341792890908132210020684338397798661495996416)
noncomputable def tkNk11 : Nat × Nat := (277, 461916313135710521131621325788727320547620586856495077910681026403264504913438878049898539649542493053858217340312172170282542747036802412114142819392645009138923906190843066079177218332871905122067363879119517467275110652225800107649751672108837126180277776713243934675682747328206889981044614392548488310615869354751290904673869447740088445704422890163110990468490505852049053013870563838782827861343298423586207577606887226310434315414352806676084269963269335114370206024904253802228279299578112391067212897289824044147510157555694081924027414802196113546015646428354744577703936)
noncomputable def tkNk12 : Nat × Nat := (493, 67234807321200726422329652891296629428707741875434841654027350183285871831603430611309847805656548521440648432563567313160702094743253780529091639047418584783816679118266940981996602303766194297074223260554574534475817516821932099632110390710672534103006986729533137547485576709854455203750658321414577067586585354101949952475363686415552307138593767997563475114955279185189341068765718111122079338565222686265156906940998019001162123615186778605424462046694053210139599957054309061599016047490811544665615376308279994839925419458237314394545910564117840651480574619433388551547098127116184919027006978538849226960877166707792865209514329387313586188981920267000056866572511564877331650667469722803612170539968242831231226182218323116585378334743328639146327613538974138492912754351928983687998978166791134869912806027623763493101131059425308526473234051662936346720882036081620465288443889619938878208507922654576226272913812752028720441631222249306914087127261168443287923965331645289627701249494470773062055461441691733400611903782912)
noncomputable def tkNk13 : Nat × Nat := (531, 7972105020610800408845577773692616442937160876662916659883552217179266855266906255994697533131042027475889586535339443003923709305099408210107540775025550302400507297954623722491187998865145863161500949255239256816969682980920741598005598096397039867409035583148826762440363516635631276937995754502076397704646678983734405133010196410222145712204189737537204006349518652175295557650365338141151340553084859996359850295462133297468273549926177859741361725555149925227345122318383557337993502102077954220934937984293402198476706775937062691622140700657874469179773719833588494660604718976307433474416677100965221191925762504110368183208000154917831647982017172383707177984883438051622980727529965879397937299374503306178313650135672486736520191140393322567025350370077916168831943665820310604114000303918338842539154651659726267516685632641521391316492047392292500784825343121998125022255068511780678173039282964827077841399025721538808492662999883118850711027472564953553096583910458567139620379941212803344638396731876653622535425148267370402771484433452321818470088281717028253941044010169976022187873837391240249344)
noncomputable def tkNk14 : Nat × Nat := (681, 99299154209516026261515023484318331687212871388630231668611282893508971160830833583752442492322885765648349144699768611638606641704972071907948166452202611337547633305025703313615931635551127006126908125745520100873700182156482394108700109584786194209795487920942744934682396618382625887087692608565151003541799340698923254489307139898727258356681582154846844698875805222963467625989226662296610621250710871724949228117532387125161670595640699154469346066503128760120727208201427134593019108048236492211258672295502896392602707193532906264362495179093236388150616426313311422091715448636212576153601260971977943982630778522640613354828416921342751463187759314915336163186904366001027155791847904330811747055843323665859472227152045566899490891702830339759687941837965297444451649217620852982752133361812229982229764092604176344228655756752058983398549654344524675133769386556415616586625463858763222608457200097008996847465086201252947215955683952801930182127941273966881987969175597360096967561763627662247923858360848576725611736724422875983794430439924197384227574247503917745148084716194624497965801857144716773666354744314335150996003250942471907570856642122130983712233811913899898562887252284737566488603116371576828224860510925499938998479527386703157841351692240781996249398986787997031956119055020205076597582619549633483021394458879414284942939261150689088835541070136558380332551635568249361067005527505848516979609059328)
noncomputable def tkNk15 : Nat × Nat := (791, 620533455842160160914638435877300728467895913357453196040557419398612592255363381419601040456212021916964755878937662184844172451998336706018376862589204007321189398744683970660860492870089995532716848960456302261363900246111020704848179806362263310602118744271516022903529156182137454286227718347927747248345002264859607693684413604638288386249747283641826481309422082336836141729672482673286366958533168290021122305860485370347251388933941124570398793910049454478792797411029759846649424134232399392850613971278278847601650196454187258746674959999212969885138198321223510750885818430296194650174738155661023558453777742790286934453537921889916301112151558627644015417080917953899113104951238605680130626984949866068243298907854045841576067659082706951461631889790699772956688547137973563388059395041009058825389616600483843374319124509844207685520863608107994914780766447237468883173567155445532017902466143171301097589926936949040464915778367299325771798950305939158449530116122107949673880378178650802915759009980039445911166608463967727912010635050950575306803444554009132948440186207955483134472845676103419886804427434113076741109448198650076207651475764047643102329617604670399415470601226674147669306387610586180115272042102312695895978194562115362756348731634914481218129403343618870106960773093879584719402300910789157366987097410025786978953887514160969828331060798483237764112258687933811079552604894739327485882520003420097341371427554799910322008493581952312593218984408422539581315005032182870211773937464286450526279522286408753854630237019573169017190048339804153453767818939864649644227600141847795112079513232177681337628032564324977553289789440)
noncomputable def tkNk16 : Nat × Nat := (458, 1181451217156516519171014501836198204555180720013802836067143582058832354663752230917012457009017076252322588141459816273827351783313031290905658076368139974294184158477186725112939305602001841878829070284417540171224602074619669768821651468385563229426073191424181918108225253926975298517850174123923163738482544402013880111884970355782693531241925243829135171731545001866331975581965098571873082635512129621118199023560336465057624053602253120907704729381823887433370024556454620893212592338740539129320997547983312115812881100300383375716753186960503207417654309923231190409740586748893414795733838185059793129583480023784769192159321705023971310134803737914880983953059990573109819409730716958495531371300912719283292723665177181311955808744390387538023516150394680757760887044399804171465113550629883055726480341808811731836756252459071859134022736094198190264382177814698421529221221622799414148632283276617231989512239305508733827334477615465391241929179136)
noncomputable def tkNN (n u : Nat) : Nat × Nat := match n with
  | 0 => match u with
    | 0 => tkNk0
    | 1 => tkNk1
    | 2 => tkNk1
    | _ => tkNk2
  | 1 => match u with
    | 0 => tkNk3
    | 1 => tkNk3
    | 2 => tkNk3
    | _ => tkNk4
  | 2 => match u with
    | 0 => tkNk5
    | 1 => tkNk5
    | 2 => tkNk6
    | _ => tkNk7
  | 3 => match u with
    | 0 => tkNk8
    | 1 => tkNk8
    | 2 => tkNk9
    | _ => tkNk10
  | 4 => match u with
    | 0 => tkNk11
    | 1 => tkNk11
    | 2 => tkNk12
    | _ => tkNk11
  | _ => match u with
    | 0 => tkNk13
    | 1 => tkNk14
    | 2 => tkNk15
    | _ => tkNk16
noncomputable def tr0N : Nat × Nat := (206, 950701078354209970656419308703294235394840198049417072792610247691889312908970530426320960073645714055237112258346350897868646965473276871660082904156865497940398967446312971118283927851591786488773960689320466820208567818435744076995218236822239872026662121165472333496951143960599629922535553211925372749604737984839512442836022663951161626199796031743315454911546296878110497360549089959552197965264154422718238202281677138444288)
noncomputable def tr1N : Nat × Nat := (187, 87308105228596151544012542102777392101628032637342825958932824282252269454473115293990081431761711877820057894904573440250197814863752643566788365176722234945835419395967603925732803215522580475357919230845301313116518271603693300940567675496099965442130315280298179250431266655527332514687916187811301154442758762887755663241744243369846101249864655835479473564322656069518668103564625199104)
noncomputable def tr4N : Nat × Nat := (362, 50442807667741731416529843576884732471088960270310683016761744212717487849377563099695420359586065272167796730970555560065042492056723671080564640208936740832108340685357296519429843008598463739239001077856158078005837869515395700551204701096980487191998315923106728663988026498395849995575089949827376055168457187311725415510943603842225689488272954953392779380201381277856808827865818226822199947557800721580155646689408312663029189853341053679195852126647983527596011023474108559760908090440211826868294303798623112589675284524004931735475908973356881928211420017989095926304117417768111632484966199248070907234924607062363741579116036311950303294080623487560913817572452024741038957105928311792992660670972477732959366411451447814303468901566482417753014272)
noncomputable def tr5N : Nat × Nat := (247, 236402868572694929711294078042850936888587574096973192202901182736703846308756816163147312005243079371316865569380019819928231078733307065536862479611084097924902639618226229579461872844628838957407756638129667009555735039477782351405892974814472242901247658159706085067933085792388226989681349621360123356683098464054736148411807376058024543363712364616596041599401459410763527519738335282451838730341022550673044275693582627884183458545691873554879770732913999870606428578926946993219608137178488616926752808017870848)
noncomputable def tt0N : Nat × Nat × Nat := (315, 92248789032169054520441619034586861856232439026090072800651601024198175979828160481398102513594981073385042836086722911069990007838646646921604310605705359272347874951007526914776368434031812142082354878368246492896288826071676918460739534860251906088507800242724867269584510848530954759769575396191063253143038246131616488501344218676539690195142606716587091848453203344794027275153414232620099856763185240642963768512952828440715758401811793233599586947760234633600476238856067811702685635415680239117917498924178115825797226321352197180070267317199239228862577108195351883709824065918338419906344995836611144259001277839874770777020217490652245324571288305664, 92248789032169054520441619034586861856232439026105852588772358351981728165711300106378788110601678087072606481315006434087015345188840592923324483195397116089204270468338639980767819079097773153989800329110742038485791265569601819706046982178023418607250020735047519720093602526344352266770784463803651947406727848203338937667135754715898846640027338350142714081553627340116627360498416463818760098967934421335384572057548056073874186289580474187146548430536574283853631442643957631601270423454939857093129064955050735789034931501882059046147870502487168204732038386483948562063512053534654594303996088285607043739193284482767992690401541781762380018717313499136)
noncomputable def tt1N : Nat × Nat × Nat := (312, 43987650409779097805233773724835806778064937127111146007503059891460830147041951528317446199204825873975592119558821569904250137203923688369409215482499512849430800364980826909055909586681101383701807005567920557571606744785403234108168311435932363528523258114454473207121976137590000780458572795195607900953874276548121919745660668744439689223137317766001156921929688955147133783669532114063063821479898204961987032674036756262260887321171735645480249074257934426501923289876016380596733793065935867606626798322447238032818690681488452287259972705158072820150386794580365601167260748727996585891845709565645572581581432257767196901281339261496434161123328, 43987650409779097805233773724835806778064937127118670396827609245910842442709189584967934860497234346841442398998882911674911175292814691978933070973037040323288868601012889947877821706101134367437580783883700980540233930367528373938427371016626329687744058748992481158147505845409652149077160798169445130808310007516464914991494798096703691281588365488605728375548894427770291325585903569827195482992630320084029118104465846587215124251908602097481325525929696726160295789240816747903721931283508851336567005818552727746124023428246847418408121807029529431721441862734031467234044647852292857405618241289142915397072158081595523085259097807901336950308864)
end Mine
end
section
open PySem PySem.W
namespace Mine
open Builtin Builtin.Str
section
variable {B : Addr → Option Obj} {prog : Program} {w : World} {L : Nat}
theorem add_ok {a b c : Str} (ha : a.length ≠ 0) (hb : b.length ≠ 0) (hc : cat a b = c) (hl : a.length + b.length ≤ 1000) : VOk B prog w L (hdB addN) [.str a 0, .str b 0] (.str c 0) :=
  vM_ok (id := "str.__add__") cd_add F.slot_str_add.plain F.entry_str_add (fun θ => (gives_str_add a b (θ 0) (θ 1)).meets) fun θ A R s hR => by
    have h1 : (a.length == 0) = false := beq_eq_false_iff_ne.mpr ha
    have h2 : (b.length == 0) = false := beq_eq_false_iff_ne.mpr hb
    show (if a.length == 0 then Made.val (.str b (θ 1)) else if b.length == 0 then Made.val (.str a (θ 0)) else Made.str (a ++ b)).post _ s
    rw [h1, h2]
    simp only [Bool.false_eq_true, if_false]
    rw [← cat_eq, hc]
    refine ⟨?_, hR s.toks _ rfl (Nat.le_succ _) rfl rfl rfl⟩
    rw [← hc, cat_len]
    exact Nat.le_trans hl (by decide)
theorem ne_ok {a b : Str} {r : Bool} (h : (a.cps.toList != b.cps.toList) = r) : VOk B prog w L (hdB strNeN) [.str a 0, .str b 0] (.bool r) :=
  vM_ok (id := "str.__ne__") (by decide +kernel) F.slot_str_ne.plain F.entry_str_ne (fun θ => (gives_str_ne a b (θ 0) (θ 1)).meets) fun θ A R s hR => by
    rw [h]
    exact hR 0 s rfl (Nat.le_refl _) rfl rfl rfl
theorem xF_ok {hd : HdF} {args : Addr → List Value} {cls : Value} {xs : List Value} {Lc : List Value} {θ' : Nat → Nat} {res : Value} (hL : Lc = toksL xs θ') (h : SOk B prog w L hd args cls xs res) : FactOk B prog w L (xF hd args cls Lc res) where
  sp := fun G hG q c A₀ τ₀ T m i Γ p s R hm0 hc hΓ hk D h1 h2 => by
    obtain ⟨o, ho, he⟩ := h1 A₀ τ₀ (fun _ _ => rfl) (agr.refl _ _) hm0
    unfold xF at ho
    cases hh : hd c with
    | none => rw [hh] at ho; cases ho
    | some as =>
     cases hm : Nat.ble (q + 1) m with
     | false => rw [hh, hm] at ho; cases ho
     | true =>
      cases hT : T.get q with
      | none => rw [hh, hm, hT] at ho; cases ho
      | some ob =>
        rw [hh, hm, hT] at ho
        dsimp only at ho
        split at ho
        · rename_i cl ys ep
          cases ho
          obtain ⟨θ, hθ⟩ := strkAll_inv' (VV.l.inj (he _ (.head _)))
          have hθ' : ys.toList = toksL xs θ' := (VV.l.inj (he _ (.tail _ (.head _)))).trans hL
          have hcl : cl = cls := VV.v.inj (he _ (.tail _ (.tail _ (.head _))))
          subst hcl
          have hob : (⟨cl, none, .seq ys ep, #[]⟩ : Obj) = seqO cl (toksL xs θ') ep := by rw [← hθ']; rfl
          have hT' : T.get q = some (seqO cl (toksL xs θ') ep) := hT.trans (congrArg some hob)
          have hq := (D.own q _ hT').1
          have D₁ := D.sub (fun _ => q) 1 (one (seqO cl (toksL xs θ') ep)) (fun _ _ => hq) (fun i j hi hj _ => by omega) (fun k o' e => by
            obtain ⟨e1, e2⟩ := one_get _ _ _ e
            subst e1; subst e2
            exact ⟨Nat.lt_succ_self _, fun _ => hT'⟩)
          have hh' := hh
          rw [hθ] at hh'
          refine h.ok (G.out A₀ m) (hG.out A₀ m) c θ θ' ep (fun _ => A₀ q) Γ p s R (fun _ => hm0 q) hh' hc hΓ D₁ fun t s' A₂ T₂ m₂ hA2 hT2 D₂ I₂ => ?_
          obtain ⟨D', I'⟩ := D.back (T' := T) (A' := A₀) (m' := m) (js := fun _ => q) (r := id) hG.tab D₂ I₂ (fun k hk => ⟨hq, (Nat.lt_one_iff.mp hk) ▸ hA2⟩) (Nat.le_refl _) (fun _ _ => rfl) (fun j h1 h2 => absurd h2 (Nat.not_lt.mpr h1)) (fun i j h1 _ h2 => absurd h2 (Nat.not_lt.mpr h1))
            fun j o e => ⟨(D.own j o e).1, fun hf => by
              by_cases hj : q = j
              · subst hj
                rw [hT'] at e
                cases e
                exact .inr (.inl ⟨0, Nat.lt_succ_self _, rfl, hT2⟩)
              · exact .inl ⟨(D.own j o e).1, fun _ _ => hj, e⟩⟩
          refine h2 A₀ (fun j => if j = 2 * i.2 + 1 then t else τ₀ j) s' ⟨.ok (.ret (tokd res t)), T, m, (i.1, i.2 + 1), [(.l (strkAll as), .l (args (A₀ q))), (.l ys.toList, .l Lc), (.v cl, .v cl)]⟩ (fun _ _ => rfl) (agr_odd i τ₀ t) hm0 ?_ ⟨Nat.le_refl _, Nat.le_succ _⟩ (hk.odd I'.toks) D' I'
          unfold xF
          rw [hh, hm, hT]
          dsimp only
          simp only [if_true]
        · cases ho
  spx := fun q c A τ A' τ' T m i o hTI ho hA hτ => by
    unfold xF at ho ⊢
    cases hh : hd c with
    | none => rw [hh] at ho; cases ho
    | some as =>
     cases hm : Nat.ble (q + 1) m with
     | false => rw [hh, hm] at ho; cases ho
     | true =>
      cases hT : T.get q with
      | none => rw [hh, hm, hT] at ho; cases ho
      | some ob =>
        rw [hh, hm, hT] at ho
        dsimp only at ho ⊢
        split at ho
        · cases ho
          rw [hτ.2 i.2 (Nat.lt_succ_self _), hA q (ble_true hm)]
        · cases ho
end

/-- the leaves of _law_told -/
structure LvC (kt : Params → X.KT) : Prop where
  td0 : ∀ k u p, u < 4 → p < 4 → tdL kt 0 k 2 u p 17 16 800 (td0N u p).1 (td0N u p).2
  td1 : ∀ k w u p, u < 4 → p < 4 → u ≠ p → tdL kt 1 k w u p 17 16 800 (td1N u p).1 (td1N u p).2
  td2 : ∀ k w u, u < 4 → tdL kt 2 k w u u 19 18 800 (td2N u).1 (td2N u).2
  td3 : ∀ k w u, u < 4 → tdL kt 3 k w u u 21 20 800 (td3N u).1 (td3N u).2
  td4 : ∀ k w u, u < 4 → tdL kt 4 k w u u 26 25 800 (td4N u).1 (td4N u).2

theorem len_nm (k : Nat) : (nmS k).length = 13 := by
  match k with
  | 0 => rfl
  | 1 => rfl
  | _ + 2 => rfl
theorem len_wd (k : Nat) : 1 ≤ (wdS k).length ∧ (wdS k).length ≤ 6 := by
  match k with
  | 0 => exact ⟨by decide, by decide⟩
  | 1 => exact ⟨by decide, by decide⟩
  | _ + 2 => exact ⟨by show 1 ≤ 6; decide, by show 6 ≤ 6; decide⟩
theorem len_us (k : Nat) : 1 ≤ (usS k).length ∧ (usS k).length ≤ 4 := by
  match k with
  | 0 => exact ⟨by decide, by decide⟩
  | 1 => exact ⟨by decide, by decide⟩
  | 2 => exact ⟨by decide, by decide⟩
  | _ + 3 => exact ⟨by show 1 ≤ 2; decide, by show 2 ≤ 4; decide⟩
theorem len_tx (u p : Nat) (hu : u < 4) (hp : p < 4) : 1 ≤ (txS u p).length ∧ (txS u p).length ≤ 12 := by
  revert p hp
  revert u hu
  refine four ?_ ?_ ?_ ?_ <;> (refine four ?_ ?_ ?_ ?_ <;> exact ⟨by decide, by decide⟩)
theorem ne_w (w : Nat) (h : w = 0 ∨ w = 1) : ((wdS w).cps.toList != (wdS 2).cps.toList) = true := by
  rcases h with rfl | rfl <;> decide
section
variable {kt : Params → X.KT} {w : World}
theorem lb_cat {a b : Str} {l h l' h' : Nat} (ha : l ≤ a.length ∧ a.length ≤ h) (hb : l' ≤ b.length ∧ b.length ≤ h') : l + l' ≤ (cat a b).length ∧ (cat a b).length ≤ h + h' := by
  rw [cat_len]
  exact ⟨Nat.add_le_add ha.1 hb.1, Nat.add_le_add ha.2 hb.2⟩
theorem add_lb {a b c : Str} {l h l' h' L : Nat} (ha : l ≤ a.length ∧ a.length ≤ h) (hb : l' ≤ b.length ∧ b.length ≤ h') (hc : cat a b = c) (h1 : Nat.blt 0 l = true) (h2 : Nat.blt 0 l' = true) (h3 : Nat.ble (h + h') 1000 = true) :
    FactOk (BB kt w.params) progD w L (aF a b c) :=
  vF_ok (add_ok (fun e => Nat.not_lt_zero 0 (Nat.lt_of_lt_of_le (Nat.le_of_ble_eq_true h1) (e ▸ ha.1))) (fun e => Nat.not_lt_zero 0 (Nat.lt_of_lt_of_le (Nat.le_of_ble_eq_true h2) (e ▸ hb.1))) hc
    (Nat.le_trans (Nat.add_le_add ha.2 hb.2) (Nat.le_of_ble_eq_true h3)))
theorem tdF_ok (V : LvB kt) {cls k w' u p L : Nat} {L0 L1 : List Value} (hL : L ≤ 562) (hu : u < 4) (hp : p < 4)
    (hM : FactOk (BB kt w.params) progD w L (tdM cls u L0)) (hN : FactOk (BB kt w.params) progD w L (tdN cls u L1)) (hW : FactOk (BB kt w.params) progD w L (tdW cls w'))
    (h5 : cls = 4 ∨ (td5 cls k w' u p = td5 0 k w' u p ∧ td6 cls k w' u p = td6 0 k w' u p ∧ td7 cls k w' u p = noF)) :
    ∀ F ∈ tdF cls k w' u p L0 L1, FactOk (BB kt w.params) progD w L F := by
  have a0 : 13 ≤ (nmS k).length ∧ (nmS k).length ≤ 13 := by rw [len_nm k]; exact ⟨Nat.le_refl _, Nat.le_refl _⟩
  have a1 : 2 ≤ csS.length ∧ csS.length ≤ 2 := ⟨Nat.le_refl _, Nat.le_refl _⟩
  have a2 := len_wd w'
  have a3 : 1 ≤ spS.length ∧ spS.length ≤ 1 := ⟨Nat.le_refl _, Nat.le_refl _⟩
  have a4 := len_tx u p hu hp
  have a5 : 2 ≤ nlS.length ∧ nlS.length ≤ 2 := ⟨Nat.le_refl _, Nat.le_refl _⟩
  have a6 : 8 ≤ xuS.length ∧ xuS.length ≤ 8 := ⟨Nat.le_refl _, Nat.le_refl _⟩
  have a7 : 61 ≤ wwwS.length ∧ wwwS.length ≤ 61 := ⟨Nat.le_refl _, Nat.le_refl _⟩
  have a8 := len_us u
  have a9 : 4 ≤ endS.length ∧ endS.length ≤ 4 := ⟨Nat.le_refl _, Nat.le_refl _⟩
  have r1 := lb_cat a0 a1
  have r2 := lb_cat r1 a2
  have r3 := lb_cat r2 a3
  have r4 := lb_cat r3 a4
  have r5 := lb_cat r4 a5
  have r6 := lb_cat r5 a6
  have e1 : cat (r6S 0 k w' u p) endS = noS k w' u p := by
    show cat (cat (cat (cat (cat (cat (cat (nmS k) csS) (wdS w')) spS) (txS u p)) nlS) wwwS) endS = cat (cat (nmS k) (cat csS (cat (wdS w') (cat spS (txS u p))))) (cat nlS (cat wwwS endS))
    simp only [cat_assoc]
  have e2 : cat (r7S 4 k w' u p) endS = okS k w' u p := by
    show cat (cat (cat (cat (cat (cat (cat (cat (nmS k) csS) (wdS w')) spS) (txS u p)) nlS) xuS) (usS u)) endS = cat (cat (nmS k) (cat csS (cat (wdS w') (cat spS (txS u p))))) (cat nlS (cat xuS (cat (usS u) endS)))
    simp only [cat_assoc]
  have five : FactOk (BB kt w.params) progD w L (td5 cls k w' u p) ∧ FactOk (BB kt w.params) progD w L (td6 cls k w' u p) ∧ FactOk (BB kt w.params) progD w L (td7 cls k w' u p) := by
    rcases h5 with rfl | ⟨q1, q2, q3⟩
    · exact ⟨add_lb r5 a6 rfl rfl rfl rfl, add_lb r6 a8 rfl rfl rfl rfl, add_lb (lb_cat r6 a8) a9 e2 rfl rfl rfl⟩
    · rw [q1, q2, q3]
      exact ⟨add_lb r5 a7 rfl rfl rfl rfl, add_lb (lb_cat r5 a7) a9 e1 rfl rfl rfl, noF_ok⟩
  exact all_cons (add_lb a0 a1 rfl rfl rfl rfl) (all_cons (add_lb r1 a2 rfl rfl rfl rfl) (all_cons (add_lb r2 a3 rfl rfl rfl rfl) (all_cons (add_lb r3 a4 rfl rfl rfl rfl) (all_cons (add_lb r4 a5 rfl rfl rfl rfl)
    (all_cons five.1 (all_cons five.2.1 (all_cons five.2.2 (all_cons (sF_ok (bi_ok V (Nat.le_trans hL (by decide)) hu hp)) (all_cons hM (all_cons hN (all_cons hW all_nil)))))))))))
end
end Mine
end
section
open PySem PySem.W
namespace Mine
theorem three_get {o0 o1 o2 : Obj} {k : Nat} {o : Obj} (h : (three o0 o1 o2).get k = some o) : (k = 0 ∧ o = o0) ∨ (k = 1 ∧ o = o1) ∨ (k = 2 ∧ o = o2) := by
  unfold three at h
  rw [BT.get_ins o2 _ 2 (by rfl)] at h
  by_cases q2 : k = 2
  · rw [if_pos q2] at h; exact .inr (.inr ⟨q2, (Option.some.inj h).symm⟩)
  · rw [if_neg q2, BT.get_ins o1 _ 1 (by rfl)] at h
    by_cases q1 : k = 1
    · rw [if_pos q1] at h; exact .inr (.inl ⟨q1, (Option.some.inj h).symm⟩)
    · rw [if_neg q1, BT.get_ins o0 _ 0 (by rfl)] at h
      by_cases q0 : k = 0
      · rw [if_pos q0] at h; exact .inl ⟨q0, (Option.some.inj h).symm⟩
      · rw [if_neg q0] at h; cases h
structure TdOk (B : Addr → Option Obj) (prog : Program) (w : World) (L : Nat) (rq L0 L1 : List Value) (S : Str) (xs : List Value) : Prop where
  ok : ∀ (G : Lg), G.Fit → ∀ (A₀ θ₁ : Nat → Nat) (e0 e1 e2 : Nat) (Γ : Ctx) (p : Pos) (s : Shared) (R : Result → Shared → Prop), (∀ j, G.M ≤ A₀ j) → Γ.code = .call (.ref 353) ⟨[.ref (A₀ 0), .ref (A₀ 1), .ref (A₀ 2)], []⟩ → CtxOk L 0 Γ →
    Rep B G A₀ (three (seqO tupV (toksL rq θ₁) e0) (lstO L0 e1) (lstO L1 e2)) 3 s →
    (∀ r1 r2 θ₃ θ₄ s' A₂ T₂ m₂, r1 ≠ r2 → 3 ≤ r1 → 3 ≤ r2 → (∀ k, k < 3 → A₂ k = A₀ k) → (∀ j, G.M ≤ A₂ j) → T₂.get 0 = some (seqO tupV (toksL rq θ₁) e0) → T₂.get 1 = some (lstO L0 e1) → T₂.get 2 = some (lstO L1 e2) →
      T₂.get r1 = some (seqO tupV (toksL [.str S 0, .ref (A₂ r2)] θ₃) 0) → T₂.get r2 = some (seqO lisV (toksL xs θ₄) 0) → Rep B G A₂ T₂ m₂ s' → Inv s 3 A₂ m₂ s' → R (.ok (.ret (.ref (A₂ r1)))) s') → wpCode (model prog w) Γ R p s
noncomputable def ne3 (j0 j1 j2 : Nat) : Bool := match Nat.beq j0 j1 with
  | true => false
  | false => match Nat.beq j0 j2 with
    | true => false
    | false => match Nat.beq j1 j2 with
      | true => false
      | false => true
theorem ne3_is {j0 j1 j2 : Nat} (h : ne3 j0 j1 j2 = true) : j0 ≠ j1 ∧ j0 ≠ j2 ∧ j1 ≠ j2 := by
  unfold ne3 at h
  refine ⟨fun e => ?_, fun e => ?_, fun e => ?_⟩
  · subst e; rw [Nat.beq_refl] at h; cases h
  · subst e; rw [Nat.beq_refl] at h; split at h <;> cases h
  · subst e
    rw [Nat.beq_refl] at h
    repeat' split at h
    all_goals first | (cases h; done) | (rename_i h'; cases h')
noncomputable def lt3 (j0 j1 j2 m : Nat) : Bool := match Nat.ble (j0 + 1) m with
  | false => false
  | true => match Nat.ble (j1 + 1) m with
    | false => false
    | true => Nat.ble (j2 + 1) m
theorem lt3_is {j0 j1 j2 m : Nat} (h : lt3 j0 j1 j2 m = true) : j0 < m ∧ j1 < m ∧ j2 < m := by
  unfold lt3 at h
  split at h
  · cases h
  · rename_i h0
    split at h
    · cases h
    · rename_i h1
      exact ⟨ble_true h0, ble_true h1, ble_true h⟩
/-- three own sequences -/
noncomputable def sq (o : Option Obj) : Option (Value × List Value × Nat) := match o with
  | some ⟨cl, none, .seq ys e, ⟨[]⟩⟩ => some (cl, ys.toList, e)
  | _ => none
theorem sq_is {o : Option Obj} {cl : Value} {l : List Value} {e : Nat} (h : sq o = some (cl, l, e)) : o = some ⟨cl, none, .seq ⟨l⟩ e, #[]⟩ := by
  unfold sq at h
  split at h
  · cases h; rfl
  · cases h
noncomputable def tF (rq L0 L1 : List Value) (S : Str) (xs : List Value) (j0 j1 j2 : Nat) : FactF := fun _ c A τ T m i => match hdP 353 c with
  | some as => match ne3 j0 j1 j2 with
    | false => none
    | true => match lt3 j0 j1 j2 m with
      | false => none
      | true => match sq (T.get j0) with
        | none => none
        | some x0 => match sq (T.get j1) with
          | none => none
          | some x1 => match sq (T.get j2) with
            | none => none
            | some x2 => match insL T m (pairO A τ m i.2 S xs) with
              | none => none
              | some T' => some ⟨.ok (.ret (.ref (A m))), T', m + 2, (i.1, i.2 + 3), [(.l as, .l [.ref (A j0), .ref (A j1), .ref (A j2)]), (.v x0.1, .v tupV), (.l (strkAll x0.2.1), .l rq), (.v x1.1, .v lisV), (.l x1.2.1, .l L0), (.v x2.1, .v lisV), (.l x2.2.1, .l L1)]⟩
  | none => none
section
variable {B : Addr → Option Obj} {prog : Program} {w : World} {L : Nat}
theorem tF_ok {rq L0 L1 : List Value} {S : Str} {xs : List Value} {j0 j1 j2 : Nat} (hx : xs.length ≤ 2) (h : TdOk B prog w L rq L0 L1 S xs) : FactOk B prog w L (tF rq L0 L1 S xs j0 j1 j2) where
  sp := fun G hG q c A₀ τ₀ T m i Γ p s R hm0 hc hΓ hk D h1 h2 => by
    obtain ⟨o, ho, he⟩ := h1 A₀ τ₀ (fun _ _ => rfl) (agr.refl _ _) hm0
    unfold tF at ho
    cases hh : hdP 353 c with
    | none => rw [hh] at ho; cases ho
    | some as =>
    rw [hh] at ho
    dsimp only at ho
    cases hn : ne3 j0 j1 j2 with
    | false => rw [hn] at ho; cases ho
    | true =>
    rw [hn] at ho
    cases hl : lt3 j0 j1 j2 m with
    | false => rw [hl] at ho; cases ho
    | true =>
    rw [hl] at ho
    dsimp only at ho
    cases g0 : sq (T.get j0) with
    | none => rw [g0] at ho; cases ho
    | some x0 =>
    cases g1 : sq (T.get j1) with
    | none => rw [g0, g1] at ho; cases ho
    | some x1 =>
    cases g2 : sq (T.get j2) with
    | none => rw [g0, g1, g2] at ho; cases ho
    | some x2 =>
    rw [g0, g1, g2] at ho
    dsimp only at ho
    cases hi : insL T m (pairO A₀ τ₀ m i.2 S xs) with
    | none => rw [hi] at ho; cases ho
    | some T' =>
    rw [hi] at ho
    cases ho
    obtain ⟨c0, l0, e0⟩ := x0
    obtain ⟨c1, l1, e1⟩ := x1
    obtain ⟨c2, l2, e2⟩ := x2
    have q0 : as = _ := VV.l.inj (he _ (.head _))
    have q1 : c0 = tupV := VV.v.inj (he _ (.tail _ (.head _)))
    obtain ⟨θ₁, q2⟩ := strkAll_inv' (VV.l.inj (he _ (.tail _ (.tail _ (.head _)))))
    have q3 : c1 = lisV := VV.v.inj (he _ (.tail _ (.tail _ (.tail _ (.head _)))))
    have q4 : l1 = L0 := VV.l.inj (he _ (.tail _ (.tail _ (.tail _ (.tail _ (.head _))))))
    have q5 : c2 = lisV := VV.v.inj (he _ (.tail _ (.tail _ (.tail _ (.tail _ (.tail _ (.head _)))))))
    have q6 : l2 = L1 := VV.l.inj (he _ (.tail _ (.tail _ (.tail _ (.tail _ (.tail _ (.tail _ (.head _))))))))
    have qq : l0 = toksL rq θ₁ := q2
    subst q1; subst q3; subst q4; subst q5; subst q6
    rw [qq] at g0
    have f0 : T.get j0 = some (seqO tupV (toksL rq θ₁) e0) := sq_is g0
    have f1 : T.get j1 = some (lstO l1 e1) := sq_is g1
    have f2 : T.get j2 = some (lstO l2 e2) := sq_is g2
    obtain ⟨b0, b1, b2⟩ := lt3_is hl
    obtain ⟨n0, n1, n2⟩ := ne3_is hn
    have hcode := hdP_is hh
    rw [hcode, q0] at hc
    let js : Nat → Nat := fun k => match k with
      | 0 => j0
      | 1 => j1
      | _ => j2
    have hjs : ∀ k, k < 3 → js k < m := fun k hk => by
      match k, hk with
      | 0, _ => exact b0
      | 1, _ => exact b1
      | 2, _ => exact b2
    have D₁ := D.sub js 3 (three (seqO tupV (toksL rq θ₁) e0) (lstO l1 e1) (lstO l2 e2)) hjs (fun i j hi hj e => by
        match i, hi, j, hj, e with
        | 0, _, 0, _, _ => rfl
        | 1, _, 1, _, _ => rfl
        | 2, _, 2, _, _ => rfl
        | 0, _, 1, _, e => exact absurd e n0
        | 0, _, 2, _, e => exact absurd e n1
        | 1, _, 2, _, e => exact absurd e n2
        | 1, _, 0, _, e => exact absurd e.symm n0
        | 2, _, 0, _, e => exact absurd e.symm n1
        | 2, _, 1, _, e => exact absurd e.symm n2) (fun k o e => by
        rcases three_get e with ⟨rfl, rfl⟩ | ⟨rfl, rfl⟩ | ⟨rfl, rfl⟩
        · exact ⟨by omega, fun _ => f0⟩
        · exact ⟨by omega, fun _ => f1⟩
        · exact ⟨by omega, fun _ => f2⟩)
    refine h.ok (G.out A₀ m) (hG.out A₀ m) (fun k => A₀ (js k)) θ₁ e0 e1 e2 Γ p s R (fun k => hm0 _) hc hΓ D₁ fun r1 r2 θ₃ θ₄ s' A₂ T₂ m₂ hne h3 h4 hA2 hM2 t0 t1 t2 hr1 hr2 D₂ I₂ => ?_
    let r : Nat → Nat := fun x => if x = 0 then r1 else r2
    let A' : Nat → Nat := fun j => if j < m then A₀ j else A₂ (r (j - m))
    let τ' := tkP i.2 τ₀ θ₃ θ₄
    have eA1 : A' (m + 1) = A₂ r2 := by
      show (if m + 1 < m then _ else A₂ (r (m + 1 - m))) = _
      rw [if_neg (by omega)]
      show A₂ (if m + 1 - m = 0 then r1 else r2) = _
      rw [if_neg (by omega)]
    have eA0 : A' m = A₂ r1 := by
      show (if m < m then _ else A₂ (r (m - m))) = _
      rw [if_neg (by omega)]
      show A₂ (if m - m = 0 then r1 else r2) = _
      rw [if_pos (by omega)]
    have eO : pairO A' τ' m i.2 S xs = [seqO tupV (toksL [.str S 0, .ref (A₂ r2)] θ₃) 0, seqO lisV (toksL xs θ₄) 0] := by rw [pairO_tkP, eA1]
    obtain ⟨U, hU⟩ := insL_some (pairO A₀ τ₀ m i.2 S xs) (pairO A' τ' m i.2 S xs) T T m T' rfl rfl hi
    have hU' := hU
    rw [eO] at hU'
    obtain ⟨D', I'⟩ := back_new (n := 3) (js := js) (r := r) (l := [seqO tupV (toksL [.str S 0, .ref (A₂ r2)] θ₃) 0, seqO lisV (toksL xs θ₄) 0]) hG.tab D D₂ I₂ (fun k hk => ⟨hjs k hk, hA2 k hk⟩)
      (fun k hk o ho hf => by
        match k, hk with
        | 0, _ => rw [show js 0 = j0 from rfl, f0] at ho; rw [← ho]; exact t0
        | 1, _ => rw [show js 1 = j1 from rfl, f1] at ho; rw [← ho]; exact t1
        | 2, _ => rw [show js 2 = j2 from rfl, f2] at ho; rw [← ho]; exact t2)
      (fun x hx => by
        refine ⟨?_, ?_⟩
        · show 3 ≤ (if x = 0 then r1 else r2)
          split <;> assumption
        · show (if x = 0 then r1 else r2) < m₂
          split
          · exact (D₂.own _ _ hr1).1
          · exact (D₂.own _ _ hr2).1)
      (fun x y hx hy e => by
        have hx' : x < 2 := hx
        have hy' : y < 2 := hy
        have e : (if x = 0 then r1 else r2) = if y = 0 then r1 else r2 := e
        by_cases q1 : x = 0 <;> by_cases q2 : y = 0
        · omega
        · rw [if_pos q1, if_neg q2] at e; exact absurd e hne
        · rw [if_neg q1, if_pos q2] at e; exact absurd e.symm hne
        · omega)
      (fun x o hx hf => by
        match x, hx with
        | 0, hx => cases hx; exact hr1
        | 1, hx => cases hx; exact hr2) hU'
    have hB0 : A' j0 = A₀ j0 := if_pos b0
    have hB1 : A' j1 = A₀ j1 := if_pos b1
    have hB2 : A' j2 = A₀ j2 := if_pos b2
    refine (show R (.ok (.ret (.ref (A' m)))) s' → R (.ok (.ret (.ref (A₂ r1)))) s' by rw [eA0]; exact id) ?_
    refine h2 A' τ' s' ⟨.ok (.ret (.ref (A' m))), U, m + 2, (i.1, i.2 + 3), [(.l as, .l [.ref (A₀ j0), .ref (A₀ j1), .ref (A₀ j2)]), (.v tupV, .v tupV), (.l (strkAll l0), .l rq), (.v lisV, .v lisV), (.l l1, .l l1), (.v lisV, .v lisV), (.l l2, .l l2)]⟩ (fun j hj => if_pos hj) (tkP_agr i τ₀ θ₃ θ₄) (fun j => by show G.M ≤ if j < m then A₀ j else A₂ (r (j - m)); split <;> first | exact hm0 j | exact hM2 _) ?_ ⟨Nat.le_refl _, Nat.le_add_right _ _⟩ (tkP_TkI hk I'.toks) D' I'
    unfold tF
    rw [hh]
    dsimp only
    rw [hn]
    dsimp only
    rw [hl]
    dsimp only
    rw [f0, f1, f2]
    dsimp only [sq, seqO, lstO]
    rw [hU, hB0, hB1, hB2, qq]
  spx := fun q c A τ A' τ' T m i o hTI ho hA hτ => by
    unfold tF at ho ⊢
    cases hh : hdP 353 c with
    | none => rw [hh] at ho; cases ho
    | some as =>
    rw [hh] at ho
    dsimp only at ho ⊢
    cases hn : ne3 j0 j1 j2 with
    | false => rw [hn] at ho; cases ho
    | true =>
    rw [hn] at ho
    cases hl : lt3 j0 j1 j2 m with
    | false => rw [hl] at ho; cases ho
    | true =>
    rw [hl] at ho
    dsimp only at ho ⊢
    cases g0 : sq (T.get j0) with
    | none => rw [g0] at ho; cases ho
    | some x0 =>
    cases g1 : sq (T.get j1) with
    | none => rw [g0, g1] at ho; cases ho
    | some x1 =>
    cases g2 : sq (T.get j2) with
    | none => rw [g0, g1, g2] at ho; cases ho
    | some x2 =>
    rw [g0, g1, g2] at ho
    dsimp only at ho ⊢
    cases hi : insL T m (pairO A τ m i.2 S xs) with
    | none => rw [hi] at ho; cases ho
    | some T' =>
    rw [hi] at ho
    cases ho
    obtain ⟨b0, b1, b2⟩ := lt3_is hl
    rw [pairO_congr hx (hA (m + 1) (Nat.lt_succ_self _)) (fun j hj => hτ.2 j hj), hi, hA m (by show m < m + 2; omega), hA j0 (by show j0 < m + 2; omega), hA j1 (by show j1 < m + 2; omega), hA j2 (by show j2 < m + 2; omega)]
end
section
variable {kt : Params → X.KT} {w : World}
theorem tdl {cls k w' u p L : Nat} {L0 L1 : List Value} {r1 r2 n nc N : Nat} (hL : L ≤ 562) (hne : Nat.beq r1 r2 = false) (h31 : Nat.ble 3 r1 = true) (h32 : Nat.ble 3 r2 = true) (hf : ∀ F ∈ tdF cls k w' u p L0 L1, FactOk (BB kt w.params) progD w (L + 64) F) (h : tdL kt cls k w' u p r1 r2 n nc N) :
    TdOk (BB kt w.params) progD w L (rqV k w' u p) L0 L1 (resC cls k w' u p) (xsC cls u) where
  ok := fun G hG A₀ θ₁ e0 e1 e2 Γ p' s R hA0 hc hΓ D hR => by
    have hC := cs_ok (kt := kt) (w := w) (L := L) (by omega) hf
    refine (hC G hG).ov 0 _ _ ov_st Γ p' s R hc (hΓ.lift (by omega)) D.base fun p'' => ?_
    refine run_wp (hC G hG) (Nat.le_refl _) (A₀ := A₀) (a := fun A τ => (pairW r1 r2 0 0 (resC cls k w' u p) (xsC cls u) A τ, some (seqO tupV (toksL (rqV k w' u p) θ₁) e0), some (lstO L0 e1), some (lstO L1 e2))) (τ₀ := fun _ => 0) ⟨fun _ => by rw [hG.N0]; exact Nat.zero_le _, hA0⟩ hΓ (TkI.zero _ _ _) (p := p'') (R := R) D (fun A τ hA _ hn => by
        obtain ⟨A', rfl⟩ := up_is hG hn
        have y := h w.params (rows w.params) A' τ (fun _ => 0) θ₁ L0 L1 e0 e1 e2
        have e : toksL [.ref (up A' 0), .ref (up A' 1), .ref (up A' 2)] (fun _ => 0) = [.ref (A₀ 0), .ref (A₀ 1), .ref (A₀ 2)] := by
          rw [hA 0 (by omega), hA 1 (by omega), hA 2 (by omega)]; rfl
        rw [e] at y
        exact y) fun A τ s' o hA _ hn _ hf D' I => ?_
    have hf1 := congrArg Prod.fst hf
    rw [rO_is (congrArg Prod.fst hf1)]
    obtain ⟨θ₃, h3⟩ := sO_is (congrArg (fun x => x.2.1) hf1)
    obtain ⟨θ₄, h4⟩ := sO_is (congrArg (fun x => x.2.2) hf1)
    exact hR r1 r2 θ₃ θ₄ s' A o.T o.m (fun e => by rw [e, Nat.beq_refl] at hne; cases hne) (ble_true h31) (ble_true h32) hA hn.2 (congrArg (fun x => x.2.1) hf) (congrArg (fun x => x.2.2.1) hf) (congrArg (fun x => x.2.2.2) hf) h3 h4 D' I
theorem beq_ne {a b : Nat} (h : a ≠ b) : Nat.beq a b = false := by
  cases e : Nat.beq a b with
  | false => rfl
  | true => exact absurd (Nat.eq_of_beq_eq_true e) h
theorem td_ok (V : LvB kt) (W : LvC kt) {k w' u p L : Nat} {m n : Bool} {L0 L1 : List Value} {ns0 ns1 : List Str} {θ0 θ1 : Nat → Nat} (hL : L ≤ 498) (hw : w' < 3) (hu : u < 4) (hp : p < 4) (h0 : L0 = toksL (strsV ns0) θ0) (h1 : L1 = toksL (strsV ns1) θ1)
    (hm : ns0.any (seqEq (usS u)) = m) (hn : ns1.any (seqEq (usS u)) = n) :
    TdOk (BB kt w.params) progD w L (rqV k w' u p) L0 L1 (resC (clsOf w' u p m n) k w' u p) (xsC (clsOf w' u p m n) u) := by
  have hM : ∀ b : Bool, m = b → FactOk (BB kt w.params) progD w (L + 64) (xF (hdB containsN) (fun a => [.ref a, .str (usS u) 0]) lisV L0 (.bool b)) := fun b hb => xF_ok h0 (contains_ok (hm.trans hb))
  have hN : ∀ b : Bool, n = b → FactOk (BB kt w.params) progD w (L + 64) (xF (hdB containsN) (fun a => [.ref a, .str (usS u) 0]) lisV L1 (.bool b)) := fun b hb => xF_ok h1 (contains_ok (hn.trans hb))
  have hW : w' ≠ 2 → ∀ c, tdW (c + 1) w' = tdW 1 w' → FactOk (BB kt w.params) progD w (L + 64) (tdW (c + 1) w') := fun h2 c e => by
    rw [e]
    exact vF_ok (ne_ok (ne_w w' (by omega)))
  unfold clsOf
  by_cases h2 : w' = 2
  · subst h2
    exact tdl (by omega) rfl rfl rfl (tdF_ok V (by omega) hu hp noF_ok noF_ok noF_ok (.inr ⟨rfl, rfl, rfl⟩)) (W.td0 k u p hu hp)
  · rw [beq_ne h2]
    dsimp only
    by_cases h3 : u = p
    · subst h3
      rw [Nat.beq_refl u]
      dsimp only
      cases m with
      | false => exact tdl (by omega) rfl rfl rfl (tdF_ok V (by omega) hu hp (hM false rfl) noF_ok (hW h2 1 rfl) (.inr ⟨rfl, rfl, rfl⟩)) (W.td2 k w' u hu)
      | true =>
        cases n with
        | true => exact tdl (by omega) rfl rfl rfl (tdF_ok V (by omega) hu hp (hM true rfl) (hN true rfl) (hW h2 2 rfl) (.inr ⟨rfl, rfl, rfl⟩)) (W.td3 k w' u hu)
        | false => exact tdl (by omega) rfl rfl rfl (tdF_ok V (by omega) hu hp (hM true rfl) (hN false rfl) (hW h2 3 rfl) (.inl rfl)) (W.td4 k w' u hu)
    · rw [beq_ne h3]
      exact tdl (by omega) rfl rfl rfl (tdF_ok V (by omega) hu hp noF_ok noF_ok (hW h2 0 rfl) (.inr ⟨rfl, rfl, rfl⟩)) (W.td1 k w' u p hu hp h3)
end
end Mine
end
section
open PySem PySem.W
namespace Mine
/-! _translate: the facts and forms of its runs -/
noncomputable def isN : Nat := 8388569415984116593
noncomputable def manyS : Str := ⟨#[109, 97, 110, 121]⟩
noncomputable def anyS : Str := ⟨#[97, 110, 121]⟩
/-- STAR's token is the run's first -/
noncomputable def isF : FactF := fun q c A τ T m i => match hdB isN c with
  | some as => match as with
    | [a0, a1] => match a0 with
      | .str x _ => match txNe x manyS with
        | true => match Nat.ble 1 q with
          | true => match Nat.ble (q + 1) i.1 with
            | true => some ⟨.ok (.ret (.bool false)), T, m, i, [(.v a0, .v (.str x (τ (2 * q)))), (.v a1, .v (.str manyS (τ 0)))]⟩
            | false => none
          | false => none
        | false => none
      | _ => none
    | _ => none
  | none => none
section
variable {B : Addr → Option Obj} {prog : Program} {w : World} {L : Nat}
theorem isF_sp (G : Lg) : ∀ q c (A₀ τ₀ : Nat → Nat) (T : BT) (m : Nat) (i : Nat × Nat) (Γ : Ctx) (p : Pos) (s : Shared) (R : Result → Shared → Prop), (∀ j, G.M ≤ A₀ j) → Γ.code = c → CtxOk L 0 Γ → TkI i τ₀ s → Rep B G A₀ T m s →
    (∀ A τ, (∀ j, j < m → A j = A₀ j) → agr i τ τ₀ → (∀ j, G.M ≤ A j) → ∃ o, isF q c A τ T m i = some o ∧ ∀ x ∈ o.e, x.1 = x.2) →
    (∀ A τ s' o, (∀ j, j < m → A j = A₀ j) → agr i τ τ₀ → (∀ j, G.M ≤ A j) → isF q c A τ T m i = some o → ile i o.i → TkI o.i τ s' → Rep B G A o.T o.m s' → Inv s m A o.m s' → R o.r s') →
    wpCode (model prog w) Γ R p s := fun q c A₀ τ₀ T m i Γ p s R hm0 hc hΓ hk D h1 h2 => by
    obtain ⟨o, ho, he⟩ := h1 A₀ τ₀ (fun _ _ => rfl) (agr.refl _ _) hm0
    have hz := ho
    unfold isF at ho
    split at ho
    · rename_i as hh
      split at ho
      · rename_i a0 a1
        split at ho
        · rename_i x t
          split at ho
          · rename_i hx
            split at ho
            · rename_i hq1
              split at ho
              · rename_i hq2
                cases ho
                have q1 : t = τ₀ (2 * q) := (Value.str.inj (VV.v.inj (he _ (.head _)))).2
                have q2 : a1 = .str manyS (τ₀ 0) := VV.v.inj (he _ (.tail _ (.head _)))
                have hcode := hdB_is (id := "proto.is") (by decide +kernel) hh
                rw [hcode, q1, q2] at hc
                have hq1' : 1 ≤ q := ble_true hq1
                have hq2' : q + 1 ≤ i.1 := ble_true hq2
                have k0 := hk.2 0 (by omega)
                have kq := hk.2 q (by omega)
                have k1 := hk.1 0 q (by omega) (by omega)
                have hxe : (x == manyS) = false := by
                  unfold txNe at hx
                  cases e : (x == manyS) with
                  | false => rfl
                  | true => rw [e] at hx; cases hx
                have e0 : isSame (.str x (τ₀ (2 * q))) (.str manyS (τ₀ 0)) = pure false := isSame_str_other x manyS _ _ (by
                    rw [Bool.or_eq_false_iff]
                    exact ⟨beq_eq_false_iff_ne.mpr (Nat.ne_of_gt kq.1), beq_eq_false_iff_ne.mpr (Nat.ne_of_gt k0.1)⟩) (beq_eq_false_iff_ne.mpr (Nat.ne_of_gt k1)) hxe
                refine code_den ?_
                rw [hc, den_b entry_is]
                have e1 : Builtin.«proto.is» ⟨[.str x (τ₀ (2 * q)), .str manyS (τ₀ 0)], []⟩ = (isSame (.str x (τ₀ (2 * q))) (.str manyS (τ₀ 0)) >>= fun b => ret (.bool b)) := rfl
                rw [e1, e0]
                show Sem.wp _ _ (Sem.pure (Fin.done (Flow.ret (.bool false)))) _ _ p s
                rw [Sem.wp_pure]
                exact h2 A₀ τ₀ s _ (fun _ _ => rfl) (agr.refl _ _) hm0 hz (ile.refl _) hk D (Inv.refl s m A₀)
              · cases ho
            · cases ho
          · cases ho
        · cases ho
      · cases ho
    · cases ho
theorem isF_ok : FactOk B prog w L isF where
  sp := fun G hG => isF_sp G
  spx := fun q c A τ A' τ' T m i o hTI ho hA hτ => by
    unfold isF at ho ⊢
    split at ho
    · split at ho
      · split at ho
        · split at ho
          · split at ho
            · rename_i hq1
              split at ho
              · rename_i hq2
                cases ho
                rw [hτ.1 q (ble_true hq2), show τ' 0 = τ 0 from hτ.1 0 (Nat.lt_of_lt_of_le (Nat.succ_pos _) (ble_true hq2))]
              · cases ho
            · cases ho
          · cases ho
        · cases ho
      · cases ho
    · cases ho
end
noncomputable def trP (n : Nat) : Str := match n with
  | 0 => ⟨#[97, 42]⟩
  | 1 => ⟨#[63, 63, 63]⟩
  | 2 => ⟨#[42, 91, 48, 45, 57, 93]⟩
  | 3 => ⟨#[91, 33, 114, 93, 42]⟩
  | 4 => ⟨#[114, 111, 111, 116]⟩
  | _ => ⟨#[42, 111, 42]⟩
noncomputable def aS (c : Nat) : Str := ⟨#[c]⟩
noncomputable def trX (n : Nat) : List Value := match n with
  | 0 => [.str (aS 97) 0, .str manyS 0]
  | 1 => [.str anyS 0, .str anyS 0, .str anyS 0]
  | 2 => [.str manyS 0, .str ⟨#[91, 48, 45, 57, 93]⟩ 0]
  | 3 => [.str ⟨#[91, 94, 114, 93]⟩ 0, .str manyS 0]
  | 4 => [.str (aS 114) 0, .str (aS 111) 0, .str (aS 111) 0, .str (aS 116) 0]
  | _ => [.str manyS 0, .str (aS 111) 0, .str manyS 0]
noncomputable def trE (n : Nat) : Nat := match n with
  | 0 => 2
  | 1 => 3
  | 2 => 2
  | 3 => 2
  | 4 => 4
  | _ => 3
noncomputable abbrev trCC (kt : Params → X.KT) (P : Params) (b : Bool × Bool) : Cfg := CD kt (spOf [isF]) P b
/-- a run of _translate that leaves the code table alone -/
noncomputable def trL (kt : Params → X.KT) (n r fu nc N : Nat) : Prop := ∀ (P : Params) (b : Bool × Bool) (A τ : Nat → Nat) (t0 t2 : Nat),
  vw (fun o => (rO o, sO (o.T.get r))) (E (trCC kt P b) (up A) τ fu [] (st0 (trCC kt P b) (.call (.ref 293) ⟨[.str (trP n) t0, .str manyS (τ 0), .str anyS t2], []⟩)) .nil 0 (1, 0) (esc (unp 128 nc N)) []) =
    wv (some (up A r), some (lisV, trX n, trE n)) (E (trCC kt P b) (up A) τ fu [] (st0 (trCC kt P b) (.call (.ref 293) ⟨[.str (trP n) t0, .str manyS (τ 0), .str anyS t2], []⟩)) .nil 0 (1, 0) (esc (unp 128 nc N)) [])
/-- with the code table as own object 0 -/
noncomputable def dn (A : Nat → Nat) (j : Nat) : Nat := match j with
  | 0 => 288
  | j + 1 => A (j + 1) + 288
noncomputable def tbO (o : Option Obj) : Option (List Value) := match o with
  | some ⟨.none, none, .fields vs, ⟨[]⟩⟩ => some vs.toList
  | _ => none
noncomputable def pk2 (b : Bool × Bool) (N N' : Nat) : Nat := match b.2 with
  | false => N
  | true => N'
noncomputable def trT (kt : Params → X.KT) (n x r : Nat) (vs' : (Nat → Nat) → Addr → Addr → List Value) (fu nc N N' : Nat) : Prop := ∀ (P : Params) (b : Bool × Bool) (A τ : Nat → Nat) (t0 t2 : Nat) (a g : Addr),
  vw (fun o => (rO o, sO (o.T.get r), tbO (o.T.get 0))) (E (trCC kt P b) (dn A) τ fu [] (st0 (trCC kt P b) (.call (.ref 293) ⟨[.str (trP n) t0, .str manyS (τ 0), .str anyS t2], []⟩)) (one (tabO (tabS x a g))) 1 (1, 0) (esc (unp 128 nc (pk2 b N N'))) []) =
    wv (some (dn A r), some (lisV, trX n, trE n), some (vs' (dn A) a g)) (E (trCC kt P b) (dn A) τ fu [] (st0 (trCC kt P b) (.call (.ref 293) ⟨[.str (trP n) t0, .str manyS (τ 0), .str anyS t2], []⟩)) (one (tabO (tabS x a g))) 1 (1, 0) (esc (unp 128 nc (pk2 b N N'))) [])
end Mine
end
section
open PySem PySem.W
namespace Mine
/-- what _translate gives -/
structure TrOk (B : Addr → Option Obj) (prog : Program) (w : World) (L n : Nat) : Prop where
  ok : ∀ (G : Lg), G.Fit → ∀ (t0 t t2 : Nat) (Γ : Ctx) (p : Pos) (s : Shared) (R : Result → Shared → Prop), 0 < t → t < s.toks → Γ.code = .call (.ref 293) ⟨[.str (trP n) t0, .str manyS t, .str anyS t2], []⟩ → CtxOk L 0 Γ → Gd B G s →
    (∀ r θ' s' A₂ T₂ m₂, (∀ j, G.M ≤ A₂ j) → T₂.get r = some (seqO lisV (toksL (trX n) θ') (trE n)) → Rep B G A₂ T₂ m₂ s' → Inv s 0 A₂ m₂ s' → R (.ok (.ret (.ref (A₂ r)))) s') → wpCode (model prog w) Γ R p s
theorem TkI.one {t : Nat} {s : Shared} (h0 : 0 < t) (h1 : t < s.toks) : TkI (1, 0) (fun _ => t) s :=
  ⟨fun j k h2 h3 => by omega, fun j _ => ⟨h0, h1⟩⟩
theorem isSp_ok {C : Cfg} {G : Lg} {prog : Program} {w : World} {L : Nat} (hN : G.N = 0) (hC : C.sp = spOf [isF]) : SpOk C G prog w L where
  sp := fun q c A₀ τ₀ T m i Γ p s R hN' hc hΓ hk D h1 h2 => by
    rw [hC] at h1 h2
    unfold spOf at h1 h2
    cases hq : ([isF] : List FactF)[q / 128]? with
    | none =>
      obtain ⟨o, ho, _⟩ := h1 A₀ τ₀ (fun _ _ => rfl) (agr.refl _ _) hN'
      rw [hq] at ho; cases ho
    | some F =>
      rw [hq] at h1 h2
      have hF : F = isF := by
        have := List.mem_of_getElem? hq
        rcases List.mem_cons.mp this with e | e
        · exact e
        · cases e
      subst hF
      exact isF_sp G (q % 128) c A₀ τ₀ T m i Γ p s R hN'.2 hc hΓ hk D (fun A τ hA hτ hm => h1 A τ hA hτ ⟨fun _ => by rw [hN]; exact Nat.zero_le _, hm⟩) fun A τ s' o hA hτ hm => h2 A τ s' o hA hτ ⟨fun _ => by rw [hN]; exact Nat.zero_le _, hm⟩
  spx := fun q c A τ A' τ' T m i o hTI ho hA hτ => by
    rw [hC] at ho ⊢
    unfold spOf at ho ⊢
    cases hq : ([isF] : List FactF)[q / 128]? with
    | none => rw [hq] at ho; cases ho
    | some F =>
      rw [hq] at ho
      have hF : F = isF := by
        have := List.mem_of_getElem? hq
        rcases List.mem_cons.mp this with e | e
        · exact e
        · cases e
      subst hF
      exact (isF_ok (B := C.B) (prog := prog) (w := w) (L := L)).spx _ c A τ A' τ' T m i o hTI ho hA hτ
section
variable {kt : Params → X.KT} {w : World}
theorem trl {n r fu nc N L : Nat} (hL : L ≤ 626) (h : trL kt n r fu nc N) : TrOk (BB kt w.params) progD w L n where
  ok := fun G hG t0 t t2 Γ p s R h0 h1 hc hΓ g hR => by
    have hC : (trCC kt w.params (rows w.params)).Ok G progD w (L + 64) := CD_ok (by omega) rfl (isSp_ok hG.N0 rfl)
    refine hC.ov 0 _ _ ovD_st Γ p s R hc (hΓ.lift (by omega)) g.base fun p' => ?_
    refine run_wp hC (Nat.le_refl _) (a := fun A _ => (some (A r), some (lisV, trX n, trE n))) (A₀ := fun _ => G.M) (τ₀ := fun _ => t) (i := (1, 0)) ⟨fun _ => by rw [hG.N0]; exact Nat.zero_le _, fun _ => Nat.le_refl _⟩ hΓ (TkI.one h0 h1) (Rep.nil g) (fun A τ _ hτ hn => by
      obtain ⟨A', rfl⟩ := up_is hG hn
      have e : τ 0 = t := hτ.1 0 (Nat.lt_succ_self _)
      have y := h w.params (rows w.params) A' τ t0 t2
      rw [e] at y
      exact y) fun A τ s' o _ _ hn _ hf D I => ?_
    rw [rO_is (congrArg Prod.fst hf)]
    obtain ⟨θ', hθ'⟩ := sO_is (congrArg Prod.snd hf)
    exact hR r θ' s' A o.T o.m hn.2 hθ' D I
theorem tbO_is {o : Option Obj} {vs : List Value} (h : tbO o = some vs) : o = some (tabO vs) := by
  unfold tbO at h
  split at h
  · cases h; rfl
  · cases h
theorem trt {n x r fu nc N N' : Nat} {vs' : (Nat → Nat) → Addr → Addr → List Value} (hr : Nat.ble 1 r = true) {L : Nat} (hL : L ≤ 626) (hvs : ∀ A a g, ∃ x' a' g', vs' A a g = tabS x' a' g') (h : trT kt n x r vs' fu nc N N') (G : Lg) (hG : G.Fit) (t0 t t2 : Nat) (Γ : Ctx) (p : Pos) (s : Shared) (R : Result → Shared → Prop) (h0 : 0 < t) (h1 : t < s.toks) (hc : Γ.code = .call (.ref 293) ⟨[.str (trP n) t0, .str manyS t, .str anyS t2], []⟩) (hΓ : CtxOk L 0 Γ) (g : Gd (BB kt w.params) G s)
    (a ga : Addr) (hz : s.heap.get? tabA = some (tabO (tabS x a ga)))
    (hR : ∀ r θ' s' A₂ T₂ m₂, (∀ j, G.M ≤ A₂ j) → T₂.get r = some (seqO lisV (toksL (trX n) θ') (trE n)) → Rep (BB kt w.params) G A₂ T₂ m₂ s' → Inv s 0 A₂ m₂ s' → R (.ok (.ret (.ref (A₂ r)))) s') : wpCode (model progD w) Γ R p s := by
  let G' : Lg := ⟨0, 288, fun Ls _ => Ls = [], G.Q⟩
  have hC : (trCC kt w.params (rows w.params)).Ok G' progD w (L + 64) := CD_ok (by omega) rfl (isSp_ok rfl rfl)
  have hroom : 359 ≤ s.heap.objs.size := by have := g.room; rwa [hG.M0] at this
  have hQ : ¬ G.Q tabA := by
    obtain ⟨Ls, z1, z2⟩ := g.z
    have := ((hG.zed _ _).mp z1).1
    subst this
    exact (z2 tabA (.head _)).2
  have hB : BB kt w.params tabA = none := rfl
  have D0 : Rep (BB kt w.params) G' (fun _ => 288) (one (tabO (tabS x a ga))) 1 s :=
    ⟨fun j o e => by
      obtain ⟨e1, e2⟩ := one_get _ _ _ e
      subst e1; subst e2
      exact ⟨Nat.lt_succ_self _, fun _ => hz⟩, fun i j hi hj _ => by omega, fun j hj => by show 288 < _; omega, g.base, (fun b o j e hj q => by
        rw [← (show (288 : Nat) = b from q)] at e
        have e' : BB kt w.params 288 = none := rfl
        rw [e'] at e
        cases e), ⟨[], rfl, fun _ h => (nomatch h)⟩, ⟨Nat.zero_le _, g.toks.2⟩, by show 288 ≤ _; omega⟩
  refine hC.ov 0 _ _ ovD_st Γ p s R hc (hΓ.lift (by omega)) g.base fun p' => ?_
  refine run_wp hC (Nat.le_refl _) (a := fun A _ => (some (A r), some (lisV, trX n, trE n), some (vs' A a ga))) (A₀ := fun _ => 288) (τ₀ := fun _ => t) (i := (1, 0)) ⟨fun _ => Nat.zero_le _, fun _ => Nat.le_refl _⟩ hΓ (TkI.one h0 h1) D0 (fun A τ hA hτ hn => by
    have eA : ∃ A', A = dn A' := ⟨fun j => A j - 288, funext fun j => by
      cases j with
      | zero => exact hA 0 (Nat.lt_succ_self _)
      | succ j =>
        have : 288 ≤ A (j + 1) := hn.2 (j + 1)
        show A (j + 1) = A (j + 1) - 288 + 288
        omega⟩
    obtain ⟨A', rfl⟩ := eA
    have e : τ 0 = t := hτ.1 0 (Nat.lt_succ_self _)
    have y := h w.params (rows w.params) A' τ t0 t2 a ga
    rw [e] at y
    exact y) fun A τ s' o hA _ hn _ hf D I => ?_
  rw [rO_is (congrArg Prod.fst hf)]
  obtain ⟨θ', hθ'⟩ := sO_is (congrArg (fun x => x.2.1) hf)
  have hT0 := tbO_is (congrArg (fun x => x.2.2) hf)
  have hr1 : 1 ≤ r := ble_true hr
  have hrm := (D.own r _ hθ').1
  have hA0 : A 0 = 288 := hA 0 (Nat.lt_succ_self _)
  have hge : s.heap.objs.size ≤ A r := I.new r hr1 hrm
  obtain ⟨x', a', g', hv'⟩ := hvs A a ga
  refine hR 0 θ' s' (fun _ => A r) (one (seqO lisV (toksL (trX n) θ') (trE n))) 1 (fun _ => Nat.le_trans g.room hge) rfl ⟨fun j o e => by
      obtain ⟨e1, e2⟩ := one_get _ _ _ e
      subst e1; subst e2
      exact ⟨Nat.lt_succ_self _, (D.own r _ hθ').2⟩, fun i j hi hj _ => by omega, fun j hj => D.lt r hrm, D.base, fun b o j e hj => D.off b o r e hrm, ?_, ⟨by rw [hG.N0]; exact Nat.zero_le _, D.toks.2⟩, Nat.le_trans g.room I.size⟩
    ⟨Nat.zero_le _, fun b o e hb _ => I.keep b o e hb fun j hj q => hb (by
      have : j = 0 := by omega
      rw [this, hA0] at q
      exact q.symm), I.size, fun j _ _ => hge, I.gens, I.drawn, I.os, I.toks⟩
  have h288 : s'.heap.get? tabA = some (tabO (tabS x' a' g')) := by
    have := (D.own 0 _ hT0).2 rfl
    rw [hA0, hv'] at this
    exact this
  refine ⟨[tabA], (hG.zed _ _).mpr ⟨rfl, x', a', g', by show [s'.heap.get? tabA] = _; rw [h288]⟩, fun b hb => ?_⟩
  rcases List.mem_cons.mp hb with rfl | hb
  · refine ⟨by rw [h288]; rfl, hQ, fun j _ e => ?_⟩
    have : A r = 288 := e
    omega
  · cases hb
/-- the table's state -/
theorem gd_tab {B : Addr → Option Obj} {G : Lg} {s : Shared} (hG : G.Fit) (g : Gd B G s) : ∃ x a ga, s.heap.get? tabA = some (tabO (tabS x a ga)) := by
  obtain ⟨Ls, z1, z2⟩ := g.z
  obtain ⟨e1, x, a, ga, e2⟩ := (hG.zed _ _).mp z1
  subst e1
  exact ⟨x, a, ga, by injection e2⟩
theorem tr3 {L : Nat} (hL : L ≤ 626) {f1 n1 N1 M1 f2 n2 N2 M2 : Nat} (h0 : trT kt 3 0 2 (fun A _ _ => lamT (A 14)) f1 n1 N1 M1) (h1 : ∀ x, trT kt 3 (x + 1) 2 (fun _ a g => tabS (x + 1) a g) f2 n2 N2 M2) : TrOk (BB kt w.params) progD w L 3 where
  ok := fun G hG t0 t t2 Γ p s R q0 q1 hc hΓ g hR => by
    obtain ⟨x, a, ga, hz⟩ := gd_tab hG g
    cases x with
    | zero => exact trt rfl hL (fun A a g => ⟨1, A 14, 0, rfl⟩) h0 G hG t0 t t2 Γ p s R q0 q1 hc hΓ g a ga hz hR
    | succ x => exact trt rfl hL (fun A a g => ⟨x + 1, a, g, rfl⟩) (h1 x) G hG t0 t t2 Γ p s R q0 q1 hc hΓ g a ga hz hR
end
end Mine
end
section
open PySem PySem.W
namespace Mine
open PySem.MeetsSeq PySem.SeqAt
/-- _translate as a fact: STAR's token is the own one number q -/
noncomputable def trF (n : Nat) : FactF := fun q c A τ T m i => match hdP 293 c with
  | some as => match as with
    | [a0, a1, a2] => match Nat.ble (q + 1) i.1 with
      | true => match insL T m [seqO lisV (toksL (trX n) fun k => τ (2 * (i.2 + k) + 1)) (trE n)] with
        | some T' => some ⟨.ok (.ret (.ref (A m))), T', m + 1, (i.1, i.2 + (trX n).length), [(.v (strk a0), .v (.str (trP n) 0)), (.v a1, .v (.str manyS (τ (2 * q)))), (.v (strk a2), .v (.str anyS 0))]⟩
        | none => none
      | false => none
    | _ => none
  | none => none
section
variable {B : Addr → Option Obj} {prog : Program} {w : World} {L : Nat}
/-- n tokens put behind those that stand -/
noncomputable def tkN (i : Nat) (τ₀ θ : Nat → Nat) (j : Nat) : Nat := if j < 2 * i ∨ j % 2 = 0 then τ₀ j else θ (j / 2 - i)
theorem tkN_agr (i : Nat × Nat) (τ₀ θ : Nat → Nat) : agr i (tkN i.2 τ₀ θ) τ₀ := ⟨fun j hj => if_pos (by omega), fun j hj => if_pos (by omega)⟩
theorem tkN_TkI {i : Nat × Nat} {n : Nat} {τ₀ θ : Nat → Nat} {s s' : Shared} (hk : TkI i τ₀ s) (hs : s.toks ≤ s'.toks) : TkI (i.1, i.2 + n) (tkN i.2 τ₀ θ) s' :=
  ⟨fun j k h1 h2 => by
    show tkN i.2 τ₀ θ (2 * j) < tkN i.2 τ₀ θ (2 * k)
    unfold tkN
    rw [if_pos (by omega), if_pos (by omega)]
    exact hk.1 j k h1 h2, fun j hj => by
    show 0 < tkN i.2 τ₀ θ (2 * j) ∧ tkN i.2 τ₀ θ (2 * j) < _
    unfold tkN
    rw [if_pos (by omega)]
    exact ⟨(hk.2 j hj).1, Nat.lt_of_lt_of_le (hk.2 j hj).2 hs⟩⟩
theorem tkN_toks (i : Nat) (τ₀ θ : Nat → Nat) (xs : List Value) : toksL xs (fun k => tkN i τ₀ θ (2 * (i + k) + 1)) = toksL xs θ := toksL_congr _ _ _ fun k hk => by
  unfold tkN
  rw [if_neg (by omega)]
  congr 1
  omega
/-- one new object -/
theorem new1 {G : Lg} (hG : G.Fit) {A₀ A₂ : Nat → Nat} {T T₂ U : BT} {m m₂ r : Nat} {s s' : Shared} {o : Obj} (D : Rep B G A₀ T m s) (D₂ : Rep B (G.out A₀ m) A₂ T₂ m₂ s') (I₂ : Inv s 0 A₂ m₂ s') (hr : T₂.get r = some o) (hU : insL T m [o] = some U) :
    Rep B G (fun j => if j < m then A₀ j else A₂ r) U (m + 1) s' ∧ Inv s m (fun j => if j < m then A₀ j else A₂ r) (m + 1) s' :=
  back_new (n := 0) (js := id) (r := fun _ => r) (l := [o]) hG.tab D D₂ I₂ (fun k hk => absurd hk (Nat.not_lt_zero _)) (fun k hk => absurd hk (Nat.not_lt_zero _)) (fun x hx => ⟨Nat.zero_le _, (D₂.own _ _ hr).1⟩)
    (fun x y hx hy e => by
      have hx' : x < 1 := hx
      have hy' : y < 1 := hy
      omega) (fun x o' hx hf => by
      match x, hx with
      | 0, hx => cases hx; exact hr) hU
theorem trF_ok {n : Nat} (h : TrOk B prog w L n) : FactOk B prog w L (trF n) where
  sp := fun G hG q c A₀ τ₀ T m i Γ p s R hm0 hc hΓ hk D h1 h2 => by
    obtain ⟨o, ho, he⟩ := h1 A₀ τ₀ (fun _ _ => rfl) (agr.refl _ _) hm0
    unfold trF at ho
    split at ho
    · rename_i as hh
      split at ho
      · rename_i a0 a1 a2
        split at ho
        · rename_i hq
          split at ho
          · rename_i T' hi
            cases ho
            obtain ⟨t0, q0⟩ := strk_inv' (VV.v.inj (he _ (.head _)))
            have q1 : a1 = .str manyS (τ₀ (2 * q)) := VV.v.inj (he _ (.tail _ (.head _)))
            obtain ⟨t2, q2⟩ := strk_inv' (VV.v.inj (he _ (.tail _ (.tail _ (.head _)))))
            have q0 : a0 = .str (trP n) t0 := q0
            have q2 : a2 = .str anyS t2 := q2
            have hcode := hdP_is hh
            rw [hcode, q0, q1, q2] at hc
            have hq' : q + 1 ≤ i.1 := ble_true hq
            have k0 := hk.2 q (by omega)
            refine h.ok (G.out A₀ m) (hG.out A₀ m) t0 _ t2 Γ p s R k0.1 k0.2 hc hΓ D.gdOut fun r θ' s' A₂ T₂ m₂ hA2 hr D₂ I₂ => ?_
            have eO : ([seqO lisV (toksL (trX n) fun k => tkN i.2 τ₀ θ' (2 * (i.2 + k) + 1)) (trE n)] : List Obj) = [seqO lisV (toksL (trX n) θ') (trE n)] := by rw [tkN_toks]
            obtain ⟨U, hU⟩ := insL_some [seqO lisV (toksL (trX n) fun k => τ₀ (2 * (i.2 + k) + 1)) (trE n)] [seqO lisV (toksL (trX n) fun k => tkN i.2 τ₀ θ' (2 * (i.2 + k) + 1)) (trE n)] T T m T' rfl rfl hi
            have hU' := hU
            rw [eO] at hU'
            obtain ⟨D', I'⟩ := new1 hG D D₂ I₂ hr hU'
            refine (show R (.ok (.ret (.ref (if m < m then A₀ m else A₂ r)))) s' → R (.ok (.ret (.ref (A₂ r)))) s' by rw [if_neg (Nat.lt_irrefl _)]; exact id) ?_
            refine h2 (fun j => if j < m then A₀ j else A₂ r) (tkN i.2 τ₀ θ') s' ⟨.ok (.ret (.ref (if m < m then A₀ m else A₂ r))), U, m + 1, (i.1, i.2 + (trX n).length), [(.v (strk a0), .v (.str (trP n) 0)), (.v a1, .v (.str manyS (τ₀ (2 * q)))), (.v (strk a2), .v (.str anyS 0))]⟩ (fun j hj => if_pos hj) (tkN_agr i τ₀ θ') (fun j => by show G.M ≤ if j < m then A₀ j else A₂ r; split <;> first | exact hm0 j | exact hA2 _) ?_ ⟨Nat.le_refl _, Nat.le_add_right _ _⟩ (tkN_TkI hk I'.toks) D' I'
            unfold trF
            rw [hh]
            dsimp only
            rw [hq]
            dsimp only
            rw [hU]
            have e2 : tkN i.2 τ₀ θ' (2 * q) = τ₀ (2 * q) := if_pos (by omega)
            rw [e2]
          · cases ho
        · cases ho
      · cases ho
    · cases ho
  spx := fun q c A τ A' τ' T m i o hTI ho hA hτ => by
    unfold trF at ho ⊢
    split at ho
    · split at ho
      · split at ho
        · rename_i hq
          split at ho
          · rename_i T' hi
            cases ho
            have hq' : q + 1 ≤ i.1 := ble_true hq
            have e1 : toksL (trX n) (fun k => τ' (2 * (i.2 + k) + 1)) = toksL (trX n) (fun k => τ (2 * (i.2 + k) + 1)) := toksL_congr _ _ _ fun k hk => hτ.2 _ (Nat.add_lt_add_left hk _)
            have e2 : τ' (2 * q) = τ (2 * q) := hτ.1 q hq'
            have e3 : A' m = A m := hA m (Nat.lt_succ_self _)
            rw [e1, hi]
            dsimp only
            rw [e2, e3]
          · cases ho
        · cases ho
      · cases ho
    · cases ho

/-! list.__contains__ of ints -/
noncomputable def intsV : List Int → List Value
  | [] => []
  | x :: l => .int x 0 :: intsV l
noncomputable def eInt (x : Int) (y : Value) : Bool := match y with
  | .int z _ => z == x
  | _ => false
theorem eInt_gives (x : Int) (t : Tok) : ∀ (xs : List Int) (θ : Nat → Nat), ∀ y ∈ toksL (intsV xs) θ, EqGives y (.int x t) (eInt x y)
  | [], _, _, h => (nomatch h)
  | z :: l, θ, y, h => by
    cases h with
    | head => exact EqGives.int z x (θ 0) t
    | tail _ h => exact eInt_gives x t l _ y h
theorem eInt_any (x : Int) : ∀ (xs : List Int) (θ : Nat → Nat), (toksL (intsV xs) θ).any (eInt x) = xs.any (· == x)
  | [], _ => rfl
  | z :: l, θ => by
    show ((z == x) || (toksL (intsV l) _).any (eInt x)) = ((z == x) || l.any (· == x))
    rw [eInt_any x l]
theorem containsI_ok {x : Int} {xs : List Int} {r : Bool} (h : xs.any (· == x) = r) : SOk B prog w L (hdB containsN) (fun a => [.ref a, .int x 0]) lisV (intsV xs) (.bool r) :=
  sM_ok (id := "list.__contains__") (by decide +kernel) F.slot_list_contains.plain F.entry_list_contains (fun a θ θ' ep => SeqInW.list_containsW a ⟨toksL (intsV xs) θ'⟩ ep none #[] (.int x (θ 1)) (eInt x) fun y hy => eInt_gives x _ xs θ' y (Array.mem_def.mp hy))
    fun a θ θ' ep A R s hs hR => ⟨hs, by
      have := hR 0 s rfl (Nat.le_refl _) rfl rfl rfl
      have e : (⟨toksL (intsV xs) θ'⟩ : Array Value).any (eInt x) = r := by rw [← h, ← eInt_any x xs θ', ← Array.any_toList]
      rw [e]
      exact this⟩
end
/-! _law_takes -/
noncomputable def lenU (u : Nat) : Int := match u with
  | 0 => 3
  | 1 => 3
  | 2 => 4
  | _ => 2
/-- the places left at the end -/
noncomputable def plV (n u : Nat) : List Int := match n with
  | 0 => match u with
    | 0 => [1, 2, 3]
    | 3 => [1, 2]
    | _ => []
  | 1 => match u with
    | 2 => [3]
    | 3 => []
    | _ => [3]
  | 2 => match u with
    | 3 => [2]
    | _ => []
  | 3 => match u with
    | 0 => [1, 2, 3]
    | 1 => [1, 2, 3]
    | 2 => []
    | _ => [1, 2]
  | 4 => match u with
    | 2 => [4]
    | _ => []
  | _ => match u with
    | 1 => [2, 3]
    | 2 => [2, 3, 4]
    | _ => []
noncomputable def tkB (n u : Nat) : Bool := (plV n u).any (· == lenU u)
noncomputable def tkF (n u : Nat) : List FactF := [trF n, sF (hdB containsN) (fun a => [.ref a, .int (lenU u) 0]) lisV (intsV (plV n u)) (.bool (tkB n u))]
end Mine
end
section
open PySem PySem.W
namespace Mine
open Builtin Builtin.Str
set_option maxRecDepth 4000
section
variable {prog : Program} {w : World} {A : Around} {E : Value → Shared → Prop} {s : Shared}
theorem Keeps.rf (s : Shared) : Keeps s s := ⟨s.heap, s.toks, rfl, fun _ _ e => e⟩
theorem Keeps.tr {s s' s'' : Shared} : Keeps s s' → Keeps s' s'' → Keeps s s''
  | ⟨h, t, e, k⟩, ⟨h', t', e', k'⟩ => by
    subst e
    subst e'
    exact ⟨h', t', rfl, fun b o q => k' b o (k b o q)⟩
theorem rep_call {env : Env} {o : Expr} {nm : Str} {ap cp q1 q2 : Pos} {k1 k2 : Nat} {c1 c2 y : Str} {t : Tok} (hnm : nm = "replace") (hbase : attributeBase o nm env (eval o env) = eval o env) (hline : (ap.endLine == cp.line) = true)
    (hocc : (occurrences y c1 0 y.length (y.length + 1)).isEmpty = true) (ho : wpAny (model prog w) A (eval o env) (fun ov s₁ => ov = .str y t ∧ Keeps s s₁) E s) :
    wpAny (model prog w) A (eval (.Call (.Attribute o nm ap) [.Constant (.str c1) k1 q1, .Constant (.str c2) k2 q2] [] cp) env) (fun v s₃ => v = .str y t ∧ Keeps s s₃) E s := by
  subst hnm
  refine Call_method2 hbase rfl hline (wpAny_mono ho (fun ov s₁ h₁ => ?_) fun _ _ e => e)
  obtain ⟨rfl, hk⟩ := h₁
  refine ⟨"str", "str.replace", F.plainAttrs_str, F.slot_str_replace, F.type_str_replace, typeIs_str _ _ _, (fun _ e => nomatch e), ?_⟩
  refine Calls.callWith_builtin rfl (Calls.evalArgs_plain (Calls.spliced_cons (wpAny_Constant_str (Calls.spliced_cons (wpAny_Constant_str (Calls.spliced_nil ?_))))))
  have g := gives_str_replace y c1 c2 t s₁.toks (s₁.toks + 1) (fun h => by rw [hocc] at h; cases h)
  refine call_gives F.slot_str_replace (typeIs_str _ _ _) F.entry_str_replace (F.args_str_replace_3 _ _ _) g ?_
  rw [hocc]
  refine ⟨rfl, Mine.Keeps.tr hk ⟨s₁.heap, _, rfl, fun _ _ e => e⟩⟩
noncomputable def eltX (x nm1 nm2 c1 c2 c3 c4 : Str) (px a1 q1 q2 d1 a2 q3 q4 d2 : Pos) (k1 k2 k3 k4 : Nat) : Expr :=
  .Call (.Attribute (.Call (.Attribute (.Name x px) nm1 a1) [.Constant (.str c1) k1 q1, .Constant (.str c2) k2 q2] [] d1) nm2 a2) [.Constant (.str c3) k3 q3, .Constant (.str c4) k4 q4] [] d2
theorem elt_ok {env : Env} {x nm1 nm2 c1 c2 c3 c4 y : Str} {t : Tok} {px a1 q1 q2 d1 a2 q3 q4 d2 : Pos} {k1 k2 k3 k4 : Nat} {m : Str → Option Value} (h1 : nm1 = "replace") (h2 : nm2 = "replace") (l1 : (a1.endLine == d1.line) = true) (l2 : (a2.endLine == d2.line) = true)
    (hd : (x == ("__debug__" : Str)) = false) (hk : env.scope.kind = .function) (hl : env.kindOf x = some .local) (hn : s.heap.Ns env.locals m) (hv : m x = some (.str y t))
    (o1 : (occurrences y c1 0 y.length (y.length + 1)).isEmpty = true) (o2 : (occurrences y c3 0 y.length (y.length + 1)).isEmpty = true) :
    wpAny (model prog w) A (eval (eltX x nm1 nm2 c1 c2 c3 c4 px a1 q1 q2 d1 a2 q3 q4 d2 k1 k2 k3 k4) env) (fun v s₃ => v = .str y t ∧ Keeps s s₃) E s :=
  rep_call h2 rfl l2 o2 (rep_call h1 rfl l1 o1 (wpAny_Name (wpAny_loadName_local hk hl hn hv ⟨rfl, Keeps.rf s⟩) hd))
/-- the code object of the generator expression, found or made -/
theorem gcode {M : Model} {env : Env} {c P : Addr} {ps : Array Value} {pos : Pos} {q : Str} {scope : Scope} {Q : Value → Shared → Prop} (hc : env.code = .ref c) (hok : s.heap.IsCode c P ps)
    (hf : ∀ cv, codeAmong pos ps.toList = some cv → Q cv s)
    (hn : codeAmong pos ps.toList = none → ∀ c' h' tk, Heap.ExtBut P s.heap h' → s.heap.objs.size ≤ c' → c' < h'.objs.size → (∀ op, s.heap.get? P = some op → h'.get? P = some (Obj.mapFields (fun vs => vs ++ #[rawInt pos.line, rawInt pos.col, .ref c']) op)) → Q (.ref c') { s with heap := h', toks := tk }) :
    wpAny M A (genexprCode env pos q scope) Q E s := by
  obtain ⟨o, vs, file, tf, flags, tg, inF, text, tt, op, ho, hd, h11, h2, h7, h9, h10, hop, hpd, htr, hne⟩ := id hok
  unfold genexprCode codeAt
  rw [hc, if_neg (show ¬ ((Value.ref c == Value.none) = true) from Bool.false_ne_true)]
  refine wpAny_bind (wpAny_fieldsOf ho hd ?_)
  rw [h11]
  refine wpAny_bind (wpAny_fieldsOf hop hpd ?_)
  cases hnf : codeAmong pos ps.toList with
  | some cv => exact wpAny_pure (hf cv hnf)
  | none =>
    rw [h2, h7, h9, h10]
    refine wpAny_bind (wpAny_newCode fun c' P' h' tk hk hc' hP' hcode' hrec' => ?_)
    have hop' := hk _ _ hop
    refine wpAny_bind (wpAny_updateFieldsOfTheText hop' hpd ?_)
    have hnew : (Obj.mapFields (fun vs => if (codeAmong pos vs.toList).isSome = true then vs else vs ++ #[rawInt pos.line, rawInt pos.col, .ref c']) op).data =
        .fields (ps ++ #[rawInt pos.line, rawInt pos.col, .ref c']) := by
      rw [Obj.data_mapFields hpd, hnf]; rfl
    have hget := Heap.get?_update_self (h := h') (fun o => Obj.mapFields (fun vs => if (codeAmong pos vs.toList).isSome = true then vs else
      vs ++ #[rawInt pos.line, rawInt pos.col, .ref c']) o) hop' (Obj.isFreed_of_fields hnew)
    refine wpAny_bind (wpAny_fieldsOf hget hnew ?_)
    have hl : (ps ++ #[rawInt pos.line, rawInt pos.col, Value.ref c']).toList = ps.toList ++ [rawInt pos.line, rawInt pos.col, .ref c'] := by simp
    rw [hl, codeAmong_snoc _ htr hnf]
    refine wpAny_pure (hn hnf c' _ tk (fun b o' hb e => ((Heap.SameBut.update ..).extBut b o' hb (hk b o' e))) hc' (by rw [Heap.size_after_update]; exact hcode'.lt.1) fun op' ho' => ?_)
    rw [hop] at ho'
    cases ho'
    rw [hget]
    have : Obj.mapFields (fun vs => if (codeAmong pos vs.toList).isSome = true then vs else vs ++ #[rawInt pos.line, rawInt pos.col, .ref c']) op = Obj.mapFields (fun vs => vs ++ #[rawInt pos.line, rawInt pos.col, .ref c']) op := by
      obtain ⟨c1, d1, dt, sl⟩ := op
      have hpd : dt = .fields ps := hpd
      subst hpd
      show (⟨c1, d1, .fields (if (codeAmong pos ps.toList).isSome = true then ps else _), sl⟩ : Obj) = _
      rw [hnf]
      rfl
    rw [this]

noncomputable abbrev itemsA (y0 y1 : Str) (t0 t1 : Tok) : Array Value := #[.str y0 t0, .str y1 t1]
noncomputable abbrev FnI (y0 y1 : Str) (t0 t1 : Tok) (i : Nat) (v : Value) : Prop := (itemsA y0 y1 t0 t1)[i]? = some v
theorem gen_join {st : Shared} {a C g I : Addr} {y0 y1 sep : Str} {t0 t1 t : Tok} {Q : Value → Shared → Prop}
    (W : WalksS prog w A.in4 a (a :: C :: List.range C) (C :: [I]) (GenOnlyQ g) (passing (fun _ => true) 2 0).length (fun j y => ∃ i, (passing (fun _ => true) 2 0)[j]? = some i ∧ FnI y0 y1 t0 t1 i y) (GenAt prog w A.in4 a g C (List.range C) [I] (fun _ => true) 2 (FnI y0 y1 t0 t1)))
    (hst : GenAt prog w A.in4 a g C (List.range C) [I] (fun _ => true) 2 (FnI y0 y1 t0 t1) 0 st) (hlt : C < a) (hsz : a < st.heap.objs.size) (hjo : JoinOk sep [y0, y1] = true)
    (hQ : ∀ t' k' s', Moved (C :: [I]) (GenOnlyQ g) st s' → Q (.str (Txt.join sep [y0, y1]) t') { s' with toks := k' }) :
    wpAny (model prog w) A (call (.builtin "str.join") [.str sep t, .ref a]) Q E st := by
  have hp : passing (fun _ => true) 2 0 = [0, 1] := by decide
  rw [hp] at W
  refine SC.joinGen W.in4_2 (fun i s' h => h.1.typeIs) hst (fun b hb => ?_) (List.mem_cons_self ..) (fun i v hv => ?_) (fun s' l hm hacc => ?_) (by decide)
  · rcases List.mem_cons.mp hb with rfl | hb
    · exact hsz
    · rcases List.mem_cons.mp hb with rfl | hb
      · exact Nat.lt_trans hlt hsz
      · exact Nat.lt_trans (Nat.lt_trans (List.mem_range.mp hb) hlt) hsz
  · obtain ⟨i', _, h2⟩ := hv
    have h2 : (itemsA y0 y1 t0 t1)[i']? = some v := h2
    match i', h2 with
    | 0, h2 => exact ⟨y0, t0, (Option.some.inj h2).symm⟩
    | 1, h2 => exact ⟨y1, t1, (Option.some.inj h2).symm⟩
    | i' + 2, h2 => exact nomatch h2
  · have e : l.map (·.1) = [y0, y1] := by
      obtain ⟨h1, h2⟩ := hacc
      have h1 : l.length = 2 := by simpa [strValues] using h1
      match l, h1 with
      | [(a1, b1), (a2, b2)], _ =>
        obtain ⟨i, q1, q2⟩ := h2 0 (.str a1 b1) rfl
        obtain ⟨j, q3, q4⟩ := h2 1 (.str a2 b2) rfl
        cases q1
        cases q3
        injection (Option.some.inj q2) with r1 _
        injection (Option.some.inj q4) with r2 _
        rw [← r1, ← r2]
        rfl
    rw [e]
    exact ⟨hjo, fun t' k' => hQ t' k' s' hm⟩
noncomputable abbrev GenPost (prog : Program) (w : World) (A : Around) (env : Env) (scope : Scope) (x : Str) (elt : Expr) (code it : Value) (Q : Value → Shared → Prop) (bi : Addr) (s₄ : Shared) : Prop :=
  ∃ I fp wr n₀ P St₀ pz F, it = .ref I ∧ (∀ A' : Around, A'.handled = none → Walks prog w A' I fp wr n₀ P St₀) ∧ St₀ 0 s₄.heap ∧ (∀ b ∈ fp, b < s₄.heap.objs.size) ∧ s₄.heap.NoLimit ∧ cStatics ∉ wr ∧
          (∀ href : Heap, (∀ b o, s₄.heap.get? b = some o → href.get? b = some o) →
            QuietGen prog w (genEnv scope [] s₄.heap.objs.size code bi env) x [] elt (List.range s₄.heap.objs.size) wr P pz F href) ∧
          (∀ a h₅ tk gs, gs.bare = true → s₄.heap.objs.size < a → h₅.objs.size = a + 1 → (∀ b o, s₄.heap.get? b = some o → h₅.get? b = some o) →
            WalksS prog w A.in4 a (a :: s₄.heap.objs.size :: List.range s₄.heap.objs.size) (s₄.heap.objs.size :: wr) (GenOnlyQ s₄.gens.size) (passing pz n₀ 0).length
              (fun j y => ∃ i, (passing pz n₀ 0)[j]? = some i ∧ F i y) (GenAt prog w A.in4 a s₄.gens.size s₄.heap.objs.size (List.range s₄.heap.objs.size) wr pz n₀ F) →
            GenAt prog w A.in4 a s₄.gens.size s₄.heap.objs.size (List.range s₄.heap.objs.size) wr pz n₀ F 0 { s₄ with gens := s₄.gens.push gs, toks := tk, heap := h₅ } →
            Q (.ref a) { s₄ with gens := s₄.gens.push gs, toks := tk, heap := h₅ })
theorem gen_tail {env : Env} {k bm I : Addr} {sep x y0 y1 : Str} {t0 t1 t : Tok} {mg : Str → Option Value} {ob : Obj} {elt : Expr} {scope : Scope} {code : Value} {Q : Value → Shared → Prop}
    (hI : s.heap.IsListIter I k 0) (hl : s.heap.IsList k (itemsA y0 y1 t0 t1)) (hne : k ≠ I) (hIc : cStatics ≠ I)
    (hg : s.heap.Ns env.globals mg) (hb : mg "__builtins__" = some (.ref bm)) (hbne : bm ≠ builtinsNs) (hbm : s.heap.get? bm = some ob) (hbc : ob.cls = .type "module") (hbd : ob.dict = some builtinsNs) (hbdd : ob.data = .plain)
    (hnl : s.heap.NoLimit)
    (helt : ∀ (cenv : Env) (A' : Around) (E' : Value → Shared → Prop) (s₂ : Shared) (y : Str) (t : Tok) (m₂ : Str → Option Value), y = y0 ∨ y = y1 → cenv.scope = scope → s₂.heap.Ns cenv.locals m₂ → m₂ x = some (.str y t) → wpAny (model prog w) A' (eval elt cenv) (fun v s₃ => v = .str y t ∧ Keeps s₂ s₃) E' s₂)
    (hjo : JoinOk sep [y0, y1] = true)
    (hQ : ∀ (t' : Tok) (s' : Shared), s.heap.objs.size < s'.heap.objs.size → (∀ b o, b ≠ I → s.heap.get? b = some o → s'.heap.get? b = some o) → (PyProof.Rows.AllBare s.gens → PyProof.Rows.AllBare s'.gens) → s'.drawn = s.drawn → s'.os = s.os → Q (.str (Txt.join sep [y0, y1]) t') s') :
    wpAny (model prog w) A (builtinsFor env.globals env.builtins) (GenPost prog w A env scope x elt code (.ref I) (fun v st => wpAny (model prog w) A (call (.builtin "str.join") [.str sep t, v]) Q E st)) E s := by
  have hIlt : I < s.heap.objs.size := by obtain ⟨_, e, _⟩ := hI; exact Heap.lt_size e
  have hklt : k < s.heap.objs.size := by obtain ⟨_, e, _⟩ := hl; exact Heap.lt_size e
  refine wpAny_builtinsFor hg hb hbne hbm hbc hbd hbdd ?_
  refine ⟨I, [I, k], [I], 2, FnI y0 y1 t0 t1, _, fun _ => true, FnI y0 y1 t0 t1, rfl, fun A' hA => Walks.list hA _ _ hne (itemsA y0 y1 t0 t1), ⟨hI, hl⟩, ?_, hnl, ?_, ?_, ?_⟩
  · intro b hb
    rcases List.mem_cons.mp hb with rfl | hb
    · exact hIlt
    · rcases List.mem_cons.mp hb with rfl | hb
      · exact hklt
      · cases hb
  · intro hm
    rcases List.mem_cons.mp hm with e | hm
    · exact hIc e
    · cases hm
  · intro href hk
    refine ⟨fun A' E' i v s₂ m₂ hA hP hn hx hk => ?_, fun A' E' i v s₂ m₂ hA hP _ hn hx hk => ?_⟩
    · exact wpAny_pure ⟨rfl, Keeps.rf _⟩
    · have hv : ∃ y t, v = .str y t ∧ (y = y0 ∨ y = y1) := by
        have hP : (itemsA y0 y1 t0 t1)[i]? = some v := hP
        match i, hP with
        | 0, hP => exact ⟨y0, t0, (Option.some.inj hP).symm, .inl rfl⟩
        | 1, hP => exact ⟨y1, t1, (Option.some.inj hP).symm, .inr rfl⟩
        | i + 2, hP => exact nomatch hP
      obtain ⟨y, t, rfl, hy⟩ := hv
      exact wpAny_mono (helt _ A' E' s₂ y t m₂ hy rfl hn hx) (fun r s₃ h => ⟨h.1 ▸ hP, h.2⟩) fun _ _ e => e
  · intro a h₅ tk gs hbare ha h5 hk W hst
    refine gen_join W hst ha (by show a < h₅.objs.size; omega) hjo fun t' k' s' hm => ?_
    have hag : a < s'.heap.objs.size := by
      have hga : ∃ o, h₅.get? a = some o := by obtain ⟨o, _, _, ho, _⟩ := hst.1; exact ⟨o, ho⟩
      obtain ⟨o, ho⟩ := hga
      have := hm.heap a o (fun hb => by
        rcases List.mem_cons.mp hb with e | hb
        · exact Nat.ne_of_gt ha e
        · rcases List.mem_cons.mp hb with e | hb
          · exact Nat.ne_of_gt (Nat.lt_trans hIlt ha) e
          · cases hb) ho
      exact Heap.lt_size this
    refine hQ t' _ (Nat.lt_trans ha hag) (fun b o hb e => hm.heap b o (fun hb' => ?_) (hk b o e)) (fun hg => ((hg.push hbare).moved hm.gens)) hm.drawn hm.os
    rcases List.mem_cons.mp hb' with e' | hb'
    · exact absurd (Heap.lt_size e) (by rw [e']; exact Nat.lt_irrefl _)
    · rcases List.mem_cons.mp hb' with e' | hb'
      · exact hb e'
      · cases hb'

theorem join_hole {env : Env} {c P k bm : Addr} {ps : Array Value} {sep jn x itn y0 y1 : Str} {t0 t1 : Tok} {m mg : Str → Option Value} {ob : Obj} {elt : Expr} {scope : Scope} {pos px pit p0 ap cp : Pos} {k0 : Nat} {Q : Value → Shared → Prop}
    (hh : A.handled = none) (hroom : A.depth < recursionLimit) (hjn : jn = "join") (hline : (ap.endLine == cp.line) = true)
    (hcode : env.code = .ref c) (hok : s.heap.IsCode c P ps) (hcP : cStatics ≠ P)
    (hco : scope.isCoroutine = false) (hclos : closureFor scope env = pure []) (hcell : ∀ y ∈ scope.names, y.2 ≠ .cell) (h0 : scope.names.lookup (".0" : Str) = some NameKind.local) (hx : scope.names.lookup x = some .local) (hkind : scope.kind = .function)
    (hkf : env.scope.kind = .function) (hkl : env.kindOf itn = some .local) (hnd : (itn == ("__debug__" : Str)) = false) (hxd : (x == ("__debug__" : Str)) = false) (hfr : s.heap.Ns env.locals m) (hmk : m itn = some (.ref k)) (hkP : k ≠ P)
    (hl : s.heap.IsList k #[.str y0 t0, .str y1 t1])
    (hg : s.heap.Ns env.globals mg) (hgP : env.globals ≠ P) (hb : mg "__builtins__" = some (.ref bm)) (hbne : bm ≠ builtinsNs) (hbm : s.heap.get? bm = some ob) (hbP : bm ≠ P) (hbc : ob.cls = .type "module") (hbd : ob.dict = some builtinsNs) (hbdd : ob.data = .plain)
    (hnl : s.heap.NoLimit)
    (helt : ∀ (cenv : Env) (A' : Around) (E' : Value → Shared → Prop) (s₂ : Shared) (y : Str) (t : Tok) (m₂ : Str → Option Value), y = y0 ∨ y = y1 → cenv.scope = scope → s₂.heap.Ns cenv.locals m₂ → m₂ x = some (.str y t) → wpAny (model prog w) A' (eval elt cenv) (fun v s₃ => v = .str y t ∧ Keeps s₂ s₃) E' s₂)
    (hjo : JoinOk sep [y0, y1] = true)
    (hQ : ∀ (t : Tok) (s' : Shared), s.heap.objs.size < s'.heap.objs.size → (∀ b o, b ≠ P → s.heap.get? b = some o → s'.heap.get? b = some o) → (PyProof.Rows.AllBare s.gens → PyProof.Rows.AllBare s'.gens) → s'.drawn = s.drawn → s'.os = s.os →
      ((∃ cv, codeAmong pos ps.toList = some cv ∧ ∀ op, s.heap.get? P = some op → s'.heap.get? P = some op) ∨
        (codeAmong pos ps.toList = none ∧ ∃ c', s.heap.objs.size ≤ c' ∧ c' < s'.heap.objs.size ∧ ∀ op, s.heap.get? P = some op → s'.heap.get? P = some (Obj.mapFields (fun vs => vs ++ #[rawInt pos.line, rawInt pos.col, .ref c']) op))) →
      Q (.str (Txt.join sep [y0, y1]) t) s') :
    wpAny (model prog w) A (eval (.Call (.Attribute (.Constant (.str sep) k0 p0) jn ap) [.GeneratorExp elt [⟨.Name x px, .Name itn pit, [], 0⟩] scope pos] [] cp) env) Q E s := by
  subst hjn
  refine Call_method1 rfl rfl hline (wpAny_Constant_str ?_)
  refine ⟨"str", "str.join", F.plainAttrs_str, F.slot_str_join, F.type_str_join, typeIs_str _ _ _, (fun _ e => nomatch e), ?_⟩
  refine Calls.callWith_builtin rfl (Calls.evalArgs_plain (Calls.spliced_cons ?_))
  refine wpAny_mono (Q := fun v st => wpAny (model prog w) A (call (.builtin "str.join") [.str sep s.toks, v]) Q E st) ?_ (fun v st h => Calls.spliced_nil h) (fun _ _ e => e)
  refine wpAny_GeneratorExp_walksQ (cl := []) hh hco hclos hcell h0 hx hkind hroom (wpAny_Name (wpAny_loadName_local hkf hkl hfr hmk ?_) hnd) (fun _ => rfl)
  refine wpAny_pyIter_list hl ?_
  have hklt : k < s.heap.objs.size := by obtain ⟨_, e, _⟩ := hl; exact Heap.lt_size e
  have hPlt : P < s.heap.objs.size := hok.lt.2
  have hclt : cStatics < s.heap.objs.size := by obtain ⟨mc, h, _⟩ := hnl; exact h.lt
  have hI0 : (s.heap.push { cls := .type "list_iterator", data := .fields #[.ref k, .int 0 0] }).IsListIter s.heap.objs.size k 0 := ⟨_, Heap.get?_push_size _ rfl, rfl, rfl⟩
  have hPI : P ≠ s.heap.objs.size := Nat.ne_of_lt hPlt
  refine ⟨hnl.push _, gcode hcode (hok.push _) (fun cv hcv => ?_) (fun hcn c' h₃ tk₃ hx₃ hge hlt htab => ?_)⟩
  · refine gen_tail hI0 (hl.push _) (Nat.ne_of_lt hklt) (Nat.ne_of_lt hclt) (hg.push _) hb hbne (Heap.get?_push_of_some _ hbm) hbc hbd hbdd (hnl.push _) helt hjo fun t' s' h1 h2 h3 h4 h5 => ?_
    have h1 : (s.heap.push _).objs.size < s'.heap.objs.size := h1
    rw [Heap.size_push] at h1
    have hk : ∀ b o, s.heap.get? b = some o → s'.heap.get? b = some o := fun b o e => h2 b o (Nat.ne_of_lt (Heap.lt_size e)) (Heap.get?_push_of_some _ e)
    exact hQ t' s' (by omega) (fun b o _ e => hk b o e) h3 h4 h5 (.inl ⟨cv, hcv, fun op e => hk P op e⟩)
  · have hge : (s.heap.push _).objs.size ≤ c' := hge
    rw [Heap.size_push] at hge
    have hk3 : ∀ b o, b ≠ P → s.heap.get? b = some o → h₃.get? b = some o := fun b o hb e => hx₃ b o hb (Heap.get?_push_of_some _ e)
    refine gen_tail (I := s.heap.objs.size) (hI0.extBut hx₃ (Ne.symm hPI)) ((hl.push _).extBut hx₃ hkP) (Nat.ne_of_lt hklt) (Nat.ne_of_lt hclt) ((hg.push _).extBut hx₃ hgP) hb hbne (hk3 _ _ hbP hbm) hbc hbd hbdd ((hnl.push _).extBut hx₃ hcP) helt hjo fun t' s' h1 h2 h3 h4 h5 => ?_
    have h1 : h₃.objs.size < s'.heap.objs.size := h1
    have hk : ∀ b o, s.heap.get? b = some o → ∀ o', h₃.get? b = some o' → s'.heap.get? b = some o' := fun b o e o' e' => h2 b o' (Nat.ne_of_lt (Heap.lt_size e)) e'
    exact hQ t' s' (by omega) (fun b o hb e => hk b o e o (hk3 b o hb e)) h3 h4 h5 (.inr ⟨hcn, c', by omega, by omega, fun op e => hk P op e _ (htab op (Heap.get?_push_of_some _ e))⟩)
end
end Mine
end
section
open PySem PySem.W
namespace Mine
/-! a run's outcome depends on the addresses and tokens that it names alone -/
noncomputable def TIn (T : BT) (m : Nat) : Prop := ∀ j o, T.get j = some o → j < m
structure SpC (C : Cfg) : Prop where
  sz : ∀ q c A τ T m i o, C.sp q c A τ T m i = some o → TIn T m → m ≤ o.m ∧ ile i o.i ∧ TIn o.T o.m
  x : ∀ q c (A τ A' τ' : Nat → Nat) (T : BT) (m : Nat) (i : Nat × Nat) (o : Out), TIn T m → C.sp q c A τ T m i = some o → (∀ j, j < o.m → A' j = A j) → agr o.i τ' τ → C.sp q c A' τ' T m i = some o
theorem TIn.set {T : BT} {m : Nat} (h : TIn T m) (j : Nat) (f : Obj → Obj) : TIn (T.set j f) m := fun k o e => by
  rw [BT.get_set] at e
  by_cases q : k = j
  · rw [if_pos q] at e
    cases hg : T.get j with
    | none => rw [hg] at e; cases e
    | some o' => rw [q]; exact h j o' hg
  · rw [if_neg q] at e
    exact h k o e
theorem TIn.ins {T : BT} {m : Nat} (h : TIn T m) {o : Obj} (hg : ((T.ins m o).get m).isSome = true) : TIn (T.ins m o) (m + 1) := fun k o' e => by
  rw [BT.get_ins o T m hg] at e
  by_cases q : k = m
  · omega
  · rw [if_neg q] at e
    exact Nat.lt_succ_of_lt (h k o' e)
theorem ile.tr {i j k : Nat × Nat} (h : ile i j) (h' : ile j k) : ile i k := ⟨Nat.le_trans h.1 h'.1, Nat.le_trans h.2 h'.2⟩
theorem E_ag {C : Cfg} {A τ : Nat → Nat} {n : Nat} {ks : List (Result → Sem Fin)} {c : Code} {T : BT} {m : Nat} {i : Nat × Nat} {cs : List Nat} {e : List (VV × VV)} (hq : C.qt c = true) :
    E C A τ (n + 1) ks (.pure (.again c)) T m i cs e = (match cs with
              | 0 :: cs => E C A τ n ks (C.den c) T m i cs e
              | 1 :: q :: cs => match Nat.ble ks.length 15 with
                | false => none
                | true => match C.ov q c with
                  | none => none
                  | some t' => E C A τ n ks t' T m i cs e
              | 2 :: q :: cs => match Nat.ble ks.length 15 with
                | false => none
                | true => match C.sp q c A τ T m i with
                  | none => none
                  | some ⟨r, T', m', i', e'⟩ => match ks with
                    | [] => some ⟨r, T', m', i', e' ++ e⟩
                    | k :: ks => E C A τ n ks (k r) T' m' i' cs (e' ++ e)
              | _ => none) := by
  (simp only [E, hq]) <;> rfl
theorem E_cl {C : Cfg} {A τ : Nat → Nat} {n : Nat} {ks : List (Result → Sem Fin)} {c : Code} {g : Bool} {l : List Value} {k : Result → Sem Fin} {T : BT} {m : Nat} {i : Nat × Nat} {cs : List Nat} {e : List (VV × VV)} (hq : C.qt c = true) :
    E C A τ (n + 1) ks (.call c none g l k) T m i cs e = (match cs with
            | 0 :: cs => E C A τ n (k :: ks) (C.den c) T m i cs e
            | 1 :: q :: cs => match Nat.ble ks.length 15 with
              | false => none
              | true => match C.ov q c with
                | none => none
                | some t' => E C A τ n (k :: ks) t' T m i cs e
            | 2 :: q :: cs => match Nat.ble ks.length 15 with
              | false => none
              | true => match C.sp q c A τ T m i with
                | none => none
                | some ⟨r, T', m', i', e'⟩ => E C A τ n ks (k r) T' m' i' cs (e' ++ e)
            | _ => none) := by
  (simp only [E, hq]) <;> rfl
noncomputable abbrev CgP (C : Cfg) (n : Nat) (ks : List (Result → Sem Fin)) (t : Sem Fin) (T : BT) (m : Nat) (i : Nat × Nat) (cs : List Nat) (e : List (VV × VV)) (o : Out) (A τ : Nat → Nat) : Prop :=
  (m ≤ o.m ∧ ile i o.i ∧ TIn o.T o.m) ∧ ∀ A' τ' : Nat → Nat, (∀ j, j < o.m → A' j = A j) → agr o.i τ' τ → E C A' τ' n ks t T m i cs e = some o
theorem E_congr {C : Cfg} (hs : SpC C) : ∀ (n : Nat) (ks : List (Result → Sem Fin)) (t : Sem Fin) (T : BT) (m : Nat) (i : Nat × Nat) (cs : List Nat) (e : List (VV × VV)) (o : Out) (A τ : Nat → Nat), TIn T m → E C A τ n ks t T m i cs e = some o → CgP C n ks t T m i cs e o A τ := by
  intro n
  induction n with
  | zero => intro ks t T m i cs e o A τ _ h; cases h
  | succ n ih =>
    intro ks t T m i cs e o A τ hT h
    cases t with
    | pure fin =>
      cases fin with
      | done v =>
        cases ks with
        | nil => cases h; exact ⟨⟨Nat.le_refl _, ile.refl _, hT⟩, fun _ _ _ _ => rfl⟩
        | cons k ks => exact ih ks (k (.ok v)) T m i cs e o A τ hT h
      | again c =>
        cases hq : C.qt c with
        | false => simp only [E, hq] at h; cases h
        | true =>
          rw [E_ag hq] at h
          split at h
          · rename_i cs
            have z := ih ks (C.den c) T m i cs e o A τ hT h
            exact ⟨z.1, fun A' τ' hA hτ => (E_ag hq).trans (z.2 A' τ' hA hτ)⟩
          · rename_i q cs
            cases hb : Nat.ble ks.length 15 with
            | false => rw [hb] at h; cases h
            | true =>
              simp only [hb] at h
              cases ho : C.ov q c with
              | none => rw [ho] at h; cases h
              | some t' =>
                rw [ho] at h
                have z := ih ks t' T m i cs e o A τ hT h
                refine ⟨z.1, fun A' τ' hA hτ => ?_⟩
                rw [E_ag hq]
                simp only [hb, ho]
                exact z.2 A' τ' hA hτ
          · rename_i q cs
            cases hb : Nat.ble ks.length 15 with
            | false => rw [hb] at h; cases h
            | true =>
              simp only [hb] at h
              cases ho : C.sp q c A τ T m i with
              | none => rw [ho] at h; cases h
              | some o1 =>
                rw [ho] at h
                have y := hs.sz q c A τ T m i o1 ho hT
                cases ks with
                | nil =>
                  cases h
                  refine ⟨y, fun A' τ' hA hτ => ?_⟩
                  have hx := hs.x q c A τ A' τ' T m i o1 hT ho hA hτ
                  rw [E_ag hq]
                  simp only [hb, hx]
                | cons k ks =>
                  have z := ih ks (k o1.r) o1.T o1.m o1.i cs (o1.e ++ e) o A τ y.2.2 h
                  refine ⟨⟨Nat.le_trans y.1 z.1.1, y.2.1.tr z.1.2.1, z.1.2.2⟩, fun A' τ' hA hτ => ?_⟩
                  have hx := hs.x q c A τ A' τ' T m i o1 hT ho (fun j hj => hA j (Nat.lt_of_lt_of_le hj z.1.1)) ⟨fun j hj => hτ.1 j (Nat.lt_of_lt_of_le hj z.1.2.1.1), fun j hj => hτ.2 j (Nat.lt_of_lt_of_le hj z.1.2.1.2)⟩
                  rw [E_ag hq]
                  simp only [hb, hx]
                  exact z.2 A' τ' hA hτ
          · cases h
    | raise x =>
      cases ks with
      | nil => cases h; exact ⟨⟨Nat.le_refl _, ile.refl _, hT⟩, fun _ _ _ _ => rfl⟩
      | cons k ks => exact ih ks (k (.error x)) T m i cs e o A τ hT h
    | rule tag k => exact ih ks (k ()) T m i cs e o A τ hT h
    | «at» p' k => exact ih ks (k ()) T m i cs e o A τ hT h
    | point l k => exact ih ks (k ()) T m i cs e o A τ hT h
    | ask k => exact ih ks (k C.st) T m i cs ((.t (k C.st), .t (k C.st2)) :: e) o A τ hT h
    | load a q k =>
      cases cs with
      | nil => cases h
      | cons c cs =>
        cases c with
        | zero =>
          simp only [E] at h
          cases hB : C.B a with
          | none => rw [hB] at h; cases h
          | some o' =>
            rw [hB] at h
            have z := ih ks (k o') T m i cs e o A τ hT h
            refine ⟨z.1, fun A' τ' hA hτ => ?_⟩
            simp only [E, hB]
            exact z.2 A' τ' hA hτ
        | succ j =>
          simp only [E] at h
          cases hg : T.get j with
          | none => rw [hg] at h; cases h
          | some o' =>
            rw [hg] at h
            dsimp only at h
            cases hf : o'.isFreed with
            | true => rw [hf] at h; cases h
            | false =>
              rw [hf] at h
              have z := ih ks (k o') T m i cs _ o A τ hT h
              refine ⟨z.1, fun A' τ' hA hτ => ?_⟩
              simp only [E, hg, hf]
              rw [hA j (Nat.lt_of_lt_of_le (hT j o' hg) z.1.1)]
              exact z.2 A' τ' hA hτ
    | update a q f k =>
      cases cs with
      | nil => cases h
      | cons c cs =>
        cases c with
        | zero => cases h
        | succ j =>
          simp only [E] at h
          cases hg : T.get j with
          | none => rw [hg] at h; cases h
          | some o' =>
            rw [hg] at h
            dsimp only at h
            cases hf : o'.isFreed || (f o').isFreed with
            | true => rw [hf] at h; cases h
            | false =>
              rw [hf] at h
              have z := ih ks (k ()) (T.set j f) m i cs _ o A τ (hT.set j f) h
              refine ⟨z.1, fun A' τ' hA hτ => ?_⟩
              simp only [E, hg, hf]
              rw [hA j (Nat.lt_of_lt_of_le (hT j o' hg) z.1.1)]
              exact z.2 A' τ' hA hτ
    | alloc o' k =>
      simp only [E] at h
      cases hf : o'.isFreed with
      | true => rw [hf] at h; cases h
      | false =>
        rw [hf] at h
        dsimp only at h
        cases hg : (T.ins m o').get m with
        | none => rw [hg] at h; cases h
        | some ob =>
          rw [hg] at h
          have z := ih ks (k (A m)) (T.ins m o') (m + 1) i cs e o A τ (hT.ins (by rw [hg]; rfl)) h
          refine ⟨⟨Nat.le_of_succ_le z.1.1, z.1.2⟩, fun A' τ' hA hτ => ?_⟩
          simp only [E, hf, hg]
          rw [hA m z.1.1]
          exact z.2 A' τ' hA hτ
    | fresh k =>
      have z := ih ks (k (τ (2 * i.1))) T m (i.1 + 1, i.2) cs e o A τ hT h
      refine ⟨⟨z.1.1, ⟨Nat.le_of_succ_le z.1.2.1.1, z.1.2.1.2⟩, z.1.2.2⟩, fun A' τ' hA hτ => ?_⟩
      show E C A' τ' n ks (k (τ' (2 * i.1))) T m (i.1 + 1, i.2) cs e = some o
      rw [hτ.1 i.1 z.1.2.1.1]
      exact z.2 A' τ' hA hτ
    | handled own k =>
      cases own with
      | true => cases h
      | false => exact ih ks (k none) T m i cs e o A τ hT h
    | call c hd g l k =>
      cases hd with
      | some _ => cases h
      | none =>
        cases hq : C.qt c with
        | false => simp only [E, hq] at h; cases h
        | true =>
        rw [E_cl hq] at h
        split at h
        · rename_i cs
          have z := ih (k :: ks) (C.den c) T m i cs e o A τ hT h
          exact ⟨z.1, fun A' τ' hA hτ => (E_cl hq).trans (z.2 A' τ' hA hτ)⟩
        · rename_i q cs
          cases hb : Nat.ble ks.length 15 with
          | false => rw [hb] at h; cases h
          | true =>
            simp only [hb] at h
            cases ho : C.ov q c with
            | none => rw [ho] at h; cases h
            | some t' =>
              rw [ho] at h
              have z := ih (k :: ks) t' T m i cs e o A τ hT h
              refine ⟨z.1, fun A' τ' hA hτ => ?_⟩
              rw [E_cl hq]
              simp only [hb, ho]
              exact z.2 A' τ' hA hτ
        · rename_i q cs
          cases hb : Nat.ble ks.length 15 with
          | false => rw [hb] at h; cases h
          | true =>
            simp only [hb] at h
            cases ho : C.sp q c A τ T m i with
            | none => rw [ho] at h; cases h
            | some o1 =>
              rw [ho] at h
              have y := hs.sz q c A τ T m i o1 ho hT
              have z := ih ks (k o1.r) o1.T o1.m o1.i cs (o1.e ++ e) o A τ y.2.2 h
              refine ⟨⟨Nat.le_trans y.1 z.1.1, y.2.1.tr z.1.2.1, z.1.2.2⟩, fun A' τ' hA hτ => ?_⟩
              have hx := hs.x q c A τ A' τ' T m i o1 hT ho (fun j hj => hA j (Nat.lt_of_lt_of_le hj z.1.1)) ⟨fun j hj => hτ.1 j (Nat.lt_of_lt_of_le hj z.1.2.1.1), fun j hj => hτ.2 j (Nat.lt_of_lt_of_le hj z.1.2.1.2)⟩
              rw [E_cl hq]
              simp only [hb, hx]
              exact z.2 A' τ' hA hτ
        · cases h
    | _ => cases h
end Mine
end
section
open PySem PySem.W
namespace Mine
open Builtin Builtin.Str
/-! a while turn, opened at the assignment of a join over a generator expression -/
noncomputable def holeV (s : Stmt) : Option (List Expr × Expr × Pos) := match s with
  | .Assign targets value pos => match value with
    | .Call _ args _ _ => match args with
      | [a] => match a with
        | .GeneratorExp .. => some (targets, value, pos)
        | _ => none
      | _ => none
    | _ => none
  | _ => none
theorem holeV_eq {s : Stmt} {ts : List Expr} {v : Expr} {pos : Pos} (h : holeV s = some (ts, v, pos)) : s = .Assign ts v pos ∧ ∃ f a k p, v = .Call f a k p := by
  unfold holeV at h
  repeat' split at h
  all_goals first | (cases h; done) | (cases h; exact ⟨rfl, _, _, _, _, rfl⟩)
noncomputable def nextW (k rest : Sem Flow) : Sem Flow := k >>= fun f => match f with
  | .next => rest
  | f => pure f
noncomputable abbrev HoleR : Type := Sem Unit × Expr × (Value → Sem Flow)
noncomputable def holeT (F : Fns) : Nat → List Stmt → Env → Option (Sem Unit × Expr × (Value → Sem Flow))
  | 0, _, _ => none
  | n + 1, b, env => match b with
    | [] => none
    | s :: rest => match holeV s with
      | some (ts, v, pos) => some (standAt pos >>= fun _ => F.sws ts v pos.line env >>= fun z => match z with
          | true => unsupported "a swap"
          | false => pure (), v, fun x => nextW (F.sst ts v env >>= fun y => F.ast env x y ((F.ase ts env).map (·.2))) (F.exs rest env))
      | none => match (match stView s with
          | .ifs test body orelse pos => match holeT F n body env with
            | some r => some (standAt pos >>= fun _ => F.tr test env (F.ev test env) >>= fun b => match b with
                | true => r.1
                | false => unsupported "x", r.2.1, fun x => nextW (r.2.2 x) (F.exs rest env))
            | none => match holeT F n orelse env with
              | some r => some (standAt pos >>= fun _ => F.tr test env (F.ev test env) >>= fun b => match b with
                | true => unsupported "x"
                | false => r.1, r.2.1, fun x => nextW (r.2.2 x) (F.exs rest env))
              | none => none
          | _ => (none : Option (Sem Unit × Expr × (Value → Sem Flow)))) with
        | some r => some r
        | none => match holeT F n rest env with
          | some r => some (F.exs [s] env >>= fun f => match f with
              | .next => r.1
              | _ => unsupported "x", r.2.1, r.2.2)
          | none => none
noncomputable def preW (F : Fns) (test : Expr) (p : Sem Unit) (env : Env) : Sem Fin := F.tr test env (F.ev test env) >>= fun b => match b with
  | true => p >>= fun _ => pure (.done (.ret .none))
  | false => unsupported "x"
noncomputable def sufW (test : Expr) (body orelse : List Stmt) (env : Env) (k : Sem Flow) : Sem Fin := k >>= fun f => match f with
    | .next => again (.whileLoop test body orelse env)
    | .cont => again (.whileLoop test body orelse env)
    | .brk => pure (.done .next)
    | .ret v => pure (.done (.ret v))
section
variable {M : Model} {Γ : Ctx} {X : Value → Pos → Shared → Prop}
theorem exs1' (st : Stmt) (env : Env) (Q : Flow → Pos → Shared → Prop) (p : Pos) (s : Shared) (h : Sem.wp M Γ (execs [st] env) Q X p s) : Sem.wp M Γ (exec st env) Q X p s := exs1 st env Q p s h
theorem holeT_ok : ∀ (n : Nat) (b : List Stmt) (env : Env) (r : Sem Unit × Expr × (Value → Sem Flow)), holeT F0 n b env = some r → ∀ (Q : Flow → Pos → Shared → Prop) (p : Pos) (s : Shared),
    Sem.wp M Γ r.1 (fun _ p' s' => Sem.wp M Γ (eval r.2.1 env) (fun v p'' s'' => Sem.wp M Γ (r.2.2 v) Q X p'' s'') X p' s') X p s → Sem.wp M Γ (execs b env) Q X p s
  | 0, _, _, _, h, _, _, _, _ => by cases h
  | n + 1, [], _, _, h, _, _, _, _ => by cases h
  | n + 1, st :: rest, env, r, h, Q, p, s, hw => by
    have e : execs (st :: rest) env = (exec st env >>= fun f => match f with | .next => execs rest env | f => pure f) := rfl
    rw [e]
    unfold holeT at h
    dsimp only at h
    have nx : ∀ (k : Sem Flow) (p : Pos) (s : Shared), Sem.wp M Γ (nextW k (execs rest env)) Q X p s = Sem.wp M Γ k (fun f p s => Sem.wp M Γ (match f with | .next => execs rest env | f => pure f) Q X p s) X p s := fun k p s => by
      unfold nextW; rw [Sem.wp_bind']
    cases hv : holeV st with
    | some x =>
      obtain ⟨ts, v, pos⟩ := x
      rw [hv] at h
      cases h
      obtain ⟨rfl, f, a, kk, pp, rfl⟩ := holeV_eq hv
      rw [Sem.wp_bind']
      show Sem.wp M Γ (standAt pos >>= fun _ => swapsWithSole ts (.Call f a kk pp) pos.line env >>= fun z => if z then (do
          evalThenUse (.Call f a kk pp) env fun v => assignAll v ((assignEach ts env).map (·.2))
          pure .next) else (do
          let v ← eval (.Call f a kk pp) env
          assignStores env v (← swappedStores ts (.Call f a kk pp) env) ((assignEach ts env).map (·.2)))) _ X p s
      dsimp only at hw
      rw [Sem.wp_bind'] at hw ⊢
      refine Sem.wp_mono _ _ _ (fun _ p s hw => ?_) (fun _ _ _ h' => h') p s hw
      rw [Sem.wp_bind'] at hw ⊢
      refine Sem.wp_mono _ _ _ (fun z p s hw => ?_) (fun _ _ _ h' => h') p s hw
      cases z with
      | true => exact absurd hw wp_unsup
      | false =>
        have hw : Sem.wp M Γ (Sem.pure ()) _ X p s := hw
        rw [Sem.wp_pure] at hw
        show Sem.wp M Γ (eval (.Call f a kk pp) env >>= fun v => swappedStores ts (.Call f a kk pp) env >>= fun y => assignStores env v y ((assignEach ts env).map (·.2))) _ X p s
        rw [Sem.wp_bind']
        refine Sem.wp_mono _ _ _ (fun v p s hw => ?_) (fun _ _ _ h' => h') p s hw
        exact (nx _ p s).mp hw
    | none =>
      rw [hv] at h
      dsimp only at h
      have skip : (match holeT F0 n rest env with
          | some r => some (F0.exs [st] env >>= fun f => match f with
              | .next => r.1
              | _ => unsupported "x", r.2.1, r.2.2)
          | none => none) = some r → Sem.wp M Γ (exec st env >>= fun f => match f with | .next => execs rest env | f => pure f) Q X p s := fun h => by
        cases hr : holeT F0 n rest env with
        | none => rw [hr] at h; cases h
        | some r' =>
          rw [hr] at h
          cases h
          dsimp only at hw
          rw [Sem.wp_bind'] at hw ⊢
          refine exs1' st env _ p s (Sem.wp_mono _ _ _ (fun f p s hw => ?_) (fun _ _ _ h' => h') p s hw)
          cases f with
          | next => exact holeT_ok n rest env r' hr Q p s hw
          | _ => exact absurd hw wp_unsup
      cases hs : stView st with
      | ifs test body orelse pos =>
        have e := stView_if hs
        subst e
        rw [hs] at h
        dsimp only at h
        cases hb : holeT F0 n body env with
        | some r' =>
          rw [hb] at h
          cases h
          dsimp only at hw
          rw [Sem.wp_bind']
          show Sem.wp M Γ (standAt pos >>= fun _ => isTrue test env (eval test env) >>= fun b => if b then execs body env else execs orelse env) _ X p s
          rw [Sem.wp_bind'] at hw ⊢
          refine Sem.wp_mono _ _ _ (fun _ p s hw => ?_) (fun _ _ _ h' => h') p s hw
          rw [Sem.wp_bind'] at hw ⊢
          refine Sem.wp_mono _ _ _ (fun b p s hw => ?_) (fun _ _ _ h' => h') p s hw
          cases b with
          | false => exact absurd hw wp_unsup
          | true =>
            refine holeT_ok n body env r' hb _ p s (Sem.wp_mono _ _ _ (fun _ p s hw => ?_) (fun _ _ _ h' => h') p s hw)
            exact Sem.wp_mono _ _ _ (fun v p s hw => (nx _ p s).mp hw) (fun _ _ _ h' => h') p s hw
        | none =>
          rw [hb] at h
          dsimp only at h
          cases ho : holeT F0 n orelse env with
          | some r' =>
            rw [ho] at h
            cases h
            dsimp only at hw
            rw [Sem.wp_bind']
            show Sem.wp M Γ (standAt pos >>= fun _ => isTrue test env (eval test env) >>= fun b => if b then execs body env else execs orelse env) _ X p s
            rw [Sem.wp_bind'] at hw ⊢
            refine Sem.wp_mono _ _ _ (fun _ p s hw => ?_) (fun _ _ _ h' => h') p s hw
            rw [Sem.wp_bind'] at hw ⊢
            refine Sem.wp_mono _ _ _ (fun b p s hw => ?_) (fun _ _ _ h' => h') p s hw
            cases b with
            | true => exact absurd hw wp_unsup
            | false =>
              refine holeT_ok n orelse env r' ho _ p s (Sem.wp_mono _ _ _ (fun _ p s hw => ?_) (fun _ _ _ h' => h') p s hw)
              exact Sem.wp_mono _ _ _ (fun v p s hw => (nx _ p s).mp hw) (fun _ _ _ h' => h') p s hw
          | none => rw [ho] at h; exact skip h
      | asg targets test a b ipos pos => rw [hs] at h; exact skip h
      | no => rw [hs] at h; exact skip h
theorem whole_ok {n : Nat} {test : Expr} {body orelse : List Stmt} {env : Env} {r : Sem Unit × Expr × (Value → Sem Flow)} (h : holeT F0 n body env = some r) (Q : Fin → Pos → Shared → Prop) (p : Pos) (s : Shared) (R1 : Result → Shared → Prop) (hE : ∀ x s, ¬ R1 (.error x) s)
    (hp : Sem.wp M Γ (preW F0 test r.1 env) (Sem.finPost M Γ R1) (fun x _ s' => R1 (.error x) s') p s)
    (hk : ∀ p s, R1 (.ok (.ret .none)) s → Sem.wp M Γ (eval r.2.1 env) (fun v p s => Sem.wp M Γ (sufW test body orelse env (r.2.2 v)) Q X p s) X p s) : Sem.wp M Γ (whileTurn test body orelse env) Q X p s := by
  have e : whileTurn test body orelse env = (isTrue test env (eval test env) >>= fun b => match b with
      | true => execs body env >>= fun f => match f with
        | .next => again (.whileLoop test body orelse env)
        | .cont => again (.whileLoop test body orelse env)
        | .brk => pure (.done .next)
        | .ret v => pure (.done (.ret v))
      | false => execs orelse env >>= fun f => pure (.done f)) := by
    unfold whileTurn
    refine congrArg _ (funext fun b => ?_)
    cases b with
    | true =>
      show (execs body env >>= fun f => _) = _
      refine congrArg _ (funext fun f => ?_)
      cases f <;> rfl
    | false => rfl
  rw [e]
  unfold preW at hp
  rw [Sem.wp_bind'] at hp ⊢
  refine Sem.wp_mono _ _ _ (fun b p s hp => ?_) (fun _ _ _ h' => absurd h' (hE _ _)) p s hp
  cases b with
  | false => exact absurd hp wp_unsup
  | true =>
    dsimp only at hp ⊢
    rw [Sem.wp_bind'] at hp ⊢
    refine holeT_ok n body env r h _ p s (Sem.wp_mono _ _ _ (fun _ p s hp => ?_) (fun _ _ _ h' => absurd h' (hE _ _)) p s hp)
    have hp : Sem.wp M Γ (Sem.pure (Fin.done (Flow.ret .none))) (Sem.finPost M Γ R1) (fun x _ s' => R1 (.error x) s') p s := hp
    rw [Sem.wp_pure] at hp
    refine Sem.wp_mono _ _ _ (fun v p s hw => ?_) (fun _ _ _ h' => h') p s (hk p s hp)
    unfold sufW at hw
    rw [Sem.wp_bind'] at hw
    exact hw
end
end Mine
end
section
open PySem PySem.W
namespace Mine
open Builtin Builtin.Str
structure HV where
  sep : Str
  jn : Str
  x : Str
  itn : Str
  xe : Str
  nm1 : Str
  nm2 : Str
  c1 : Str
  c2 : Str
  c3 : Str
  c4 : Str
  k0 : Nat
  k1 : Nat
  k2 : Nat
  k3 : Nat
  k4 : Nat
  p0 : Pos
  ap : Pos
  cp : Pos
  px : Pos
  pit : Pos
  pos : Pos
  pxe : Pos
  a1 : Pos
  q1 : Pos
  q2 : Pos
  d1 : Pos
  a2 : Pos
  q3 : Pos
  q4 : Pos
  d2 : Pos
  scope : Scope
noncomputable def HV.elt (V : HV) : Expr := eltX V.xe V.nm1 V.nm2 V.c1 V.c2 V.c3 V.c4 V.pxe V.a1 V.q1 V.q2 V.d1 V.a2 V.q3 V.q4 V.d2 V.k1 V.k2 V.k3 V.k4
noncomputable def HV.expr (V : HV) : Expr := .Call (.Attribute (.Constant (.str V.sep) V.k0 V.p0) V.jn V.ap) [.GeneratorExp V.elt [⟨.Name V.x V.px, .Name V.itn V.pit, [], 0⟩] V.scope V.pos] [] V.cp
structure EV2 where
  xe : Str
  nm1 : Str
  nm2 : Str
  c1 : Str
  c2 : Str
  c3 : Str
  c4 : Str
  pxe : Pos
  a1 : Pos
  q1 : Pos
  q2 : Pos
  d1 : Pos
  a2 : Pos
  q3 : Pos
  q4 : Pos
  d2 : Pos
  k1 : Nat
  k2 : Nat
  k3 : Nat
  k4 : Nat
noncomputable def eltV (e : Expr) : Option EV2 := match e with
  | .Call f2 as2 kw2 d2 => match kw2 with
    | [] => match as2 with
      | [.Constant (.str c3) k3 q3, .Constant (.str c4) k4 q4] => match f2 with
        | .Attribute o2 nm2 a2 => match o2 with
          | .Call f1 as1 kw1 d1 => match kw1 with
            | [] => match as1 with
              | [.Constant (.str c1) k1 q1, .Constant (.str c2) k2 q2] => match f1 with
                | .Attribute o1 nm1 a1 => match o1 with
                  | .Name xe pxe => some ⟨xe, nm1, nm2, c1, c2, c3, c4, pxe, a1, q1, q2, d1, a2, q3, q4, d2, k1, k2, k3, k4⟩
                  | _ => none
                | _ => none
              | _ => none
            | _ => none
          | _ => none
        | _ => none
      | _ => none
    | _ => none
  | _ => none
theorem eltV_is {e : Expr} {v : EV2} (h : eltV e = some v) : e = eltX v.xe v.nm1 v.nm2 v.c1 v.c2 v.c3 v.c4 v.pxe v.a1 v.q1 v.q2 v.d1 v.a2 v.q3 v.q4 v.d2 v.k1 v.k2 v.k3 v.k4 := by
  unfold eltV at h
  repeat' split at h
  all_goals first | (cases h; done) | (cases h; rfl)
noncomputable def hView (e : Expr) : Option HV := match e with
  | .Call f as kw cp => match kw with
    | [] => match f with
      | .Attribute o jn ap => match o with
        | .Constant (.str sep) k0 p0 => match as with
          | [a] => match a with
            | .GeneratorExp elt gens scope pos => match gens with
              | [g] => match g with
                | ⟨tg, it, ifs, ia⟩ => match ifs with
                  | [] => match tg with
                    | .Name x px => match it with
                      | .Name itn pit => match ia with
                        | .ofNat 0 => match eltV elt with
                          | some v => some ⟨sep, jn, x, itn, v.xe, v.nm1, v.nm2, v.c1, v.c2, v.c3, v.c4, k0, v.k1, v.k2, v.k3, v.k4, p0, ap, cp, px, pit, pos, v.pxe, v.a1, v.q1, v.q2, v.d1, v.a2, v.q3, v.q4, v.d2, scope⟩
                          | none => none
                        | _ => none
                      | _ => none
                    | _ => none
                  | _ => none
              | _ => none
            | _ => none
          | _ => none
        | _ => none
      | _ => none
    | _ => none
  | _ => none
theorem hView_is {e : Expr} {V : HV} (h : hView e = some V) : e = V.expr := by
  unfold hView at h
  repeat' split at h
  all_goals first | (cases h; done) | skip
  rename_i hv
  have := eltV_is hv
  cases h
  subst this
  rfl
theorem seqEq_is {a b : Str} (h : seqEq a b = true) : b = a := by
  unfold seqEq at h
  obtain ⟨⟨a⟩⟩ := a
  obtain ⟨⟨b⟩⟩ := b
  have h : b = a := by simpa using h
  rw [h]
noncomputable def jnS : Str := ⟨#[106, 111, 105, 110]⟩
noncomputable def rpS : Str := ⟨#[114, 101, 112, 108, 97, 99, 101]⟩
noncomputable def d0S : Str := ⟨#[46, 48]⟩
noncomputable def dgS : Str := ⟨#[95, 95, 100, 101, 98, 117, 103, 95, 95]⟩
noncomputable def kdF (k : ScopeKind) : Bool := match k with
  | .function => true
  | _ => false
theorem kdF_is {k : ScopeKind} (h : kdF k = true) : k = .function := by
  cases k <;> first | rfl | cases h
noncomputable def nkL (o : Option NameKind) : Bool := match o with
  | some .local => true
  | _ => false
theorem nkL_is {o : Option NameKind} (h : nkL o = true) : o = some .local := by
  unfold nkL at h
  split at h
  · rfl
  · cases h
noncomputable def nm2 (l : List (Str × NameKind)) (x : Str) : Bool := match l with
  | [a, b] => match nkL (some a.2) with
    | true => match nkL (some b.2) with
      | true => match seqEq a.1 d0S with
        | true => seqEq b.1 x
        | false => false
      | false => false
    | false => false
  | _ => false
theorem nm2_is {l : List (Str × NameKind)} {x : Str} (h : nm2 l x = true) : l = [(d0S, .local), (x, .local)] := by
  unfold nm2 at h
  split at h
  · rename_i a b
    obtain ⟨a1, a2⟩ := a
    obtain ⟨b1, b2⟩ := b
    split at h
    · rename_i h1
      split at h
      · rename_i h2
        split at h
        · rename_i h3
          have e1 := nkL_is h1
          have e2 := nkL_is h2
          have e3 := seqEq_is h3
          have e4 := seqEq_is h
          cases e1
          cases e2
          dsimp only at e3 e4
          rw [← e3, ← e4]
        · cases h
      · cases h
    · cases h
  · cases h
noncomputable def allB : List Bool → Bool
  | [] => true
  | b :: l => match b with
    | true => allB l
    | false => false
theorem allB_is {b : Bool} {l : List Bool} (h : allB (b :: l) = true) : b = true ∧ allB l = true := by
  unfold allB at h
  cases b with
  | true => exact ⟨rfl, h⟩
  | false => cases h
noncomputable def hStat (V : HV) (env : Env) : Bool := allB [seqEq jnS V.jn, seqEq rpS V.nm1, seqEq rpS V.nm2, seqEq V.x V.xe, seqEq ⟨#[45]⟩ V.sep, seqEq ⟨#[92]⟩ V.c1, seqEq ⟨#[45]⟩ V.c3,
  V.ap.endLine == V.cp.line, V.a1.endLine == V.d1.line, V.a2.endLine == V.d2.line, kdF V.scope.kind, !V.scope.isCoroutine, nm2 V.scope.names V.x, !(seqEq dgS V.x), !(seqEq dgS V.itn), kdF env.scope.kind, nkL (env.scope.names.lookup V.itn)]
structure HS (V : HV) (env : Env) : Prop where
  jn : V.jn = jnS
  n1 : V.nm1 = rpS
  n2 : V.nm2 = rpS
  xe : V.xe = V.x
  sep : V.sep = ⟨#[45]⟩
  c1 : V.c1 = ⟨#[92]⟩
  c3 : V.c3 = ⟨#[45]⟩
  l0 : (V.ap.endLine == V.cp.line) = true
  l1 : (V.a1.endLine == V.d1.line) = true
  l2 : (V.a2.endLine == V.d2.line) = true
  kd : V.scope.kind = .function
  co : V.scope.isCoroutine = false
  nm : V.scope.names = [(d0S, .local), (V.x, .local)]
  dx : (V.x == ("__debug__" : Str)) = false
  di : (V.itn == ("__debug__" : Str)) = false
  ek : env.scope.kind = .function
  el : env.kindOf V.itn = some .local
theorem dgS_eq : dgS = ("__debug__" : Str) := by decide +kernel
theorem ne_dg {x : Str} (h : (!(seqEq dgS x)) = true) : (x == ("__debug__" : Str)) = false := by
  rw [← dgS_eq]
  cases e : (x == dgS) with
  | false => rfl
  | true =>
    have : x = dgS := by simpa using e
    subst this
    exact absurd h (by decide +kernel)
theorem hStat_is {V : HV} {env : Env} (h : hStat V env = true) : HS V env := by
  unfold hStat at h
  obtain ⟨h1, h⟩ := allB_is h
  obtain ⟨h2, h⟩ := allB_is h
  obtain ⟨h3, h⟩ := allB_is h
  obtain ⟨h4, h⟩ := allB_is h
  obtain ⟨h5, h⟩ := allB_is h
  obtain ⟨h6, h⟩ := allB_is h
  obtain ⟨h7, h⟩ := allB_is h
  obtain ⟨h8, h⟩ := allB_is h
  obtain ⟨h9, h⟩ := allB_is h
  obtain ⟨h10, h⟩ := allB_is h
  obtain ⟨h11, h⟩ := allB_is h
  obtain ⟨h12, h⟩ := allB_is h
  obtain ⟨h13, h⟩ := allB_is h
  obtain ⟨h14, h⟩ := allB_is h
  obtain ⟨h15, h⟩ := allB_is h
  obtain ⟨h16, h⟩ := allB_is h
  obtain ⟨h17, h⟩ := allB_is h
  exact ⟨seqEq_is h1, seqEq_is h2, seqEq_is h3, seqEq_is h4, seqEq_is h5, seqEq_is h6, seqEq_is h7, h8, h9, h10, kdF_is h11, by simpa using h12, nm2_is h13, ne_dg h14, ne_dg h15, kdF_is h16, nkL_is h17⟩
theorem HS.closure {V : HV} {env : Env} (h : HS V env) : closureFor V.scope env = pure [] := by
  unfold closureFor
  rw [h.nm]
  rfl
theorem HS.lk0 {V : HV} {env : Env} (h : HS V env) : V.scope.names.lookup (".0" : Str) = some NameKind.local := by
  rw [h.nm]
  have : (".0" : Str) = d0S := by decide +kernel
  rw [this]
  simp [List.lookup]
theorem HS.lkx {V : HV} {env : Env} (h : HS V env) : V.scope.names.lookup V.x = some NameKind.local := by
  rw [h.nm]
  simp only [List.lookup]
  split
  · rfl
  · simp
theorem HS.cell {V : HV} {env : Env} (h : HS V env) : ∀ y ∈ V.scope.names, y.2 ≠ .cell := by
  rw [h.nm]
  intro y hy
  rcases List.mem_cons.mp hy with rfl | hy
  · exact fun e => nomatch e
  · rcases List.mem_cons.mp hy with rfl | hy
    · exact fun e => nomatch e
    · cases hy
theorem HS.eltok {V : HV} {env : Env} (h : HS V env) {prog : Program} {w : World} (cenv : Env) (A' : Around) (E' : Value → Shared → Prop) (s₂ : Shared) (y : Str) (t : Tok) (m₂ : Str → Option Value) (hy : y = ⟨#[48]⟩ ∨ y = ⟨#[57]⟩) (hs : cenv.scope = V.scope)
    (hn : s₂.heap.Ns cenv.locals m₂) (hv : m₂ V.x = some (.str y t)) : wpAny (model prog w) A' (eval V.elt cenv) (fun v s₃ => v = .str y t ∧ Keeps s₂ s₃) E' s₂ := by
  have hr : rpS = ("replace" : Str) := by decide +kernel
  refine elt_ok (h.n1.trans hr) (h.n2.trans hr) h.l1 h.l2 (by rw [h.xe]; exact h.dx) (by rw [hs]; exact h.kd) (by show cenv.scope.names.lookup V.xe = _; rw [hs, h.xe]; exact h.lkx) hn (by rw [h.xe]; exact hv) ?_ ?_
  · rw [h.c1]
    rcases hy with rfl | rfl <;> decide +kernel
  · rw [h.c3]
    rcases hy with rfl | rfl <;> decide +kernel
end Mine
end
section
open PySem PySem.W
namespace Mine
open Builtin Builtin.Str
/-! what of the base the join leans on -/
structure BaseF (B : Addr → Option Obj) (gA : Addr) : Prop where
  code : ∃ o vs file tf flags tg inF text tt, B 292 = some o ∧ o.data = .fields vs ∧ vs.getD 11 .none = .ref 288 ∧ vs.getD 18 .none = .str file tf ∧ vs.getD 7 .none = .int flags tg ∧ vs.getD 9 .none = .bool inF ∧ vs.getD 10 .none = .int text tt
  glob : ∃ o es ep bm ob, B gA = some o ∧ o.data = .dict es ep ∧ StrKeys es ∧ nsFind es "__builtins__" = some (.ref bm) ∧ bm ≠ builtinsNs ∧ bm ≠ 288 ∧ B bm = some ob ∧ ob.cls = .type "module" ∧ ob.dict = some builtinsNs ∧ ob.data = .plain
  stat : ∃ o es ep, B cStatics = some o ∧ o.data = .dict es ep ∧ StrKeys es ∧ nsFind es "sys.recursionlimit" = none
  gne : gA ≠ 288
noncomputable def skB (es : Array DictEntry) : Bool := es.toList.all fun e => match e.key with
  | .str _ _ => true
  | _ => false
theorem skB_is {es : Array DictEntry} (h : skB es = true) : StrKeys es := by
  intro e he
  unfold skB at h
  rw [List.all_eq_true] at h
  have := h e (Array.mem_def.mp he)
  cases hk : e.key with
  | str n t => exact ⟨n, t, rfl⟩
  | _ => rw [hk] at this; cases this
noncomputable def retN (r : Result) : Bool := match r with
  | .ok f => match f with
    | .ret v => match v with
      | .none => true
      | _ => false
    | _ => false
  | _ => false
theorem retN_is {r : Result} (h : retN r = true) : r = .ok (.ret .none) := by
  unfold retN at h
  repeat' split at h
  all_goals first | (cases h; done) | rfl
noncomputable def okR (r : Result) : Bool := match r with
  | .ok _ => true
  | .error _ => false
/-- the frame's value of a name, the chunks, the table -/
noncomputable def hDyn (itn : Str) (jf jc : Nat) (T : BT) : Option (List Value × Value × List Value) := match tbO (T.get 0) with
  | none => none
  | some vs => match T.get jf with
    | none => none
    | some of => match of.data with
      | .dict es _ => match skB es with
        | false => none
        | true => match nsFind es itn with
          | none => none
          | some rv => match sq (T.get jc) with
            | none => none
            | some x => match x.1 with
              | .type n => match Nat.beq (PySem.code n) listN with
                | true => some (vs, rv, x.2.1)
                | false => none
              | _ => none
      | _ => none
theorem hDyn_is {itn : Str} {jf jc : Nat} {T : BT} {vs ys : List Value} {rv : Value} (h : hDyn itn jf jc T = some (vs, rv, ys)) :
    T.get 0 = some (tabO vs) ∧ (∃ of es ep, T.get jf = some of ∧ of.data = .dict es ep ∧ StrKeys es ∧ nsFind es itn = some rv) ∧ ∃ e, T.get jc = some ⟨.type "list", none, .seq ⟨ys⟩ e, #[]⟩ := by
  unfold hDyn at h
  split at h
  · cases h
  · rename_i vs' h0
    split at h
    · cases h
    · rename_i of h1
      split at h
      · rename_i es ep h2
        split at h
        · cases h
        · rename_i h3
          split at h
          · cases h
          · rename_i rv' h4
            split at h
            · cases h
            · rename_i x h5
              obtain ⟨cl, l, e⟩ := x
              dsimp only at h
              split at h
              · rename_i n hn
                split at h
                · rename_i h6
                  cases h
                  have := codeN listN_eq h6
                  subst this
                  exact ⟨tbO_is h0, ⟨of, es, ep, h1, h2, skB_is h3, h4⟩, e, sq_is h5⟩
                · cases h
              · cases h
      · cases h
noncomputable def frO : Obj := ⟨.none, none, .freed, #[]⟩
noncomputable def addT (pos : Pos) (c : Addr) (o : Obj) : Obj := Obj.mapFields (fun vs => vs ++ #[rawInt pos.line, rawInt pos.col, .ref c]) o
noncomputable def tripB : List Value → Bool
  | [] => true
  | a :: l => match a with
    | .int _ _ => match l with
      | b :: l => match b with
        | .int _ _ => match l with
          | _ :: l => tripB l
          | [] => false
        | _ => false
      | [] => false
    | _ => false
theorem tripB_is : ∀ (l : List Value), tripB l = true → TriplesOk l
  | [], _ => trivial
  | [a], h => by unfold tripB at h; cases a <;> cases h
  | [a, b], h => by unfold tripB at h; cases a <;> (try (cases h; done)); cases b <;> cases h
  | a :: b :: c :: l, h => by
    unfold tripB at h
    cases a <;> (try (cases h; done))
    cases b <;> (try (cases h; done))
    exact tripB_is l h
noncomputable def hOut (pos : Pos) (vs : List Value) (A : Nat → Nat) (T : BT) (m : Nat) : Option (BT × Nat) := match tripB vs with
  | false => none
  | true => match codeAmong pos vs with
    | some _ => some (T, m)
    | none => match insL (T.set 0 (addT pos (A m))) m [frO] with
      | some U => some (U, m + 1)
      | none => none
noncomputable def zS : Str := ⟨#[48, 45, 57]⟩
structure WhP where
  f1 : Nat
  c1 : List Nat
  f2 : Nat
  c2 : List Nat
  jf : Nat
  jc : Nat
  gA : Addr
noncomputable def whF (C : Cfg) (W : WhP) : FactF := fun _ c A τ T m i => match c with
  | .whileLoop test body orelse env => match holeT FT 24 body env with
    | none => none
    | some r => match hView r.2.1 with
      | none => none
      | some V => match hStat V env with
        | false => none
        | true => match E C A τ W.f1 [] (preW FT test r.1 env) T m i W.c1 [] with
          | none => none
          | some o1 => match retN o1.r with
            | false => none
            | true => match hDyn V.itn W.jf W.jc o1.T with
              | none => none
              | some d => match hOut V.pos d.1 A o1.T o1.m with
                | none => none
                | some tm => match E C A τ W.f2 [] (sufW test body orelse env (r.2.2 (.str zS (τ (2 * o1.i.2 + 1))))) tm.1 tm.2 (o1.i.1, o1.i.2 + 1) W.c2 [] with
                  | none => none
                  | some o2 => match Nat.ble (W.jf + 1) o1.m with
                    | false => none
                    | true => match Nat.ble (W.jc + 1) o1.m with
                     | false => none
                     | true => match okR o2.r with
                      | false => none
                      | true => some ⟨o2.r, o2.T, o2.m, o2.i, o1.e ++ ([(.v env.code, .v (.ref 292)), (.v (.ref env.globals), .v (.ref W.gA)), (.v (.ref env.locals), .v (.ref (A W.jf))), (.v d.2.1, .v (.ref (A W.jc))), (.l (strkAll d.2.2), .l [.str ⟨#[48]⟩ 0, .str ⟨#[57]⟩ 0]), (.v (.ref (A 0)), .v (.ref 288))] ++ o2.e)⟩
  | _ => none
/-- the parts of an outcome -/
structure WhO (C : Cfg) (W : WhP) (c : Code) (A τ : Nat → Nat) (T : BT) (m : Nat) (i : Nat × Nat) (o : Out) : Prop where
  ex : ∃ test body orelse env r V o1 vs rv ys T2 m2 o2, c = .whileLoop test body orelse env ∧ holeT FT 24 body env = some r ∧ hView r.2.1 = some V ∧ hStat V env = true ∧
    E C A τ W.f1 [] (preW FT test r.1 env) T m i W.c1 [] = some o1 ∧ o1.r = .ok (.ret .none) ∧ hDyn V.itn W.jf W.jc o1.T = some (vs, rv, ys) ∧ hOut V.pos vs A o1.T o1.m = some (T2, m2) ∧
    E C A τ W.f2 [] (sufW test body orelse env (r.2.2 (.str zS (τ (2 * o1.i.2 + 1))))) T2 m2 (o1.i.1, o1.i.2 + 1) W.c2 [] = some o2 ∧ W.jf < o1.m ∧ W.jc < o1.m ∧ okR o2.r = true ∧
    o = ⟨o2.r, o2.T, o2.m, o2.i, o1.e ++ ([(.v env.code, .v (.ref 292)), (.v (.ref env.globals), .v (.ref W.gA)), (.v (.ref env.locals), .v (.ref (A W.jf))), (.v rv, .v (.ref (A W.jc))), (.l (strkAll ys), .l [.str ⟨#[48]⟩ 0, .str ⟨#[57]⟩ 0]), (.v (.ref (A 0)), .v (.ref 288))] ++ o2.e)⟩
theorem whF_is {C : Cfg} {W : WhP} {q : Nat} {c : Code} {A τ : Nat → Nat} {T : BT} {m : Nat} {i : Nat × Nat} {o : Out} (h : whF C W q c A τ T m i = some o) : WhO C W c A τ T m i o := by
  unfold whF at h
  split at h
  · rename_i test body orelse env
    split at h
    · cases h
    · rename_i r h1
      split at h
      · cases h
      · rename_i V h2
        split at h
        · cases h
        · rename_i h3
          split at h
          · cases h
          · rename_i o1 h4
            split at h
            · cases h
            · rename_i h5
              split at h
              · cases h
              · rename_i d h6
                split at h
                · cases h
                · rename_i tm h7
                  split at h
                  · cases h
                  · rename_i o2 h8
                    split at h
                    · cases h
                    · rename_i h9
                      split at h
                      · cases h
                      · rename_i h10
                        split at h
                        · cases h
                        rename_i h11
                        cases h
                        exact ⟨test, body, orelse, env, r, V, o1, d.1, d.2.1, d.2.2, tm.1, tm.2, o2, rfl, h1, h2, h3, h4, retN_is h5, h6, h7, h8, ble_true h9, ble_true h10, h11, rfl⟩
  · cases h
theorem whF_mk {C : Cfg} {W : WhP} {q : Nat} {A τ : Nat → Nat} {T : BT} {m : Nat} {i : Nat × Nat} {test : Expr} {body orelse : List Stmt} {env : Env} {r : Sem Unit × Expr × (Value → Sem Flow)} {V : HV} {o1 o2 : Out} {vs ys : List Value} {rv : Value} {T2 : BT} {m2 : Nat}
    (h1 : holeT FT 24 body env = some r) (h2 : hView r.2.1 = some V) (h3 : hStat V env = true) (h4 : E C A τ W.f1 [] (preW FT test r.1 env) T m i W.c1 [] = some o1) (h5 : o1.r = .ok (.ret .none)) (h6 : hDyn V.itn W.jf W.jc o1.T = some (vs, rv, ys)) (h7 : hOut V.pos vs A o1.T o1.m = some (T2, m2))
    (h8 : E C A τ W.f2 [] (sufW test body orelse env (r.2.2 (.str zS (τ (2 * o1.i.2 + 1))))) T2 m2 (o1.i.1, o1.i.2 + 1) W.c2 [] = some o2) (h9 : W.jf < o1.m) (h10 : W.jc < o1.m) (h11 : okR o2.r = true) :
    whF C W q (.whileLoop test body orelse env) A τ T m i = some ⟨o2.r, o2.T, o2.m, o2.i, o1.e ++ ([(.v env.code, .v (.ref 292)), (.v (.ref env.globals), .v (.ref W.gA)), (.v (.ref env.locals), .v (.ref (A W.jf))), (.v rv, .v (.ref (A W.jc))), (.l (strkAll ys), .l [.str ⟨#[48]⟩ 0, .str ⟨#[57]⟩ 0]), (.v (.ref (A 0)), .v (.ref 288))] ++ o2.e)⟩ := by
  have e5 : retN o1.r = true := by rw [h5]; rfl
  have e9 : Nat.ble (W.jf + 1) o1.m = true := Nat.ble_eq.mpr h9
  have e10 : Nat.ble (W.jc + 1) o1.m = true := Nat.ble_eq.mpr h10
  unfold whF
  dsimp only
  rw [h1]
  dsimp only
  rw [h2]
  dsimp only
  rw [h3]
  dsimp only
  rw [h4]
  dsimp only
  rw [e5]
  dsimp only
  rw [h6]
  dsimp only
  rw [h7]
  dsimp only
  rw [h8]
  dsimp only
  rw [e9]
  dsimp only
  rw [e10]
  dsimp only
  rw [h11]
end Mine
end
section
open PySem PySem.W
namespace Mine
open Builtin Builtin.Str
theorem hOut_congr {pos : Pos} {vs : List Value} {A A' : Nat → Nat} {T : BT} {m : Nat} (h : A' m = A m) : hOut pos vs A' T m = hOut pos vs A T m := by
  unfold hOut
  rw [h]
theorem hOut_m {pos : Pos} {vs : List Value} {A : Nat → Nat} {T T2 : BT} {m m2 : Nat} (h : hOut pos vs A T m = some (T2, m2)) : m ≤ m2 ∧ (m2 = m ∧ codeAmong pos vs ≠ none ∧ T2 = T ∨ m2 = m + 1 ∧ codeAmong pos vs = none ∧ insL (T.set 0 (addT pos (A m))) m [frO] = some T2) ∧ TriplesOk vs := by
  unfold hOut at h
  split at h
  · cases h
  · rename_i ht
    have ht := tripB_is vs ht
    split at h
    · rename_i cv hc
      cases h
      exact ⟨Nat.le_refl _, .inl ⟨rfl, (by rw [hc]; simp), rfl⟩, ht⟩
    · rename_i hc
      split at h
      · rename_i U hU
        cases h
        exact ⟨Nat.le_succ _, .inr ⟨rfl, hc, hU⟩, ht⟩
      · cases h
section
variable {B : Addr → Option Obj} {G : Lg} {A₁ : Nat → Nat} {T₁ : BT} {m₁ : Nat} {s s' : Shared} {vs : List Value} {pos : Pos}
theorem rep_hole (hZ : G.Z = fun Ls _ => Ls = []) (D : Rep B G A₁ T₁ m₁ s) (hA : ∀ j, G.M ≤ A₁ j) (h0 : T₁.get 0 = some (tabO vs)) (e0 : A₁ 0 = 288) (hB : B 288 = none)
    (hsz : s.heap.objs.size < s'.heap.objs.size) (hk : ∀ b o, b ≠ 288 → s.heap.get? b = some o → s'.heap.get? b = some o) (hg : PyProof.Rows.AllBare s.gens → PyProof.Rows.AllBare s'.gens) (hd : s'.drawn = s.drawn) (hos : s'.os = s.os) (ht : s.toks ≤ s'.toks)
    (htab : (∃ cv, codeAmong pos vs = some cv ∧ ∀ op, s.heap.get? 288 = some op → s'.heap.get? 288 = some op) ∨
        (codeAmong pos vs = none ∧ ∃ c', s.heap.objs.size ≤ c' ∧ c' < s'.heap.objs.size ∧ ∀ op, s.heap.get? 288 = some op → s'.heap.get? 288 = some (addT pos c' op))) :
    ∃ A₂ : Nat → Nat, (∀ j, j < m₁ → A₂ j = A₁ j) ∧ (∀ j, G.M ≤ A₂ j) ∧ ∀ T₂ m₂, hOut pos vs A₂ T₁ m₁ = some (T₂, m₂) → Rep B G A₂ T₂ m₂ s' ∧ Inv s m₁ A₂ m₂ s' := by
  have hne : ∀ j o, T₁.get j = some o → j ≠ 0 → A₁ j ≠ 288 := fun j o hj hj0 e => hj0 (D.inj j 0 (D.own j o hj).1 (D.own 0 _ h0).1 (e.trans e0.symm))
  have hz : ∀ (A : Nat → Nat) (m : Nat), ZAt G A m s'.heap := fun A m => ⟨[], by rw [hZ], fun a ha => nomatch ha⟩
  have hbase : ∀ a o, B a = some o → s'.heap.get? a = some o := fun a o e => hk a o (fun q => by rw [q, hB] at e; cases e) (D.base a o e)
  rcases htab with ⟨cv, hc, h288⟩ | ⟨hc, c', h1, h2, h288⟩
  · refine ⟨A₁, fun _ _ => rfl, hA, fun T₂ m₂ ho => ?_⟩
    obtain ⟨_, h, _⟩ := hOut_m ho
    rcases h with ⟨rfl, _, rfl⟩ | ⟨_, hn, _⟩
    · refine ⟨⟨fun j o e => ⟨(D.own j o e).1, fun hf => ?_⟩, D.inj, fun j hj => Nat.lt_trans (D.lt j hj) hsz, hbase, D.off, hz _ _, ⟨Nat.le_trans D.toks.1 ht, Nat.lt_of_lt_of_le D.toks.2 ht⟩, Nat.le_trans D.room (Nat.le_of_lt hsz)⟩,
        ⟨Nat.le_refl _, fun b o e hb _ => hk b o hb e, Nat.le_of_lt hsz, fun j a b => absurd b (Nat.not_lt.mpr a), hg, hd, hos, ht⟩⟩
      by_cases hj : j = 0
      · subst hj
        rw [e0]
        have := (D.own 0 o e).2 hf
        rw [e0] at this
        exact h288 o this
      · exact hk _ _ (hne j o e hj) ((D.own j o e).2 hf)
    · rw [hc] at hn; cases hn
  · have hlt : ∀ j, j < m₁ → A₁ j < c' := fun j hj => Nat.lt_of_lt_of_le (D.lt j hj) h1
    refine ⟨fun j => if j = m₁ then c' else A₁ j, fun j hj => if_neg (Nat.ne_of_lt hj), fun j => ?_, fun T₂ m₂ ho => ?_⟩
    · show G.M ≤ if j = m₁ then c' else A₁ j
      split
      · exact Nat.le_trans D.room h1
      · exact hA j
    · obtain ⟨_, h, _⟩ := hOut_m ho
      rcases h with ⟨_, hn, _⟩ | ⟨rfl, _, hU⟩
      · exact absurd hc hn
      · rw [show (if m₁ = m₁ then c' else A₁ m₁) = c' from if_pos rfl] at hU
        have hTin : TIn T₁ m₁ := fun j o e => (D.own j o e).1
        have hget := insL_get [frO] _ _ m₁ hU (hTin.set 0 _)
        refine ⟨⟨fun j o e => ?_, fun i j hi hj e => ?_, fun j hj => ?_, hbase, fun a o j e hj => ?_, hz _ _, ⟨Nat.le_trans D.toks.1 ht, Nat.lt_of_lt_of_le D.toks.2 ht⟩, Nat.le_trans D.room (Nat.le_of_lt hsz)⟩,
          ⟨Nat.le_succ _, fun b o e hb _ => hk b o hb e, Nat.le_of_lt hsz, fun j a b => ?_, hg, hd, hos, ht⟩⟩
        · rcases hget j o e with ⟨hj, e'⟩ | ⟨hj, e'⟩
          · refine ⟨Nat.lt_succ_of_lt hj, fun hf => ?_⟩
            rw [if_neg (Nat.ne_of_lt hj)]
            rw [BT.get_set] at e'
            by_cases q : j = 0
            · rw [if_pos q, h0] at e'
              cases e'
              rw [q, e0]
              have := (D.own 0 _ h0).2 rfl
              rw [e0] at this
              exact h288 _ this
            · rw [if_neg q] at e'
              exact hk _ _ (hne j o e' q) ((D.own j o e').2 hf)
          · have hx : j - m₁ = 0 := by
              have := (List.getElem?_eq_some_iff.mp e').1
              have : j - m₁ < 1 := this
              omega
            rw [hx] at e'
            cases e'
            exact ⟨by omega, fun hf => nomatch hf⟩
        · have e : (if i = m₁ then c' else A₁ i) = if j = m₁ then c' else A₁ j := e
          by_cases q1 : i = m₁ <;> by_cases q2 : j = m₁
          · omega
          · rw [if_pos q1, if_neg q2] at e
            exact absurd e (Nat.ne_of_gt (hlt j (by omega)))
          · rw [if_neg q1, if_pos q2] at e
            exact absurd e (Nat.ne_of_lt (hlt i (by omega)))
          · rw [if_neg q1, if_neg q2] at e
            exact D.inj i j (by omega) (by omega) e
        · show (if j = m₁ then c' else A₁ j) < _
          split
          · exact h2
          · exact Nat.lt_trans (D.lt j (by omega)) hsz
        · show (if j = m₁ then c' else A₁ j) ≠ a
          split
          · have := Heap.lt_size (D.base a o e)
            exact fun q => absurd this (by rw [← q]; exact Nat.not_lt.mpr h1)
          · exact D.off a o j e (by omega)
        · have : j = m₁ := by omega
          show _ ≤ if j = m₁ then c' else A₁ j
          rw [if_pos this]
          exact h1
end
end Mine
end
section
open PySem PySem.W
namespace Mine
open Builtin Builtin.Str
set_option maxRecDepth 20000
theorem isF_id {q : Nat} {c : Code} {A τ : Nat → Nat} {T : BT} {m : Nat} {i : Nat × Nat} {o : Out} (h : isF q c A τ T m i = some o) : o.T = T ∧ o.m = m ∧ o.i = i := by
  unfold isF at h
  repeat' split at h
  all_goals first | (cases h; done) | (cases h; exact ⟨rfl, rfl, rfl⟩)
theorem trSpC (kt : Params → X.KT) (P : Params) (b : Bool × Bool) : SpC (trCC kt P b) where
  sz := fun q c A τ T m i o h hT => by
    have h : spOf [isF] q c A τ T m i = some o := h
    unfold spOf at h
    cases hq : ([isF] : List FactF)[q / 128]? with
    | none => rw [hq] at h; cases h
    | some F =>
      rw [hq] at h
      have hF : F = isF := by
        rcases List.mem_cons.mp (List.mem_of_getElem? hq) with e | e
        · exact e
        · cases e
      subst hF
      obtain ⟨a, b, c⟩ := isF_id h
      rw [a, b, c]
      exact ⟨Nat.le_refl _, ile.refl _, hT⟩
  x := fun q c A τ A' τ' T m i o hT h hA hτ => by
    have h : spOf [isF] q c A τ T m i = some o := h
    show spOf [isF] q c A' τ' T m i = some o
    unfold spOf at h ⊢
    cases hq : ([isF] : List FactF)[q / 128]? with
    | none => rw [hq] at h; cases h
    | some F =>
      rw [hq] at h
      have hF : F = isF := by
        rcases List.mem_cons.mp (List.mem_of_getElem? hq) with e | e
        · exact e
        · cases e
      subst hF
      exact (isF_ok (B := fun _ => none) (prog := progD) (w := ⟨fun _ _ => 0, P⟩) (L := 0)).spx _ c A τ A' τ' T m i o hT h hA hτ
theorem hOut_found {pos : Pos} {vs : List Value} {A A' : Nat → Nat} {T : BT} {m : Nat} {x : BT × Nat} (hc : codeAmong pos vs ≠ none) (h : hOut pos vs A T m = some x) : hOut pos vs A' T m = some x := by
  unfold hOut at h ⊢
  cases ht : tripB vs with
  | false => rw [ht] at h; cases h
  | true =>
    rw [ht] at h
    cases hv : codeAmong pos vs with
    | none => exact absurd hv hc
    | some cv => rw [hv] at h; exact h
section
variable {kt : Params → X.KT} {w : World}
theorem whF_sp {W : WhP} {G : Lg} {L : Nat} (hL : L ≤ 626) (hN : G.N = 0) (hZ : G.Z = fun Ls _ => Ls = []) (hB : BaseF (BB kt w.params) W.gA) :
    ∀ q c (A₀ τ₀ : Nat → Nat) (T : BT) (m : Nat) (i : Nat × Nat) (Γ : Ctx) (p : Pos) (s : Shared) (R : Result → Shared → Prop), (∀ j, G.M ≤ A₀ j) → Γ.code = c → CtxOk L 0 Γ → TkI i τ₀ s → Rep (BB kt w.params) G A₀ T m s →
    (∀ A τ, (∀ j, j < m → A j = A₀ j) → agr i τ τ₀ → (∀ j, G.M ≤ A j) → ∃ o, whF (trCC kt w.params (rows w.params)) W q c A τ T m i = some o ∧ ∀ x ∈ o.e, x.1 = x.2) →
    (∀ A τ s' o, (∀ j, j < m → A j = A₀ j) → agr i τ τ₀ → (∀ j, G.M ≤ A j) → whF (trCC kt w.params (rows w.params)) W q c A τ T m i = some o → ile i o.i → TkI o.i τ s' → Rep (BB kt w.params) G A o.T o.m s' → Inv s m A o.m s' → R o.r s') →
    wpCode (model progD w) Γ R p s := by
  intro q c A₀ τ₀ T m i Γ p s R hm0 hc hΓ hk D h1 h2
  have hC : (trCC kt w.params (rows w.params)).Ok G progD w (L + 64) := CD_ok (by omega) rfl (isSp_ok hN rfl)
  have hSp := trSpC kt w.params (rows w.params)
  have hTin : TIn T m := fun j o e => (D.own j o e).1
  have hok : ∀ A : Nat → Nat, (∀ j, G.M ≤ A j) → ∀ τ, G.ok A τ := fun A h τ => ⟨fun _ => by rw [hN]; exact Nat.zero_le _, h⟩
  obtain ⟨oo, ho, _⟩ := h1 A₀ τ₀ (fun _ _ => rfl) (agr.refl _ _) hm0
  obtain ⟨test, body, orelse, env, r, V, _, _, _, _, _, _, _, rfl, t1, t2, t3, _⟩ := (whF_is ho).ex
  clear ho
  have S := hStat_is t3
  have eV := hView_is t2
  -- the parts at any addresses and tokens that agree
  have parts : ∀ A τ, (∀ j, j < m → A j = A₀ j) → agr i τ τ₀ → (∀ j, G.M ≤ A j) → ∃ o1 vs rv ys T2 m2 o2, E (trCC kt w.params (rows w.params)) A τ W.f1 [] (preW FT test r.1 env) T m i W.c1 [] = some o1 ∧ o1.r = .ok (.ret .none) ∧ hDyn V.itn W.jf W.jc o1.T = some (vs, rv, ys) ∧ hOut V.pos vs A o1.T o1.m = some (T2, m2) ∧
      E (trCC kt w.params (rows w.params)) A τ W.f2 [] (sufW test body orelse env (r.2.2 (.str zS (τ (2 * o1.i.2 + 1))))) T2 m2 (o1.i.1, o1.i.2 + 1) W.c2 [] = some o2 ∧ W.jf < o1.m ∧ W.jc < o1.m ∧ okR o2.r = true ∧
      ∀ x ∈ o1.e ++ ([(.v env.code, .v (.ref 292)), (.v (.ref env.globals), .v (.ref W.gA)), (.v (.ref env.locals), .v (.ref (A W.jf))), (.v rv, .v (.ref (A W.jc))), (.l (strkAll ys), .l [.str ⟨#[48]⟩ 0, .str ⟨#[57]⟩ 0]), (.v (.ref (A 0)), .v (.ref 288))] ++ o2.e), x.1 = x.2 := fun A τ hA hτ hM => by
    obtain ⟨o, ho, he⟩ := h1 A τ hA hτ hM
    obtain ⟨test', body', orelse', env', r', V', o1, vs, rv, ys, T2, m2, o2, hcc, u1, u2, u3, u4, u5, u6, u7, u8, u9, u10, u12, u11⟩ := (whF_is ho).ex
    injection hcc with e1 e2 e3 e4
    subst e1; subst e2; subst e3; subst e4
    rw [t1] at u1
    cases u1
    rw [t2] at u2
    cases u2
    subst u11
    exact ⟨o1, vs, rv, ys, T2, m2, o2, u4, u5, u6, u7, u8, u9, u10, u12, he⟩
  have t1' : holeT F0 24 body env = some r := by rw [← FT_eq]; exact t1
  refine code_den ?_
  rw [hc]
  show Sem.wp (model progD w) Γ ((whileTurn test body orelse env).onRaise _) _ _ p s
  rw [Sem.wp_onRaise]
  let R1 : Result → Shared → Prop := fun r1 s1 => r1 = .ok (.ret .none) ∧ ∃ A τ o1, (∀ j, j < m → A j = A₀ j) ∧ agr i τ τ₀ ∧ (∀ j, G.M ≤ A j) ∧ E (trCC kt w.params (rows w.params)) A τ W.f1 [] (preW FT test r.1 env) T m i W.c1 [] = some o1 ∧ TkI o1.i τ s1 ∧ Rep (BB kt w.params) G A o1.T o1.m s1 ∧ Inv s m A o1.m s1
  refine whole_ok t1' _ p s R1 (fun x s h => nomatch h.1) ?_ ?_
  · rw [← FT_eq]
    refine E_sound hC (Nat.le_refl _) s m W.f1 (preW FT test r.1 env) T m i W.c1 [] A₀ τ₀ s Γ p [] R1 (hok A₀ hm0 τ₀) hΓ trivial hk D (Inv.refl s m A₀) (fun A τ hA hτ hn => ?_) fun A τ s1 o1 hA hτ hn ho hD hI => ?_
    · obtain ⟨o1, vs, rv, ys, T2, m2, o2, u4, _, _, _, _, _, _, _, he⟩ := parts A τ hA hτ hn.2
      exact ⟨o1, u4, fun x hx => he x (List.mem_append_left _ hx)⟩
    · obtain ⟨o1', vs, rv, ys, T2, m2, o2, u4, u5, _⟩ := parts A τ hA hτ hn.2
      have ho : E (trCC kt w.params (rows w.params)) A τ W.f1 [] (preW FT test r.1 env) T m i W.c1 [] = some o1 := ho
      rw [u4] at ho
      cases ho
      exact ⟨u5, A, τ, o1, hA, hτ, hn.2, u4, hD.1, hD.2, hI⟩
  · intro p1 s1 hR1
    obtain ⟨_, A₁, τ₁, o1, hA1, hτ1, hM1, u4, hk1, D1, I1⟩ := hR1
    obtain ⟨o1', vs, rv, ys, T2', m2', o2', v4, v5, v6, v7, v8, v9, v10, v11, he⟩ := parts A₁ τ₁ hA1 hτ1 hM1
    rw [u4] at v4
    cases v4
    have cg := E_congr hSp _ _ _ _ _ _ _ _ _ _ _ hTin u4
    obtain ⟨hT0, ⟨of, es, ep, hof, hod, hsk, hns⟩, ec, hTc⟩ := hDyn_is v6
    have qe := fun x hx => he x (List.mem_append_right _ (List.mem_append_left _ hx))
    have qc : env.code = .ref 292 := VV.v.inj (qe _ (.head _))
    have qg : env.globals = W.gA := Value.ref.inj (VV.v.inj (qe _ (.tail _ (.head _))))
    have qf : env.locals = A₁ W.jf := Value.ref.inj (VV.v.inj (qe _ (.tail _ (.tail _ (.head _)))))
    have qr : rv = .ref (A₁ W.jc) := VV.v.inj (qe _ (.tail _ (.tail _ (.tail _ (.head _)))))
    obtain ⟨θ, qy⟩ := strkAll_inv' (VV.l.inj (qe _ (.tail _ (.tail _ (.tail _ (.tail _ (.head _)))))))
    have q0 : A₁ 0 = 288 := Value.ref.inj (VV.v.inj (qe _ (.tail _ (.tail _ (.tail _ (.tail _ (.tail _ (.head _))))))))
    have hB288 : BB kt w.params 288 = none := rfl
    have h288 : s1.heap.get? 288 = some (tabO vs) := by
      have := (D1.own 0 _ hT0).2 rfl
      rwa [q0] at this
    have hjf0 : W.jf ≠ 0 := fun e => by
      rw [e, hT0] at hof
      cases hof
      cases hod
    have hjc0 : W.jc ≠ 0 := fun e => by
      rw [e, hT0] at hTc
      cases hTc
    have hne : ∀ j o, o1.T.get j = some o → j ≠ 0 → A₁ j ≠ 288 := fun j o hj hj0 e => hj0 (D1.inj j 0 (D1.own j o hj).1 (D1.own 0 _ hT0).1 (e.trans q0.symm))
    have hofr : of.isFreed = false := by
      obtain ⟨x1, x2, x3, x4⟩ := of
      have hod : x3 = .dict es ep := hod
      subst hod
      rfl
    obtain ⟨o292, vs292, file, tf, flags, tg, inF, text, tt, b1, b2, b3, b4, b5, b6, b7⟩ := hB.code
    obtain ⟨og, esg, epg, bm, ob, g1, g2, g3, g4, g5, g6, g7, g8, g9, g10⟩ := hB.glob
    obtain ⟨os', ess, eps, z1, z2, z3, z4⟩ := hB.stat
    have trip := (hOut_m v7).2.2
    have hcode : s1.heap.IsCode 292 288 ⟨vs⟩ := ⟨o292, vs292, file, tf, flags, tg, inF, text, tt, tabO vs, D1.base _ _ b1, b2, b3, b4, b5, b6, b7, h288, rfl, trip, by decide⟩
    have hfr : s1.heap.Ns env.locals (nsFind es) := ⟨of, es, ep, by rw [qf]; exact (D1.own _ _ hof).2 hofr, hod, hsk, fun _ => rfl⟩
    have hlist : s1.heap.IsList (A₁ W.jc) #[.str ⟨#[48]⟩ (θ 0), .str ⟨#[57]⟩ (θ 1)] := ⟨_, (D1.own _ _ hTc).2 rfl, rfl, ec, by rw [qy]; rfl⟩
    have hglob : s1.heap.Ns env.globals (nsFind esg) := ⟨og, esg, epg, by rw [qg]; exact D1.base _ _ g1, g2, g3, fun _ => rfl⟩
    have hstat : s1.heap.NoLimit := ⟨nsFind ess, ⟨os', ess, eps, D1.base _ _ z1, z2, z3, fun _ => rfl⟩, z4⟩
    rw [eV]
    have hfc := hΓ.fc
    have hwt := weight_le hΓ.nc
    have hj := join_hole (prog := progD) (w := w) (A := { handled := Γ.handled, depth := frameCount Γ.below + Γ.code.weight, units := Γ.units }) (E := fun _ _ => False) (s := s1) (env := env) (c := 292) (P := 288) (k := A₁ W.jc) (bm := bm) (ps := ⟨vs⟩) (sep := V.sep) (jn := V.jn) (x := V.x) (itn := V.itn) (y0 := ⟨#[48]⟩) (y1 := ⟨#[57]⟩) (t0 := θ 0) (t1 := θ 1) (m := nsFind es) (mg := nsFind esg) (ob := ob) (elt := V.elt) (scope := V.scope) (pos := V.pos) (px := V.px) (pit := V.pit) (p0 := V.p0) (ap := V.ap) (cp := V.cp) (k0 := V.k0)
      (Q := fun v s2 => (∃ t, v = .str zS t) ∧ s1.heap.objs.size < s2.heap.objs.size ∧ (∀ b o, b ≠ 288 → s1.heap.get? b = some o → s2.heap.get? b = some o) ∧ (PyProof.Rows.AllBare s1.gens → PyProof.Rows.AllBare s2.gens) ∧ s2.drawn = s1.drawn ∧ s2.os = s1.os ∧
        ((∃ cv, codeAmong V.pos vs = some cv ∧ ∀ op, s1.heap.get? 288 = some op → s2.heap.get? 288 = some op) ∨ (codeAmong V.pos vs = none ∧ ∃ c', s1.heap.objs.size ≤ c' ∧ c' < s2.heap.objs.size ∧ ∀ op, s1.heap.get? 288 = some op → s2.heap.get? 288 = some (addT V.pos c' op))))
      hΓ.hd (by show frameCount Γ.below + Γ.code.weight < 1000; omega) (S.jn.trans (by decide +kernel)) S.l0 qc hcode (by decide) S.co S.closure S.cell S.lk0 S.lkx S.kd S.ek S.el S.di S.dx hfr (by rw [hns, qr]) (hne _ _ hTc hjc0) hlist hglob (by rw [qg]; exact hB.gne) g4 g5 (D1.base _ _ g7) g6 g8 g9 g10 hstat
      (fun cenv A' E' s₂ y t m₂ hy hs hn hv => S.eltok cenv A' E' s₂ y t m₂ hy hs hn hv) (by rw [S.sep]; decide +kernel)
      (fun t s' a1 a2 a3 a4 a5 a6 => ⟨⟨t, by rw [S.sep]; exact congrArg (fun z => Value.str z t) (by decide +kernel)⟩, a1, a2, a3, a4, a5, a6⟩)
    have hin : Γ.In { handled := Γ.handled, depth := frameCount Γ.below + Γ.code.weight, units := Γ.units } :=
      ⟨rfl, Nat.le_refl _, fun l hl => (nomatch hl), fun g hg => (nomatch hg), Nat.le_refl _⟩
    have hj' := Sem.wp_toks _ Γ s1.toks _ _ _ p1 s1 (Nat.le_refl _) (hj Γ p1 hin)
    refine Sem.wp_mono _ _ _ (fun v p2 s2 hv => ?_) (fun _ _ _ h => h.2.elim) p1 s1 hj'
    obtain ⟨htk, ⟨t, rfl⟩, k1, k2, k3, k4, k5, k6⟩ := hv
    obtain ⟨A₂, w1, w2, w3⟩ := rep_hole hZ D1 hM1 hT0 q0 hB288 k1 k2 k3 k4 k5 htk k6
    have hA20 : ∀ j, j < m → A₂ j = A₀ j := fun j hj => (w1 j (Nat.lt_of_lt_of_le hj cg.1.1)).trans (hA1 j hj)
    -- the parts at A₂
    let τ₂ : Nat → Nat := fun j => if j = 2 * o1.i.2 + 1 then t else τ₁ j
    have hτ2 : agr o1.i τ₂ τ₁ := agr_odd o1.i τ₁ t
    have hτ20 : agr i τ₂ τ₀ := hτ2.trans cg.1.2.1 hτ1
    have pre2 : ∀ A τ, (∀ j, j < o1.m → A j = A₁ j) → agr o1.i τ τ₁ → E (trCC kt w.params (rows w.params)) A τ W.f1 [] (preW FT test r.1 env) T m i W.c1 [] = some o1 := fun A τ hA hτ => cg.2 A τ hA hτ
    obtain ⟨o1', vs', rv', ys', T2, m2, o2, x4, x5, x6, x7, x8, x9, x10, x11, xe⟩ := parts A₂ τ₂ hA20 hτ20 w2
    rw [pre2 A₂ τ₂ w1 hτ2] at x4
    cases x4
    rw [v6] at x6
    cases x6
    obtain ⟨D2, I2⟩ := w3 T2 m2 x7
    have hm2 := (hOut_m x7).1
    have h12 : o1.m < m2 ∨ m2 = o1.m := by omega
    have hAm : ∀ A : Nat → Nat, (∀ j, j < m2 → A j = A₂ j) → hOut V.pos vs A o1.T o1.m = some (T2, m2) := fun A hA => by
      rcases (hOut_m x7).2.1 with ⟨e1, e2, e3⟩ | ⟨e1, e2, e3⟩
      · exact hOut_found e2 x7
      · rw [hOut_congr (hA o1.m (by omega))]
        exact x7
    have hk2 : TkI (o1.i.1, o1.i.2 + 1) τ₂ s2 := hk1.odd htk
    have e2 : E (trCC kt w.params (rows w.params)) A₂ τ₂ W.f2 [] (sufW test body orelse env (r.2.2 (.str zS t))) T2 m2 (o1.i.1, o1.i.2 + 1) W.c2 [] = some o2 := by
      have := x8
      rw [show τ₂ (2 * o1.i.2 + 1) = t from if_pos rfl] at this
      exact this
    have back : ∀ (A τ : Nat → Nat), (∀ j, j < m2 → A j = A₂ j) → agr (o1.i.1, o1.i.2 + 1) τ τ₂ → (∀ j, j < m → A j = A₀ j) ∧ agr i τ τ₀ ∧ (∀ j, j < o1.m → A j = A₁ j) ∧ agr o1.i τ τ₁ ∧ τ (2 * o1.i.2 + 1) = t := fun A τ hA hτ => by
      have hA' : ∀ j, j < o1.m → A j = A₁ j := fun j hj => (hA j (Nat.lt_of_lt_of_le hj hm2)).trans (w1 j hj)
      have hτ' : agr o1.i τ τ₁ := ⟨fun j hj => (hτ.1 j hj).trans (hτ2.1 j hj), fun j hj => (hτ.2 j (Nat.lt_succ_of_lt hj)).trans (hτ2.2 j hj)⟩
      exact ⟨fun j hj => (hA' j (Nat.lt_of_lt_of_le hj cg.1.1)).trans (hA1 j hj), hτ'.trans cg.1.2.1 hτ1, hA', hτ', (hτ.2 o1.i.2 (Nat.lt_succ_self _)).trans (if_pos rfl)⟩
    have z := E_sound hC (Nat.le_refl _) s2 m2 W.f2 (sufW test body orelse env (r.2.2 (.str zS t))) T2 m2 (o1.i.1, o1.i.2 + 1) W.c2 [] A₂ τ₂ s2 Γ p2 [] (fun r s => okR r = true ∧ R r s) (hok A₂ w2 τ₂) hΓ trivial hk2 D2 (Inv.refl s2 m2 A₂) (fun A τ hA hτ hn => by
        obtain ⟨y1, y2, y3, y4, y5⟩ := back A τ hA hτ
        obtain ⟨oa, va, ra, ya, Ta, ma, ob', a4, a5, a6, a7, a8, a9, a10, a11, ae⟩ := parts A τ y1 y2 hn.2
        rw [pre2 A τ y3 y4] at a4
        cases a4
        rw [v6] at a6
        cases a6
        rw [hAm A hA] at a7
        cases a7
        rw [y5] at a8
        exact ⟨ob', a8, fun x hx => ae x (List.mem_append_right _ (List.mem_append_right _ hx))⟩) fun A τ s3 o3 hA hτ hn ho hD hI => by
        obtain ⟨y1, y2, y3, y4, y5⟩ := back A τ hA hτ
        have ho : E (trCC kt w.params (rows w.params)) A τ W.f2 [] (sufW test body orelse env (r.2.2 (.str zS t))) T2 m2 (o1.i.1, o1.i.2 + 1) W.c2 [] = some o3 := ho
        have cg2 := E_congr hSp _ _ _ _ _ _ _ _ _ _ _ (fun j o e => (D2.own j o e).1) ho
        have ok3 : okR o3.r = true := by
          obtain ⟨oa, va, ra, ya, Ta, ma, ob', a4, a5, a6, a7, a8, a9, a10, a11, ae⟩ := parts A τ y1 y2 hn.2
          rw [pre2 A τ y3 y4] at a4
          cases a4
          rw [v6] at a6
          cases a6
          rw [hAm A hA] at a7
          cases a7
          rw [y5, ho] at a8
          cases a8
          exact a11
        have mk := whF_mk (q := q) t1 t2 t3 (pre2 A τ y3 y4) v5 v6 (hAm A hA) (by rw [y5]; exact ho) v9 v10 ok3 (orelse := orelse)
        have hl : ile o1.i (o1.i.1, o1.i.2 + 1) := ⟨Nat.le_refl _, Nat.le_succ _⟩
        have z2 := h2 A τ s3 _ y1 y2 hn.2 mk
        exact ⟨ok3, z2 (cg.1.2.1.tr (hl.tr cg2.1.2.1)) hD.1 hD.2 (((I1.congr y3).trans (I2.congr hA)).trans hI)⟩
    refine Sem.wp_mono _ _ _ (fun fin p3 s3 h3 => ?_) (fun x p3 s3 h3 => ?_) p2 s2 z
    · exact finPost_mono (fun r s h => h.2) h3
    · have h3 : okR (.error x) = true ∧ R (.error x) s3 := h3
      exact nomatch h3.1
end
end Mine
end
section
open PySem PySem.W
namespace Mine
noncomputable abbrev tr2CC (kt : Params → X.KT) (W : WhP) (P : Params) (b : Bool × Bool) : Cfg := CD kt (spOf [isF, whF (trCC kt P b) W]) P b
noncomputable def pkW (b : Bool × Bool) (W W' : WhP) : WhP := match b.2 with
  | false => W
  | true => W'
noncomputable def tr2T (kt : Params → X.KT) (x r : Nat) (vs' : (Nat → Nat) → Addr → Addr → List Value) (fu nc N N' : Nat) (W W' : WhP) : Prop := ∀ (P : Params) (b : Bool × Bool) (A τ : Nat → Nat) (t0 t2 : Nat) (a g : Addr),
  vw (fun o => (rO o, sO (o.T.get r), tbO (o.T.get 0))) (E (tr2CC kt (pkW b W W') P b) (dn A) τ fu [] (st0 (tr2CC kt (pkW b W W') P b) (.call (.ref 293) ⟨[.str (trP 2) t0, .str manyS (τ 0), .str anyS t2], []⟩)) (one (tabO (tabS x a g))) 1 (1, 0) (esc (unp 128 nc (pk2 b N N'))) []) =
    wv (some (dn A r), some (lisV, trX 2, trE 2), some (vs' (dn A) a g)) (E (tr2CC kt (pkW b W W') P b) (dn A) τ fu [] (st0 (tr2CC kt (pkW b W W') P b) (.call (.ref 293) ⟨[.str (trP 2) t0, .str manyS (τ 0), .str anyS t2], []⟩)) (one (tabO (tabS x a g))) 1 (1, 0) (esc (unp 128 nc (pk2 b N N'))) [])
end Mine
end
section
open PySem PySem.W
namespace Mine
/-! certificates, printed by a program of ours (Gen13, mkt2.py) -/
noncomputable def wp0 : WhP := ⟨800, esc (unp 128 309 1319965526535586904250698798865133937352235910069025074719353194354889200560869775157281362588343145511590809705819678762679071885595500355000525296002168625797798590655947314184773006557742601104266543754544610371236050177668861677722325721616751242951586046996248633013523830110135631577209323747778732309599561379473393843162151642267580827295651262729787631313732898460230213344373915712755723902800080487383727640088354428345448401154176203789265888615700306307302704849110399594042641592428071493935942026772348940115668558315635101402028815686394474671805618945355148270061819011971340664294383234056149893572223903826661575012218175882264834), 800, esc (unp 128 83 7608046576537241732675680978786110190856066763852490094269043164675561879859504992111758497833105441557368244077958733143687868886678514767048931737912167437410217492738), 1, 9, 3⟩
noncomputable def wp0' : WhP := ⟨800, esc (unp 128 309 1319965526535586904250698798865133937352235910069025074719353194354889200560869775157281362588343145511590809705819678762679071885595500355000525296002168625797798590655947314184773006557742601104266543754544610371236050177668861677722325721616751242951586046996248633013523830110135631577209323747778732309599561379473393843162151642267580827295651262729787631313732898460230213344373915712755723902800080487383727640088354428345448401154176203789265888615700306307302704849110399594042641592428071493935942026772348940115668558315635101402028815686394474671805618945355148270061819011971340664294383234056149893572223903826661575012218175882264834), 800, esc (unp 128 83 7608046576537241732675680978786110190856066763852490094269043164675561879859504992111758497833105441557368244077958733143687868886678514767048931737912167437410217492738), 1, 9, 3⟩
noncomputable def t2N0 : Nat × Nat × Nat := (121, 14663125853018486990130039925176733421534823679889342206664263602049583801322241579935216679874392353172439046565448885240750288181073589840212507327101142904239015951087028023122462852206529442613144600663720248561215825142553530788765148764480173277184, 14663125853018486990130039925176733421534823679889342206664263602049583801322241579935216679874392353172439046565448885240750288181073589840212507327101142904239015951087028023122462852206529442613144600663720248561215825142553530788765148764480173277184)
noncomputable def wp1 : WhP := ⟨800, esc (unp 128 309 1319965526535586904250698798865133937352235910069025074719353194354889200560869775157281362588343145511590809705819678762679071885595500355000525296002168625797798590655947314184773006557742601104266543754544610371236050177668861677722325721616751242951586046996248633013523830110135631577209323747778732309599561379473393843162151642267580827295651262729787631313732898460230213344373915712755723902800080487383727640088354428345448401154176203789265888615700306307302704849110399594042641592428071493935942026772348940115668558315635101402028815686394474671805618945355148270061819011971340664294383234056149893572223903826661575012218175882264834), 800, esc (unp 128 80 3627799309033032289827194680588774772098565348028829649748091890966061638105010312643762912642978569234436500216084320631671146444941640132876544803618025952510210), 1, 9, 3⟩
noncomputable def wp1' : WhP := ⟨800, esc (unp 128 309 1319965526535586904250698798865133937352235910069025074719353194354889200560869775157281362588343145511590809705819678762679071885595500355000525296002168625797798590655947314184773006557742601104266543754544610371236050177668861677722325721616751242951586046996248633013523830110135631577209323747778732309599561379473393843162151642267580827295651262729787631313732898460230213344373915712755723902800080487383727640088354428345448401154176203789265888615700306307302704849110399594042641592428071493935942026772348940115668558315635101402028815686394474671805618945355148270061819011971340664294383234056149893572223903826661575012218175882264834), 800, esc (unp 128 80 3627799309033032289827194680588774772098565348028829649748091890966061638105010312643762912642978569234436500216084320631671146444941640132876544803618025952510210), 1, 9, 3⟩
noncomputable def t2N1 : Nat × Nat × Nat := (121, 14663125853018486990130039925176733421534823679889342206664263602049583801322241579935216679874392353172439046565448885240750288181073589840212507327101142904239015951087028023122462852206529442613144600663720248561215825142553530788765148764480173277184, 14663125853018486990130039925176733421534823679889342206664263602049583801322241579935216679874392353172439046565448885240750288181073589840212507327101142904239015951087028023122462852206529442613144600663720248561215825142553530788765148764480173277184)
noncomputable def wp2 : WhP := ⟨800, esc (unp 128 309 1319965526535586904250698798865133937352235910069025074719353194354889200560869775157281362588343145511590809705819678762679071885595500355000525296002168625797798590655947314184773006557742601104266543754544610371236050177668861677722325721616751242951586046996248633013523830110135631577209323747778732309599561379473393843162151642267580827295651262729787631313732898460230213344373915712755723902800080487383727640088354428345448401154176203789265888615700306307302704849110399594042641592428071493935942026772348940115668558315635101402028815686394474671805618945355148270061819011971340664294383234056149893572223903826661575012218175882264834), 800, esc (unp 128 80 3627799309033032289827194680588774772098564056825081746509117259390135192510834146989082516081510313783692565205110941181641021400963245920224765942832451832250626), 1, 9, 3⟩
noncomputable def wp2' : WhP := ⟨800, esc (unp 128 309 1319965526535586904250698798865133937352235910069025074719353194354889200560869775157281362588343145511590809705819678762679071885595500355000525296002168625797798590655947314184773006557742601104266543754544610371236050177668861677722325721616751242951586046996248633013523830110135631577209323747778732309599561379473393843162151642267580827295651262729787631313732898460230213344373915712755723902800080487383727640088354428345448401154176203789265888615700306307302704849110399594042641592428071493935942026772348940115668558315635101402028815686394474671805618945355148270061819011971340664294383234056149893572223903826661575012218175882264834), 800, esc (unp 128 80 3627799309033032289827194680588774772098564056825081746509117259390135192510834146989082516081510313783692565205110941181641021400963245920224765942832451832250626), 1, 9, 3⟩
noncomputable def t2N2 : Nat × Nat × Nat := (121, 14663125853018486990130039925176733421534823679889342206664263602049583801322241579935216679874392353172439046565448885240750288181073589840212507327101142904239015951087028023122462852206529442613144600663720248561215825142553530788765148764480173277184, 14663125853018486990130039925176733421534823679889342206664263602049583801322241579935216679874392353172439046565448885240750288181073589840212507327101142904239015951087028023122462852206529442613144600663720248561215825142553530788765148764480173277184)
end Mine
end
section
open PySem PySem.W
set_option maxRecDepth 20000
namespace Mine
open Builtin Builtin.Str
theorem TIn_hOut {pos : Pos} {vs : List Value} {A : Nat → Nat} {T T2 : BT} {m m2 : Nat} (hT : TIn T m) (h : hOut pos vs A T m = some (T2, m2)) : TIn T2 m2 := by
  rcases (hOut_m h).2.1 with ⟨e1, _, e3⟩ | ⟨e1, _, hU⟩
  · rw [e1, e3]; exact hT
  · intro j o e
    rcases insL_get [frO] _ _ m hU (hT.set 0 _) j o e with ⟨hj, _⟩ | ⟨hj, e'⟩
    · omega
    · have := (List.getElem?_eq_some_iff.mp e').1
      have : j - m < 1 := this
      omega
theorem whF_spx {C : Cfg} {W : WhP} (hs : SpC C) {q : Nat} {c : Code} {A τ A' τ' : Nat → Nat} {T : BT} {m : Nat} {i : Nat × Nat} {o : Out} (hT : TIn T m) (h : whF C W q c A τ T m i = some o) (hA : ∀ j, j < o.m → A' j = A j) (hτ : agr o.i τ' τ) : whF C W q c A' τ' T m i = some o := by
  obtain ⟨test, body, orelse, env, r, V, o1, vs, rv, ys, T2, m2, o2, rfl, u1, u2, u3, u4, u5, u6, u7, u8, u9, u10, u12, rfl⟩ := (whF_is h).ex
  have g1 := E_congr hs _ _ _ _ _ _ _ _ _ _ _ hT u4
  have hT2 := TIn_hOut g1.1.2.2 u7
  have g2 := E_congr hs _ _ _ _ _ _ _ _ _ _ _ hT2 u8
  have hm := (hOut_m u7).1
  have l2 : ile o1.i o2.i := ile.tr (show ile o1.i (o1.i.1, o1.i.2 + 1) from ⟨Nat.le_refl _, Nat.le_succ _⟩) g2.1.2.1
  have hA1 : ∀ j, j < o1.m → A' j = A j := fun j hj => hA j (Nat.lt_of_lt_of_le hj (Nat.le_trans hm g2.1.1))
  have hτ1 : agr o1.i τ' τ := ⟨fun j hj => hτ.1 j (Nat.lt_of_lt_of_le hj l2.1), fun j hj => hτ.2 j (Nat.lt_of_lt_of_le hj l2.2)⟩
  have e7 : hOut V.pos vs A' o1.T o1.m = some (T2, m2) := by
    rcases (hOut_m u7).2.1 with ⟨_, e2, _⟩ | ⟨e1, _, _⟩
    · exact hOut_found e2 u7
    · rw [hOut_congr (hA o1.m (Nat.lt_of_lt_of_le (by omega) g2.1.1))]
      exact u7
  have et : τ' (2 * o1.i.2 + 1) = τ (2 * o1.i.2 + 1) := hτ.2 o1.i.2 (Nat.lt_of_lt_of_le (Nat.lt_succ_self _) g2.1.2.1.2)
  have mk := whF_mk (q := q) (orelse := orelse) u1 u2 u3 (g1.2 A' τ' hA1 hτ1) u5 u6 e7 (by rw [et]; exact g2.2 A' τ' hA hτ) u9 u10 u12
  have h0 := (hDyn_is u6).1
  rw [hA1 W.jf u9, hA1 W.jc u10, hA1 0 (g1.1.2.2 0 _ h0)] at mk
  exact mk
theorem is2Sp_ok {kt : Params → X.KT} {w : World} {W : WhP} {C : Cfg} {G : Lg} {L : Nat} (hL : L ≤ 626) (hN : G.N = 0) (hZ : G.Z = fun Ls _ => Ls = []) (hB : BaseF (BB kt w.params) W.gA) (hCB : C.B = BB kt w.params) (hC : C.sp = spOf [isF, whF (trCC kt w.params (rows w.params)) W]) : SpOk C G progD w L where
  sp := fun q c A₀ τ₀ T m i Γ p s R hN' hc hΓ hk D h1 h2 => by
    rw [hC] at h1 h2
    rw [hCB] at D h2
    unfold spOf at h1 h2
    cases hq : ([isF, whF (trCC kt w.params (rows w.params)) W] : List FactF)[q / 128]? with
    | none =>
      obtain ⟨o, ho, _⟩ := h1 A₀ τ₀ (fun _ _ => rfl) (agr.refl _ _) hN'
      rw [hq] at ho; cases ho
    | some F =>
      rw [hq] at h1 h2
      rcases List.mem_cons.mp (List.mem_of_getElem? hq) with e | e
      · subst e
        exact isF_sp G (q % 128) c A₀ τ₀ T m i Γ p s R hN'.2 hc hΓ hk D (fun A τ hA hτ hm => h1 A τ hA hτ ⟨fun _ => by rw [hN]; exact Nat.zero_le _, hm⟩) fun A τ s' o hA hτ hm => h2 A τ s' o hA hτ ⟨fun _ => by rw [hN]; exact Nat.zero_le _, hm⟩
      · rcases List.mem_cons.mp e with e | e
        · subst e
          exact whF_sp hL hN hZ hB (q % 128) c A₀ τ₀ T m i Γ p s R hN'.2 hc hΓ hk D (fun A τ hA hτ hm => h1 A τ hA hτ ⟨fun _ => by rw [hN]; exact Nat.zero_le _, hm⟩) fun A τ s' o hA hτ hm => h2 A τ s' o hA hτ ⟨fun _ => by rw [hN]; exact Nat.zero_le _, hm⟩
        · cases e
  spx := fun q c A τ A' τ' T m i o hTI ho hA hτ => by
    rw [hC] at ho ⊢
    unfold spOf at ho ⊢
    cases hq : ([isF, whF (trCC kt w.params (rows w.params)) W] : List FactF)[q / 128]? with
    | none => rw [hq] at ho; cases ho
    | some F =>
      rw [hq] at ho
      rcases List.mem_cons.mp (List.mem_of_getElem? hq) with e | e
      · subst e
        exact (isF_ok (B := C.B) (prog := progD) (w := w) (L := L)).spx _ c A τ A' τ' T m i o hTI ho hA hτ
      · rcases List.mem_cons.mp e with e | e
        · subst e
          exact whF_spx (trSpC kt w.params (rows w.params)) hTI ho hA hτ
        · cases e
section
variable {kt : Params → X.KT} {w : World}
theorem trt2 {x r fu nc N N' : Nat} {W W' : WhP} {vs' : (Nat → Nat) → Addr → Addr → List Value} (hr : Nat.ble 1 r = true) {L : Nat} (hL : L ≤ 562) (hvs : ∀ A a g, ∃ x' a' g', vs' A a g = tabS x' a' g') (hB0 : BaseF (BB kt w.params) W.gA) (hB1 : BaseF (BB kt w.params) W'.gA) (h : tr2T kt x r vs' fu nc N N' W W') (G : Lg) (hG : G.Fit) (t0 t t2 : Nat) (Γ : Ctx) (p : Pos) (s : Shared) (R : Result → Shared → Prop) (h0 : 0 < t) (h1 : t < s.toks) (hc : Γ.code = .call (.ref 293) ⟨[.str (trP 2) t0, .str manyS t, .str anyS t2], []⟩) (hΓ : CtxOk L 0 Γ) (g : Gd (BB kt w.params) G s)
    (a ga : Addr) (hz : s.heap.get? tabA = some (tabO (tabS x a ga)))
    (hR : ∀ r θ' s' A₂ T₂ m₂, (∀ j, G.M ≤ A₂ j) → T₂.get r = some (seqO lisV (toksL (trX 2) θ') (trE 2)) → Rep (BB kt w.params) G A₂ T₂ m₂ s' → Inv s 0 A₂ m₂ s' → R (.ok (.ret (.ref (A₂ r)))) s') : wpCode (model progD w) Γ R p s := by
  let G' : Lg := ⟨0, 288, fun Ls _ => Ls = [], G.Q⟩
  have hBW : BaseF (BB kt w.params) (pkW (rows w.params) W W').gA := by
    unfold pkW
    split
    · exact hB0
    · exact hB1
  have hC : (tr2CC kt (pkW (rows w.params) W W') w.params (rows w.params)).Ok G' progD w (L + 64) := CD_ok (by omega) rfl (is2Sp_ok (W := pkW (rows w.params) W W') (by omega) rfl rfl hBW rfl rfl)
  have hroom : 359 ≤ s.heap.objs.size := by have := g.room; rwa [hG.M0] at this
  have hQ : ¬ G.Q tabA := by
    obtain ⟨Ls, z1, z2⟩ := g.z
    have := ((hG.zed _ _).mp z1).1
    subst this
    exact (z2 tabA (.head _)).2
  have hB : BB kt w.params tabA = none := rfl
  have D0 : Rep (BB kt w.params) G' (fun _ => 288) (one (tabO (tabS x a ga))) 1 s :=
    ⟨fun j o e => by
      obtain ⟨e1, e2⟩ := one_get _ _ _ e
      subst e1; subst e2
      exact ⟨Nat.lt_succ_self _, fun _ => hz⟩, fun i j hi hj _ => by omega, fun j hj => by show 288 < _; omega, g.base, (fun b o j e hj q => by
        rw [← (show (288 : Nat) = b from q)] at e
        have e' : BB kt w.params 288 = none := rfl
        rw [e'] at e
        cases e), ⟨[], rfl, fun _ h => (nomatch h)⟩, ⟨Nat.zero_le _, g.toks.2⟩, by show 288 ≤ _; omega⟩
  refine hC.ov 0 _ _ ovD_st Γ p s R hc (hΓ.lift (by omega)) g.base fun p' => ?_
  refine run_wp hC (Nat.le_refl _) (a := fun A _ => (some (A r), some (lisV, trX 2, trE 2), some (vs' A a ga))) (A₀ := fun _ => 288) (τ₀ := fun _ => t) (i := (1, 0)) ⟨fun _ => Nat.zero_le _, fun _ => Nat.le_refl _⟩ hΓ (TkI.one h0 h1) D0 (fun A τ hA hτ hn => by
    have eA : ∃ A', A = dn A' := ⟨fun j => A j - 288, funext fun j => by
      cases j with
      | zero => exact hA 0 (Nat.lt_succ_self _)
      | succ j =>
        have : 288 ≤ A (j + 1) := hn.2 (j + 1)
        show A (j + 1) = A (j + 1) - 288 + 288
        omega⟩
    obtain ⟨A', rfl⟩ := eA
    have e : τ 0 = t := hτ.1 0 (Nat.lt_succ_self _)
    have y := h w.params (rows w.params) A' τ t0 t2 a ga
    rw [e] at y
    exact y) fun A τ s' o hA _ hn _ hf D I => ?_
  rw [rO_is (congrArg Prod.fst hf)]
  obtain ⟨θ', hθ'⟩ := sO_is (congrArg (fun x => x.2.1) hf)
  have hT0 := tbO_is (congrArg (fun x => x.2.2) hf)
  have hr1 : 1 ≤ r := ble_true hr
  have hrm := (D.own r _ hθ').1
  have hA0 : A 0 = 288 := hA 0 (Nat.lt_succ_self _)
  have hge : s.heap.objs.size ≤ A r := I.new r hr1 hrm
  obtain ⟨x', a', g', hv'⟩ := hvs A a ga
  refine hR 0 θ' s' (fun _ => A r) (one (seqO lisV (toksL (trX 2) θ') (trE 2))) 1 (fun _ => Nat.le_trans g.room hge) rfl ⟨fun j o e => by
      obtain ⟨e1, e2⟩ := one_get _ _ _ e
      subst e1; subst e2
      exact ⟨Nat.lt_succ_self _, (D.own r _ hθ').2⟩, fun i j hi hj _ => by omega, fun j hj => D.lt r hrm, D.base, fun b o j e hj => D.off b o r e hrm, ?_, ⟨by rw [hG.N0]; exact Nat.zero_le _, D.toks.2⟩, Nat.le_trans g.room I.size⟩
    ⟨Nat.zero_le _, fun b o e hb _ => I.keep b o e hb fun j hj q => hb (by
      have : j = 0 := by omega
      rw [this, hA0] at q
      exact q.symm), I.size, fun j _ _ => hge, I.gens, I.drawn, I.os, I.toks⟩
  have h288 : s'.heap.get? tabA = some (tabO (tabS x' a' g')) := by
    have := (D.own 0 _ hT0).2 rfl
    rw [hA0, hv'] at this
    exact this
  refine ⟨[tabA], (hG.zed _ _).mpr ⟨rfl, x', a', g', by show [s'.heap.get? tabA] = _; rw [h288]⟩, fun b hb => ?_⟩
  rcases List.mem_cons.mp hb with rfl | hb
  · refine ⟨by rw [h288]; rfl, hQ, fun j _ e => ?_⟩
    have : A r = 288 := e
    omega
  · cases hb
theorem tr2 {L : Nat} (hL : L ≤ 562) {fu n0 N0 M0 n1 N1 M1 n2 N2 M2 : Nat} {W0 W0' W1 W1' W2 W2' : WhP} (g0 : W0.gA = 3) (g0' : W0'.gA = 3) (g1 : W1.gA = 3) (g1' : W1'.gA = 3) (g2 : W2.gA = 3) (g2' : W2'.gA = 3) (hB : BaseF (BB kt w.params) 3)
    (h0 : tr2T kt 0 2 (fun A _ _ => tabS 3 (A 22) (A 16)) fu n0 N0 M0 W0 W0') (h1 : tr2T kt 1 2 (fun A a _ => tabS 2 a (A 16)) fu n1 N1 M1 W1 W1') (h2 : ∀ x, tr2T kt (x + 2) 2 (fun _ a g => tabS (x + 2) a g) fu n2 N2 M2 W2 W2') : TrOk (BB kt w.params) progD w L 2 where
  ok := fun G hG t0 t t2 Γ p s R q0 q1 hc hΓ g hR => by
    obtain ⟨x, a, ga, hz⟩ := gd_tab hG g
    match x, hz with
    | 0, hz => exact trt2 rfl hL (fun A a g => ⟨3, A 22, A 16, rfl⟩) (g0 ▸ hB) (g0' ▸ hB) h0 G hG t0 t t2 Γ p s R q0 q1 hc hΓ g a ga hz hR
    | 1, hz => exact trt2 rfl hL (fun A a g => ⟨2, a, A 16, rfl⟩) (g1 ▸ hB) (g1' ▸ hB) h1 G hG t0 t t2 Γ p s R q0 q1 hc hΓ g a ga hz hR
    | x + 2, hz => exact trt2 rfl hL (fun A a g => ⟨x + 2, a, g, rfl⟩) (g2 ▸ hB) (g2' ▸ hB) (h2 x) G hG t0 t t2 Γ p s R q0 q1 hc hΓ g a ga hz hR
end
/-! the base's facts by one look -/
noncomputable def chkC (o : Option Obj) : Bool := match o with
  | none => false
  | some o => match o.data with
    | .fields vs => match vs.getD 11 .none with
      | .ref P => match Nat.beq P 288 with
        | true => match vs.getD 18 .none with
          | .str _ _ => match vs.getD 7 .none with
            | .int _ _ => match vs.getD 9 .none with
              | .bool _ => match vs.getD 10 .none with
                | .int _ _ => true
                | _ => false
              | _ => false
            | _ => false
          | _ => false
        | false => false
      | _ => false
    | _ => false
noncomputable def chkG (B : Addr → Option Obj) (o : Option Obj) : Bool := match o with
  | none => false
  | some o => match o.data with
    | .dict es _ => match skB es with
      | true => match nsFind es "__builtins__" with
        | some (.ref bm) => match Nat.beq bm builtinsNs with
          | false => match Nat.beq bm 288 with
            | false => match B bm with
              | some ob => match ob.cls == .type "module" with
                | true => match ob.dict == some builtinsNs with
                  | true => match ob.data with
                    | .plain => true
                    | _ => false
                  | false => false
                | false => false
              | none => false
            | true => false
          | true => false
        | _ => false
      | false => false
    | _ => false
noncomputable def chkS (o : Option Obj) : Bool := match o with
  | none => false
  | some o => match o.data with
    | .dict es _ => match skB es with
      | true => match nsFind es "sys.recursionlimit" with
        | none => true
        | _ => false
      | false => false
    | _ => false
noncomputable def chkB (B : Addr → Option Obj) : Bool := chkC (B 292) && (chkG B (B 3) && chkS (B cStatics))
theorem chkB_is {B : Addr → Option Obj} (h : chkB B = true) : BaseF B 3 := by
  unfold chkB at h
  rw [Bool.and_eq_true, Bool.and_eq_true] at h
  obtain ⟨h1, h2, h3⟩ := h
  refine ⟨?_, ?_, ?_, by decide⟩
  · unfold chkC at h1
    split at h1
    · cases h1
    · rename_i o ho
      split at h1
      · rename_i vs hd
        split at h1
        · rename_i P hP
          split at h1
          · rename_i hP'
            split at h1
            · rename_i file tf h18
              split at h1
              · rename_i fl tg h7
                split at h1
                · rename_i inF h9
                  split at h1
                  · rename_i tx tt h10
                    exact ⟨o, vs, file, tf, fl, tg, inF, tx, tt, ho, hd, by rw [hP, Nat.eq_of_beq_eq_true hP'], h18, h7, h9, h10⟩
                  · cases h1
                · cases h1
              · cases h1
            · cases h1
          · cases h1
        · cases h1
      · cases h1
  · unfold chkG at h2
    split at h2
    · cases h2
    · rename_i o ho
      split at h2
      · rename_i es ep hd
        split at h2
        · rename_i hs
          split at h2
          · rename_i bm hb
            split at h2
            · rename_i n1
              split at h2
              · rename_i n2
                split at h2
                · rename_i ob hob
                  split at h2
                  · rename_i hc
                    split at h2
                    · rename_i hdd
                      split at h2
                      · rename_i hp
                        exact ⟨o, es, ep, bm, ob, ho, hd, skB_is hs, hb, (fun e => by rw [e, Nat.beq_refl] at n1; cases n1), (fun e => by rw [e, Nat.beq_refl] at n2; cases n2), hob, by simpa using hc, by simpa using hdd, hp⟩
                      · cases h2
                    · cases h2
                  · cases h2
                · cases h2
              · cases h2
            · cases h2
          · cases h2
        · cases h2
      · cases h2
  · unfold chkS at h3
    split at h3
    · cases h3
    · rename_i o ho
      split at h3
      · rename_i es ep hd
        split at h3
        · rename_i hs
          split at h3
          · rename_i hn
            exact ⟨o, es, ep, ho, hd, skB_is hs, hn⟩
          · cases h3
        · cases h3
      · cases h3
/-- the leaves of _translate and _law_takes -/
structure LvD (kt : Params → X.KT) : Prop where
  base : ∀ P, chkB (BB kt P) = true
  t0 : trL kt 0 1 800 tr0N.1 tr0N.2
  t1 : trL kt 1 1 800 tr1N.1 tr1N.2
  t4 : trL kt 4 1 800 tr4N.1 tr4N.2
  t5 : trL kt 5 1 800 tr5N.1 tr5N.2
  t30 : trT kt 3 0 2 (fun A _ _ => lamT (A 14)) 800 tt0N.1 tt0N.2.1 tt0N.2.2
  t31 : ∀ x, trT kt 3 (x + 1) 2 (fun _ a g => tabS (x + 1) a g) 800 tt1N.1 tt1N.2.1 tt1N.2.2
  t20 : tr2T kt 0 2 (fun A _ _ => tabS 3 (A 22) (A 16)) 800 t2N0.1 t2N0.2.1 t2N0.2.2 wp0 wp0'
  t21 : tr2T kt 1 2 (fun A a _ => tabS 2 a (A 16)) 800 t2N1.1 t2N1.2.1 t2N1.2.2 wp1 wp1'
  t22 : ∀ x, tr2T kt (x + 2) 2 (fun _ a g => tabS (x + 2) a g) 800 t2N2.1 t2N2.2.1 t2N2.2.2 wp2 wp2'
  tk : ∀ n u, n < 6 → u < 4 → vPLF kt (tkF n u) 333 [.str (trP n) 0, .str (usS u) 0] (.bool (tkB n u)) 1500 (tkNN n u).1 (tkNN n u).2
section
variable {kt : Params → X.KT} {w : World}
theorem tr_ok (V : LvD kt) {L : Nat} (hL : L ≤ 562) : ∀ n, n < 6 → TrOk (BB kt w.params) progD w L n
  | 0, _ => trl (by omega) V.t0
  | 1, _ => trl (by omega) V.t1
  | 2, _ => tr2 hL rfl rfl rfl rfl rfl rfl (chkB_is (V.base w.params)) V.t20 V.t21 V.t22
  | 3, _ => tr3 (by omega) V.t30 V.t31
  | 4, _ => trl (by omega) V.t4
  | 5, _ => trl (by omega) V.t5
  | n + 6, h => absurd h (by omega)
theorem tk_ok (V : LvD kt) {n u L : Nat} (hL : L ≤ 498) (hn : n < 6) (hu : u < 4) : VK kt w L (hdP 333) [.str (trP n) 0, .str (usS u) 0] (.bool (tkB n u)) :=
  vplf (by omega) (all_cons (trF_ok (tr_ok V (by omega) n hn)) (all_cons (sF_ok (containsI_ok rfl)) all_nil)) (V.tk n u hn hu)
end
end Mine
end
section
open PySem PySem.W
set_option maxRecDepth 20000
namespace Mine
open Builtin Builtin.Str
/-! the law's own facts: ints, items of a list -/
noncomputable def fdN : Nat := 128106770130096871752080967664072486762
noncomputable def mdN : Nat := 116512097088030077292474218
noncomputable def giN : Nat := 128106587276438692081757506308484131437
theorem cd_fd : PySem.code "int.__floordiv__" = fdN := by decide +kernel
theorem cd_md : PySem.code "int.__mod__" = mdN := by decide +kernel
theorem cd_gi : PySem.code "list.__getitem__" = giN := by decide +kernel
noncomputable def smI (b : Int) : Bool := match b with
  | .ofNat n => match Nat.ble 1 n with
    | true => Nat.ble n 100
    | false => false
  | _ => false
theorem smI_is {b : Int} (h : smI b = true) : ∃ n : Nat, b = Int.ofNat n ∧ 1 ≤ n ∧ n ≤ 100 := by
  unfold smI at h
  split at h
  · rename_i n
    split at h
    · rename_i h1
      exact ⟨n, rfl, ble_true h1, ble_true h⟩
    · cases h
  · cases h
noncomputable def opF (k : Nat) (f : Int → Int → Int) : FactF := fun _ c A τ T m i => match hdB k c with
  | some as => match as with
    | [a0, a1] => match a0 with
      | .int x _ => match a1 with
        | .int y _ => match smI y with
          | true => some ⟨.ok (.ret (.int (f x y) (τ (2 * i.2 + 1)))), T, m, (i.1, i.2 + 1), []⟩
          | false => none
        | _ => none
      | _ => none
    | _ => none
  | none => none
section
variable {B : Addr → Option Obj} {prog : Program} {w : World} {L : Nat}
theorem opF_ok {id : String} {k : Nat} (e : PySem.code id = k) {f : Int → Int → Int} {b : Builtin} (hp : plainId id = true) (he : entryFor table id = some b) (hg : ∀ x t y u, smI y = true → Gives (b ⟨[.int x t, .int y u], []⟩) (.int (f x y))) : FactOk B prog w L (opF k f) where
  sp := fun G hG q c A₀ τ₀ T m i Γ p s R hm0 hc hΓ hk D h1 h2 => by
    obtain ⟨o, ho, _⟩ := h1 A₀ τ₀ (fun _ _ => rfl) (agr.refl _ _) hm0
    unfold opF at ho
    split at ho
    · rename_i as hh
      split at ho
      · rename_i a0 a1
        split at ho
        · rename_i x t
          split at ho
          · rename_i y u
            split at ho
            · rename_i hs
              cases ho
              have hcode := hdB_is e hh
              rw [hcode] at hc
              refine code_meets hp he (hg x t y u hs).meets hc ?_
              refine h2 A₀ (fun j => if j = 2 * i.2 + 1 then s.toks else τ₀ j) { s with toks := s.toks + 1 } ⟨.ok (.ret (.int (f x y) s.toks)), T, m, (i.1, i.2 + 1), []⟩ (fun _ _ => rfl) (agr_odd i τ₀ s.toks) hm0 ?_ ⟨Nat.le_refl _, Nat.le_succ _⟩ (hk.odd (Nat.le_succ _)) (D.shared rfl (Nat.le_succ _)) ⟨Nat.le_refl _, fun _ _ e _ _ => e, Nat.le_refl _, fun _ a b => absurd b (Nat.not_lt.mpr a), fun h => h, rfl, rfl, Nat.le_succ _⟩
              unfold opF
              rw [hh]
              dsimp only
              rw [hs]
              simp only [if_true]
            · cases ho
          · cases ho
        · cases ho
      · cases ho
    · cases ho
  spx := fun q c A τ A' τ' T m i o hTI ho hA hτ => by
    unfold opF at ho ⊢
    split at ho
    · split at ho
      · split at ho
        · split at ho
          · split at ho
            · cases ho
              rw [hτ.2 i.2 (Nat.lt_succ_self _)]
            · cases ho
          · cases ho
        · cases ho
      · cases ho
    · cases ho
theorem fd_ok : FactOk B prog w L (opF fdN Int.fdiv) :=
  opF_ok cd_fd F.slot_int_floordiv.plain F.entry_int_floordiv fun x t y u h => by
    obtain ⟨n, rfl, h1, h2⟩ := smI_is h
    refine AutoIntG4.int___floordiv___int_int_1 x t _ u ?_ ?_
    · intro e
      have : (Int.ofNat n) = 0 := by simpa using e
      have : n = 0 := by injection this
      omega
    · intro e
      unfold Builtin.divisionGoesByPylong at e
      have hd : (Int.ofNat n).natAbs.log2 / 30 + 1 ≤ 300 := by
        have h3 : (Int.ofNat n).natAbs = n := rfl
        rw [h3]
        have : n.log2 < 7 := (Nat.log2_lt (by omega)).mpr (by omega)
        omega
      simp only [Bool.and_eq_true, decide_eq_true_eq] at e
      obtain ⟨e1, _⟩ := e
      split at e1
      · omega
      · omega
theorem md_ok : FactOk B prog w L (opF mdN Int.fmod) :=
  opF_ok cd_md F.slot_int_mod.plain F.entry_int_mod fun x t y u h => by
    obtain ⟨n, rfl, h1, h2⟩ := smI_is h
    refine AutoIntG6.int___mod___int_int_1 x t _ u ?_
    intro e
    have : (Int.ofNat n) = 0 := by simpa using e
    have : n = 0 := by injection this
    omega
end
/-! an item of a list, by runs on literal numbers -/
noncomputable def lv (v : Nat → Value) : Nat → Nat → List Value
  | 0, _ => []
  | n + 1, k => v k :: lv v n (k + 1)
noncomputable def rV (o : Out) : Option Value := match o.r with
  | .ok (.ret v) => some v
  | _ => none
theorem rV_is {o : Out} {v : Value} (h : rV o = some v) : o.r = .ok (.ret v) := by
  unfold rV at h
  split at h
  · rename_i v' hv
    cases h
    exact hv
  · cases h
noncomputable def giL (kt : Params → X.KT) (len n fu nc N : Nat) : Prop := ∀ (P : Params) (b : Bool × Bool) (A τ : Nat → Nat) (v : Nat → Value) (t ep : Nat),
  vw (fun o => (rV o, o.T.get 0)) (E (C0 kt P b) (up A) τ fu [] ((C0 kt P b).den (.builtin "list.__getitem__" ⟨[.ref (up A 0), .int (Int.ofNat n) t], []⟩)) (one (lstO (lv v len 0) ep)) 1 (0, 0) (esc (unp 128 nc N)) []) =
    wv (some (v n), some (lstO (lv v len 0) ep)) (E (C0 kt P b) (up A) τ fu [] ((C0 kt P b).den (.builtin "list.__getitem__" ⟨[.ref (up A 0), .int (Int.ofNat n) t], []⟩)) (one (lstO (lv v len 0) ep)) 1 (0, 0) (esc (unp 128 nc N)) [])
structure GiOk (B : Addr → Option Obj) (prog : Program) (w : World) (L len n : Nat) : Prop where
  ok : ∀ (G : Lg), G.Fit → ∀ (A₀ : Nat → Nat) (v : Nat → Value) (t ep : Nat) (Γ : Ctx) (p : Pos) (s : Shared) (R : Result → Shared → Prop), (∀ j, G.M ≤ A₀ j) → Γ.code = .builtin "list.__getitem__" ⟨[.ref (A₀ 0), .int (Int.ofNat n) t], []⟩ → CtxOk L 0 Γ → Rep B G A₀ (one (lstO (lv v len 0) ep)) 1 s →
    (∀ s' A₂ T₂ m₂, A₂ 0 = A₀ 0 → T₂.get 0 = some (lstO (lv v len 0) ep) → Rep B G A₂ T₂ m₂ s' → Inv s 1 A₂ m₂ s' → R (.ok (.ret (v n))) s') → wpCode (model prog w) Γ R p s
section
variable {kt : Params → X.KT} {w : World}
theorem gil {len n fu nc N L : Nat} (hL : L ≤ 626) (h : giL kt len n fu nc N) : GiOk (BB kt w.params) progD w L len n where
  ok := fun G hG A₀ v t ep Γ p s R hA0 hc hΓ D hR => by
    have hC := c0_ok (kt := kt) (w := w) hL G hG
    refine code_den ?_
    have z := run_wp hC (Nat.le_refl _) (a := fun _ _ => (some (v n), some (lstO (lv v len 0) ep))) (A₀ := A₀) (τ₀ := fun _ => 0) ⟨fun _ => by rw [hG.N0]; exact Nat.zero_le _, hA0⟩ hΓ (TkI.zero _ _ _) (p := p) (R := R) D (fun A τ hA _ hn => by
        obtain ⟨A', rfl⟩ := up_is hG hn
        have y := h w.params (rows w.params) A' τ v t ep
        rw [hA 0 (Nat.lt_succ_self _)] at y
        exact y) fun A τ s' o hA _ _ _ hf D' I => by
      rw [rV_is (congrArg Prod.fst hf)]
      exact hR s' A o.T o.m (hA 0 (Nat.lt_succ_self _)) (congrArg Prod.snd hf) D' I
    rw [hC.den, ← hc] at z
    exact z
end
section
variable {B : Addr → Option Obj} {prog : Program} {w : World} {L : Nat}
theorem lv_toks : ∀ (xs : List Value) (θ : Nat → Nat) (k : Nat), toksL xs (fun j => θ (j + k)) = lv (fun j => match xs[j - k]? with | some v => tokd v (θ j) | none => .none) xs.length k
  | [], _, _ => rfl
  | x :: l, θ, k => by
    have := lv_toks l θ (k + 1)
    show tokd x (θ (0 + k)) :: toksL l (fun n => θ (n + 1 + k)) = _ :: lv _ l.length (k + 1)
    congr 1
    · rw [Nat.zero_add]
      dsimp only
      rw [Nat.sub_self]
      rfl
    · rw [show (fun n => θ (n + 1 + k)) = fun n => θ (n + (k + 1)) from funext fun n => by rw [Nat.add_assoc, Nat.add_comm 1 k], this]
      have hc : ∀ (n a : Nat) (f g : Nat → Value), (∀ j, a ≤ j → f j = g j) → lv f n a = lv g n a := by
        intro n
        induction n with
        | zero => intro a f g _; rfl
        | succ n ih => intro a f g h; exact List.cons_eq_cons.mpr ⟨h a (Nat.le_refl _), ih (a + 1) f g fun j hj => h j (by omega)⟩
      refine hc _ _ _ _ fun j hj => ?_
      have : j - k = (j - (k + 1)) + 1 := by omega
      rw [this]
      rfl
/-- an item at a number that isn't literal -/
theorem gi_sok {xs : List Value} {n : Nat} {z : Int} {res : Value} (hz : z = Int.ofNat n) (hx : xs[n]? = some res) (h : GiOk B prog w L xs.length n) : SOk B prog w L (hdB giN) (fun a => [.ref a, .int z 0]) lisV xs res where
  ok := fun G hG c θ θ' ep A₀ Γ p s R hA0 hh hc hΓ D hR => by
    have hc' := hdB_is cd_gi hh
    subst hz
    rw [hc'] at hc
    have e := lv_toks xs θ' 0
    have e : toksL xs θ' = lv (fun j => match xs[j]? with | some v => tokd v (θ' j) | none => .none) xs.length 0 := e
    have D' : Rep B G A₀ (one (lstO (lv (fun j => match xs[j]? with | some v => tokd v (θ' j) | none => .none) xs.length 0) ep)) 1 s := by rw [← e]; exact D
    refine h.ok G hG A₀ _ (θ 1) ep Γ p s R hA0 hc hΓ D' fun s' A₂ T₂ m₂ hA2 hT2 D2 I2 => ?_
    show R (.ok (.ret (match xs[n]? with | some v => tokd v (θ' n) | none => .none))) s'
    rw [hx]
    exact hR _ s' A₂ T₂ m₂ hA2 (by rw [hT2, ← e]; rfl) D2 I2
end
end Mine
end
section
open PySem PySem.W
set_option maxRecDepth 20000
namespace Mine
/-! the patterns: the asked one is numbered first -/
noncomputable def plN (n : Nat) : List Str := match n with
  | 0 => [usS 0, usS 3]
  | 1 => [usS 0, usS 1]
  | 2 => [usS 3]
  | 3 => [usS 0, usS 1, usS 3]
  | 4 => [usS 2]
  | _ => [usS 1, usS 2]
noncomputable def selN (k y m : Nat) : Nat := match Nat.beq k y with
  | true => m + 1
  | false => m + 3 + k
noncomputable def rotL (A : Nat → Nat) (m y : Nat) : List Value := [.ref (A (selN 0 y m)), .ref (A (selN 1 y m)), .ref (A (selN 2 y m)), .ref (A (selN 3 y m)), .ref (A (selN 4 y m)), .ref (A (selN 5 y m))]
noncomputable def ptO (A τ : Nat → Nat) (m i y : Nat) : List Obj :=
  [lstO (rotL A m y) 0, seqO tupV [.str (trP y) (τ (2 * i + 1)), .ref (A (m + 2))] 0, seqO lisV (toksL (strsV (plN y)) fun k => τ (2 * (i + 1 + k) + 1)) 0, frO, frO, frO, frO, frO, frO]
noncomputable def patN : Nat := 300
noncomputable def ptF (y : Nat) : FactF := fun _ c A τ T m i => match hdP patN c with
  | some as => match as with
    | [] => match insL T m (ptO A τ m i.2 y) with
      | some T' => some ⟨.ok (.ret (.ref (A m))), T', m + 9, (i.1, i.2 + 4), []⟩
      | none => none
    | _ => none
  | none => none
/-- all six, as a run leaves them -/
noncomputable def ptAll (A : Nat → Nat) : List (Option (Value × List Value × Nat)) :=
  [some (lisV, strsV (plN 0), 0), some (tupV, [.str (trP 0) 0, .ref (A 1)], 0), some (lisV, strsV (plN 1), 0), some (tupV, [.str (trP 1) 0, .ref (A 3)], 0), some (lisV, strsV (plN 2), 0), some (tupV, [.str (trP 2) 0, .ref (A 5)], 0),
   some (lisV, strsV (plN 3), 0), some (tupV, [.str (trP 3) 0, .ref (A 7)], 0), some (lisV, strsV (plN 4), 0), some (tupV, [.str (trP 4) 0, .ref (A 9)], 0), some (lisV, strsV (plN 5), 0), some (tupV, [.str (trP 5) 0, .ref (A 11)], 0),
   some (lisV, [.ref (A 2), .ref (A 4), .ref (A 6), .ref (A 8), .ref (A 10), .ref (A 12)], 0)]
noncomputable def ptObs (T : BT) : List (Option (Value × List Value × Nat)) := [sO (T.get 1), sO (T.get 2), sO (T.get 3), sO (T.get 4), sO (T.get 5), sO (T.get 6), sO (T.get 7), sO (T.get 8), sO (T.get 9), sO (T.get 10), sO (T.get 11), sO (T.get 12), sO (T.get 13)]
noncomputable def ptL (kt : Params → X.KT) (fu nc N : Nat) : Prop := ∀ (P : Params) (b : Bool × Bool) (A τ : Nat → Nat),
  vw (fun o => (rO o, ptObs o.T)) (E (C0 kt P b) (up A) τ fu [] (st0 (C0 kt P b) (.call (.ref 300) ⟨[], []⟩)) .nil 0 (0, 0) (esc (unp 128 nc N)) []) =
    wv (some (up A 13), ptAll (up A)) (E (C0 kt P b) (up A) τ fu [] (st0 (C0 kt P b) (.call (.ref 300) ⟨[], []⟩)) .nil 0 (0, 0) (esc (unp 128 nc N)) [])
structure PtOk (B : Addr → Option Obj) (prog : Program) (w : World) (L : Nat) : Prop where
  ok : ∀ (G : Lg), G.Fit → ∀ (Γ : Ctx) (p : Pos) (s : Shared) (R : Result → Shared → Prop), Γ.code = .call (.ref 300) ⟨[], []⟩ → CtxOk L 0 Γ → Gd B G s →
    (∀ s' A₂ T₂ m₂ (θ : Nat → Nat → Nat), (∀ j, G.M ≤ A₂ j) → T₂.get 13 = some (seqO lisV [.ref (A₂ 2), .ref (A₂ 4), .ref (A₂ 6), .ref (A₂ 8), .ref (A₂ 10), .ref (A₂ 12)] 0) →
      (∀ y, y < 6 → T₂.get (2 + 2 * y) = some (seqO tupV (toksL [.str (trP y) 0, .ref (A₂ (1 + 2 * y))] (θ (2 + 2 * y))) 0) ∧ T₂.get (1 + 2 * y) = some (seqO lisV (toksL (strsV (plN y)) (θ (1 + 2 * y))) 0)) →
      Rep B G A₂ T₂ m₂ s' → Inv s 0 A₂ m₂ s' → R (.ok (.ret (.ref (A₂ 13)))) s') → wpCode (model prog w) Γ R p s
theorem six {P : Nat → Prop} (h0 : P 0) (h1 : P 1) (h2 : P 2) (h3 : P 3) (h4 : P 4) (h5 : P 5) : ∀ u, u < 6 → P u
  | 0, _ => h0
  | 1, _ => h1
  | 2, _ => h2
  | 3, _ => h3
  | 4, _ => h4
  | 5, _ => h5
  | n + 6, h => absurd h (by omega)
section
variable {kt : Params → X.KT} {w : World}
theorem ptl {fu nc N L : Nat} (hL : L ≤ 626) (h : ptL kt fu nc N) : PtOk (BB kt w.params) progD w L where
  ok := fun G hG Γ p s R hc hΓ g hR => by
    have hC := c0_ok (kt := kt) (w := w) hL G hG
    refine hC.ov 0 _ _ ov_st Γ p s R hc (hΓ.lift (by omega)) g.base fun p' => ?_
    refine run_wp hC (Nat.le_refl _) (a := fun A _ => (some (A 13), ptAll A)) (A₀ := fun _ => G.M) (τ₀ := fun _ => 0) ⟨fun _ => by rw [hG.N0]; exact Nat.zero_le _, fun _ => Nat.le_refl _⟩ hΓ (TkI.zero _ _ _) (Rep.nil g) (fun A τ _ _ hn => by obtain ⟨A', rfl⟩ := up_is hG hn; exact h w.params (rows w.params) A' τ) fun A τ s' o _ _ hn _ hf D I => ?_
    rw [rO_is (congrArg Prod.fst hf)]
    have hf := congrArg Prod.snd hf
    have hf : ptObs o.T = ptAll A := hf
    unfold ptObs ptAll at hf
    injection hf with e1 hf
    injection hf with e2 hf
    injection hf with e3 hf
    injection hf with e4 hf
    injection hf with e5 hf
    injection hf with e6 hf
    injection hf with e7 hf
    injection hf with e8 hf
    injection hf with e9 hf
    injection hf with e10 hf
    injection hf with e11 hf
    injection hf with e12 hf
    injection hf with e13 hf
    obtain ⟨t1, g1⟩ := sO_is e1
    obtain ⟨t2, g2⟩ := sO_is e2
    obtain ⟨t3, g3⟩ := sO_is e3
    obtain ⟨t4, g4⟩ := sO_is e4
    obtain ⟨t5, g5⟩ := sO_is e5
    obtain ⟨t6, g6⟩ := sO_is e6
    obtain ⟨t7, g7⟩ := sO_is e7
    obtain ⟨t8, g8⟩ := sO_is e8
    obtain ⟨t9, g9⟩ := sO_is e9
    obtain ⟨t10, g10⟩ := sO_is e10
    obtain ⟨t11, g11⟩ := sO_is e11
    obtain ⟨t12, g12⟩ := sO_is e12
    obtain ⟨t13, g13⟩ := sO_is e13
    refine hR s' A o.T o.m (fun j => match j with
      | 1 => t1
      | 2 => t2
      | 3 => t3
      | 4 => t4
      | 5 => t5
      | 6 => t6
      | 7 => t7
      | 8 => t8
      | 9 => t9
      | 10 => t10
      | 11 => t11
      | _ => t12) hn.2 g13 (six ⟨g2, g1⟩ ⟨g4, g3⟩ ⟨g6, g5⟩ ⟨g8, g7⟩ ⟨g10, g9⟩ ⟨g12, g11⟩) D I
end
section
variable {B : Addr → Option Obj} {prog : Program} {w : World} {L : Nat}
theorem tkP_TkI' {i : Nat × Nat} {n : Nat} {τ₀ θ₁ θ₂ : Nat → Nat} {s s' : Shared} (hk : TkI i τ₀ s) (hs : s.toks ≤ s'.toks) : TkI (i.1, i.2 + n) (tkP i.2 τ₀ θ₁ θ₂) s' :=
  ⟨(tkP_TkI hk hs).1, (tkP_TkI hk hs).2⟩
theorem plN_len (y : Nat) : (strsV (plN y)).length ≤ 3 := by
  match y with
  | 0 => exact by decide
  | 1 => exact by decide
  | 2 => exact by decide
  | 3 => exact by decide
  | 4 => exact by decide
  | _ + 5 => show 2 ≤ 3; decide
/-- inner numbers of the nine -/
noncomputable def ptR (y x : Nat) : Nat := match x with
  | 0 => 13
  | 1 => 2 + 2 * y
  | 2 => 1 + 2 * y
  | k + 3 => match Nat.beq k y with
    | true => 1 + 2 * ((y + 1) % 6)
    | false => 2 + 2 * k
theorem ptR_facts : ∀ y, y < 6 → (∀ x, x < 9 → ptR y x < 14) ∧ (∀ x, x < 9 → ∀ x', x' < 9 → ptR y x = ptR y x' → x = x') := by
  have : ∀ y : Fin 6, (∀ x : Fin 9, ptR y.1 x.1 < 14) ∧ (∀ x x' : Fin 9, ptR y.1 x.1 = ptR y.1 x'.1 → x = x') := by decide +kernel
  intro y hy
  exact ⟨fun x hx => (this ⟨y, hy⟩).1 ⟨x, hx⟩, fun x hx x' hx' e => congrArg Fin.val ((this ⟨y, hy⟩).2 ⟨x, hx⟩ ⟨x', hx'⟩ e)⟩
theorem ptO_congr {A A' τ τ' : Nat → Nat} {m i y : Nat} (hA : ∀ j, j < m + 9 → A' j = A j) (hτ : ∀ j, j < i + 4 → τ' (2 * j + 1) = τ (2 * j + 1)) : ptO A' τ' m i y = ptO A τ m i y := by
  have hs : ∀ k, k < 6 → A' (selN k y m) = A (selN k y m) := fun k hk => hA _ (by unfold selN; split <;> omega)
  have hl := plN_len y
  unfold ptO rotL
  rw [hs 0 (by omega), hs 1 (by omega), hs 2 (by omega), hs 3 (by omega), hs 4 (by omega), hs 5 (by omega), hA (m + 2) (by omega), hτ i (by omega), toksL_congr (strsV (plN y)) (fun k => τ' (2 * (i + 1 + k) + 1)) (fun k => τ (2 * (i + 1 + k) + 1)) fun k hk => hτ _ (by omega)]
theorem ptF_ok {y : Nat} (hy : y < 6) (h : PtOk B prog w L) : FactOk B prog w L (ptF y) where
  sp := fun G hG q c A₀ τ₀ T m i Γ p s R hm0 hc hΓ hk D h1 h2 => by
    obtain ⟨o, ho, _⟩ := h1 A₀ τ₀ (fun _ _ => rfl) (agr.refl _ _) hm0
    unfold ptF at ho
    split at ho
    · rename_i as hh
      split at ho
      · split at ho
        · rename_i T' hi
          cases ho
          have hcode := hdP_is hh
          rw [hcode] at hc
          refine h.ok (G.out A₀ m) (hG.out A₀ m) Γ p s R hc hΓ D.gdOut fun s' A₂ T₂ m₂ θ hA2 hl hpr D₂ I₂ => ?_
          let A' : Nat → Nat := fun j => if j < m then A₀ j else A₂ (ptR y (j - m))
          let τ' := tkP i.2 τ₀ (θ (2 + 2 * y)) (θ (1 + 2 * y))
          have eA : ∀ x, A' (m + x) = A₂ (ptR y x) := fun x => by
            show (if m + x < m then _ else A₂ (ptR y (m + x - m))) = _
            rw [if_neg (by omega), Nat.add_sub_cancel_left]
          have hsel : ∀ k, A' (selN k y m) = A₂ (2 + 2 * k) := fun k => by
            unfold selN
            cases hb : Nat.beq k y with
            | true =>
              dsimp only
              rw [eA 1, Nat.eq_of_beq_eq_true hb]
              rfl
            | false =>
              dsimp only
              rw [show m + 3 + k = m + (k + 3) by omega, eA (k + 3)]
              show A₂ (match Nat.beq k y with | true => _ | false => _) = _
              rw [hb]
          have eO : ptO A' τ' m i.2 y = [lstO [.ref (A₂ 2), .ref (A₂ 4), .ref (A₂ 6), .ref (A₂ 8), .ref (A₂ 10), .ref (A₂ 12)] 0, seqO tupV (toksL [.str (trP y) 0, .ref (A₂ (1 + 2 * y))] (θ (2 + 2 * y))) 0, seqO lisV (toksL (strsV (plN y)) (θ (1 + 2 * y))) 0, frO, frO, frO, frO, frO, frO] := by
            unfold ptO rotL
            rw [hsel 0, hsel 1, hsel 2, hsel 3, hsel 4, hsel 5, eA 2]
            have := pairO_tkP A' m i.2 τ₀ (θ (2 + 2 * y)) (θ (1 + 2 * y)) (trP y) (strsV (plN y))
            unfold pairO at this
            injection this with p1 p2
            injection p2 with p2 _
            have q1 : τ' (2 * i.2 + 1) = θ (2 + 2 * y) 0 := by
              show tkP _ _ _ _ _ = _
              unfold tkP
              rw [if_neg (by omega), if_pos rfl]
            rw [q1, p2]
            rfl
          obtain ⟨U, hU⟩ := insL_some (ptO A₀ τ₀ m i.2 y) (ptO A' τ' m i.2 y) T T m T' rfl rfl hi
          have hU' := hU
          rw [eO] at hU'
          have hm14 : 13 < m₂ := (D₂.own _ _ hl).1
          obtain ⟨f1, f2⟩ := ptR_facts y hy
          obtain ⟨D', I'⟩ := back_new (n := 0) (js := id) (r := ptR y) (l := [lstO [.ref (A₂ 2), .ref (A₂ 4), .ref (A₂ 6), .ref (A₂ 8), .ref (A₂ 10), .ref (A₂ 12)] 0, seqO tupV (toksL [.str (trP y) 0, .ref (A₂ (1 + 2 * y))] (θ (2 + 2 * y))) 0, seqO lisV (toksL (strsV (plN y)) (θ (1 + 2 * y))) 0, frO, frO, frO, frO, frO, frO]) hG.tab D D₂ I₂ (fun k hk => absurd hk (Nat.not_lt_zero _)) (fun k hk => absurd hk (Nat.not_lt_zero _))
            (fun x hx => ⟨Nat.zero_le _, Nat.lt_of_lt_of_le (f1 x hx) hm14⟩) (fun x y hx hy e => f2 x hx y hy e)
            (fun x o hx hf => by
              match x, hx with
              | 0, hx => cases hx; exact hl
              | 1, hx => cases hx; exact (hpr y hy).1
              | 2, hx => cases hx; exact (hpr y hy).2
              | 3, hx => cases hx; cases hf
              | 4, hx => cases hx; cases hf
              | 5, hx => cases hx; cases hf
              | 6, hx => cases hx; cases hf
              | 7, hx => cases hx; cases hf
              | 8, hx => cases hx; cases hf) hU'
          have eA0 : A' m = A₂ 13 := eA 0
          refine (show R (.ok (.ret (.ref (A' m)))) s' → R (.ok (.ret (.ref (A₂ 13)))) s' by rw [eA0]; exact id) ?_
          refine h2 A' τ' s' ⟨.ok (.ret (.ref (A' m))), U, m + 9, (i.1, i.2 + 4), []⟩ (fun j hj => if_pos hj) (tkP_agr i τ₀ _ _) (fun j => by show G.M ≤ if j < m then A₀ j else A₂ (ptR y (j - m)); split <;> first | exact hm0 j | exact hA2 _) ?_ ⟨Nat.le_refl _, Nat.le_add_right _ _⟩ (tkP_TkI' hk I'.toks) D' I'
          unfold ptF
          rw [hh]
          dsimp only
          rw [hU]
        · cases ho
      · cases ho
    · cases ho
  spx := fun q c A τ A' τ' T m i o hTI ho hA hτ => by
    unfold ptF at ho ⊢
    split at ho
    · rename_i as hh
      split at ho
      · split at ho
        · rename_i T' hi
          cases ho
          rw [ptO_congr hA (fun j hj => hτ.2 j hj), hi]
          dsimp only
          rw [hA m (by show m < m + 9; omega)]
        · cases ho
      · cases ho
    · cases ho
/-- the asked pattern -/
noncomputable def pgF (n : Int) (y : Nat) : FactF := fun j c A τ T m i => match hdB giN c with
  | some as => match Nat.ble (j + 9) m with
    | false => none
    | true => match sq (T.get j) with
      | none => none
      | some x => some ⟨.ok (.ret (.ref (A (j + 1)))), T, m, i, [(.l (strkAll as), .l [.ref (A j), .int n 0]), (.v x.1, .v lisV), (.l x.2.1, .l (rotL A j y))]⟩
  | none => none
theorem lv_six (v : Nat → Value) : lv v 6 0 = [v 0, v 1, v 2, v 3, v 4, v 5] := rfl
theorem pgF_ok {n : Int} {y : Nat} (hn : n = Int.ofNat y) (hy : y < 6) (h : GiOk B prog w L 6 y) : FactOk B prog w L (pgF n y) where
  sp := fun G hG q c A₀ τ₀ T m i Γ p s R hm0 hc hΓ hk D h1 h2 => by
    obtain ⟨o, ho, he⟩ := h1 A₀ τ₀ (fun _ _ => rfl) (agr.refl _ _) hm0
    have hz := ho
    unfold pgF at ho
    cases hh : hdB giN c with
    | none => rw [hh] at ho; cases ho
    | some as =>
      rw [hh] at ho
      cases hm : Nat.ble (q + 9) m with
      | false => rw [hm] at ho; cases ho
      | true =>
        rw [hm] at ho
        dsimp only at ho
        cases hT : sq (T.get q) with
        | none => rw [hT] at ho; cases ho
        | some x =>
          rw [hT] at ho
          cases ho
          obtain ⟨cl, l, ep⟩ := x
          obtain ⟨θ, hθ⟩ := strkAll_inv' (VV.l.inj (he _ (.head _)))
          have hcl : cl = lisV := VV.v.inj (he _ (.tail _ (.head _)))
          have hl : l = rotL A₀ q y := VV.l.inj (he _ (.tail _ (.tail _ (.head _))))
          subst hcl
          subst hl
          have hT' : T.get q = some (lstO (lv (fun k => .ref (A₀ (selN k y q))) 6 0) ep) := sq_is hT
          have hq := (D.own q _ hT').1
          have D₁ := D.sub (fun _ => q) 1 (one (lstO (lv (fun k => .ref (A₀ (selN k y q))) 6 0) ep)) (fun _ _ => hq) (fun i j hi hj _ => by omega) (fun k o' e => by
            obtain ⟨e1, e2⟩ := one_get _ _ _ e
            subst e1; subst e2
            exact ⟨Nat.lt_succ_self _, fun _ => hT'⟩)
          have hcode := hdB_is cd_gi hh
          have hc1 := hc
          rw [hcode, hθ, hn] at hc1
          refine h.ok (G.out A₀ m) (hG.out A₀ m) (fun _ => A₀ q) _ (θ 1) ep Γ p s R (fun _ => hm0 q) hc1 hΓ D₁ fun s' A₂ T₂ m₂ hA2 hT2 D₂ I₂ => ?_
          obtain ⟨D', I'⟩ := D.back (T' := T) (A' := A₀) (m' := m) (js := fun _ => q) (r := id) hG.tab D₂ I₂ (fun k hk => ⟨hq, (Nat.lt_one_iff.mp hk) ▸ hA2⟩) (Nat.le_refl _) (fun _ _ => rfl) (fun j h1 h2 => absurd h2 (Nat.not_lt.mpr h1)) (fun i j h1 _ h2 => absurd h2 (Nat.not_lt.mpr h1))
            fun j o e => ⟨(D.own j o e).1, fun hf => by
              by_cases hj : q = j
              · subst hj
                rw [hT'] at e
                cases e
                exact .inr (.inl ⟨0, Nat.lt_succ_self _, rfl, hT2⟩)
              · exact .inl ⟨(D.own j o e).1, fun _ _ => hj, e⟩⟩
          have es : selN y y q = q + 1 := by unfold selN; rw [Nat.beq_refl]
          refine (show R (.ok (.ret (.ref (A₀ (q + 1))))) s' → R (.ok (.ret (.ref (A₀ (selN y y q))))) s' by rw [es]; exact id) ?_
          exact h2 A₀ τ₀ s' _ (fun _ _ => rfl) (agr.refl _ _) hm0 hz (ile.refl _) (hk.congr (agr.refl _ _) I'.toks) D' I'
  spx := fun q c A τ A' τ' T m i o hTI ho hA hτ => by
    unfold pgF at ho ⊢
    cases hh : hdB giN c with
    | none => rw [hh] at ho; cases ho
    | some as =>
      rw [hh] at ho
      cases hm : Nat.ble (q + 9) m with
      | false => rw [hm] at ho; cases ho
      | true =>
        rw [hm] at ho
        dsimp only at ho ⊢
        cases hT : sq (T.get q) with
        | none => rw [hT] at ho; cases ho
        | some x =>
          rw [hT] at ho
          cases ho
          have hm' : q + 9 ≤ m := ble_true hm
          have hs : ∀ k, k < 6 → A' (selN k y q) = A (selN k y q) := fun k hk => hA _ (by unfold selN; split <;> (show _ < m; omega))
          dsimp only
          rw [hA (q + 1) (by show q + 1 < m; omega), hA q (by show q < m; omega)]
          unfold rotL
          rw [hs 0 (by omega), hs 1 (by omega), hs 2 (by omega), hs 3 (by omega), hs 4 (by omega), hs 5 (by omega)]
end
end Mine
end
section
open PySem PySem.W
set_option maxRecDepth 20000
namespace Mine
open PySem.SeqAt
/-! the two answers, held against each other -/
noncomputable def neTN : Nat := 29827101557446578626297427573
theorem cd_neT : PySem.code "tuple.__ne__" = neTN := by decide +kernel
noncomputable def neF (S : Str) (xs : List Value) : FactF := fun _ c A τ T m i => match hdB neTN c with
  | none => none
  | some as => match Nat.ble 4 m with
    | false => none
    | true => match Nat.ble 6 i.2 with
      | false => none
      | true => match sq (T.get (m - 4)) with
        | none => none
        | some x1 => match sq (T.get (m - 3)) with
          | none => none
          | some x2 => match sq (T.get (m - 2)) with
            | none => none
            | some x3 => match sq (T.get (m - 1)) with
              | none => none
              | some x4 => some ⟨.ok (.ret (.bool false)), T, m, i, [(.l as, .l [.ref (A (m - 4)), .ref (A (m - 2))]), (.v x1.1, .v tupV), (.l (strkAll x1.2.1), .l [.str S 0, .ref (A (m - 3))]), (.v x2.1, .v lisV), (.l x2.2.1, .l (toksL xs fun k => τ (2 * (i.2 - 6 + 1 + k) + 1))),
                  (.v x3.1, .v tupV), (.l (strkAll x3.2.1), .l [.str S 0, .ref (A (m - 1))]), (.v x4.1, .v lisV), (.l x4.2.1, .l (toksL xs fun k => τ (2 * (i.2 - 3 + 1 + k) + 1)))]⟩
theorem strsV_get : ∀ (ns : List Str) (θ θ' : Nat → Nat) (j : Nat) (h1 : j < (toksL (strsV ns) θ).length) (h2 : j < (toksL (strsV ns) θ').length), ∃ x t t', (toksL (strsV ns) θ)[j] = .str x t ∧ (toksL (strsV ns) θ')[j] = .str x t'
  | [], _, _, j, h1, _ => absurd h1 (Nat.not_lt_zero _)
  | x :: l, θ, θ', 0, _, _ => ⟨x, θ 0, θ' 0, rfl, rfl⟩
  | x :: l, θ, θ', j + 1, h1, h2 => strsV_get l (fun n => θ (n + 1)) (fun n => θ' (n + 1)) j (Nat.lt_of_succ_lt_succ h1) (Nat.lt_of_succ_lt_succ h2)
theorem toksL_len : ∀ (xs : List Value) (θ : Nat → Nat), (toksL xs θ).length = xs.length
  | [], _ => rfl
  | _ :: l, θ => congrArg Nat.succ (toksL_len l _)
section
variable {B : Addr → Option Obj} {prog : Program} {w : World} {L : Nat}
theorem neF_ok {S : Str} {xs : List Value} {ns : List Str} (hxs : xs = strsV ns) (hx : xs.length ≤ 2) (hL : L ≤ 690) : FactOk B prog w L (neF S xs) where
  sp := fun G hG q c A₀ τ₀ T m i Γ p s R hm0 hc hΓ hk D h1 h2 => by
    obtain ⟨o, ho, he⟩ := h1 A₀ τ₀ (fun _ _ => rfl) (agr.refl _ _) hm0
    have hz := ho
    unfold neF at ho
    split at ho
    · cases ho
    rename_i as hh
    split at ho
    · cases ho
    rename_i hm
    split at ho
    · cases ho
    rename_i hi
    split at ho
    · cases ho
    rename_i x1 g1
    split at ho
    · cases ho
    rename_i x2 g2
    split at ho
    · cases ho
    rename_i x3 g3
    split at ho
    · cases ho
    rename_i x4 g4
    cases ho
    have hm' : 4 ≤ m := ble_true hm
    obtain ⟨c1, l1, e1⟩ := x1
    obtain ⟨c2, l2, e2⟩ := x2
    obtain ⟨c3, l3, e3⟩ := x3
    obtain ⟨c4, l4, e4⟩ := x4
    have q0 : as = _ := VV.l.inj (he _ (.head _))
    have q1 : c1 = tupV := VV.v.inj (he _ (.tail _ (.head _)))
    obtain ⟨θ1, q2⟩ := strkAll_inv' (VV.l.inj (he _ (.tail _ (.tail _ (.head _)))))
    have q3 : c2 = lisV := VV.v.inj (he _ (.tail _ (.tail _ (.tail _ (.head _)))))
    have q4 : l2 = _ := VV.l.inj (he _ (.tail _ (.tail _ (.tail _ (.tail _ (.head _))))))
    have q5 : c3 = tupV := VV.v.inj (he _ (.tail _ (.tail _ (.tail _ (.tail _ (.tail _ (.head _)))))))
    obtain ⟨θ3, q6⟩ := strkAll_inv' (VV.l.inj (he _ (.tail _ (.tail _ (.tail _ (.tail _ (.tail _ (.tail _ (.head _)))))))))
    have q7 : c4 = lisV := VV.v.inj (he _ (.tail _ (.tail _ (.tail _ (.tail _ (.tail _ (.tail _ (.tail _ (.head _)))))))))
    have q8 : l4 = _ := VV.l.inj (he _ (.tail _ (.tail _ (.tail _ (.tail _ (.tail _ (.tail _ (.tail _ (.tail _ (.head _))))))))))
    have w2 : l1 = [.str S (θ1 0), .ref (A₀ (m - 3))] := q2
    have w6 : l3 = [.str S (θ3 0), .ref (A₀ (m - 1))] := q6
    subst q1; subst q3; subst q5; subst q7
    rw [w2] at g1
    rw [q4, hxs] at g2
    rw [w6] at g3
    rw [q8, hxs] at g4
    have f1 := sq_is g1
    have f2 := sq_is g2
    have f3 := sq_is g3
    have f4 := sq_is g4
    have k1 := (D.own _ _ f1).2 rfl
    have k2 := (D.own _ _ f2).2 rfl
    have k3 := (D.own _ _ f3).2 rfl
    have k4 := (D.own _ _ f4).2 rfl
    have hcode := hdB_is cd_neT hh
    rw [hcode, q0] at hc
    have hun := hΓ.un
    refine code_meets F.slot_tuple_ne.plain F.entry_tuple_ne (tuple_neAt (A₀ (m - 4)) (A₀ (m - 2)) _ _ e1 e3 none none #[] #[] fun _ => true) hc ⟨k1, k3, fun j h1 h2 => ?_, ?_⟩
    · match j, h1, h2 with
      | 0, _, _ =>
        have := EqAt.str_str (A := ({ handled := Γ.handled, depth := frameCount Γ.below, units := unitsOf Γ.below } : Around).in1) (s := s) S (θ1 0) S (θ3 0)
        rw [beq_self_eq_true] at this
        exact this
      | 1, _, _ =>
        have hll : A₀ (m - 3) ≠ A₀ (m - 1) := fun e => by
          have := D.inj _ _ (D.own _ _ f2).1 (D.own _ _ f4).1 e
          omega
        have hsz : (⟨toksL (strsV ns) fun k => τ₀ (2 * (i.2 - 6 + 1 + k) + 1)⟩ : Array Value).size = (⟨toksL (strsV ns) fun k => τ₀ (2 * (i.2 - 3 + 1 + k) + 1)⟩ : Array Value).size := (toksL_len _ _).trans (toksL_len _ _).symm
        have r := RcAt.lists (A := ({ handled := Γ.handled, depth := frameCount Γ.below, units := unitsOf Γ.below } : Around).in1) (s := s) (e := fun _ => true) ⟨_, k2, rfl, _, rfl⟩ ⟨_, k4, rfl, _, rfl⟩ hsz (by show unitsOf Γ.below + 1 < 9900; omega) fun j j1 j2 => by
          obtain ⟨x, t, t', y1, y2⟩ := strsV_get ns _ _ j j1 j2
          have z := EqAt.str_str (A := ({ handled := Γ.handled, depth := frameCount Γ.below, units := unitsOf Γ.below } : Around).in1.in1) (s := s) x t x t'
          rw [beq_self_eq_true] at z
          show EqAt _ s (toksL (strsV ns) _)[j] (toksL (strsV ns) _)[j] true
          rw [y1, y2]
          exact z
        have r2 := EqAt.of_refs hll r
        have ha : (List.range (⟨toksL (strsV ns) fun k => τ₀ (2 * (i.2 - 6 + 1 + k) + 1)⟩ : Array Value).size).all (fun _ => true) = true := by simp
        rw [ha] at r2
        exact r2
    · exact h2 A₀ τ₀ s _ (fun _ _ => rfl) (agr.refl _ _) hm0 hz (ile.refl _) hk D (Inv.refl s m A₀)
  spx := fun q c A τ A' τ' T m i o hTI ho hA hτ => by
    unfold neF at ho ⊢
    split at ho
    · cases ho
    split at ho
    · cases ho
    rename_i hm
    split at ho
    · cases ho
    rename_i hi
    split at ho
    · cases ho
    split at ho
    · cases ho
    split at ho
    · cases ho
    split at ho
    · cases ho
    cases ho
    have hm' : 4 ≤ m := ble_true hm
    have hi' : 6 ≤ i.2 := ble_true hi
    have t1 : toksL xs (fun k => τ' (2 * (i.2 - 6 + 1 + k) + 1)) = toksL xs (fun k => τ (2 * (i.2 - 6 + 1 + k) + 1)) := toksL_congr _ _ _ fun k hk => hτ.2 _ (by show i.2 - 6 + 1 + k < i.2; omega)
    have t2 : toksL xs (fun k => τ' (2 * (i.2 - 3 + 1 + k) + 1)) = toksL xs (fun k => τ (2 * (i.2 - 3 + 1 + k) + 1)) := toksL_congr _ _ _ fun k hk => hτ.2 _ (by show i.2 - 3 + 1 + k < i.2; omega)
    have a1 : A' (m - 4) = A (m - 4) := hA _ (by show m - 4 < m; omega)
    have a2 : A' (m - 3) = A (m - 3) := hA _ (by show m - 3 < m; omega)
    have a3 : A' (m - 2) = A (m - 2) := hA _ (by show m - 2 < m; omega)
    have a4 : A' (m - 1) = A (m - 1) := hA _ (by show m - 1 < m; omega)
    rw [t1, t2, a1, a2, a3, a4]
end
end Mine
end
section
open PySem PySem.W
set_option maxRecDepth 20000
namespace Mine
/-! a slice of the script -/
section
variable {prog : Program} {w : World} {A : Around} {E : Value → Shared → Prop} {s : Shared}
theorem code_wp {id : String} {args : Args} {b : Builtin} {Γ : Ctx} {p : Pos} {R : Result → Shared → Prop} (hp : plainId id = true) (he : entryFor table id = some b) (hc : Γ.code = .builtin id args)
    (h : wpAny (model prog w) ({ handled := Γ.handled, depth := frameCount Γ.below, units := unitsOf Γ.below } : Around).in1 (b args) (fun fin s' => match fin with | .done f => R (.ok f) s' | .again c' => c'.quiet = true ∧ codeAny (model prog w) { handled := Γ.handled, depth := frameCount Γ.below, units := unitsOf Γ.below } c' R s') (fun e s' => R (.error e) s') s) : wpCode (model prog w) Γ R p s :=
  (codeAny_builtin he (by rw [Around.under_plainId hp]; exact h)) Γ p hc ⟨rfl, Nat.le_refl _, (fun _ h => by cases h), (fun _ h => by cases h), Nat.le_refl _⟩
theorem slice_wp {l sl : Addr} {items : Array Value} {vl vu vs : Value} {lo hi st : Option Int} {Q : Fin → Shared → Prop} (hl : s.heap.IsList l items)
    (hs : s.heap.IsSliceOf sl vl vu vs) (pl : IsPart vl lo) (pu : IsPart vu hi) (ps : IsPart vs st) (h0 : st ≠ some 0)
    (h : Q (.done (.ret (.ref s.heap.objs.size))) { s with heap := s.heap.push { cls := .type "list", data := .seq (slicePick items lo hi st) } })
    (hsz : items.size ≤ sizeLine) : wpAny (model prog w) A (Builtin.«list.__getitem__» ⟨[.ref l, .ref sl], []⟩) Q E s := by
  obtain ⟨o, ho, hc, ne, hd⟩ := id hl
  obtain ⟨os, hos, hcs, hds⟩ := id hs
  have hTs : s.TypeIs (.ref sl) "slice" := ⟨os, hos, hcs⟩
  show wpAny _ _ (Builtin.List.listSubscript? (.ref sl) >>= _) _ _ s
  refine wpAny_bind ?_
  unfold Builtin.List.listSubscript?
  refine wpAny_bind (wpAny_specialOf hTs slice_no_index ?_)
  simp only [Option.isNone_none, if_true]
  refine wpAny_pure ?_
  show wpAny _ _ (typeOf (.ref sl) >>= _) _ _ s
  refine wpAny_bind (wpAny_typeOf hTs ?_)
  rw [if_neg (by decide)]
  rw [listSliceParts_eq]
  have hstep : ¬ ((rawPart st == rawInt 0) = true) := by
    cases st with
    | none => exact Bool.false_ne_true
    | some c =>
      intro hh
      have : c = 0 := by simpa [rawPart, rawInt] using hh
      exact h0 (by rw [this])
  refine wpAny_bind (wpAny_bind (wpAny_field hos hds (x := vs) rfl (wpAny_bind (wpAny_listPart ps ?_))))
  rw [if_neg hstep]
  refine wpAny_bind (wpAny_field hos hds (x := vl) rfl (wpAny_bind (wpAny_listPart pl ?_)))
  refine wpAny_bind (wpAny_field hos hds (x := vu) rfl (wpAny_bind (wpAny_listPart pu (wpAny_pure ?_))))
  refine wpAny_bind (m := Builtin.List.listItems (.ref l)) ?_
  unfold Builtin.List.listItems
  refine wpAny_bind (wpAny_seqItems ho hd (wpAny_pure ?_))
  refine wpAny_bind (wpAny_of_eq (sliceIndices_raw lo hi st items.size h0) ?_)
  exact wpAny_bind (wpAny_newObj_type (wpAny_pure h) (Nat.le_trans (slicePick_size_le items lo hi st) hsz))
end
noncomputable def fl (o : Option Obj) : Option (Value × List Value) := match o with
  | some ⟨cl, _, .fields vs, _⟩ => some (cl, vs.toList)
  | _ => none
theorem fl_is {o : Option Obj} {cl : Value} {vs : List Value} (h : fl o = some (cl, vs)) : ∃ d sl, o = some ⟨cl, d, .fields ⟨vs⟩, sl⟩ := by
  unfold fl at h
  split at h
  · cases h; exact ⟨_, _, rfl⟩
  · cases h
noncomputable def partV (o : Option Int) : Value := match o with
  | none => .none
  | some i => .int i 0
theorem partV_is {o : Option Int} {v : Value} (h : strk v = partV o) : IsPart v o := by
  cases o with
  | none => cases v <;> first | exact .none | cases h
  | some i =>
    cases v with
    | int j t => injection h with h1 _; subst h1; exact .int _ _
    | _ => cases h
/-- the slice's own object is the newest -/
noncomputable def slF (src : List Value) (lo hi : Option Int) (res : List Value) : FactF := fun j c A τ T m i => match hdB giN c with
  | none => none
  | some as => match Nat.ble (j + 2) m with
    | false => none
    | true => match sq (T.get j) with
      | none => none
      | some x => match fl (T.get (m - 1)) with
        | none => none
        | some y => match insL T m [lstO res 0] with
          | none => none
          | some T' => some ⟨.ok (.ret (.ref (A m))), T', m + 1, i, [(.l as, .l [.ref (A j), .ref (A (m - 1))]), (.v x.1, .v lisV), (.l x.2.1, .l src), (.v y.1, .v (.type "slice")), (.l (strkAll y.2), .l [partV lo, partV hi, .none])]⟩
section
variable {B : Addr → Option Obj} {prog : Program} {w : World} {L : Nat}
theorem slF_ok {src res : List Value} {lo hi : Option Int} (hs : slicePick ⟨src⟩ lo hi none = ⟨res⟩) (hsz : src.length ≤ sizeLine) : FactOk B prog w L (slF src lo hi res) where
  sp := fun G hG q c A₀ τ₀ T m i Γ p s R hm0 hc hΓ hk D h1 h2 => by
    obtain ⟨o, ho, he⟩ := h1 A₀ τ₀ (fun _ _ => rfl) (agr.refl _ _) hm0
    unfold slF at ho
    split at ho
    · cases ho
    rename_i as hh
    split at ho
    · cases ho
    rename_i hm
    split at ho
    · cases ho
    rename_i x g1
    split at ho
    · cases ho
    rename_i y g2
    split at ho
    · cases ho
    rename_i T' hi'
    cases ho
    obtain ⟨c1, l1, e1⟩ := x
    obtain ⟨c2, l2⟩ := y
    have hm' : q + 2 ≤ m := ble_true hm
    have q0 : as = _ := VV.l.inj (he _ (.head _))
    have q1 : c1 = lisV := VV.v.inj (he _ (.tail _ (.head _)))
    have q2 : l1 = src := VV.l.inj (he _ (.tail _ (.tail _ (.head _))))
    have q3 : c2 = .type "slice" := VV.v.inj (he _ (.tail _ (.tail _ (.tail _ (.head _)))))
    have q4 : strkAll l2 = [partV lo, partV hi, .none] := VV.l.inj (he _ (.tail _ (.tail _ (.tail _ (.tail _ (.head _))))))
    subst q1; subst q2; subst q3
    have f1 := sq_is g1
    obtain ⟨d, sl, f2⟩ := fl_is g2
    have k1 := (D.own _ _ f1).2 rfl
    have k2 := (D.own _ _ f2).2 rfl
    have hl2 : ∃ v1 v2 v3, l2 = [v1, v2, v3] ∧ IsPart v1 lo ∧ IsPart v2 hi ∧ IsPart v3 none := by
      cases l2 with
      | nil => cases q4
      | cons v1 l2 =>
        injection q4 with a1 q4
        cases l2 with
        | nil => cases q4
        | cons v2 l2 =>
          injection q4 with a2 q4
          cases l2 with
          | nil => cases q4
          | cons v3 l2 =>
            injection q4 with a3 q4
            cases l2 with
            | cons _ _ => cases q4
            | nil => exact ⟨v1, v2, v3, rfl, partV_is a1, partV_is a2, partV_is (o := none) a3⟩
    obtain ⟨v1, v2, v3, rfl, p1, p2, p3⟩ := hl2
    have hcode := hdB_is cd_gi hh
    rw [hcode, q0] at hc
    refine code_wp (by decide +kernel) F.entry_list_getitem hc ?_
    refine slice_wp ⟨_, k1, rfl, _, rfl⟩ ⟨_, k2, rfl, rfl⟩ p1 p2 p3 (fun e => nomatch e) ?_ hsz
    have hU : ∃ U, insL T m [lstO res 0] = some U := ⟨T', hi'⟩
    have hins : ((T.ins m (lstO res 0)).get m).isSome = true ∧ T' = T.ins m (lstO res 0) := by
      unfold insL at hi'
      split at hi'
      · cases hi'
      · rename_i z hz
        unfold insL at hi'
        cases hi'
        exact ⟨by rw [hz]; rfl, rfl⟩
    obtain ⟨hins, hT'⟩ := hins
    have D' := D.alloc (o := lstO res 0) rfl hins
    have I' : Inv s m (fun j => if j = m then s.heap.objs.size else A₀ j) (m + 1) { s with heap := s.heap.push (lstO res 0) } :=
      ⟨Nat.le_succ _, fun b o e _ _ => Heap.get?_push_of_some _ e, by show _ ≤ (s.heap.push _).objs.size; rw [Heap.size_push]; exact Nat.le_succ _, fun j a b => by
        show _ ≤ if j = m then _ else _
        rw [if_pos (by omega)]
        exact Nat.le_refl _, fun h => h, rfl, rfl, Nat.le_refl _⟩
    have ex : ({ s with heap := s.heap.push { cls := .type "list", data := .seq (slicePick ⟨l1⟩ lo hi none) } } : Shared) = { s with heap := s.heap.push (lstO res 0) } := by rw [hs]; rfl
    rw [ex]
    have eA : (fun j => if j = m then s.heap.objs.size else A₀ j) m = s.heap.objs.size := if_pos rfl
    refine (show R (.ok (.ret (.ref ((fun j => if j = m then s.heap.objs.size else A₀ j) m)))) { s with heap := s.heap.push (lstO res 0) } → R (.ok (.ret (.ref s.heap.objs.size))) { s with heap := s.heap.push (lstO res 0) } by rw [eA]; exact id) ?_
    rw [← hT'] at D'
    refine h2 (fun j => if j = m then s.heap.objs.size else A₀ j) τ₀ _ ⟨.ok (.ret (.ref ((fun j => if j = m then s.heap.objs.size else A₀ j) m))), T', m + 1, i, [(.l as, .l [.ref (A₀ q), .ref (A₀ (m - 1))]), (.v lisV, .v lisV), (.l l1, .l l1), (.v (.type "slice"), .v (.type "slice")), (.l (strkAll [v1, v2, v3]), .l [partV lo, partV hi, .none])]⟩ (fun j hj => if_neg (Nat.ne_of_lt hj)) (agr.refl _ _) (fun j => by show G.M ≤ if j = m then _ else _; split <;> first | exact D.room | exact hm0 j) ?_ (ile.refl _) hk D' I'
    unfold slF
    rw [hh]
    dsimp only
    rw [hm]
    dsimp only
    rw [g1]
    dsimp only
    rw [g2]
    dsimp only
    rw [hi']
    dsimp only
    rw [if_neg (show q ≠ m by omega), if_neg (show m - 1 ≠ m by omega)]
  spx := fun q c A τ A' τ' T m i o hTI ho hA hτ => by
    unfold slF at ho ⊢
    split at ho
    · cases ho
    split at ho
    · cases ho
    rename_i hm
    split at ho
    · cases ho
    split at ho
    · cases ho
    split at ho
    · cases ho
    cases ho
    have hm' : q + 2 ≤ m := ble_true hm
    rw [hA m (Nat.lt_succ_self _), hA q (by show q < m + 1; omega), hA (m - 1) (by show m - 1 < m + 1; omega)]
end
theorem pick2 (a b : Value) (l : List Value) : slicePick ⟨a :: b :: l⟩ none (some 2) none = ⟨[a, b]⟩ := by
  have hb : sliceBounds none (some 2) none (⟨a :: b :: l⟩ : Array Value).size = (0, 2, 1) := by
    have h : (⟨a :: b :: l⟩ : Array Value).size = l.length + 2 := rfl
    rw [h]
    unfold sliceBounds
    simp
    omega
  unfold slicePick
  rw [hb]
  have e : sliceRange 0 2 1 = [0, 1] := by decide
  show ((sliceRange 0 2 1).filterMap _).toArray = _
  rw [e]
  rfl
theorem pick9 (x0 x1 x2 x3 x4 x5 x6 x7 x8 : Value) (l : List Value) : slicePick ⟨x0 :: x1 :: x2 :: x3 :: x4 :: x5 :: x6 :: x7 :: x8 :: l⟩ (some 2) (some 9) none = ⟨[x2, x3, x4, x5, x6, x7, x8]⟩ := by
  have hb : sliceBounds (some 2) (some 9) none (⟨x0 :: x1 :: x2 :: x3 :: x4 :: x5 :: x6 :: x7 :: x8 :: l⟩ : Array Value).size = (2, 9, 1) := by
    have h : (⟨x0 :: x1 :: x2 :: x3 :: x4 :: x5 :: x6 :: x7 :: x8 :: l⟩ : Array Value).size = l.length + 9 := rfl
    rw [h]
    unfold sliceBounds
    simp
    omega
  unfold slicePick
  rw [hb]
  have e : sliceRange 2 9 1 = [2, 3, 4, 5, 6, 7, 8] := by decide
  show ((sliceRange 2 9 1).filterMap _).toArray = _
  rw [e]
  rfl
end Mine
end
section
open PySem PySem.W
set_option maxRecDepth 20000
namespace Mine
/-! the law: its facts and the form of its runs -/
noncomputable def kZ (x : Int) : Int := Int.fmod (Int.fdiv x 48) 3
noncomputable def wZ (x : Int) : Int := Int.fmod (Int.fdiv x 16) 3
noncomputable def uZ (x : Int) : Int := Int.fmod x 4
noncomputable def pZ (x : Int) : Int := Int.fmod (Int.fdiv x 4) 4
noncomputable def yZ (x : Int) : Int := Int.fmod x 6
noncomputable def kI (x : Int) : Nat := (kZ x).toNat
noncomputable def wI (x : Int) : Nat := (wZ x).toNat
noncomputable def uI (x : Int) : Nat := (uZ x).toNat
noncomputable def pI (x : Int) : Nat := (pZ x).toNat
noncomputable def yI (x : Int) : Nat := (yZ x).toNat
noncomputable def clsL (x : Int) (y0 y1 : Nat) : Nat := clsOf (wI x) (uI x) (pI x) (tkB y0 (uI x)) (tkB y1 (uI x))
noncomputable def resL (x : Int) (y0 y1 : Nat) : Str := resC (clsL x y0 y1) (kI x) (wI x) (uI x) (pI x)
noncomputable def xsL (x : Int) (y0 y1 : Nat) : List Value := xsC (clsL x y0 y1) (uI x)
noncomputable def vLS (x : Int) : Str := vS (wI x) (uI x) (pI x)
/-- told, its two lists where the patterns' facts left them -/
noncomputable def tF2 (rq : List Value) (y0 i0 y1 i1 : Nat) (S : Str) (xs : List Value) (j0 j1 j2 : Nat) : FactF := fun q c A τ T m i => match Nat.ble (i0 + 4) i.2 with
  | false => none
  | true => match Nat.ble (i1 + 4) i.2 with
    | false => none
    | true => tF rq (toksL (strsV (plN y0)) fun k => τ (2 * (i0 + 1 + k) + 1)) (toksL (strsV (plN y1)) fun k => τ (2 * (i1 + 1 + k) + 1)) S xs j0 j1 j2 q c A τ T m i
noncomputable def rqL (x : Int) : List Value := [.str (nmS (kI x)) 0, .str (wdS (wI x)) 0, .int (uZ x) 0, .int (pZ x) 0]
noncomputable def gA (x : Int) : FactF := sF (hdB giN) (fun a => [.ref a, .int (kZ x) 0]) lisV [.str (nmS 0) 0, .str (nmS 1) 0, .str (nmS 2) 0] (.str (nmS (kI x)) 0)
noncomputable def gB (x : Int) : FactF := sF (hdB giN) (fun a => [.ref a, .int (wZ x) 0]) lisV [.str (wdS 0) 0, .str (wdS 1) 0, .str (wdS 2) 0] (.str (wdS (wI x)) 0)
noncomputable def gV (x : Int) : FactF := vF (hdP 338) [.str (wdS (wI x)) 0, .int (uZ x) 0, .int (pZ x) 0] (.str (vLS x) 0)
noncomputable def gP (x : Int) (y0 y1 : Nat) : FactF := pF 343 [.str (nmS (kI x)) 0, .str (vLS x) 0, .str (trP y0) 0, .str (trP y1) 0] (resL x y0 y1) (xsL x y0 y1)
noncomputable def gT (x : Int) (y0 y1 j0 j1 j2 : Nat) : FactF := tF2 (rqL x) y0 0 y1 5 (resL x y0 y1) (xsL x y0 y1) j0 j1 j2
noncomputable def gN (x : Int) (y0 y1 : Nat) : FactF := neF (resL x y0 y1) (xsL x y0 y1)
noncomputable def rqF (y0 y1 j1 j2 : Nat) : Nat → List Int → List FactF
  | _, [] => []
  | j0, x :: l => gA x :: gB x :: gV x :: gP x y0 y1 :: gT x y0 y1 j0 j1 j2 :: gN x y0 y1 :: rqF y0 y1 j1 j2 (j0 + 3) l
noncomputable def ask0 (xs : List Int) : Int := match xs with
  | [] => 3
  | x :: _ => x
noncomputable def ask1 (xs : List Int) : Int := match xs with
  | _ :: y :: _ => y
  | _ => 4
noncomputable def tail5 : List Int := [13, 38, 5, 79, 96]
noncomputable def reqs (xs : List Int) : List Int := match xs with
  | _ :: _ :: a :: b :: c :: d :: e :: f :: g :: _ => [a, b, c, d, e, f, g, 13, 38, 5, 79, 96]
  | [_, _, a, b, c, d, e, f] => [a, b, c, d, e, f, 13, 38, 5, 79, 96]
  | [_, _, a, b, c, d, e] => [a, b, c, d, e, 13, 38, 5, 79, 96]
  | [_, _, a, b, c, d] => [a, b, c, d, 13, 38, 5, 79, 96]
  | [_, _, a, b, c] => [a, b, c, 13, 38, 5, 79, 96]
  | [_, _, a, b] => [a, b, 13, 38, 5, 79, 96]
  | [_, _, a] => [a, 13, 38, 5, 79, 96]
  | _ => tail5
noncomputable def sl2 (src : List Value) : FactF := match src with
  | a :: b :: _ => slF src none (some 2) [a, b]
  | _ => noF
noncomputable def sl9 (src : List Value) : FactF := match src with
  | _ :: _ :: a :: b :: c :: d :: e :: f :: g :: _ => slF src (some 2) (some 9) [a, b, c, d, e, f, g]
  | _ => noF
noncomputable def lawF (xs : List Int) (src : List Value) (j0 j1 j2 : Nat) : List FactF :=
  opF fdN Int.fdiv :: opF mdN Int.fmod :: ptF (yI (ask0 xs)) :: ptF (yI (ask1 xs)) :: pgF (yZ (ask0 xs)) (yI (ask0 xs)) :: pgF (yZ (ask1 xs)) (yI (ask1 xs)) :: sl2 src :: sl9 src ::
    rqF (yI (ask0 xs)) (yI (ask1 xs)) j1 j2 j0 (reqs xs)
noncomputable abbrev lawCC (kt : Params → X.KT) (xs : List Int) (src : List Value) (j0 j1 j2 : Nat) (P : Params) (b : Bool × Bool) : Cfg := CC kt (spOf (lawF xs src j0 j1 j2)) P b
/-- a run of the law on a script -/
noncomputable def lawL (kt : Params → X.KT) (xs : List Int) (j0 j1 j2 fu nc N : Nat) : Prop := ∀ (P : Params) (b : Bool × Bool) (A τ θ : Nat → Nat) (ep : Nat),
  vw (fun o => (vRes o, o.T.get 0)) (E (lawCC kt xs (toksL (intsV xs) θ) j0 j1 j2 P b) (up A) τ fu [] (st0 (lawCC kt xs (toksL (intsV xs) θ) j0 j1 j2 P b) (.call (.ref 358) ⟨[.ref (up A 0)], []⟩)) (one (lstO (toksL (intsV xs) θ) ep)) 1 (0, 0) (esc (unp 128 nc N)) []) =
    wv (some (.bool true), some (lstO (toksL (intsV xs) θ) ep)) (E (lawCC kt xs (toksL (intsV xs) θ) j0 j1 j2 P b) (up A) τ fu [] (st0 (lawCC kt xs (toksL (intsV xs) θ) j0 j1 j2 P b) (.call (.ref 358) ⟨[.ref (up A 0)], []⟩)) (one (lstO (toksL (intsV xs) θ) ep)) 1 (0, 0) (esc (unp 128 nc N)) [])
end Mine
end
section
namespace Mine
/-! certificates, printed by a program of ours (Gen15, mklw.py) -/
noncomputable def lw0 : Nat × Nat := (1342, 368910865228889525165880219903141113403689232445369538159328762340057409543782182628784138274154697317336875086194404341786106305250612850395567736982191099538287592812376208508960829899668163700762945764753345719634210660705077727274811267757472778717815640702755948718570889149734355297914207645044146432620401511862278684298398518355769873245184114873460350660691497927731768935664447007464619716703197013841144686181042750282228208597048036196700307838245182497706044265294874806036458861155926639371905543251616461859254900656467674751711300658162272635611848191418885671311118200475352788720028841744754414738951138823985209312726346410717191626695555523591545619655188479649192759310995671636165407553008832791019204594797179907811678028788148660639576913263263071434922692111646827181082670337679317618448207819823758230882497456199122568967370214747161973429880532522729940216714128731767743011105688048863712388513257190063987983794237173665631743900215054783901511759032437299106414228749521679674399246821512047006524770026327540304378131132021387111495456797128779145293107721486360679143747388983094466512921917946862342012518386963617138121581829984758389720386340902807362796553769794296851020142756482458312502609166200463827437449397886642716788405241895481971292435388350947923065090645561538525117834869705740497970370081638602181359302362967647833338191358896444229985430941768489965633655689154829715775257236175902007606980791425279170292601015370979528964386198249298161500996289335777094548279904521263717186196977014472220683266582673733802817984355924730680547496870964039646499869901562820845263656576648206665558521886379575798038980005074182491943725958288535687289728026205847437734754104420257266322534446626557904213199433399594970789134815591777430106983504747302302253162949574969811982532679562520564939628539481628406101997738167823716762764553607807928184561265808417741973192677744277768011392058574589242125157759284253023846980016865685806912078753009567389660133015568500164571637262957955788750407687127548659547777456188201116870045990663559289592810749052599635467197909820378559463882036960965946314544544752562481195233290571277073517628322794808985739121444972654036699107350760953097080153928115701609367678612049707519360607244357055115180695925199490230362887902481242934855564968456426937503357459772158632250311752551024480030253545066308088428775596690127060776497064371080859134305986835008972814727262755998876220587857913346564210083874734267284807602975675813605600340989519288068110053342962867848431801645530988860520821377658870410150418864735770889785153458728973852114724475582403318769434083252489562848668090028554718066196123164826796770042564512463855673988560785456965777973529176003257644725878336389332677548507514857100917283544631679380601746042805846016)
noncomputable def lw3 : Nat × Nat := (1562, 15469024493329545632125985621648862268331590124007280108679965808749517281882239500267237889080324735960027441348410681539220769148143721891886531246506512253656440128043326563509959479184579254995707127063765552517867369454462191682688034709174289214445894501233161577181700956043009118351348889590843333960257268751334103347369122044873632423229670385686126956406888051965788823304078045413701338378226620580175973706299431623582060323698924709281201380307807783154495746269185844989277669638491749183411440025828714380392353591342534958417378472768352796062058898026798825877153290324589778236012093487937659586896748225856242398155924492878851043165794351503441884789729020100150870537426946612713168233808899973367065191322215449840672822403970098209837910080878653780744649198263625270743364451874634967958584128971336929751469489254376765641209758015171030498388275541126697953545490281551447912485474529519592494014549861304134024698930078630587029559829293118324961994676913703158611647342816545933681519168275568191622716485427553369013322409416923851673318864133927125605699184838701565489008823971597482973950678444194406167673005225160328682188254454945474360159610618066118300983926021162372230811064921048937517332910946440700673549138916256308032215772695766498003494307815338822023334486543367906668604639798664664934797202946426746612590844556813041415314584568618764270197371738019081192451073864219284426476370604449302574752887558179978504173571866409708806678980400117340923783704030600759817072440022509885766270539334810703382264305325278537948057925299926001864262196156084277252274117242743314901703577492933663324221249325005903954111968469545469634092237260420807206915265883054861273511846029075454934905761307366479781030661122813228253588131136933619379353149290310007036200992711436825055064133351707629555756541010666029553837704434467673180037213534635643724900518291443881959752745343818351056074034103595575199413860193123365275951384902793020936818611516464126591345296983992706106105171776318007963230569996218231481540189525082177747183784993927739904596312558851276471308967209311453670720899333529378016873161316596589610747420503038810868421827191840670559498944118509909415968848666661736667082925661983018352161948844319339909677335127964847727524600002878894677967004893435056443816799367503971594860822156207357747481343823839122452835290240330849923157285209786203054097315409831858516821579392348264640019241807010240513777533554961084546014059476876707132319957373824229869320906867890765427050869014956834670927882409564290030404936727658922566447388212831465386308360686920825728821124277809961212823983521582783809200756564417858299367393616410911897519302928526964050649796264737615109204223248901072201174404786109079764928363555746187940448652658845353362512491613081568038671940535455531212885277808655502077889628272154795970566664589415194055146634054226986154464970861434397199266867604958120318108387265768460513271734203319043673068354213540429676516229961090468128481456440160941012296885637464116602017036568871810912025142315755168625417113435826730308408172594118467967279223997757869608144809508588445542003093861228414616424555313034861685191804128672494163195210626121872008049454074134730734535449211389634382287972892672)
noncomputable def lw4 : Nat × Nat := (1782, 644459768751713029396268591758270841258867648261609965807399881561271771462552517230695504864562992045492567169238378714374137871560124628038897152828936154944582325865697851994757260118153642428432758440267393368660611157919768331690402595067081104060895691022681833771012134514084527063325289788074757270845823254277521626695515629379517057238557029914691883174212242318572235749885624421111017728601994670836393521047414492793287177906407377439734426144118175488098127415234686397819640023971987292365087805060411916732515026623573350830356861052758216972092917025253177849370831327770853648674036519719926594507813151503735134719898337686220154984342341220213481094749104252759791292106992444217030740637672121676803630678592052263585554791113341993627935526275688580970035486838118262699649268287663861763664632677359561077258922960310605425899507100497766163326295939704815407301941420197595410244680529010914006315146395857512534940719193017413749704624970647394865521835656551434386322780022663321893045103056076771578660589207972600136021542108192750506272118715082793200168782187807758355167878484514372384474359405505637692086928475746024596436335884672475163115178147566246853806713667369993679495465342735554371537752286494383568948753023182354739450585904063803538732546965971101723772655774211532746284932580518445809248809769913089994605209571637030556786453474959156192993235280425833724931075315026833985847856533190753616457437587170545208654965426626893985721753430616009577380062111807590682339277314013871670154393063704261131198474184169030422272004287108320158898249709262428379675267208434949923057994149139234396067077304542219572080460100803433589017991963612710265557439703568034386113454115306467574067519553755464807590633312778661150632235348642020217566562889781838967346851387315373956679512061716949684095589241029363942057931223088402077721118644563709591343675901516930445202600356071791238959714169603011596648566120768926126354526618029180576488269519702727684341858269429203853271781541768538878794654072062716523905285960521785183680169757282159134750636794365971808491857534882446322602934020842497566202084641955273979748862913908520459403653126831616180610493889261340875004872108597110357625455272973017492286474237572522396284178919678532987715989683335415383843812549023342487443350354923453035723677697834406431206801414641270468899382709473036101272515250840710624589105687899008387201473357759560422693338250498764559775277869293173785571456003400904243996323713974777688282648216738473518713768010892106840303276714456746741359484374749221831295232342283794232001964837517788351541570507004106553257389879836129553661790873666521137143599474533995171954543483512052023929269440917254069714335891069020080904607426690708051867792678852590537782108668543299471910866433851087655936636827169138449210812815223531722932670049041670773758896451494295816539847980757961233170635878837886624555305494809693285053922019911442749747095958106084555949114602275213657648875587576410354299950480173904016456407861081387297319789132214244698510518019817002171271948247302870305984998947989947189082530329245123971150292931741395368772050046188546343654791911036682014798323375937845855810256562537718546203234257491362306205784069233283495489849584022121484884053129986061958413023276318208666194683063758180619529770241989949107495696618312843491576827413219628412893375468763353942974120003829412032856045867727156030243488986419585297150563821489718043599397122655634729819943259143602695257562366425430457101941773964257054082658234172872742675210294242459695397048172758446082405064352265217297542600405491987635105676621057697312769395294157603593741646056995817601523717184745880360908594908137592715151966208)
noncomputable def lw5 : Nat × Nat := (2002, 26700732472356237548218699621145894813933416586432795891459502667351915293012692616044816697507014220834760731608225313945122988993473378615911629702154869732466012609013551029242269010204331681210576181453206235049064914684094620054033612168129313061203629273901631109388452579725572896966318336144638833020220630849020268718160134231149810120992594494515432724818699860553794947318638887430585402793036521702299294601895024117916453252125456370170210070850994654203171741897802231723480246564786072977673724648437874493460024133900742528971685490290576673011180562956004685714525964624322049904044553384602056760176006391645085264967038962478859207598327116211258013569853575290262520356340000534329279338701851005733895515732575692900328485093239740729733865950218536766403606264907855682795047813766808769154224639414129049377733414631664368310404599853805162850362800748121851101087373610572465759407883072000675037626651621536663462837460398834588714663052795373858628057812753790585713029046682269128516813403558543295930577032474495125698915403767772803288313661217602112076181518589570719335634172806071282571078328945575987092377998493364274565196560429158232975173782483029731170192091185912961436161163099155669086845976078953396722602647530895096009944647952340747337859854629245583281780239012686669182585324202176941879825152446783624499191898072124381857817253864853621017528419966574426960914331670036145916386224947200371468978131041961437207390445269255323962130908416567693838874924304694468407048781818622814673985301573701530476424712208113318183941570973729013717986934381540194265982260996367371799864529513139860702746054299736735256478017826657077325723017693341627972263727045094616910319622449189528808515188450987806132970396310188136382165658319112149607148288836575899668470825115774900813591858254468950055441708439470786502477086518230203401611948415440172876699569007953679530358506546809807114359643661776150130239080497762193877260842157156075159687511448628916792824511536816081897512041725123256172386862537261871407756030948808425597706942667917023627248488485601281076661088902278365537787766394401374752925470332223224175676326810961273491132163802999080569777386373444407141838668108579794416629519810566968889512191982320792433521125302657143052696811919890918357019280757373674138024373224006935456258295026634646888450246505968610338770941781559729473223062677086627306518672214717373283756170285736670281145768396968205190590955203221026013624352807769389626804576673079584169519774214511660626455606087859711819193295585592851342277706171774862601305213184039984357936518842420309116869774651245041192962951317368200527611082036986161954627847783238942614377860343615245438006700953086147068496011550436645475825943203177844503101634780388912473828324568394813112955222617034151712742302362425679887478549615424757807203133048860921056343361930998444330458646658843184910771183425278660898939930145690929696483639630874467561129608477758773307027401128870481545246167051922214471584884240748538275071183230753979014869072637270644093485297501350473887059663939911335641247396112429087550513156594224639991615867275752926344188652787362832205505463892973745007531661962521900314628724607599639763617171734629833241338070272688518731475957478303332830112985154953216653175740282443157221111222031174698442749956188508996046056028932452038836619525443484476870112081236176711019654679292694440357034166622153908515082382034135027200906735303089579857288060350887953913350467631919440475245692907689584498789244744122380737789341258870767607053418634451527940285659595511776316096433858235817840305145424810667802752136762608323320776742177312036486980548783857222643459303600528657884441874710666760120491920006686505977266254180590812146633341895142310008668022769283127982370590668724312504268076281639547389477984516982084076153427173109999433600017169568552284719307780020983228386424074173163139149461042003960844224952178861254246730149503778870152701303533159666265866770009845614984749250132700620692637382328202682635114167370276103679180600627150258095692522352356220004178916847905145738207621287997753859383217198411058137625121523800742142376963022034992922624)
noncomputable def lw6 : Nat × Nat := (2222, 1100948755055893614373479309955979507327629937493400688348918150970401220993036049089766856121108090763895266471314369386241091189586597650033610420220611234637297844801200599005813864721557142127176499390808241741413843407414384856115070349077670042307930223208037317194518532532252420877845174838549750903839047559900405515668359971444317464309198758887107117137541877459399398538016711328198616143904391844622759105932854545533134688056704666754047236517675786674447227387408071281661745275367936701510438718795209276569993409400632902917556146798470500332142366277873885670381158881036798028095346594955872429220714279473210246765508155796862644530020395523739642180498661756360753936570477387465943763926654771692519332717888377687502270980053298549433700390254325709272111854337172623407071487791548196284429383823238161709681013129450868622976674441394789830273482460764844021422413052199333184275492427825165587154404642655312344455027188662625852581155656700760003423690739619703617607883517254443514779889365976638647000522872943272897307971162718794897552737767671755965331377315847536575295718795857238211411765684370212297615919390133577549373093948676028284829467509751204560635053273576287706440762138922407043095585082050863103638270035576807792233608408706915938996425419141193745498805211141915432278941181353955474682833990237489326525206838907249757882929216299638581915104960937643455773451775160363883266285754072596362136445726077689881512232152461072734060674960349600179358488604839023183760431937886281227445318144395044362946003923680281995591781278814570534390179137982945349267805397613810647302679679129144459335214862543370230673481031643948021846156578275891952031678716077556075293482214580722143706641055289525326304010922075990880143552349406104104499346630392166292414045205779971775575969729648806589627172162856666681413888230864429067537265046031826872062091752062273258012787837076056725817908015069397827860809798765163692386364219824742732519905944406894988020535894447920201174797872497350500646079463183330716869238978444427770642363815037108628180672192068409266923505764430734466640701387791537244896041672281044981437723379687784447778989210321402367677256281797176371188426393815770425447607699233211222125198066818432847655141614692779720231627471331289444789519104306630190346637584649082776008885759301030962595413220152322962498077833594758469536453460503661021063763914534291379416151302766933773600198194091140392976303329529277495993874919116604540721814818562985942162303120407580069888449632814087645230957168669336112876005129473075893886296990353624542960924204068794824835983376875753378520802960478552739369538646781860649180748710961321496062951014142019179364078962471788890878785094715150898861615936510855470534245750673005871343611927877323189079039473915595179075517835170971052654021394240214684894769293090841914811461981398432234588785832928347217684806361193979877415950335416768817192576708273603461379775897669620744871250589047708637514979523103777220451241837133580763545385269015123001269579225542346114311825726886579590145238362739835438066978820451366110676866049546470565629308283066357111528886959417238899583806326413469697892983909198099520893952745001840493320491323268598199304870834360894805940791056558330663749400415373953340851800774512272799512760819475257655198830783811626115827702731087634643893224625563312670618135706538343015996013818046322624920269522618183393214157341403007196803242102337268207470990375497885662378683802178768396293896546578727931990075693232606211209827205280461096777180125886363115447488178414059897322106386181193948835276161369984732051682996414506552153694080861683676709342375769613160809564205322624865307262913413045253629062896661653150859237243700384269344350443517135558139260598074149672320934852427514922734202375992169529827370304284674049116524969907664059794212798777207525164212077305784401555713898425838206568353717538550091429846432163425419768684890256194801994845708013154247368769702738104516380588600401465652455338371185993314917655939834828174310499836374869092867490150888297148671186248978213249021201797019659038718163615298406886109940984914843220741742414030997548044647592572265802292976489477876159649740699813338793042231498192219079310995351578976806705593003723995731952843225524259824111952899383997685688077104028938438535544570338250856278730397416313110356230726598791726711841656457399398170872528210949776128883376386047369253299609156279032170848999806772183832021478475933975503651388759487425205313042989975885235432058286247281657320536400107087165921711196406981992244400288339378266445728351022411719746738456657920)
noncomputable def lw7 : Nat × Nat := (2442, 45205266627107181421958730069403833314303301957279343978465451316375960413635586614308364657941541351953264997062726734602305464613133694481802786555175025484889085019272568390035558435128247722043945346596496545695526230570985336618855261003220238544664681353107620388733191867040334468691989142319280121823070217688754669995076776453039467916266184031621407554532524992131844131316429833566918963503417720303705251059555122221429531048441734608545579438733863075266630433711647666754878861780949829209211239846868828001175655603935003934677792072508489447442844474254038279171045968011842499343432324395540400591255547841834701062816560884559306884058585363564070815973668071884376789095122002532542410229417209993367264125386712000355297331586283760833812818144378460145444392163720034680849079952314920213364268378870438444277534103655049616416006037964884306395154729004367295799176173425234912429303768996837728776941603749844426319577376645153970654202723240757769174078060696318839198549157623890962062918259917658009816537364456005344011900553594244452449262980315413133468432222224543547045002648179465093034503980481409108386038584825097009117065929364549498522003370177963438011195590602914938116030648640514772506243448591637655523368096690716043707125443812347046214877572487671254770807109006731394354890867217257161268760149940895359276098905192496776007235449556558635629332849156859588660488761814238655269888158932200994096267311103070701669709075186530037305662802890895951946808026404058597006104657362043709628370322990838091706478601454425277919160585435906038088833527958107095134352056326841798060943258565083895779055425014849081920806464983117281880107210793200954798657749575598808704640359901685275098631340487011110881540046401159684242329572024799750687792721980947575683235981860028889166606920326673431237511635607408794689628359619467621724321421216560289001003670932396407323818527614896782401574595565204012689764932250844949402081346944841319019929667592098788029783835306566042433735728612483618238577788272070570738430761222675412358641396792798001585349492769173846779466905650067622073860275009639925188571659134047669943631679717404028077456019377215301254701654725926797517263468861288925109214073278733102777499442382855713093410554385050175544053174235432995962957858469206634723524497185997603810480371817820527983649777286892430593343489297283148818388506089251899729709527827226422589252563214067456381591296168774338546540885919905093419154835267573015948349347157928558206183484085904302518482731302360329716861176757891682175050131065953269301146494953482118994361254468502762473447814957852033701954996961380900518616039697903756557154591084480427805944134364459697915578907208807411565424556996441287351390850511424499440632435815692706902462637717074531210394312630041586814000273787407973033420204141074422571307667883583438692646951794332911052403165315839812173098111855143524406163110106228001329182921145466999338276909724538402799064874361987302294340021696584412536886817761190929852881369259132687193109520954734743435750741622114012686109108522104809541111311750823286816698362431225028326802321907431922752981311457146022527568338222245214529770023767749795317586435378244285166133591208519243467008050610662055038809630914970442221744630036827215526814860169724097660074083579021869996210311393669801050931139260706869820957439734029077817419536574231435526481517294267842658104280023521512592797421044023998781300547029782016490973019852534582785552407220587960787497713238417625472874025595678715755554043699065007609218425863444428527363127434723882512688476625994181087359731896448769264854895978901056157665794282600901610161152904675399885005012558476160994525503734690769775583131494174674222897892011487727839023462762364034633773898190528761142990703156647923058737346745102864370750790194197873828826337166973764489517243816518979185755989930244429390224159014127148026273116643233225187293481116087873190478860638286304554461553373462009540737178868323447890161781712597511676285280597042832251904846439667254961134101952071049511107803045459118527724168554852673097742451652424703976873703468168260318377869147963283578575644353255063383758025487685412469542981104888991961564576765485520857249437714648911057175170715270480397319388878609464114948617981699805394363163445070611500966297273943693344341070666901631157046365818976667549005302305707632177421543910778164015571686247608983326357785749104612200057384373671380586975432559815531107792712038733830121117442605777102289170214772770234046061719411790951223397641383338231026108711249178663585761865166876827312680722182805588476585428194594349159564590370861168542996116231729850824619478478004435696292934529859007215882333640943675197227085043966666365150164420877033871646700290785182785976463866567926460125501201894206649332971663040993477281079389718668364954107933736642065574295916859133663123738559644671754247832184729962243053734242558815139873929823046809581413939690853459651432045827295292444599718583977222720093133128667351575629526480870003495989543698086682013260497056393006141669615108096)
noncomputable def lw8 : Nat × Nat := (2662, 1849286016315282681190618148195902872039712955049156946594313718800046808224080375216045476362845938874066650154897952549147605393118647061196041480218059955341208581709293750621882596511908377503362794395149357086910813651965508704566478784109496582882385215330508431469628456345314301134501944081315762966036777371247224401053574213725245231263509049522411066862238548445364477310610102946309616364760269473432140577142995081471273746805394291201090750497044552495983754910577657277034537738999738020386468634986074242140032329400792686743011598265890145746160500199484673727883538668376502284515495280757868295046978074569678008536008720713404314392654937175134268807298654080470056470234546065724404035490953651013246900332678107097426186145147641795683231631309093364884785833524154011370838619846202258337673305844254841443446855150909263751686467601732933070261332801881762108601787331895266156875012872991322621776871371159479027279428930077690149938345711952976984841320466124257742277575323172213254201164272651974559771972740817108275567317636462324367818188074823664286736916179998415892193200404236939980206085071377928697494704992743648672085091610534188528955275650084593062945914479406729597861191527123144080280847420367274449371091337737524031966301372164258844008728179207484009899117432089513333737814087254902170097167629018221860508827008955315053689856063525462892123717710292121621702232786662807888761338719656003720309721573199744290875708989417468309891300575738187689347903058472515905026544243464226688505495665445639668101366607510559885225853047834099944623355763645423216585088119005409644253218154729221867647050521313283594480518545553858789861083021310388768657766879516035708479033408024193226714800523769089473259063907537292053209510752368779390876339251398348845457797259784057169253489811199431629249610096873791801711392028740237827518591172616132478959543593753398009810341704206742060683616946427287368217348022136330737198327107275779510678592144998962756282328155664510535459502674051995431647081932160283229845668068067485417463492321748347440774484675765804157796543891651360158667249492932960749246846672451106814462550555104532364471337293230401491237637499997959995246694532830736334446122916213720959193586484857683631305361321862546746992919908488657991185032115714282578791581959648723781043911414987623278779597325342744392684574587533910100612875728976177315791710539195305117579493524473429437860467764765113919571715864179980372537372459441640864643743943995163180170615410922465083274152297478336192074244890923286623954514578931000684168075599402713653754546679524784730510219334941231101640541839794873770798711822863890176322941645580912975394111784625578556029513871542077795859523193949808576171710921929105443307293620741452273818117068596377008569209952722280841915018330375823894656276386482633582152556264722206829520071510929898323716329611287560706949415269263056458280878568857321286586323263137316680808226513466531252098236504857135904312786075133905664555405101327248303824980164821049744296173955922685525395681652460172184377913441417424699848407890149019717006305926635255971507597260382081907218130503564553840703682867800378664497624755864281193872096714394440005543443826938184474510448169887527218959738540018877934168763812890353680543761797509739910962459370004446700116259608380803794561736578165716253891663718441490648108901500447585058701459265667921071084519108470188535602867253397733817627392844554224662055779097993212952315418129606830027834842586407503292558680762721454244551454097394819848991891813602300795937585059928623543493200884157944160633597406523653055333021872803976791228136159067721500294289898944503832863574522998043533644373049452189317041819311725824251187403097341960006735485196266295560553867197946935809746870026189175322056504579648459460301940727683954464365625956215325541684814592678688390584314885084877831255749326393166585375542322322065360111286725785977468740116894672932691891472649121669563861838434776158372518271438966432511337807411086997113039624032225339758023107974705154054320490852668643122251239637883714019862663709835357301966409404110578242672739139167134068498013559701600852785511918696776094710480807233193956043723625784300785111126054380001441029732544744259822105785448333664350276067425662953888756611330937002263310349746632675313849347480588547340958802155103755552460940830755789786382029137621815777161418632534651485020605852196008267764735618757406891940573790949182861211460491783927976344949259901468081407893861957422844936238855618163370102630402142443603463714709290118199338411460269963465850754881409822644610356051006096917268849399960695661640364747041881129854660635122030671000411307765645107912008120811678229776801375910474500047676318226692283418743894276254766013482397404497763771311627174066071095757437606729372154545700136440020176101734540258365371981105631229485680542659760736345133562739597104110344221019808980530464404479081499089546318445923672526300339230413447401387011421661407984956795831031722772910870779827261872028551768104072635503574219705339198736736119962915624030569705089195392974422385636217761447623380126180466128191332037782154227161292988501439714431160658181840487190578966889125586496854236594883889439735911414796153361990282094843148492613915633187297430528323455329028481692118284491092509275823813952760417758877098673129706719866554262050524729601323300617903148633601664012547528694408669843622336229331398928272638037287279207274937442139488311232680179006794024882587957451347552629009369887603251249152)
noncomputable def lw9 : Nat × Nat := (2875, 1049461028946503984057922893528594456727867185983399225552233683392865704424565104100647475990997719924175438054156453596576165417512039548734415879019731113768849794614267034571124811695750403518317133739111923409819425586210357753190914293921336648014387200469763013648196721471774554608591039308786462209704246242535322620043480056880052854839344425303055144153403816977876780119772882699254044317571922073409650565757735678507394726612466117768391179080074410240224326406984457386449836693508267026065432496880468280842049780624957301106970163645000338517607070065842398100144588540347297772570764137694843978027588308772604412700558372054543026121239162169469611007742489624608433785949120000296619823143032497712366881649250101723777485187508730164798662664668619678680148330550400921597202426892475038386689331135724858005552125946662356304949233892310428373215195822916515175020817511294413396947124385169826953379668201436974941881949499723059097687169524739889168495436416138481992570163091295493191176070582250344911089809194316379638481509131613672847325452218626496165045481699303513455936253514701329864401693551796339453892540680078421244224957183248272430341443617930551727061486476247741055675974619560059511876770900888375934741725185473723485598266939758818892359979038493233317875534669297554867922757845379831292114971976410042728436107385109946293026929231220938303576399089058962871896799417275499277871712703755730155040046576274618293140164868247481430151779799579559317755201393071639494317223586449084381387966070190678552949904948811228229668342800153375191396662905022185534038784671742937830638774786376679194539889927424551835717395713776752453112149738619986009889437081993979820018444396128081193881259829106902796213586257301501124962337835658024801782184880374751989474813096655406607875672363201976799274282146988753657110953266307558212177949563030460978452511756440150775448970647687687599090074336254527220355339161369266543388664975455682640476700925174703961995407133912392452516648378140768603328917439143316650800333806843956860093891701383162380453432167786164710891819637111902353243297687423356296456589375493838317576556009138173061935396514483722482300557929496990704856201065003683480925876380482323475173674735983859382768367464847938163736109604575824342940949728475055626475944544405483278907426121354817035480455218719623728099237406154688588702095739666918193071370939566699697740934256396161698944751928165409373740662404916794923952179547481175698451215802301798652498798086580748933702347488325642442310238087837892468031131122622535198199826087067243010389291759525640415003857821205636328106785985199761762366062600226823643608705761708239359019476085919612765649173763621245550841353683323767725893990414980591887069301906754277226564165195321263402679461304571440357603254678855782676594734778200164602565395099479006479179822630875547001536698677399293007193374434615837686917264616677134801444178265054207175130416878467717417109743385751511244603920901314824543033096420093002592768108525690640405631170857397198660569570285917001610989028721804417435536513399549079835120668612376740901668086341903767361005041637547883888770390269499708587097461223668809787981650563544808131277456742057965766719542199550822462922709992649460855555674220223140413131404905894627167293697268949751431614867763853096292918627039612180856172464321685081856591579967899881838355764124660525672447444083263848549384302279545755625553920865130528964088598972119600306213159132809877060157889060938342620649934679227262466258700583698457942867798654559880545158356790858792405629467260123379500550746215766455396637036625055132216650066119168587565598359079574990084644818706433088072411483113066334993102861863344868078977117679606080309493989936987631203932396685297084393845400236875785157869613375988046418306361524963538954829343901274845323033422481865252674392555544245889656381511901820146906139795812785989419155755201864568808385029684386229111254621399421412363795846990772559825453339515976158609627752606853630882171681693161909505329008179267447017399625285754762027673354004832867237924954652927865624039009087385835768627958590800308682873041909377284929210861497974171822122456257676702340432423452057823924538595798486024770713946688918314050763817950968644106819004883656381835577732160217951694172070592432787042972493817858257879652805713195688045322607442950367361709510302172601225624478944980607161832322102216191022946830680242446493596646476219454816057277878211065700002023516322839532510996298274834241691457205129529452571350601267107393961039623335344541057478979413958582146838677612567783545836711391350486630183885124174469962819391802811354981647641054754098149962285948316531343561533894885599782510706684663978898676236852213939465106744609476702506353976463913248561727567668182892809454217009101237569871137820115741241050107756708493930212798770091978880613007980444776973165030297080716331187895012316802795345065045294593471526428695448783574160077940554750538060692587970071205197091537393493487676910846128625023671752137312662027273260004114230392401853029497384559464544823085987702295338016260760716763185742132845717245040429887792248021621593427546367556109229596944157796444761814862256930051379197238725055578286995334821798513866473027301330372387203633797754590158374152743964406632356542941144197689953135913406865277992015977627808161903936489243965859341229492659157973348572276809467153625343201911155910181144674483782175719136399840958536019680612663530155752218353164573379628923367735767054920267724760798001005335834141408946015151110633646354791823511135933527615745044591279347780689176150910386630871240767378690109123455951789111500083290232930992390720253683854761899774481664625749141768711832135144055249818723240843365478714550890495545227620339064861083126407375699157189451633113617425642326027503459454144138226430749814715985625818907810082598364964740708437244890146844827775913655376003804024942000050148202905322012830655564350526357504)
end Mine
end
section
open PySem PySem.W
set_option maxRecDepth 20000
namespace Mine
/-! the law's facts hold -/
theorem fmod_nat (x : Int) {n : Nat} (hn : 0 < n) : Int.fmod x n = Int.ofNat (Int.fmod x n).toNat ∧ (Int.fmod x n).toNat < n := by
  have h1 : 0 ≤ Int.fmod x n := Int.fmod_nonneg_of_pos x (by omega)
  have h2 : Int.fmod x n < n := Int.fmod_lt_of_pos x (by omega)
  constructor
  · show _ = ((Int.fmod x n).toNat : Int)
    omega
  · omega
theorem kI_is (x : Int) : kZ x = Int.ofNat (kI x) ∧ kI x < 3 := fmod_nat (Int.fdiv x 48) (n := 3) (by omega)
theorem wI_is (x : Int) : wZ x = Int.ofNat (wI x) ∧ wI x < 3 := fmod_nat (Int.fdiv x 16) (n := 3) (by omega)
theorem uI_is (x : Int) : uZ x = Int.ofNat (uI x) ∧ uI x < 4 := fmod_nat x (n := 4) (by omega)
theorem pI_is (x : Int) : pZ x = Int.ofNat (pI x) ∧ pI x < 4 := fmod_nat (Int.fdiv x 4) (n := 4) (by omega)
theorem yI_is (x : Int) : yZ x = Int.ofNat (yI x) ∧ yI x < 6 := fmod_nat x (n := 6) (by omega)
theorem tk_any : ∀ y, y < 6 → ∀ u, u < 4 → (plN y).any (seqEq (usS u)) = tkB y u := by
  have : ∀ (y : Fin 6) (u : Fin 4), (plN y.1).any (seqEq (usS u.1)) = tkB y.1 u.1 := by decide +kernel
  exact fun y hy u hu => this ⟨y, hy⟩ ⟨u, hu⟩
theorem xsC_len (cls u : Nat) : (xsC cls u).length ≤ 2 := by
  unfold xsC
  split
  · exact Nat.le_refl 2
  · exact Nat.zero_le 2
noncomputable def nsC (cls u : Nat) : List Str := match cls with
  | 4 => [usS u, usS u]
  | _ => []
theorem xsC_ns (cls u : Nat) : xsC cls u = strsV (nsC cls u) := by
  match cls with
  | 0 => rfl
  | 1 => rfl
  | 2 => rfl
  | 3 => rfl
  | 4 => rfl
  | _ + 5 => rfl
theorem six4 {P : Nat → Nat → Prop} (a0 : P 0 0) (a1 : P 0 1) (a2 : P 0 2) (a3 : P 0 3) (b0 : P 1 0) (b1 : P 1 1) (b2 : P 1 2) (b3 : P 1 3) (c0 : P 2 0) (c1 : P 2 1) (c2 : P 2 2) (c3 : P 2 3) (d0 : P 3 0) (d1 : P 3 1) (d2 : P 3 2) (d3 : P 3 3)
    (e0 : P 4 0) (e1 : P 4 1) (e2 : P 4 2) (e3 : P 4 3) (f0 : P 5 0) (f1 : P 5 1) (f2 : P 5 2) (f3 : P 5 3) : ∀ n u, n < 6 → u < 4 → P n u :=
  fun n u hn hu => six (P := fun n => P n u) (four (P := fun p => P 0 p) a0 a1 a2 a3 u hu) (four (P := fun p => P 1 p) b0 b1 b2 b3 u hu) (four (P := fun p => P 2 p) c0 c1 c2 c3 u hu) (four (P := fun p => P 3 p) d0 d1 d2 d3 u hu) (four (P := fun p => P 4 p) e0 e1 e2 e3 u hu) (four (P := fun p => P 5 p) f0 f1 f2 f3 u hu) n hn
/-- the leaves of the law's own code -/
structure LvE (kt : Params → X.KT) : Prop where
  pt : ptL kt 80 4 0
  g3 : ∀ n, n < 3 → giL kt 3 n 40 1 1
  g6 : ∀ n, n < 6 → giL kt 6 n 40 1 1
  l0 : lawL kt [] 42 15 24 4200 lw0.1 lw0.2
  l1 : ∀ x0, lawL kt [x0] 42 15 24 4200 lw0.1 lw0.2
  l2 : ∀ x0 x1, lawL kt [x0, x1] 42 15 24 4200 lw0.1 lw0.2
  l3 : ∀ x0 x1 x2, lawL kt [x0, x1, x2] 42 15 24 4200 lw3.1 lw3.2
  l4 : ∀ x0 x1 x2 x3, lawL kt [x0, x1, x2, x3] 42 15 24 4200 lw4.1 lw4.2
  l5 : ∀ x0 x1 x2 x3 x4, lawL kt [x0, x1, x2, x3, x4] 42 15 24 4200 lw5.1 lw5.2
  l6 : ∀ x0 x1 x2 x3 x4 x5, lawL kt [x0, x1, x2, x3, x4, x5] 42 15 24 4200 lw6.1 lw6.2
  l7 : ∀ x0 x1 x2 x3 x4 x5 x6, lawL kt [x0, x1, x2, x3, x4, x5, x6] 42 15 24 4200 lw7.1 lw7.2
  l8 : ∀ x0 x1 x2 x3 x4 x5 x6 x7, lawL kt [x0, x1, x2, x3, x4, x5, x6, x7] 42 15 24 4200 lw8.1 lw8.2
  l9 : ∀ x0 x1 x2 x3 x4 x5 x6 x7 x8 l, lawL kt (x0 :: x1 :: x2 :: x3 :: x4 :: x5 :: x6 :: x7 :: x8 :: l) 42 15 24 4200 lw9.1 lw9.2
theorem lv_law {kt : Params → X.KT} (V : LvE kt) (xs : List Int) : ∃ nc N, lawL kt xs 42 15 24 4200 nc N := by
  match xs with
  | [] => exact ⟨_, _, V.l0⟩
  | [_] => exact ⟨_, _, V.l1 _⟩
  | [_, _] => exact ⟨_, _, V.l2 _ _⟩
  | [_, _, _] => exact ⟨_, _, V.l3 _ _ _⟩
  | [_, _, _, _] => exact ⟨_, _, V.l4 _ _ _ _⟩
  | [_, _, _, _, _] => exact ⟨_, _, V.l5 _ _ _ _ _⟩
  | [_, _, _, _, _, _] => exact ⟨_, _, V.l6 _ _ _ _ _ _⟩
  | [_, _, _, _, _, _, _] => exact ⟨_, _, V.l7 _ _ _ _ _ _ _⟩
  | [_, _, _, _, _, _, _, _] => exact ⟨_, _, V.l8 _ _ _ _ _ _ _ _⟩
  | _ :: _ :: _ :: _ :: _ :: _ :: _ :: _ :: _ :: _ => exact ⟨_, _, V.l9 _ _ _ _ _ _ _ _ _ _⟩
section
variable {B : Addr → Option Obj} {prog : Program} {w : World} {L : Nat}
theorem tF2_ok {rq : List Value} {y0 i0 y1 i1 : Nat} {S : Str} {xs : List Value} {j0 j1 j2 : Nat} (hx : xs.length ≤ 2) (h : ∀ θ0 θ1 : Nat → Nat, TdOk B prog w L rq (toksL (strsV (plN y0)) θ0) (toksL (strsV (plN y1)) θ1) S xs) : FactOk B prog w L (tF2 rq y0 i0 y1 i1 S xs j0 j1 j2) where
  sp := fun G hG q c A₀ τ₀ T m i Γ p s R hm0 hc hΓ hk D h1 h2 => by
    obtain ⟨o, ho, _⟩ := h1 A₀ τ₀ (fun _ _ => rfl) (agr.refl _ _) hm0
    cases b0 : Nat.ble (i0 + 4) i.2 with
    | false => unfold tF2 at ho; rw [b0] at ho; cases ho
    | true =>
    cases b1 : Nat.ble (i1 + 4) i.2 with
    | false => unfold tF2 at ho; rw [b0, b1] at ho; cases ho
    | true =>
    clear ho
    have n0 : i0 + 4 ≤ i.2 := ble_true b0
    have n1 : i1 + 4 ≤ i.2 := ble_true b1
    have l0 := plN_len y0
    have l1 := plN_len y1
    have e : ∀ A τ, agr i τ τ₀ → tF2 rq y0 i0 y1 i1 S xs j0 j1 j2 q c A τ T m i = tF rq (toksL (strsV (plN y0)) fun k => τ₀ (2 * (i0 + 1 + k) + 1)) (toksL (strsV (plN y1)) fun k => τ₀ (2 * (i1 + 1 + k) + 1)) S xs j0 j1 j2 q c A τ T m i := fun A τ hτ => by
      unfold tF2
      rw [b0, b1]
      dsimp only
      rw [toksL_congr (strsV (plN y0)) (fun k => τ (2 * (i0 + 1 + k) + 1)) (fun k => τ₀ (2 * (i0 + 1 + k) + 1)) fun k hk => hτ.2 _ (by omega),
        toksL_congr (strsV (plN y1)) (fun k => τ (2 * (i1 + 1 + k) + 1)) (fun k => τ₀ (2 * (i1 + 1 + k) + 1)) fun k hk => hτ.2 _ (by omega)]
    exact (tF_ok hx (h _ _)).sp G hG q c A₀ τ₀ T m i Γ p s R hm0 hc hΓ hk D (fun A τ hA hτ hM => by rw [← e A τ hτ]; exact h1 A τ hA hτ hM) fun A τ s' o hA hτ hM ho => h2 A τ s' o hA hτ hM (by rw [e A τ hτ]; exact ho)
  spx := fun q c A τ A' τ' T m i o hTI ho hA hτ => by
    unfold tF2 at ho ⊢
    split at ho
    · cases ho
    rename_i b0
    split at ho
    · cases ho
    rename_i b1
    have n0 : i0 + 4 ≤ i.2 := ble_true b0
    have n1 : i1 + 4 ≤ i.2 := ble_true b1
    have l0 := plN_len y0
    have l1 := plN_len y1
    have hi2 : i.2 ≤ o.i.2 := by
      unfold tF at ho
      repeat' split at ho
      all_goals first | (cases ho; done) | (cases ho; exact Nat.le_add_right _ _)
    rw [toksL_congr (strsV (plN y0)) (fun k => τ' (2 * (i0 + 1 + k) + 1)) (fun k => τ (2 * (i0 + 1 + k) + 1)) fun k hk => hτ.2 _ (by omega),
      toksL_congr (strsV (plN y1)) (fun k => τ' (2 * (i1 + 1 + k) + 1)) (fun k => τ (2 * (i1 + 1 + k) + 1)) fun k hk => hτ.2 _ (by omega)]
    unfold tF at ho ⊢
    cases hh : hdP 353 c with
    | none => rw [hh] at ho; cases ho
    | some as =>
    rw [hh] at ho
    dsimp only at ho ⊢
    cases hn : ne3 j0 j1 j2 with
    | false => rw [hn] at ho; cases ho
    | true =>
    rw [hn] at ho
    cases hl : lt3 j0 j1 j2 m with
    | false => rw [hl] at ho; cases ho
    | true =>
    rw [hl] at ho
    dsimp only at ho ⊢
    cases g0 : sq (T.get j0) with
    | none => rw [g0] at ho; cases ho
    | some x0 =>
    cases g1 : sq (T.get j1) with
    | none => rw [g0, g1] at ho; cases ho
    | some x1 =>
    cases g2 : sq (T.get j2) with
    | none => rw [g0, g1, g2] at ho; cases ho
    | some x2 =>
    rw [g0, g1, g2] at ho
    dsimp only at ho ⊢
    cases hi : insL T m (pairO A τ m i.2 S xs) with
    | none => rw [hi] at ho; cases ho
    | some T' =>
    rw [hi] at ho
    cases ho
    obtain ⟨c0, c1, c2⟩ := lt3_is hl
    rw [pairO_congr hx (hA (m + 1) (Nat.lt_succ_self _)) (fun j hj => hτ.2 j hj), hi, hA m (by show m < m + 2; omega), hA j0 (by show j0 < m + 2; omega), hA j1 (by show j1 < m + 2; omega), hA j2 (by show j2 < m + 2; omega)]
end
/-- all leaves -/
structure Lv (kt : Params → X.KT) : Prop where
  a : LvA kt
  b : LvB kt
  c : LvC kt
  d : LvD kt
  e : LvE kt
section
variable {kt : Params → X.KT} {w : World}
theorem gA_ok (V : Lv kt) (x : Int) {L : Nat} (hL : L ≤ 498) : FactOk (BB kt w.params) progD w L (gA x) := by
  obtain ⟨h1, h2⟩ := kI_is x
  refine sF_ok (gi_sok (n := kI x) h1 ?_ (gil (by omega) (V.e.g3 _ h2)))
  generalize kI x = k at h2 ⊢
  match k, h2 with
  | 0, _ => rfl
  | 1, _ => rfl
  | 2, _ => rfl
theorem gB_ok (V : Lv kt) (x : Int) {L : Nat} (hL : L ≤ 498) : FactOk (BB kt w.params) progD w L (gB x) := by
  obtain ⟨h1, h2⟩ := wI_is x
  refine sF_ok (gi_sok (n := wI x) h1 ?_ (gil (by omega) (V.e.g3 _ h2)))
  generalize wI x = k at h2 ⊢
  match k, h2 with
  | 0, _ => rfl
  | 1, _ => rfl
  | 2, _ => rfl
theorem gV_ok (V : Lv kt) (x : Int) {L : Nat} (hL : L ≤ 498) : FactOk (BB kt w.params) progD w L (gV x) := by
  obtain ⟨h1, h2⟩ := uI_is x
  obtain ⟨h3, h4⟩ := pI_is x
  unfold gV
  rw [h1, h3]
  exact vF_ok (va_ok V.b (by omega) h2 h4)
theorem gP_ok (V : Lv kt) (x : Int) {y0 y1 : Nat} (h0 : y0 < 6) (h1 : y1 < 6) : FactOk (BB kt w.params) progD w 368 (gP x y0 y1) := by
  obtain ⟨_, k2⟩ := wI_is x
  obtain ⟨_, k3⟩ := uI_is x
  obtain ⟨_, k4⟩ := pI_is x
  exact pF_ok (xsC_len _ _) (an_ok V.a k2 k3 k4 (tk_ok V.d (by omega) h0 k3) (tk_ok V.d (by omega) h1 k3))
theorem gT_ok (V : Lv kt) (x : Int) {y0 y1 j0 j1 j2 L : Nat} (hL : L ≤ 498) (h0 : y0 < 6) (h1 : y1 < 6) : FactOk (BB kt w.params) progD w L (gT x y0 y1 j0 j1 j2) := by
  obtain ⟨_, k2⟩ := wI_is x
  obtain ⟨u1, k3⟩ := uI_is x
  obtain ⟨p1, k4⟩ := pI_is x
  unfold gT rqL
  rw [u1, p1]
  exact tF2_ok (xsC_len _ _) fun θ0 θ1 => td_ok V.b V.c (by omega) k2 k3 k4 rfl rfl (tk_any y0 h0 _ k3) (tk_any y1 h1 _ k3)
theorem gN_ok (x : Int) {y0 y1 L : Nat} (hL : L ≤ 498) : FactOk (BB kt w.params) progD w L (gN x y0 y1) := neF_ok (xsC_ns _ _) (xsC_len _ _) (by omega)
theorem rqF_ok (V : Lv kt) {y0 y1 j1 j2 : Nat} (h0 : y0 < 6) (h1 : y1 < 6) : ∀ (l : List Int) (j0 : Nat), ∀ F ∈ rqF y0 y1 j1 j2 j0 l, FactOk (BB kt w.params) progD w 368 F
  | [], _ => all_nil
  | x :: l, j0 => all_cons (gA_ok V x (by omega)) (all_cons (gB_ok V x (by omega)) (all_cons (gV_ok V x (by omega)) (all_cons (gP_ok V x h0 h1) (all_cons (gT_ok V x (by omega) h0 h1) (all_cons (gN_ok x (by omega)) (rqF_ok V h0 h1 l (j0 + 3)))))))
theorem sl2_ok {src : List Value} {L : Nat} (h : src.length ≤ 2 ^ 20) : FactOk (BB kt w.params) progD w L (sl2 src) := by
  unfold sl2
  split
  · exact slF_ok (pick2 _ _ _) (Nat.le_trans h (by decide))
  · exact noF_ok
theorem sl9_ok {src : List Value} {L : Nat} (h : src.length ≤ 2 ^ 20) : FactOk (BB kt w.params) progD w L (sl9 src) := by
  unfold sl9
  split
  · exact slF_ok (pick9 _ _ _ _ _ _ _ _ _ _) (Nat.le_trans h (by decide))
  · exact noF_ok
theorem lawF_ok (V : Lv kt) (xs : List Int) {src : List Value} (h : src.length ≤ 2 ^ 20) : ∀ F ∈ lawF xs src 42 15 24, FactOk (BB kt w.params) progD w 368 F := by
  obtain ⟨z0, y0⟩ := yI_is (ask0 xs)
  obtain ⟨z1, y1⟩ := yI_is (ask1 xs)
  unfold lawF
  refine all_cons fd_ok (all_cons md_ok (all_cons (ptF_ok y0 (ptl (by omega) V.e.pt)) (all_cons (ptF_ok y1 (ptl (by omega) V.e.pt)) ?_)))
  exact all_cons (pgF_ok z0 y0 (gil (by omega) (V.e.g6 _ y0))) (all_cons (pgF_ok z1 y1 (gil (by omega) (V.e.g6 _ y1))) (all_cons (sl2_ok h) (all_cons (sl9_ok h) (rqF_ok V y0 y1 _ _))))
end
end Mine
end
section
open PySem PySem.W
set_option maxRecDepth 20000
namespace Mine
open PyProof.Rows
/-! the law's call -/
noncomputable def chkT (o : Option Obj) : Bool := match o with
  | none => false
  | some o => match o.cls == .type "code" with
    | true => match o.data with
      | .fields vs => vs[11]? == some (.ref 288)
      | _ => false
    | false => false
structure LvF (kt : Params → X.KT) : Prop where
  tab : ∀ P, (kt P).get 288 = some (tabO [])
  no : ∀ P, (kt P).get 359 = none
  code : ∀ P, chkT ((kt P).get 292) = true
theorem ints_toks : ∀ {vs : List Value} {ns : List Int}, IntsAre vs ns → ∃ θ, vs = toksL (intsV ns) θ
  | _, _, .nil => ⟨fun _ => 0, rfl⟩
  | _, _, .cons n t h => by
    obtain ⟨θ, hθ⟩ := ints_toks h
    refine ⟨fun k => match k with | 0 => t | k + 1 => θ k, ?_⟩
    show Value.int n t :: _ = .int n t :: toksL (intsV _) θ
    rw [hθ]
theorem fr_le : ∀ l : List (Code × Pos), fr l ≤ frameCount l
  | [] => Nat.le_refl _
  | (c, p) :: l => by
    have ih := fr_le l
    rw [frameCount_cons]
    have h : fr ((c, p) :: l) = c.frames + (if c.isCreation then 1 else 0) + fr l := by
      unfold fr
      simp only [List.map_cons, List.sum_cons, List.filter_cons]
      split <;> (try simp only [List.length_cons]) <;> omega
    rw [h]
    unfold Code.weight
    omega
section
variable {kt : Params → X.KT} {w : World}
theorem law_wp (V : Lv kt) (F : LvF kt) {s : Shared} {xs : List Int} {vals : List Value} (H : X.KT.Holds s.heap 1 0 (kt w.params)) (hscr : s.heap.get? 359 = some (lstO vals 0)) (hints : IntsAre vals xs) (hsz : s.heap.objs.size = 359 + 1) (htk : 958 ≤ s.toks) (hlen : vals.length ≤ 2 ^ 20) (hg : s.gens = #[]) :
    wpAny (model progD w) callerA (call (.ref 358) [.ref 359]) (fun v s' => v = .bool true ∧ OldK s.heap s'.heap ∧ AllBare s'.gens ∧ s'.os = s.os) (fun _ _ => False) s := by
  obtain ⟨θ, rfl⟩ := ints_toks hints
  have hat : ∀ a o, (kt w.params).get a = some o → s.heap.get? a = some o := fun a o e => X.kt_at H e
  have hbase : ∀ a o, BB kt w.params a = some o → s.heap.get? a = some o := fun a o e => by
    unfold BB at e
    split at e
    · cases e
    · exact hat a o e
  have h288 := hat _ _ (F.tab w.params)
  refine wpAny_call fun Γ p hc hB => ?_
  let G : Lg := ⟨0, 359, fun Ls os => Ls = [tabA] ∧ ∃ x a g, os = [some (tabO (tabS x a g))], fun _ => False⟩
  have hG : G.Fit := ⟨rfl, rfl, fun _ _ => Iff.rfl⟩
  have hfc : frameCount Γ.below ≤ 301 := hB.2.1
  have hΓ : CtxOk 301 0 Γ := ⟨hB.1, by have := fr_le Γ.below; omega, by have : unitsOf Γ.below ≤ 4 := hB.2.2.2.2; omega, by omega, by rw [hc]; rfl⟩
  obtain ⟨nc, N, hrun⟩ := lv_law V.e xs
  have hC := cs_ok (kt := kt) (w := w) (L := 304) (by omega) (lawF_ok V xs (src := toksL (intsV xs) θ) hlen) G hG
  have D : Rep (BB kt w.params) G (fun _ => 359) (one (lstO (toksL (intsV xs) θ) 0)) 1 s :=
    ⟨fun j o e => by
      obtain ⟨e1, e2⟩ := one_get _ _ _ e
      subst e1; subst e2
      exact ⟨Nat.lt_succ_self _, fun _ => hscr⟩, fun i j hi hj _ => by omega, fun j hj => by show 359 < _; omega, hbase, (fun b o j e hj q => by
        have q : 359 = b := q
        subst q
        have e : (kt w.params).get 359 = some o := e
        rw [F.no] at e
        cases e), ⟨[tabA], ⟨rfl, 0, 0, 0, by show [s.heap.get? 288] = _; rw [h288]; rfl⟩, fun a ha => by
        rcases List.mem_cons.mp ha with rfl | ha
        · exact ⟨by show (s.heap.get? 288).isSome = true; rw [h288]; rfl, fun h => h, fun j _ (e : (359 : Nat) = 288) => absurd e (by decide)⟩
        · cases ha⟩, ⟨Nat.zero_le _, by omega⟩, by show 359 ≤ _; omega⟩
  refine hC.ov 0 _ _ ov_st Γ p s _ hc (hΓ.lift (by omega)) hbase fun p' => ?_
  refine run_wp hC (show 301 + 64 ≤ 304 + 64 by omega) (f := fun o => (vRes o, o.T.get 0)) (a := fun _ _ => (some (Value.bool true), some (lstO (toksL (intsV xs) θ) 0))) (A₀ := fun _ => 359) (τ₀ := fun _ => 0) (i := (0, 0)) ⟨fun _ => Nat.zero_le _, fun _ => Nat.le_refl _⟩ hΓ (TkI.zero _ _ _) D (fun A τ hA _ hn => by
      obtain ⟨A', rfl⟩ := up_is hG hn
      have y := hrun w.params (rows w.params) A' τ θ 0
      rw [hA 0 (Nat.lt_succ_self _)] at y
      exact y) fun A τ s' o hA _ _ _ hf D' I => ?_
  obtain ⟨t, ht⟩ := vRes_is (congrArg Prod.fst hf)
  have hT0 : o.T.get 0 = some (lstO (toksL (intsV xs) θ) 0) := congrArg Prod.snd hf
  rw [ht]
  refine ⟨rfl, ?_, I.gens (hg ▸ AllBare.of_eq rfl), I.os⟩
  have hA0 : A 0 = 359 := hA 0 (Nat.lt_succ_self _)
  have h359 : s'.heap.get? 359 = some (lstO (toksL (intsV xs) θ) 0) := by
    have := (D'.own 0 _ hT0).2 rfl
    rwa [hA0] at this
  obtain ⟨Ls, z1, z2⟩ := D'.z
  obtain ⟨zl, x, a, g, zo⟩ := z1
  have h288' : s'.heap.get? 288 = some (tabO (tabS x a g)) := by
    rw [zl] at zo
    have zo : [s'.heap.get? 288] = _ := zo
    injection zo
  have hk : ∀ b o, s.heap.get? b = some o → b ≠ 288 → s'.heap.get? b = some o := fun b o e hb => by
    by_cases q : b = 359
    · subst q
      rw [hscr] at e
      cases e
      exact h359
    · refine I.keep b o e hb fun j hj e' => q ?_
      have : j = 0 := by omega
      rw [this, hA0] at e'
      exact e'.symm
  refine ⟨fun b o e => ?_, fun b o e => ?_⟩
  · by_cases hb : b = 288
    · subst hb
      rw [h288] at e
      cases e
      refine .inr (.inl ⟨?_, rfl, #[], ⟨tabS x a g⟩, rfl, ?_⟩)
      · have hc := F.code w.params
        unfold chkT at hc
        split at hc
        · cases hc
        · rename_i oc ho
          split at hc
          · rename_i h1
            split at hc
            · rename_i vs hd
              exact ⟨292, oc, vs, hat _ _ ho, by simpa using h1, hd, by simpa using hc⟩
            · cases hc
          · cases hc
      · rw [h288']
        simp [tabO]
    · exact .inl (hk b o e hb)
  · by_cases hb : b = 288
    · subst hb
      exact ⟨_, h288'⟩
    · exact ⟨o, hk b o e hb⟩
end
end Mine
end
section
open PySem PySem.W PySem.Calls PyProof.Rows
namespace Mine
/-- the opening and the top, run over a tree -/
noncomputable def impTT {X : Type} (sT : SharedT → Thread → Option (SharedT × Thread)) (ex : Thread → Option (List X)) : Nat → SharedT → Thread → Option SharedT
  | 0, _, _ => none
  | n + 1, s, t => match ex t with
    | some [] => some s
    | some (_ :: _) => none
    | none => match sT s t with
      | some r => impTT sT ex n r.1 r.2
      | none => none
noncomputable def topTT (sT : SharedT → Thread → Option (SharedT × Thread)) (ok : Thread → Bool) : Nat → SharedT → Thread → Option SharedT
  | 0, _, _ => none
  | n + 1, s, t => match through t with
    | true => some s
    | false => match ok t with
      | false => none
      | true => match sT s t with
        | some r => topTT sT ok n r.1 r.2
        | none => none
theorem impTT_of {tb : String → Option Builtin} {p : Program} {w : World} : ∀ {n : Nat} {s s' : SharedT} {t : Thread}, impTT (stepT (denote tb) p w) Thread.atExitBegin n s t = some s' → importEnds tb p w n s.abs t = some s'.abs
  | 0, _, _, _, h => nomatch h
  | n + 1, s, s', t, h => by
    unfold impTT at h
    unfold importEnds
    cases he : t.atExitBegin with
    | some x =>
      rw [he] at h
      cases x with
      | nil => cases h; rfl
      | cons => cases h
    | none =>
      rw [he] at h
      cases hs : stepT (denote tb) p w s t with
      | none => rw [hs] at h; cases h
      | some r => rw [hs] at h; dsimp only; rw [stepT_spec hs]; exact impTT_of h
theorem topTT_of {tb : String → Option Builtin} {p : Program} {w : World} {m : Nat} {ann : Option Value} : ∀ {n : Nat} {s s' : SharedT} {t : Thread}, topTT (stepT (denote tb) p w) (stepOk m ann) n s t = some s' → topRun tb p w m ann n s.abs t = some s'.abs
  | 0, _, _, _, h => nomatch h
  | n + 1, s, s', t, h => by
    unfold topTT at h
    unfold topRun
    cases he : through t with
    | true => rw [he] at h; cases h; rfl
    | false =>
      rw [he] at h
      cases hk : stepOk m ann t with
      | false => rw [hk] at h; cases h
      | true =>
        rw [hk] at h
        cases hs : stepT (denote tb) p w s t with
        | none => rw [hs] at h; cases h
        | some r => rw [hs] at h; rw [stepT_spec hs]; exact topTT_of h
noncomputable def ofL : List Obj → Nat → BT → Option BT
  | [], _, t => some t
  | o :: l, n, t => match ((t.ins n o).get n).isSome with
    | true => ofL l (n + 1) (t.ins n o)
    | false => none
theorem ofL_abs {life : Life} : ∀ {l : List Obj} {n : Nat} {t t' : BT}, ofL l n t = some t' → absHeap t' (n + l.length) life = ⟨(absHeap t n life).objs ++ l.toArray, life⟩
  | [], n, t, t', h => by
    cases h
    simp [absHeap]
  | o :: l, n, t, t', h => by
    unfold ofL at h
    cases e : ((t.ins n o).get n).isSome with
    | false => rw [e] at h; cases h
    | true =>
      rw [e] at h
      have := ofL_abs (life := life) h
      rw [absHeap_ins e] at this
      rw [List.length_cons, show n + (l.length + 1) = n + 1 + l.length by omega, this]
      simp [Heap.push]
noncomputable def toT (s : Shared) : Option SharedT := (ofL s.heap.objs.toList 0 .nil).map fun t => ⟨t, s.heap.objs.size, s.heap.life, s.gens, s.drawn, s.toks, s.os⟩
theorem toT_abs {s : Shared} {S : SharedT} (h : toT s = some S) : S.abs = s := by
  unfold toT at h
  obtain ⟨t, ht, rfl⟩ := Option.map_eq_some_iff.mp h
  obtain ⟨⟨objs, life⟩, gens, drawn, toks, os⟩ := s
  have := ofL_abs (life := life) ht
  unfold SharedT.abs
  dsimp only at this ⊢
  rw [Nat.zero_add, Array.length_toList] at this
  rw [this]
  simp [absHeap, BT.list]
/-- the functions of the top, as they are run -/
structure TopFns where
  sT : (Code → Sem Fin) → Program → World → SharedT → Thread → Option (SharedT × Thread)
  den : Code → Sem Fin
  st : Program → Shared × Thread
  fe : Program → Shared → Option Shared
  ok : Nat → Option Value → Thread → Bool
  ns : Heap → Addr → Str → Option Value
  stub : Program → Thread
noncomputable def TopFns.Ok (F : TopFns) : Prop := F.sT = stepT ∧ F.den = denote treeTable ∧ F.st = start ∧ F.fe = fenceModules? ∧ F.ok = stepOk ∧ F.ns = Heap.nsMap ∧ F.stub = topStub
noncomputable def chainT {β : Type} (F : TopFns) (p : Program) (w : World) (N : Nat) (look : Shared → Shared → β) : Option β :=
  (toT (F.st (opening p)).1).bind fun S0 =>
  (impTT (F.sT F.den (opening p) w) Thread.atExitBegin N S0 (F.st (opening p)).2).bind fun S1 =>
  (F.fe p S1.abs).bind fun s0 =>
  (toT s0).bind fun S2 =>
  (topTT (F.sT F.den p w) (F.ok s0.heap.objs.size (F.ns s0.heap mainGlobals "__annotations__")) N S2 (F.stub p)).map fun S3 => look s0 S3.abs
theorem left_of_chain {F : TopFns} (hF : F.Ok) {p q : Program} {loose : List Str} {Xt : Shared → Bool} {α : Type} {Yf : Shared → α} {Ya : World → α} {N : Nat} {g0 : Bool}
    (h : ∀ w, chainT F p w N (fun s0 s => ((s0.heap.isNs mainGlobals && s0.gens.size == 0) && (staticsOk (importedModules p.main.body) s0.heap s.heap && namesBound p s.heap && gensDone s && laidKept s0.heap s.heap), openSeen q loose (importedModules p.main.body) Xt g0 s, Yf s)) = some (true, openGood q loose, Ya w)) :
    LeftO p q loose Xt Yf Ya N g0 := fun w => by
  obtain ⟨h1, h2, h3, h4, h5, h6, h7⟩ := hF
  have hw := h w
  unfold chainT at hw
  rw [h1, h2, h3, h4, h5, h6, h7] at hw
  obtain ⟨S0, e0, hw⟩ := Option.bind_eq_some_iff.mp hw
  obtain ⟨S1, e1, hw⟩ := Option.bind_eq_some_iff.mp hw
  obtain ⟨s0, e2, hw⟩ := Option.bind_eq_some_iff.mp hw
  obtain ⟨S2, e3, hw⟩ := Option.bind_eq_some_iff.mp hw
  obtain ⟨S3, e4, hw⟩ := Option.map_eq_some_iff.mp hw
  have a1 := impTT_of e1
  rw [toT_abs e0] at a1
  have a2 := topTT_of e4
  rw [toT_abs e3] at a2
  have b1 := congrArg Prod.fst hw
  have b2 := congrArg Prod.snd hw
  dsimp only at b1 b2
  obtain ⟨b3, b4⟩ := Bool.and_eq_true_iff.mp b1
  have c1 : fencedOpening treeTable p w N = some s0 := by
    unfold fencedOpening
    rw [a1]
    exact e2
  have c2 : topFrom treeTable p w N s0 = some S3.abs := by
    unfold topFrom
    rw [b3, a2]
    show (match staticsOk (importedModules p.main.body) s0.heap S3.abs.heap && namesBound p S3.abs.heap && gensDone S3.abs && laidKept s0.heap S3.abs.heap with | true => some S3.abs | false => none) = _
    rw [b4]
  unfold openEnds
  rw [c1]
  show (topFrom treeTable p w N s0).map _ = _
  rw [c2]
  exact congrArg some b2
noncomputable def TF : TopFns where
  sT := Fast.tw10156331382660048174
  den := Fast.tw11892475500146522536 Fast.tw14364793385576792824
  st := Fast.tw1435165496053646825
  fe := Fast.tw14289696077712309145
  ok := Fast.tw6613529449190102663
  ns := Fast.tw8920871248978507458
  stub p := ⟨(Fast.tw17154629097778926822 p.main).bind fun code => (Fast.tw12822647523644345616 code mainNs mainNs builtinsNs).bind fun frame => (run (.body (behindTheImports p) { scope := p.main.scope, locals := mainNs, globals := mainNs, cells := [], code, frame := some frame })).bind fun _ => ret .none, .builtin "claim.caller" {}, default, []⟩
theorem TF_ok : TF.Ok := by
  refine ⟨?_, ?_, ?_, ?_, ?_, ?_, ?_⟩
  · exact Fast.te10156331382660048174.symm
  · unfold TF; dsimp only; rw [← Fast.te11892475500146522536, ← Fast.te14364793385576792824]
  · exact Fast.te1435165496053646825.symm
  · exact Fast.te14289696077712309145.symm
  · exact Fast.te6613529449190102663.symm
  · exact Fast.te8920871248978507458.symm
  · unfold TF; dsimp only; funext p; rw [← Fast.te17154629097778926822, ← Fast.te12822647523644345616]; rfl
theorem byRows2 (r1 r2 : String) {P : World → Prop} (h : ∀ (w : World) (b1 b2 : Bool), P ((w.withFollow r1 b1).withFollow r2 b2)) (w : World) : P w := by
  have e1 := World.withFollow_self w r1
  have e2 := World.withFollow_self w r2
  have := h w (w.params.followText r1) (w.params.followText r2)
  rw [e1, e2] at this
  exact this
noncomputable def ww (w : World) (b1 b2 : Bool) : World := (w.withFollow "comprehension-iter-twice" b1).withFollow "special-get-raises" b2
noncomputable def LeftB (p q : Program) (loose : List Str) (Xt : Shared → Bool) {α : Type} (Yf : Shared → α) (Ya : World → α) (N : Nat) (b1 b2 : Bool) : Prop :=
  ∀ w : World, chainT TF p (ww w b1 b2) N (fun s0 s => ((s0.heap.isNs mainGlobals && s0.gens.size == 0) && (staticsOk (importedModules p.main.body) s0.heap s.heap && namesBound p s.heap && gensDone s && laidKept s0.heap s.heap), openSeen q loose (importedModules p.main.body) Xt true s, Yf s)) = some (true, openGood q loose, Ya (ww w b1 b2))
theorem left4 {p q : Program} {loose : List Str} {Xt : Shared → Bool} {α : Type} {Yf : Shared → α} {Ya : World → α} {N : Nat}
    (h0 : LeftB p q loose Xt Yf Ya N false false) (h1 : LeftB p q loose Xt Yf Ya N false true) (h2 : LeftB p q loose Xt Yf Ya N true false) (h3 : LeftB p q loose Xt Yf Ya N true true) : LeftO p q loose Xt Yf Ya N :=
  left_of_chain TF_ok (byRows2 "comprehension-iter-twice" "special-get-raises" fun w b1 b2 => match b1, b2 with
    | false, false => h0 w
    | false, true => h1 w
    | true, false => h2 w
    | true, true => h3 w)
end Mine
end
section
open PySem PySem.W PySem.Calls PyProof.Rows
namespace Mine
noncomputable def rowT : Nat := 10139888712337904147300001983332972444938612
noncomputable def rowC : Nat := 2510650655181157320538776789020469319833841985448949215332
theorem rowT_eq : PySem.code "special-get-raises" = rowT := by decide +kernel
theorem rowC_eq : PySem.code "comprehension-iter-twice" = rowC := by decide +kernel
/-- the world's parameters, two rows said -/
noncomputable def flr (P : Params) (b1 b2 : Bool) : Params := { P with followText := fun r => match Nat.beq (PySem.code r) rowC with | true => b1 | false => match Nat.beq (PySem.code r) rowT with | true => b2 | false => P.followText r }
theorem flr_self (P : Params) : flr P (P.followText "comprehension-iter-twice") (P.followText "special-get-raises") = P := by
  have e : (fun r => match Nat.beq (PySem.code r) rowC with | true => P.followText "comprehension-iter-twice" | false => match Nat.beq (PySem.code r) rowT with | true => P.followText "special-get-raises" | false => P.followText r) = P.followText := by
    funext r
    cases h : Nat.beq (PySem.code r) rowC with
    | false =>
      cases h' : Nat.beq (PySem.code r) rowT with
      | false => rfl
      | true =>
        have : r = "special-get-raises" := PySem.code_inj _ _ ((Nat.eq_of_beq_eq_true h').trans rowT_eq.symm)
        rw [this]
    | true =>
      have : r = "comprehension-iter-twice" := PySem.code_inj _ _ ((Nat.eq_of_beq_eq_true h).trans rowC_eq.symm)
      rw [this]
  obtain ⟨a1, a2, a3, a4, a5, a6, a7, a8, a9⟩ := P
  unfold flr
  simp only [Params.mk.injEq, true_and, and_true]
  exact e
theorem map_eqT {α : Type} : ∀ {l : List (α × α)}, l.map Prod.fst = l.map Prod.snd → ∀ x ∈ l, x.1 = x.2
  | [], _, _, h => (nomatch h)
  | y :: l, e, x, h => by
    rw [List.map_cons, List.map_cons] at e
    injection e with e1 e2
    cases h with
    | head => exact e1
    | tail _ h => exact map_eqT e2 x h
/-- a demand on the top's run: two trees, or two states -/
inductive DD where
  | t (x : Sem Fin)
  | st (s : SharedT) (t : Thread)
noncomputable abbrev DL := List (DD × DD)
noncomputable abbrev ST := SharedT → Thread → Option (SharedT × Thread)
/-- the rows' four ways -/
structure S4 where
  a : Setting
  b : Setting
  c : Setting
  d : Setting
noncomputable def S4.ds (σ : S4) (k : Setting → Sem Fin) (e : DL) : DL := (.t (k σ.a), .t (k σ.b)) :: (.t (k σ.a), .t (k σ.c)) :: (.t (k σ.a), .t (k σ.d)) :: e
noncomputable def goP (sT : ST) (ok : Thread → Bool) (σ : S4) : Nat → Nat → SharedT → Thread → DL → Option (DL × SharedT × Thread)
  | 0, _, _, _, _ => none
  | n + 1, j, s, t, e => match through t with
    | true => none
    | false => match ok t with
      | false => none
      | true => match t with
        | ⟨.ask k, c, p, st⟩ => match j with
          | 0 => some (e, s, ⟨.ask k, c, p, st⟩)
          | j + 1 => goP sT ok σ n j s ⟨k σ.a, c, p, st⟩ (σ.ds k e)
        | t => match sT s t with
          | some r => goP sT ok σ n j r.1 r.2 e
          | none => none
noncomputable def goS (sT : ST) (ok : Thread → Bool) (σ σ' : Setting) : Nat → SharedT → Thread → DL → Option (DL × SharedT × Thread)
  | 0, s, t, e => some (e, s, t)
  | n + 1, s, t, e => match through t with
    | true => none
    | false => match ok t with
      | false => none
      | true => match t with
        | ⟨.ask k, c, p, st⟩ => goS sT ok σ σ' n s ⟨k σ, c, p, st⟩ ((.t (k σ), .t (k σ')) :: e)
        | t => match sT s t with
          | some r => goS sT ok σ σ' n r.1 r.2 e
          | none => none
noncomputable def goE (sT : ST) (ok : Thread → Bool) (σ : S4) : Nat → SharedT → Thread → DL → Option (DL × SharedT)
  | 0, _, _, _ => none
  | n + 1, s, t, e => match through t with
    | true => some (e, s)
    | false => match ok t with
      | false => none
      | true => match t with
        | ⟨.ask k, c, p, st⟩ => goE sT ok σ n s ⟨k σ.a, c, p, st⟩ (σ.ds k e)
        | t => match sT s t with
          | some r => goE sT ok σ n r.1 r.2 e
          | none => none
theorem S4.ds_mem {σ : S4} {k : Setting → Sem Fin} {e : DL} {x : DD × DD} (h : x ∈ e) : x ∈ σ.ds k e := .tail _ (.tail _ (.tail _ h))
theorem goP_mono {sT : ST} {ok : Thread → Bool} {σ : S4} : ∀ {n j : Nat} {s : SharedT} {t : Thread} {e l : DL} {r : SharedT × Thread}, goP sT ok σ n j s t e = some (l, r) → ∀ x ∈ e, x ∈ l
  | 0, _, _, _, _, _, _, h => nomatch h
  | n + 1, j, s, t, e, l, r, h => fun x hx => by
    unfold goP at h
    split at h
    · cases h
    · split at h
      · cases h
      · split at h
        · split at h
          · cases h; exact hx
          · exact goP_mono h x (S4.ds_mem hx)
        · split at h
          · exact goP_mono h x hx
          · cases h
theorem goS_mono {sT : ST} {ok : Thread → Bool} {σ σ' : Setting} : ∀ {n : Nat} {s : SharedT} {t : Thread} {e l : DL} {r : SharedT × Thread}, goS sT ok σ σ' n s t e = some (l, r) → ∀ x ∈ e, x ∈ l
  | 0, _, _, _, _, _, h => fun x hx => by cases h; exact hx
  | n + 1, s, t, e, l, r, h => fun x hx => by
    unfold goS at h
    split at h
    · cases h
    · split at h
      · cases h
      · split at h
        · exact goS_mono h x (.tail _ hx)
        · split at h
          · exact goS_mono h x hx
          · cases h
theorem goE_mono {sT : ST} {ok : Thread → Bool} {σ : S4} : ∀ {n : Nat} {s : SharedT} {t : Thread} {e l : DL} {S : SharedT}, goE sT ok σ n s t e = some (l, S) → ∀ x ∈ e, x ∈ l
  | 0, _, _, _, _, _, h => nomatch h
  | n + 1, s, t, e, l, S, h => fun x hx => by
    unfold goE at h
    split at h
    · cases h; exact hx
    · split at h
      · cases h
      · split at h
        · exact goE_mono h x (S4.ds_mem hx)
        · split at h
          · exact goE_mono h x hx
          · cases h
section
variable {den : Code → Sem Fin} {p : Program} {w : World} {ok : Thread → Bool}
theorem topTT_mono {sT : ST} : ∀ {n k : Nat} {s : SharedT} {t : Thread} {S : SharedT}, topTT sT ok n s t = some S → topTT sT ok (n + k) s t = some S
  | 0, _, _, _, _, h => nomatch h
  | n + 1, k, s, t, S, h => by
    rw [Nat.add_right_comm]
    unfold topTT at h ⊢
    split at h
    · rename_i q; first | rw [q]; exact h | exact h
    · rename_i q
      try rw [q]
      split at h
      · cases h
      · rename_i q
        try rw [q]
        try dsimp only
        split at h
        · rename_i q; (try rw [q]); exact topTT_mono h
        · cases h
/-- the world's setting is one of the four -/
noncomputable def S4.has (σ : S4) (x : Setting) : Prop := x = σ.a ∨ x = σ.b ∨ x = σ.c ∨ x = σ.d
theorem S4.ask {σ : S4} {x : Setting} (h : σ.has x) {k : Setting → Sem Fin} {e l : DL} (hl : ∀ y ∈ l, y.1 = y.2) (hm : ∀ y ∈ σ.ds k e, y ∈ l) : k x = k σ.a := by
  rcases h with rfl | rfl | rfl | rfl
  · rfl
  · exact (DD.t.inj (hl _ (hm _ (.head _)))).symm
  · exact (DD.t.inj (hl _ (hm _ (.tail _ (.head _))))).symm
  · exact (DD.t.inj (hl _ (hm _ (.tail _ (.tail _ (.head _)))))).symm
theorem goP_of {σ : S4} (hσ : σ.has ⟨p, w.params⟩) : ∀ {n j : Nat} {s : SharedT} {t : Thread} {e l : DL} {s' : SharedT} {t' : Thread} {N : Nat} {S : SharedT}, goP (stepT den p w) ok σ n j s t e = some (l, s', t') → (∀ y ∈ l, y.1 = y.2) →
    topTT (stepT den p w) ok N s' t' = some S → topTT (stepT den p w) ok (n + N) s t = some S
  | 0, _, _, _, _, _, _, _, _, _, h, _, _ => nomatch h
  | n + 1, j, s, t, e, l, s', t', N, S, h, hl, k => by
    rw [Nat.add_right_comm]
    unfold goP at h
    split at h
    · cases h
    · rename_i q1
      split at h
      · cases h
      · rename_i q2
        split at h
        · rename_i kk c p' st
          split at h
          · cases h
            have := topTT_mono (k := n + 1) k
            rwa [Nat.add_comm N, Nat.add_right_comm] at this
          · have hh := S4.ask hσ hl (goP_mono h)
            unfold topTT
            rw [q1]
            dsimp only
            rw [q2]
            show topTT _ ok (n + N) s ⟨kk ⟨p, w.params⟩, c, p', st⟩ = some S
            rw [hh]
            exact goP_of hσ h hl k
        · split at h
          · rename_i r hr
            unfold topTT
            rw [q1]
            dsimp only
            rw [q2]
            dsimp only
            rw [hr]
            exact goP_of hσ h hl k
          · cases h
theorem goS_of {σ σ' : Setting} (hσ : (⟨p, w.params⟩ : Setting) = σ ∨ (⟨p, w.params⟩ : Setting) = σ') : ∀ {n : Nat} {s : SharedT} {t : Thread} {e l : DL} {s' : SharedT} {t' : Thread} {N : Nat} {S : SharedT}, goS (stepT den p w) ok σ σ' n s t e = some (l, s', t') → (∀ y ∈ l, y.1 = y.2) →
    topTT (stepT den p w) ok N s' t' = some S → topTT (stepT den p w) ok (n + N) s t = some S
  | 0, _, _, _, _, _, _, _, _, h, _, k => by cases h; rw [Nat.zero_add]; exact k
  | n + 1, s, t, e, l, s', t', N, S, h, hl, k => by
    rw [Nat.add_right_comm]
    unfold goS at h
    split at h
    · cases h
    · rename_i q1
      split at h
      · cases h
      · rename_i q2
        split at h
        · rename_i kk c p' st
          have hk : kk σ = kk σ' := DD.t.inj (hl _ (goS_mono h _ (.head _)))
          have hh : kk ⟨p, w.params⟩ = kk σ := by
            rcases hσ with q | q
            · rw [q]
            · rw [q, hk]
          unfold topTT
          rw [q1]
          dsimp only
          rw [q2]
          show topTT _ ok (n + N) s ⟨kk ⟨p, w.params⟩, c, p', st⟩ = some S
          rw [hh]
          exact goS_of hσ h hl k
        · split at h
          · rename_i r hr
            unfold topTT
            rw [q1]
            dsimp only
            rw [q2]
            dsimp only
            rw [hr]
            exact goS_of hσ h hl k
          · cases h
theorem goE_of {σ : S4} (hσ : σ.has ⟨p, w.params⟩) : ∀ {n : Nat} {s : SharedT} {t : Thread} {e l : DL} {S : SharedT}, goE (stepT den p w) ok σ n s t e = some (l, S) → (∀ y ∈ l, y.1 = y.2) → topTT (stepT den p w) ok n s t = some S
  | 0, _, _, _, _, _, h, _ => nomatch h
  | n + 1, s, t, e, l, S, h, hl => by
    unfold goE at h
    unfold topTT
    split at h
    · rename_i q1
      cases h
      first | rw [q1] | rfl
    · rename_i q1
      try rw [q1]
      try dsimp only
      split at h
      · cases h
      · rename_i q2
        try rw [q2]
        split at h
        · rename_i kk c p' st
          show topTT _ ok n s ⟨kk ⟨p, w.params⟩, c, p', st⟩ = some S
          rw [S4.ask hσ hl (goE_mono h)]
          exact goE_of hσ h hl
        · try dsimp only
          split at h
          · rename_i r hr
            try rw [hr]
            exact goE_of hσ h hl
          · cases h
end
/-- the top's run: j asks at once, then the two ways of a comprehension for a and b steps, then the rest -/
noncomputable def goT (sT : ST) (ok : Thread → Bool) (σ : S4) (n1 j a b n2 : Nat) (s : SharedT) (t : Thread) : Option (DL × SharedT) :=
  (goP sT ok σ n1 j s t []).bind fun x =>
  (goS sT ok σ.a σ.b a x.2.1 x.2.2 x.1).bind fun y =>
  (goS sT ok σ.c σ.d b x.2.1 x.2.2 y.1).bind fun z =>
  goE sT ok σ n2 y.2.1 y.2.2 ((.st y.2.1 y.2.2, .st z.2.1 z.2.2) :: z.1)
theorem goT_of {den : Code → Sem Fin} {p : Program} {w : World} {ok : Thread → Bool} {σ : S4} (hσ : σ.has ⟨p, w.params⟩) {n1 j a b n2 N : Nat} {s : SharedT} {t : Thread} {l : DL} {S : SharedT}
    (h : goT (stepT den p w) ok σ n1 j a b n2 s t = some (l, S)) (hl : ∀ y ∈ l, y.1 = y.2) (hN : n1 + (a + b + n2) ≤ N) : topTT (stepT den p w) ok N s t = some S := by
  unfold goT at h
  obtain ⟨⟨l1, s1, t1⟩, h1, h⟩ := Option.bind_eq_some_iff.mp h
  obtain ⟨⟨l2, s2, t2⟩, h2, h⟩ := Option.bind_eq_some_iff.mp h
  obtain ⟨⟨l3, s3, t3⟩, h3, h⟩ := Option.bind_eq_some_iff.mp h
  dsimp only at h2 h3 h
  have m4 := goE_mono h
  have m3 : ∀ x ∈ l3, x ∈ l := fun x hx => m4 x (.tail _ hx)
  have m2 : ∀ x ∈ l2, x ∈ l := fun x hx => m3 x (goS_mono h3 x hx)
  have m1 : ∀ x ∈ l1, x ∈ l := fun x hx => m2 x (goS_mono h2 x hx)
  have q : (DD.st s2 t2) = .st s3 t3 := hl _ (m4 _ (.head _))
  injection q with q1 q2
  have z := goE_of hσ h hl
  have k : topTT (stepT den p w) ok (a + b + n2) s1 t1 = some S := by
    rcases hσ with e | e | e | e
    · have := topTT_mono (k := b) (goS_of (.inl e) h2 (fun x hx => hl x (m2 x hx)) z)
      rwa [Nat.add_assoc, Nat.add_comm n2, ← Nat.add_assoc] at this
    · have := topTT_mono (k := b) (goS_of (.inr e) h2 (fun x hx => hl x (m2 x hx)) z)
      rwa [Nat.add_assoc, Nat.add_comm n2, ← Nat.add_assoc] at this
    · rw [q1, q2] at z
      have := topTT_mono (k := a) (goS_of (.inl e) h3 (fun x hx => hl x (m3 x hx)) z)
      rwa [Nat.add_comm _ a, ← Nat.add_assoc] at this
    · rw [q1, q2] at z
      have := topTT_mono (k := a) (goS_of (.inr e) h3 (fun x hx => hl x (m3 x hx)) z)
      rwa [Nat.add_comm _ a, ← Nat.add_assoc] at this
  have y := topTT_mono (k := N - (n1 + (a + b + n2))) (goP_of hσ h1 (fun x hx => hl x (m1 x hx)) k)
  rwa [Nat.add_sub_cancel' hN] at y
noncomputable def flS (p : Program) (P : Params) : S4 := ⟨⟨p, flr P true true⟩, ⟨p, flr P true false⟩, ⟨p, flr P false true⟩, ⟨p, flr P false false⟩⟩
theorem flS_has (p : Program) (P : Params) : (flS p P).has ⟨p, P⟩ := by
  have e := flr_self P
  unfold S4.has flS
  cases h1 : P.followText "comprehension-iter-twice" <;> cases h2 : P.followText "special-get-raises" <;> rw [h1, h2] at e <;> simp only [e] <;> simp
noncomputable def chainJ {β : Type} (F : TopFns) (p : Program) (w : World) (N n1 j a b n2 : Nat) (look : Shared → Shared → β) : Option (DL × β) :=
  (toT (F.st (opening p)).1).bind fun S0 =>
  (impTT (F.sT F.den (opening p) w) Thread.atExitBegin N S0 (F.st (opening p)).2).bind fun S1 =>
  (F.fe p S1.abs).bind fun s0 =>
  (toT s0).bind fun S2 =>
  (goT (F.sT F.den p w) (F.ok s0.heap.objs.size (F.ns s0.heap mainGlobals "__annotations__")) (flS p w.params) n1 j a b n2 S2 (F.stub p)).map fun r => (r.1, look s0 r.2.abs)
noncomputable def vwD {β : Type} (o : Option (DL × β)) : Option (List DD × β) := match o with
  | some o => some (o.1.map Prod.fst, o.2)
  | none => none
noncomputable def wvD {β : Type} (a : β) (o : Option (DL × β)) : Option (List DD × β) := match o with
  | some o => some (o.1.map Prod.snd, a)
  | none => some ([], a)
theorem chainJ_of {F : TopFns} (hF : F.Ok) {β : Type} {p : Program} {w : World} {N n1 j a b n2 : Nat} {look : Shared → Shared → β} {x : β} (hN : Nat.ble (n1 + (a + b + n2)) N = true)
    (h : vwD (chainJ F p w N n1 j a b n2 look) = wvD x (chainJ F p w N n1 j a b n2 look)) : chainT F p w N look = some x := by
  cases hc : chainJ F p w N n1 j a b n2 look with
  | none => rw [hc] at h; cases h
  | some r =>
    rw [hc] at h
    obtain ⟨l, y⟩ := r
    have h' : (l.map Prod.fst, y) = (l.map Prod.snd, x) := Option.some.inj h
    have hl := map_eqT (congrArg Prod.fst h')
    have hb : y = x := congrArg Prod.snd h'
    subst hb
    unfold chainJ at hc
    unfold chainT
    obtain ⟨S0, e0, hc⟩ := Option.bind_eq_some_iff.mp hc
    obtain ⟨S1, e1, hc⟩ := Option.bind_eq_some_iff.mp hc
    obtain ⟨s0, e2, hc⟩ := Option.bind_eq_some_iff.mp hc
    obtain ⟨S2, e3, hc⟩ := Option.bind_eq_some_iff.mp hc
    obtain ⟨r, e4, hr⟩ := Option.map_eq_some_iff.mp hc
    obtain ⟨l', S3⟩ := r
    cases hr
    rw [hF.1] at e1 e4 ⊢
    have z := goT_of (flS_has p w.params) e4 hl (Nat.le_of_ble_eq_true hN)
    rw [e0, Option.bind_some, e1, Option.bind_some, e2, Option.bind_some, e3, Option.bind_some, z]
    rfl
theorem chainT_two {α β γ : Type} {F : TopFns} {p : Program} {w : World} {N : Nat} {f : Shared → Shared → α} {g : Shared → Shared → β} {x : α} {y : β} (h : α → β → γ)
    (hf : chainT F p w N f = some x) (hg : chainT F p w N g = some y) : chainT F p w N (fun a b => h (f a b) (g a b)) = some (h x y) := by
  unfold chainT at hf hg ⊢
  obtain ⟨S0, e0, hf⟩ := Option.bind_eq_some_iff.mp hf
  obtain ⟨S1, e1, hf⟩ := Option.bind_eq_some_iff.mp hf
  obtain ⟨s0, e2, hf⟩ := Option.bind_eq_some_iff.mp hf
  obtain ⟨S2, e3, hf⟩ := Option.bind_eq_some_iff.mp hf
  obtain ⟨S3, e4, hf⟩ := Option.map_eq_some_iff.mp hf
  rw [e0, Option.bind_some, e1, Option.bind_some, e2, Option.bind_some, e3, Option.bind_some, e4] at hg ⊢
  have hg' : g s0 S3.abs = y := Option.some.inj hg
  rw [← hf, ← hg']
  rfl
/-- a look behind the top, by a run -/
noncomputable def Lk {β : Type} (F : TopFns) (p : Program) (N n1 j a b n2 : Nat) (look : Shared → Shared → β) (x : World → β) : Prop :=
  ∀ w : World, vwD (chainJ F p w N n1 j a b n2 look) = wvD (x w) (chainJ F p w N n1 j a b n2 look)
noncomputable def lk1 (sn : (q : Program) → (loose mods : List Str) → (Xt : Shared → Bool) → (g0 : Bool) → (s : Shared) → type_of% (openSeen q loose mods Xt g0 s)) (im : List Stmt → List Str) (p q : Program) (loose : List Str) (Xt : Shared → Bool) (s0 s : Shared) :=
  ((s0.heap.isNs mainGlobals && s0.gens.size == 0) && (staticsOk (im p.main.body) s0.heap s.heap && namesBound p s.heap && gensDone s && laidKept s0.heap s.heap), sn q loose (im p.main.body) Xt true s)
theorem leftJ {p q : Program} {loose : List Str} {Xt : Shared → Bool} {α : Type} {Yf : Shared → α} {Ya : World → α} {N n1 j a b n2 : Nat} (hN : Nat.ble (n1 + (a + b + n2)) N = true)
    (h1 : Lk TF p N n1 j a b n2 (lk1 @Fast.tw4187177175401517315 Fast.tw5923862056798008813 p q loose Xt) (fun _ => (true, openGood q loose)))
    (h2 : Lk TF p N n1 j a b n2 (fun _ s => Yf s) Ya) : LeftO p q loose Xt Yf Ya N := by
  unfold lk1 at h1
  rw [← Fast.te4187177175401517315, ← Fast.te5923862056798008813] at h1
  exact left_of_chain TF_ok fun w => chainT_two (fun x y => (x.1, x.2, y)) (chainJ_of TF_ok hN (h1 w)) (chainJ_of TF_ok hN (h2 w))
end Mine
end
section
open PySem PySem.W PySem.W.X PySem.W.ZRun PyProof.Rows
set_option maxRecDepth 100000
set_option maxHeartbeats 0
namespace Mine
theorem said : OpenLaw.wellSaid PySem.Challenge.rw_kt0048_01 = true := by
  rw [Fast.te9446332074065402090]
  kernel_rfl
section
local macro_rules
  | `(tactic| refine $t) => do
    let t' ← t.raw.replaceM fun s => do
      if s.isOfKind ``Lean.Parser.Term.syntheticHole && s[1].getId.eraseMacroScopes == `hl then return some (Lean.mkIdent `hLeft).raw
      else if s.isOfKind ``Lean.Parser.Term.syntheticHole && s[1].getId.eraseMacroScopes == `hc then return some (Lean.mkIdent `hWalk).raw
      else return none
    if t' == t.raw then Lean.Macro.throwUnsupported
    `(tactic| refine $(⟨t'⟩))
/-- the claim, from what the top leaves and from the walk -/
noncomputable def top : Σ' (Lx Lc : Prop), (Lx → Lc → PySem.Challenge.rw_kt0048_01.Holds) := by
  apply PSigma.mk
  apply PSigma.mk
  intro hLeft hWalk
  w_on
  refine holds_law said fun _ => ?_
  z_head
  w_witness2
end
noncomputable abbrev kM := top.ktop_661
abbrev looseM : List Str := [Str.ofString "tspecials", Str.ofString "_name_disallowed_re", Str.ofString "_value_disallowed_re", Str.ofString "_formatparam", Str.ofString "bytes_types", Str.ofString "a2b_base64", Str.ofString "b2a_base64", Str.ofString "b64encode", Str.ofString "b64decode", Str.ofString "_twin_re_1", Str.ofString "_special_chars_map"]
theorem left1 : Lk TF PySem.Challenge.rw_kt0048_01.row.prog 6708 1700 56 10 20 1700 (lk1 @Fast.tw4187177175401517315 Fast.tw5923862056798008813 PySem.Challenge.rw_kt0048_01.row.prog top.view_662 looseM (fun s => xlAt top.view_662 [] s && recOk PySem.Challenge.rw_kt0048_01.row.records s)) (fun _ => (true, openGood top.view_662 looseM)) := by
  intro w; kernel_rfl
theorem left2 : Lk TF PySem.Challenge.rw_kt0048_01.row.prog 6708 1700 56 10 20 1700 (fun _ s => obsZ [0, 1, 2, 3, 4, 5, 6, 7, 8, 9, 10, 11, 12, 13, 14, 15, 32, 33, 34, 35, 36, 37, 38, 42, 43, 47, 48, 52, 53, 54, 55, 56, 57, 58, 59, 60, 61, 69, 70, 71, 72, 73, 74, 75, 76, 77, 78, 79, 80, 81, 82, 83, 84, 85, 86, 87, 88, 89, 90, 91, 92, 93, 94, 95, 96, 97, 98, 99, 100, 101, 102, 103, 104, 105, 106, 107, 108, 109, 110, 111, 112, 113, 114, 115, 116, 117, 118, 119, 120, 121, 122, 123, 124, 125, 126, 127, 128, 129, 130, 131, 132, 133, 134, 135, 136, 137, 138, 139, 140, 141, 142, 143, 144, 145, 146, 147, 148, 149, 150, 151, 152, 153, 154, 155, 156, 157, 158, 159, 160, 161, 162, 163, 164, 165, 166, 167, 168, 169, 170, 171, 172, 173, 174, 175, 176, 177, 178, 179, 180, 181, 182, 183, 184, 185, 186, 189, 190, 191, 192, 193, 194, 195, 196, 197, 204, 205, 206, 207, 210, 211, 212, 213, 214, 215, 216, 217, 218, 219, 220, 221, 222, 223, 224, 225, 226, 227, 228, 229, 230, 231, 232, 233, 234, 235, 236, 237, 238, 239, 240, 241, 242, 243, 244, 245, 246, 247, 248, 249, 250, 251, 252, 253, 254, 255, 256, 257, 258, 259, 260, 261, 262, 263, 264, 265, 266, 267, 268, 269, 273, 274, 276, 280, 281, 282, 283, 284, 285, 286, 287, 288, 289, 290, 291, 292, 293, 294, 295, 296, 297, 298, 299, 300, 301, 302, 303, 304, 305, 306, 307, 308, 309, 310, 311, 312, 313, 314, 315, 316, 317, 318, 319, 320, 321, 322, 323, 324, 325, 326, 327, 328, 329, 330, 331, 332, 333, 334, 335, 336, 337, 338, 339, 340, 341, 342, 343, 344, 345, 346, 347, 348, 349, 350, 351, 352, 353, 354, 355, 356, 357, 358] s) (valZ top.heap_310 359 958) := by
  intro w; kernel_rfl
theorem left : top.1 := leftJ rfl left1 left2
theorem gA_00 : ∀ (k w : Nat) (may nev : Str) (P : Params) (b : Bool × Bool) (A τ θ : Nat → Nat), anE kM 0 k w 0 0 may nev 70 69 0 0 3000 (an0c 0 0) (an0N 0 0) P b A τ θ ∧ anE kM 2 k w 0 0 may nev 70 69 0 0 3000 (an2c 0) (an2N 0) P b A τ θ ∧ anE kM 3 k w 0 0 may nev 70 69 0 0 3000 (an3c 0) (an3N 0) P b A τ θ ∧ anE kM 4 k w 0 0 may nev 70 61 0 0 3000 (an4c 0) (an4N 0) P b A τ θ := by
  intro k w may nev P b A τ θ
  obtain ⟨b1, b2⟩ := b
  refine ⟨?_, ?_, ?_, ?_⟩ <;> kernel_rfl
theorem gA_01 : ∀ (k w : Nat) (may nev : Str) (P : Params) (b : Bool × Bool) (A τ θ : Nat → Nat), anE kM 0 k w 0 1 may nev 70 69 0 0 3000 (an0c 0 1) (an0N 0 1) P b A τ θ ∧ anE kM 1 k w 0 1 may nev 70 69 0 0 3000 (an1c 0 1) (an1N 0 1) P b A τ θ := by
  intro k w may nev P b A τ θ
  obtain ⟨b1, b2⟩ := b
  refine ⟨?_, ?_⟩ <;> kernel_rfl
theorem gA_02 : ∀ (k w : Nat) (may nev : Str) (P : Params) (b : Bool × Bool) (A τ θ : Nat → Nat), anE kM 0 k w 0 2 may nev 70 69 0 0 3000 (an0c 0 2) (an0N 0 2) P b A τ θ ∧ anE kM 1 k w 0 2 may nev 70 69 0 0 3000 (an1c 0 2) (an1N 0 2) P b A τ θ := by
  intro k w may nev P b A τ θ
  obtain ⟨b1, b2⟩ := b
  refine ⟨?_, ?_⟩ <;> kernel_rfl
theorem gA_03 : ∀ (k w : Nat) (may nev : Str) (P : Params) (b : Bool × Bool) (A τ θ : Nat → Nat), anE kM 0 k w 0 3 may nev 70 69 0 0 3000 (an0c 0 3) (an0N 0 3) P b A τ θ ∧ anE kM 1 k w 0 3 may nev 70 69 0 0 3000 (an1c 0 3) (an1N 0 3) P b A τ θ := by
  intro k w may nev P b A τ θ
  obtain ⟨b1, b2⟩ := b
  refine ⟨?_, ?_⟩ <;> kernel_rfl
theorem gA_10 : ∀ (k w : Nat) (may nev : Str) (P : Params) (b : Bool × Bool) (A τ θ : Nat → Nat), anE kM 0 k w 1 0 may nev 70 69 0 0 3000 (an0c 1 0) (an0N 1 0) P b A τ θ ∧ anE kM 1 k w 1 0 may nev 70 69 0 0 3000 (an1c 1 0) (an1N 1 0) P b A τ θ := by
  intro k w may nev P b A τ θ
  obtain ⟨b1, b2⟩ := b
  refine ⟨?_, ?_⟩ <;> kernel_rfl
theorem gA_11 : ∀ (k w : Nat) (may nev : Str) (P : Params) (b : Bool × Bool) (A τ θ : Nat → Nat), anE kM 0 k w 1 1 may nev 70 69 0 0 3000 (an0c 1 1) (an0N 1 1) P b A τ θ ∧ anE kM 2 k w 1 1 may nev 70 69 0 0 3000 (an2c 1) (an2N 1) P b A τ θ ∧ anE kM 3 k w 1 1 may nev 70 69 0 0 3000 (an3c 1) (an3N 1) P b A τ θ ∧ anE kM 4 k w 1 1 may nev 70 61 0 0 3000 (an4c 1) (an4N 1) P b A τ θ := by
  intro k w may nev P b A τ θ
  obtain ⟨b1, b2⟩ := b
  refine ⟨?_, ?_, ?_, ?_⟩ <;> kernel_rfl
theorem gA_12 : ∀ (k w : Nat) (may nev : Str) (P : Params) (b : Bool × Bool) (A τ θ : Nat → Nat), anE kM 0 k w 1 2 may nev 70 69 0 0 3000 (an0c 1 2) (an0N 1 2) P b A τ θ ∧ anE kM 1 k w 1 2 may nev 70 69 0 0 3000 (an1c 1 2) (an1N 1 2) P b A τ θ := by
  intro k w may nev P b A τ θ
  obtain ⟨b1, b2⟩ := b
  refine ⟨?_, ?_⟩ <;> kernel_rfl
theorem gA_13 : ∀ (k w : Nat) (may nev : Str) (P : Params) (b : Bool × Bool) (A τ θ : Nat → Nat), anE kM 0 k w 1 3 may nev 70 69 0 0 3000 (an0c 1 3) (an0N 1 3) P b A τ θ ∧ anE kM 1 k w 1 3 may nev 70 69 0 0 3000 (an1c 1 3) (an1N 1 3) P b A τ θ := by
  intro k w may nev P b A τ θ
  obtain ⟨b1, b2⟩ := b
  refine ⟨?_, ?_⟩ <;> kernel_rfl
theorem gA_20 : ∀ (k w : Nat) (may nev : Str) (P : Params) (b : Bool × Bool) (A τ θ : Nat → Nat), anE kM 0 k w 2 0 may nev 70 69 0 0 3000 (an0c 2 0) (an0N 2 0) P b A τ θ ∧ anE kM 1 k w 2 0 may nev 70 69 0 0 3000 (an1c 2 0) (an1N 2 0) P b A τ θ := by
  intro k w may nev P b A τ θ
  obtain ⟨b1, b2⟩ := b
  refine ⟨?_, ?_⟩ <;> kernel_rfl
theorem gA_21 : ∀ (k w : Nat) (may nev : Str) (P : Params) (b : Bool × Bool) (A τ θ : Nat → Nat), anE kM 0 k w 2 1 may nev 70 69 0 0 3000 (an0c 2 1) (an0N 2 1) P b A τ θ ∧ anE kM 1 k w 2 1 may nev 70 69 0 0 3000 (an1c 2 1) (an1N 2 1) P b A τ θ := by
  intro k w may nev P b A τ θ
  obtain ⟨b1, b2⟩ := b
  refine ⟨?_, ?_⟩ <;> kernel_rfl
theorem gA_22 : ∀ (k w : Nat) (may nev : Str) (P : Params) (b : Bool × Bool) (A τ θ : Nat → Nat), anE kM 0 k w 2 2 may nev 70 69 0 0 3000 (an0c 2 2) (an0N 2 2) P b A τ θ ∧ anE kM 2 k w 2 2 may nev 70 69 0 0 3000 (an2c 2) (an2N 2) P b A τ θ ∧ anE kM 3 k w 2 2 may nev 70 69 0 0 3000 (an3c 2) (an3N 2) P b A τ θ ∧ anE kM 4 k w 2 2 may nev 70 61 0 0 3000 (an4c 2) (an4N 2) P b A τ θ := by
  intro k w may nev P b A τ θ
  obtain ⟨b1, b2⟩ := b
  refine ⟨?_, ?_, ?_, ?_⟩ <;> kernel_rfl
theorem gA_23 : ∀ (k w : Nat) (may nev : Str) (P : Params) (b : Bool × Bool) (A τ θ : Nat → Nat), anE kM 0 k w 2 3 may nev 70 69 0 0 3000 (an0c 2 3) (an0N 2 3) P b A τ θ ∧ anE kM 1 k w 2 3 may nev 70 69 0 0 3000 (an1c 2 3) (an1N 2 3) P b A τ θ := by
  intro k w may nev P b A τ θ
  obtain ⟨b1, b2⟩ := b
  refine ⟨?_, ?_⟩ <;> kernel_rfl
theorem gA_30 : ∀ (k w : Nat) (may nev : Str) (P : Params) (b : Bool × Bool) (A τ θ : Nat → Nat), anE kM 0 k w 3 0 may nev 70 69 0 0 3000 (an0c 3 0) (an0N 3 0) P b A τ θ ∧ anE kM 1 k w 3 0 may nev 70 69 0 0 3000 (an1c 3 0) (an1N 3 0) P b A τ θ := by
  intro k w may nev P b A τ θ
  obtain ⟨b1, b2⟩ := b
  refine ⟨?_, ?_⟩ <;> kernel_rfl
theorem gA_31 : ∀ (k w : Nat) (may nev : Str) (P : Params) (b : Bool × Bool) (A τ θ : Nat → Nat), anE kM 0 k w 3 1 may nev 70 69 0 0 3000 (an0c 3 1) (an0N 3 1) P b A τ θ ∧ anE kM 1 k w 3 1 may nev 70 69 0 0 3000 (an1c 3 1) (an1N 3 1) P b A τ θ := by
  intro k w may nev P b A τ θ
  obtain ⟨b1, b2⟩ := b
  refine ⟨?_, ?_⟩ <;> kernel_rfl
theorem gA_32 : ∀ (k w : Nat) (may nev : Str) (P : Params) (b : Bool × Bool) (A τ θ : Nat → Nat), anE kM 0 k w 3 2 may nev 70 69 0 0 3000 (an0c 3 2) (an0N 3 2) P b A τ θ ∧ anE kM 1 k w 3 2 may nev 70 69 0 0 3000 (an1c 3 2) (an1N 3 2) P b A τ θ := by
  intro k w may nev P b A τ θ
  obtain ⟨b1, b2⟩ := b
  refine ⟨?_, ?_⟩ <;> kernel_rfl
theorem gA_33 : ∀ (k w : Nat) (may nev : Str) (P : Params) (b : Bool × Bool) (A τ θ : Nat → Nat), anE kM 0 k w 3 3 may nev 70 69 0 0 3000 (an0c 3 3) (an0N 3 3) P b A τ θ ∧ anE kM 2 k w 3 3 may nev 70 69 0 0 3000 (an2c 3) (an2N 3) P b A τ θ ∧ anE kM 3 k w 3 3 may nev 70 69 0 0 3000 (an3c 3) (an3N 3) P b A τ θ ∧ anE kM 4 k w 3 3 may nev 70 61 0 0 3000 (an4c 3) (an4N 3) P b A τ θ := by
  intro k w may nev P b A τ θ
  obtain ⟨b1, b2⟩ := b
  refine ⟨?_, ?_, ?_, ?_⟩ <;> kernel_rfl
theorem qA_fs_nm : ∀ k, vBL kM "re.Pattern.search" [.ref 48, .str (nmS k) 0] .none 11 2 0 := by
  refine thr3 ?_ ?_ (fun n => ?_) <;> (intro P b A τ θ; kernel_rfl)
theorem qA_fl_nm : ∀ k, vBL kM "str.lower" [.str (nmS k) 0] (.str authS 0) 6 0 0 := by
  refine thr3 ?_ ?_ (fun n => ?_) <;> (intro P b A τ θ; kernel_rfl)
theorem qA_fl_wd : ∀ w, vBL kM "str.lower" [.str (wdS w) 0] (.str (lwS w) 0) 6 0 0 := by
  refine thr3 ?_ ?_ (fun n => ?_) <;> (intro P b A τ θ; kernel_rfl)
theorem qA_fs_v : ∀ w u p, u < 4 → p < 4 → vBL kM "re.Pattern.search" [.ref 53, .str (vS w u p) 0] .none 10 2 0 := by
  refine thr3 ?_ ?_ (fun n => ?_) <;> (refine four2 ?_ ?_ ?_ ?_ ?_ ?_ ?_ ?_ ?_ ?_ ?_ ?_ ?_ ?_ ?_ ?_ <;> (intro P b A τ θ; kernel_rfl))
theorem qA_fp_v : ∀ w u p, u < 4 → p < 4 → nBL kM "str.split" [.str (vS w u p) 0, .str spS 0] lisV [.str (wdS w) 0, .str (txS u p) 0] 0 0 8 0 0 := by
  refine thr3 ?_ ?_ (fun n => ?_) <;> (refine four2 ?_ ?_ ?_ ?_ ?_ ?_ ?_ ?_ ?_ ?_ ?_ ?_ ?_ ?_ ?_ ?_ <;> (intro P b A τ θ; kernel_rfl))
theorem qA_fm : ∀ k w u p, u < 4 → p < 4 → sBL kM "str.__mod__" (fun a => [.str fmtS 0, .ref a]) tupV [.str (nmS k) 0, .str (vS w u p) 0] (.str (rowS k w u p) 0) 10 4 2113665 := by
  refine thr3 ?_ ?_ (fun n => ?_) <;> (refine thr3 ?_ ?_ (fun n' => ?_) <;> (refine four2 ?_ ?_ ?_ ?_ ?_ ?_ ?_ ?_ ?_ ?_ ?_ ?_ ?_ ?_ ?_ ?_ <;> (intro P b A τ θ θ' ep; kernel_rfl)))
theorem qA_fj : ∀ k w u p, u < 4 → p < 4 → sBL kM "str.join" (fun a => [.str nlS 0, .ref a]) lisV [.str (rowS k w u p) 0, .str wwwS 0, .str emS 0, .str emS 0] (.str (noS k w u p) 0) 8 2 129 := by
  refine thr3 ?_ ?_ (fun n => ?_) <;> (refine thr3 ?_ ?_ (fun n' => ?_) <;> (refine four2 ?_ ?_ ?_ ?_ ?_ ?_ ?_ ?_ ?_ ?_ ?_ ?_ ?_ ?_ ?_ ?_ <;> (intro P b A τ θ θ' ep; kernel_rfl)))
theorem qA_fk : ∀ k w u p, u < 4 → p < 4 → sBL kM "str.join" (fun a => [.str nlS 0, .ref a]) lisV [.str (rowS k w u p) 0, .str (cat xuS (usS u)) 0, .str emS 0, .str emS 0] (.str (okS k w u p) 0) 8 2 129 := by
  refine thr3 ?_ ?_ (fun n => ?_) <;> (refine thr3 ?_ ?_ (fun n' => ?_) <;> (refine four2 ?_ ?_ ?_ ?_ ?_ ?_ ?_ ?_ ?_ ?_ ?_ ?_ ?_ ?_ ?_ ?_ <;> (intro P b A τ θ θ' ep; kernel_rfl)))
theorem qA_fd_00 : vPL kM 269 [.str (txS 0 0) 0] (.bytes (ocT 0 0) 0) 3000 (dNc 0 0) (dN 0 0) := by
  (intro P b A τ θ; obtain ⟨b1, b2⟩ := b; kernel_rfl)
theorem qA_fd_01 : vPL kM 269 [.str (txS 0 1) 0] (.bytes (ocT 0 1) 0) 3000 (dNc 0 1) (dN 0 1) := by
  (intro P b A τ θ; obtain ⟨b1, b2⟩ := b; kernel_rfl)
theorem qA_fd_02 : vPL kM 269 [.str (txS 0 2) 0] (.bytes (ocT 0 2) 0) 3000 (dNc 0 2) (dN 0 2) := by
  (intro P b A τ θ; obtain ⟨b1, b2⟩ := b; kernel_rfl)
theorem qA_fd_03 : vPL kM 269 [.str (txS 0 3) 0] (.bytes (ocT 0 3) 0) 3000 (dNc 0 3) (dN 0 3) := by
  (intro P b A τ θ; obtain ⟨b1, b2⟩ := b; kernel_rfl)
theorem qA_fd_10 : vPL kM 269 [.str (txS 1 0) 0] (.bytes (ocT 1 0) 0) 3000 (dNc 1 0) (dN 1 0) := by
  (intro P b A τ θ; obtain ⟨b1, b2⟩ := b; kernel_rfl)
theorem qA_fd_11 : vPL kM 269 [.str (txS 1 1) 0] (.bytes (ocT 1 1) 0) 3000 (dNc 1 1) (dN 1 1) := by
  (intro P b A τ θ; obtain ⟨b1, b2⟩ := b; kernel_rfl)
theorem qA_fd_12 : vPL kM 269 [.str (txS 1 2) 0] (.bytes (ocT 1 2) 0) 3000 (dNc 1 2) (dN 1 2) := by
  (intro P b A τ θ; obtain ⟨b1, b2⟩ := b; kernel_rfl)
theorem qA_fd_13 : vPL kM 269 [.str (txS 1 3) 0] (.bytes (ocT 1 3) 0) 3000 (dNc 1 3) (dN 1 3) := by
  (intro P b A τ θ; obtain ⟨b1, b2⟩ := b; kernel_rfl)
theorem qA_fd_20 : vPL kM 269 [.str (txS 2 0) 0] (.bytes (ocT 2 0) 0) 3000 (dNc 2 0) (dN 2 0) := by
  (intro P b A τ θ; obtain ⟨b1, b2⟩ := b; kernel_rfl)
theorem qA_fd_21 : vPL kM 269 [.str (txS 2 1) 0] (.bytes (ocT 2 1) 0) 3000 (dNc 2 1) (dN 2 1) := by
  (intro P b A τ θ; obtain ⟨b1, b2⟩ := b; kernel_rfl)
theorem qA_fd_22 : vPL kM 269 [.str (txS 2 2) 0] (.bytes (ocT 2 2) 0) 3000 (dNc 2 2) (dN 2 2) := by
  (intro P b A τ θ; obtain ⟨b1, b2⟩ := b; kernel_rfl)
theorem qA_fd_23 : vPL kM 269 [.str (txS 2 3) 0] (.bytes (ocT 2 3) 0) 3000 (dNc 2 3) (dN 2 3) := by
  (intro P b A τ θ; obtain ⟨b1, b2⟩ := b; kernel_rfl)
theorem qA_fd_30 : vPL kM 269 [.str (txS 3 0) 0] (.bytes (ocT 3 0) 0) 3000 (dNc 3 0) (dN 3 0) := by
  (intro P b A τ θ; obtain ⟨b1, b2⟩ := b; kernel_rfl)
theorem qA_fd_31 : vPL kM 269 [.str (txS 3 1) 0] (.bytes (ocT 3 1) 0) 3000 (dNc 3 1) (dN 3 1) := by
  (intro P b A τ θ; obtain ⟨b1, b2⟩ := b; kernel_rfl)
theorem qA_fd_32 : vPL kM 269 [.str (txS 3 2) 0] (.bytes (ocT 3 2) 0) 3000 (dNc 3 2) (dN 3 2) := by
  (intro P b A τ θ; obtain ⟨b1, b2⟩ := b; kernel_rfl)
theorem qA_fd_33 : vPL kM 269 [.str (txS 3 3) 0] (.bytes (ocT 3 3) 0) 3000 (dNc 3 3) (dN 3 3) := by
  (intro P b A τ θ; obtain ⟨b1, b2⟩ := b; kernel_rfl)
theorem qA_fd : ∀ u p, u < 4 → p < 4 → vPL kM 269 [.str (txS u p) 0] (.bytes (ocT u p) 0) 3000 (dNc u p) (dN u p) := by
  refine four2 ?_ ?_ ?_ ?_ ?_ ?_ ?_ ?_ ?_ ?_ ?_ ?_ ?_ ?_ ?_ ?_
  exact qA_fd_00; exact qA_fd_01; exact qA_fd_02; exact qA_fd_03; exact qA_fd_10; exact qA_fd_11; exact qA_fd_12; exact qA_fd_13; exact qA_fd_20; exact qA_fd_21; exact qA_fd_22; exact qA_fd_23; exact qA_fd_30; exact qA_fd_31; exact qA_fd_32; exact qA_fd_33
theorem qA_fpa : vPLF kM fpF 61 [.str reS 0, .str rlA 0] (.str fpA 0) 120 37 7293989873213489960835543069156514019615030350865417017539177589150356340736 := by
  (intro P b A τ θ; obtain ⟨b1, b2⟩ := b; cases b2 <;> kernel_rfl)
theorem qA_fpb : vPLF kM fpF 61 [.str chS 0, .str utS 0] (.str fpB 0) 120 33 27172229610549429820171808009939002923526099789118746191808532840448 := by
  (intro P b A τ θ; obtain ⟨b1, b2⟩ := b; cases b2 <;> kernel_rfl)
theorem qA_an0 : ∀ k may nev u p, u < 4 → p < 4 → anL kM 0 k 2 u p may nev 70 69 0 0 3000 (an0c u p) (an0N u p) := by
  refine fun k may nev => four2 ?_ ?_ ?_ ?_ ?_ ?_ ?_ ?_ ?_ ?_ ?_ ?_ ?_ ?_ ?_ ?_
  exact (fun P b A τ θ => (gA_00 k 2 may nev P b A τ θ).1); exact (fun P b A τ θ => (gA_01 k 2 may nev P b A τ θ).1); exact (fun P b A τ θ => (gA_02 k 2 may nev P b A τ θ).1); exact (fun P b A τ θ => (gA_03 k 2 may nev P b A τ θ).1); exact (fun P b A τ θ => (gA_10 k 2 may nev P b A τ θ).1); exact (fun P b A τ θ => (gA_11 k 2 may nev P b A τ θ).1); exact (fun P b A τ θ => (gA_12 k 2 may nev P b A τ θ).1); exact (fun P b A τ θ => (gA_13 k 2 may nev P b A τ θ).1); exact (fun P b A τ θ => (gA_20 k 2 may nev P b A τ θ).1); exact (fun P b A τ θ => (gA_21 k 2 may nev P b A τ θ).1); exact (fun P b A τ θ => (gA_22 k 2 may nev P b A τ θ).1); exact (fun P b A τ θ => (gA_23 k 2 may nev P b A τ θ).1); exact (fun P b A τ θ => (gA_30 k 2 may nev P b A τ θ).1); exact (fun P b A τ θ => (gA_31 k 2 may nev P b A τ θ).1); exact (fun P b A τ θ => (gA_32 k 2 may nev P b A τ θ).1); exact (fun P b A τ θ => (gA_33 k 2 may nev P b A τ θ).1)
theorem qA_an1 : ∀ k w may nev u p, u < 4 → p < 4 → u ≠ p → anL kM 1 k w u p may nev 70 69 0 0 3000 (an1c u p) (an1N u p) := by
  refine fun k w may nev => four2n ?_ ?_ ?_ ?_ ?_ ?_ ?_ ?_ ?_ ?_ ?_ ?_
  exact (fun P b A τ θ => (gA_01 k w may nev P b A τ θ).2); exact (fun P b A τ θ => (gA_02 k w may nev P b A τ θ).2); exact (fun P b A τ θ => (gA_03 k w may nev P b A τ θ).2); exact (fun P b A τ θ => (gA_10 k w may nev P b A τ θ).2); exact (fun P b A τ θ => (gA_12 k w may nev P b A τ θ).2); exact (fun P b A τ θ => (gA_13 k w may nev P b A τ θ).2); exact (fun P b A τ θ => (gA_20 k w may nev P b A τ θ).2); exact (fun P b A τ θ => (gA_21 k w may nev P b A τ θ).2); exact (fun P b A τ θ => (gA_23 k w may nev P b A τ θ).2); exact (fun P b A τ θ => (gA_30 k w may nev P b A τ θ).2); exact (fun P b A τ θ => (gA_31 k w may nev P b A τ θ).2); exact (fun P b A τ θ => (gA_32 k w may nev P b A τ θ).2)
theorem qA_an2 : ∀ k w may nev u, u < 4 → anL kM 2 k w u u may nev 70 69 0 0 3000 (an2c u) (an2N u) := by
  refine fun k w may nev => four ?_ ?_ ?_ ?_
  exact (fun P b A τ θ => (gA_00 k w may nev P b A τ θ).2.1); exact (fun P b A τ θ => (gA_11 k w may nev P b A τ θ).2.1); exact (fun P b A τ θ => (gA_22 k w may nev P b A τ θ).2.1); exact (fun P b A τ θ => (gA_33 k w may nev P b A τ θ).2.1)
theorem qA_an3 : ∀ k w may nev u, u < 4 → anL kM 3 k w u u may nev 70 69 0 0 3000 (an3c u) (an3N u) := by
  refine fun k w may nev => four ?_ ?_ ?_ ?_
  exact (fun P b A τ θ => (gA_00 k w may nev P b A τ θ).2.2.1); exact (fun P b A τ θ => (gA_11 k w may nev P b A τ θ).2.2.1); exact (fun P b A τ θ => (gA_22 k w may nev P b A τ θ).2.2.1); exact (fun P b A τ θ => (gA_33 k w may nev P b A τ θ).2.2.1)
theorem qA_an4 : ∀ k w may nev u, u < 4 → anL kM 4 k w u u may nev 70 61 0 0 3000 (an4c u) (an4N u) := by
  refine fun k w may nev => four ?_ ?_ ?_ ?_
  exact (fun P b A τ θ => (gA_00 k w may nev P b A τ θ).2.2.2); exact (fun P b A τ θ => (gA_11 k w may nev P b A τ θ).2.2.2); exact (fun P b A τ θ => (gA_22 k w may nev P b A τ θ).2.2.2); exact (fun P b A τ θ => (gA_33 k w may nev P b A τ θ).2.2.2)
theorem lvA : LvA kM := ⟨qA_fs_nm, qA_fl_nm, qA_fl_wd, qA_fs_v, qA_fp_v, qA_fm, qA_fj, qA_fk, qA_fd, qA_fpa, qA_fpb, qA_an0, qA_an1, qA_an2, qA_an3, qA_an4⟩
theorem qB_va1 : ∀ w, vBL kM "str.__add__" [.str (wdS w) 0, .str spS 0] (.str (cat (wdS w) spS) 0) 50 0 0 := by
  refine thr3 ?_ ?_ (fun n => ?_) <;> (intro P b A τ θ; kernel_rfl)
theorem qB_va2 : ∀ w u p, u < 4 → p < 4 → vBL kM "str.__add__" [.str (cat (wdS w) spS) 0, .str (txS u p) 0] (.str (vS w u p) 0) 50 0 0 := by
  refine thr3 ?_ ?_ (fun n => ?_) <;> (refine four2 ?_ ?_ ?_ ?_ ?_ ?_ ?_ ?_ ?_ ?_ ?_ ?_ ?_ ?_ ?_ ?_ <;> (intro P b A τ θ; kernel_rfl))
theorem qB_va_00 : ∀ w, vPLF kM (vaF w 0 0) 338 [.str (wdS w) 0, .int (Int.ofNat 0) 0, .int (Int.ofNat 0) 0] (.str (vS w 0 0) 0) 3100 (vaN 0 0).1 (vaN 0 0).2 := by
  (intro w; intro P b A τ θ; obtain ⟨b1, b2⟩ := b; kernel_rfl)
theorem qB_va_01 : ∀ w, vPLF kM (vaF w 0 1) 338 [.str (wdS w) 0, .int (Int.ofNat 0) 0, .int (Int.ofNat 1) 0] (.str (vS w 0 1) 0) 3100 (vaN 0 1).1 (vaN 0 1).2 := by
  (intro w; intro P b A τ θ; obtain ⟨b1, b2⟩ := b; kernel_rfl)
theorem qB_va_02 : ∀ w, vPLF kM (vaF w 0 2) 338 [.str (wdS w) 0, .int (Int.ofNat 0) 0, .int (Int.ofNat 2) 0] (.str (vS w 0 2) 0) 3100 (vaN 0 2).1 (vaN 0 2).2 := by
  (intro w; intro P b A τ θ; obtain ⟨b1, b2⟩ := b; kernel_rfl)
theorem qB_va_03 : ∀ w, vPLF kM (vaF w 0 3) 338 [.str (wdS w) 0, .int (Int.ofNat 0) 0, .int (Int.ofNat 3) 0] (.str (vS w 0 3) 0) 3100 (vaN 0 3).1 (vaN 0 3).2 := by
  (intro w; intro P b A τ θ; obtain ⟨b1, b2⟩ := b; kernel_rfl)
theorem qB_va_10 : ∀ w, vPLF kM (vaF w 1 0) 338 [.str (wdS w) 0, .int (Int.ofNat 1) 0, .int (Int.ofNat 0) 0] (.str (vS w 1 0) 0) 3100 (vaN 1 0).1 (vaN 1 0).2 := by
  (intro w; intro P b A τ θ; obtain ⟨b1, b2⟩ := b; kernel_rfl)
theorem qB_va_11 : ∀ w, vPLF kM (vaF w 1 1) 338 [.str (wdS w) 0, .int (Int.ofNat 1) 0, .int (Int.ofNat 1) 0] (.str (vS w 1 1) 0) 3100 (vaN 1 1).1 (vaN 1 1).2 := by
  (intro w; intro P b A τ θ; obtain ⟨b1, b2⟩ := b; kernel_rfl)
theorem qB_va_12 : ∀ w, vPLF kM (vaF w 1 2) 338 [.str (wdS w) 0, .int (Int.ofNat 1) 0, .int (Int.ofNat 2) 0] (.str (vS w 1 2) 0) 3100 (vaN 1 2).1 (vaN 1 2).2 := by
  (intro w; intro P b A τ θ; obtain ⟨b1, b2⟩ := b; kernel_rfl)
theorem qB_va_13 : ∀ w, vPLF kM (vaF w 1 3) 338 [.str (wdS w) 0, .int (Int.ofNat 1) 0, .int (Int.ofNat 3) 0] (.str (vS w 1 3) 0) 3100 (vaN 1 3).1 (vaN 1 3).2 := by
  (intro w; intro P b A τ θ; obtain ⟨b1, b2⟩ := b; kernel_rfl)
theorem qB_va_20 : ∀ w, vPLF kM (vaF w 2 0) 338 [.str (wdS w) 0, .int (Int.ofNat 2) 0, .int (Int.ofNat 0) 0] (.str (vS w 2 0) 0) 3100 (vaN 2 0).1 (vaN 2 0).2 := by
  (intro w; intro P b A τ θ; obtain ⟨b1, b2⟩ := b; kernel_rfl)
theorem qB_va_21 : ∀ w, vPLF kM (vaF w 2 1) 338 [.str (wdS w) 0, .int (Int.ofNat 2) 0, .int (Int.ofNat 1) 0] (.str (vS w 2 1) 0) 3100 (vaN 2 1).1 (vaN 2 1).2 := by
  (intro w; intro P b A τ θ; obtain ⟨b1, b2⟩ := b; kernel_rfl)
theorem qB_va_22 : ∀ w, vPLF kM (vaF w 2 2) 338 [.str (wdS w) 0, .int (Int.ofNat 2) 0, .int (Int.ofNat 2) 0] (.str (vS w 2 2) 0) 3100 (vaN 2 2).1 (vaN 2 2).2 := by
  (intro w; intro P b A τ θ; obtain ⟨b1, b2⟩ := b; kernel_rfl)
theorem qB_va_23 : ∀ w, vPLF kM (vaF w 2 3) 338 [.str (wdS w) 0, .int (Int.ofNat 2) 0, .int (Int.ofNat 3) 0] (.str (vS w 2 3) 0) 3100 (vaN 2 3).1 (vaN 2 3).2 := by
  (intro w; intro P b A τ θ; obtain ⟨b1, b2⟩ := b; kernel_rfl)
theorem qB_va_30 : ∀ w, vPLF kM (vaF w 3 0) 338 [.str (wdS w) 0, .int (Int.ofNat 3) 0, .int (Int.ofNat 0) 0] (.str (vS w 3 0) 0) 3100 (vaN 3 0).1 (vaN 3 0).2 := by
  (intro w; intro P b A τ θ; obtain ⟨b1, b2⟩ := b; kernel_rfl)
theorem qB_va_31 : ∀ w, vPLF kM (vaF w 3 1) 338 [.str (wdS w) 0, .int (Int.ofNat 3) 0, .int (Int.ofNat 1) 0] (.str (vS w 3 1) 0) 3100 (vaN 3 1).1 (vaN 3 1).2 := by
  (intro w; intro P b A τ θ; obtain ⟨b1, b2⟩ := b; kernel_rfl)
theorem qB_va_32 : ∀ w, vPLF kM (vaF w 3 2) 338 [.str (wdS w) 0, .int (Int.ofNat 3) 0, .int (Int.ofNat 2) 0] (.str (vS w 3 2) 0) 3100 (vaN 3 2).1 (vaN 3 2).2 := by
  (intro w; intro P b A τ θ; obtain ⟨b1, b2⟩ := b; kernel_rfl)
theorem qB_va_33 : ∀ w, vPLF kM (vaF w 3 3) 338 [.str (wdS w) 0, .int (Int.ofNat 3) 0, .int (Int.ofNat 3) 0] (.str (vS w 3 3) 0) 3100 (vaN 3 3).1 (vaN 3 3).2 := by
  (intro w; intro P b A τ θ; obtain ⟨b1, b2⟩ := b; kernel_rfl)
theorem qB_va : ∀ w u p, u < 4 → p < 4 → vPLF kM (vaF w u p) 338 [.str (wdS w) 0, .int (Int.ofNat u) 0, .int (Int.ofNat p) 0] (.str (vS w u p) 0) 3100 (vaN u p).1 (vaN u p).2 := by
  refine fun w => four2 ?_ ?_ ?_ ?_ ?_ ?_ ?_ ?_ ?_ ?_ ?_ ?_ ?_ ?_ ?_ ?_
  exact (qB_va_00 w); exact (qB_va_01 w); exact (qB_va_02 w); exact (qB_va_03 w); exact (qB_va_10 w); exact (qB_va_11 w); exact (qB_va_12 w); exact (qB_va_13 w); exact (qB_va_20 w); exact (qB_va_21 w); exact (qB_va_22 w); exact (qB_va_23 w); exact (qB_va_30 w); exact (qB_va_31 w); exact (qB_va_32 w); exact (qB_va_33 w)
theorem qB_bi_00 : sPL kM 348 (fun a => [.ref a]) lisV (octV 0 0) (.str (txS 0 0) 0) 2600 (biN 0 0).1 (biN 0 0).2 := by
  (intro P b A τ θ θ' ep; obtain ⟨b1, b2⟩ := b; kernel_rfl)
theorem qB_bi_01 : sPL kM 348 (fun a => [.ref a]) lisV (octV 0 1) (.str (txS 0 1) 0) 2600 (biN 0 1).1 (biN 0 1).2 := by
  (intro P b A τ θ θ' ep; obtain ⟨b1, b2⟩ := b; kernel_rfl)
theorem qB_bi_02 : sPL kM 348 (fun a => [.ref a]) lisV (octV 0 2) (.str (txS 0 2) 0) 2600 (biN 0 2).1 (biN 0 2).2 := by
  (intro P b A τ θ θ' ep; obtain ⟨b1, b2⟩ := b; kernel_rfl)
theorem qB_bi_03 : sPL kM 348 (fun a => [.ref a]) lisV (octV 0 3) (.str (txS 0 3) 0) 2600 (biN 0 3).1 (biN 0 3).2 := by
  (intro P b A τ θ θ' ep; obtain ⟨b1, b2⟩ := b; kernel_rfl)
theorem qB_bi_10 : sPL kM 348 (fun a => [.ref a]) lisV (octV 1 0) (.str (txS 1 0) 0) 2600 (biN 1 0).1 (biN 1 0).2 := by
  (intro P b A τ θ θ' ep; obtain ⟨b1, b2⟩ := b; kernel_rfl)
theorem qB_bi_11 : sPL kM 348 (fun a => [.ref a]) lisV (octV 1 1) (.str (txS 1 1) 0) 2600 (biN 1 1).1 (biN 1 1).2 := by
  (intro P b A τ θ θ' ep; obtain ⟨b1, b2⟩ := b; kernel_rfl)
theorem qB_bi_12 : sPL kM 348 (fun a => [.ref a]) lisV (octV 1 2) (.str (txS 1 2) 0) 2600 (biN 1 2).1 (biN 1 2).2 := by
  (intro P b A τ θ θ' ep; obtain ⟨b1, b2⟩ := b; kernel_rfl)
theorem qB_bi_13 : sPL kM 348 (fun a => [.ref a]) lisV (octV 1 3) (.str (txS 1 3) 0) 2600 (biN 1 3).1 (biN 1 3).2 := by
  (intro P b A τ θ θ' ep; obtain ⟨b1, b2⟩ := b; kernel_rfl)
theorem qB_bi_20 : sPL kM 348 (fun a => [.ref a]) lisV (octV 2 0) (.str (txS 2 0) 0) 2600 (biN 2 0).1 (biN 2 0).2 := by
  (intro P b A τ θ θ' ep; obtain ⟨b1, b2⟩ := b; kernel_rfl)
theorem qB_bi_21 : sPL kM 348 (fun a => [.ref a]) lisV (octV 2 1) (.str (txS 2 1) 0) 2600 (biN 2 1).1 (biN 2 1).2 := by
  (intro P b A τ θ θ' ep; obtain ⟨b1, b2⟩ := b; kernel_rfl)
theorem qB_bi_22 : sPL kM 348 (fun a => [.ref a]) lisV (octV 2 2) (.str (txS 2 2) 0) 2600 (biN 2 2).1 (biN 2 2).2 := by
  (intro P b A τ θ θ' ep; obtain ⟨b1, b2⟩ := b; kernel_rfl)
theorem qB_bi_23 : sPL kM 348 (fun a => [.ref a]) lisV (octV 2 3) (.str (txS 2 3) 0) 2600 (biN 2 3).1 (biN 2 3).2 := by
  (intro P b A τ θ θ' ep; obtain ⟨b1, b2⟩ := b; kernel_rfl)
theorem qB_bi_30 : sPL kM 348 (fun a => [.ref a]) lisV (octV 3 0) (.str (txS 3 0) 0) 2600 (biN 3 0).1 (biN 3 0).2 := by
  (intro P b A τ θ θ' ep; obtain ⟨b1, b2⟩ := b; kernel_rfl)
theorem qB_bi_31 : sPL kM 348 (fun a => [.ref a]) lisV (octV 3 1) (.str (txS 3 1) 0) 2600 (biN 3 1).1 (biN 3 1).2 := by
  (intro P b A τ θ θ' ep; obtain ⟨b1, b2⟩ := b; kernel_rfl)
theorem qB_bi_32 : sPL kM 348 (fun a => [.ref a]) lisV (octV 3 2) (.str (txS 3 2) 0) 2600 (biN 3 2).1 (biN 3 2).2 := by
  (intro P b A τ θ θ' ep; obtain ⟨b1, b2⟩ := b; kernel_rfl)
theorem qB_bi_33 : sPL kM 348 (fun a => [.ref a]) lisV (octV 3 3) (.str (txS 3 3) 0) 2600 (biN 3 3).1 (biN 3 3).2 := by
  (intro P b A τ θ θ' ep; obtain ⟨b1, b2⟩ := b; kernel_rfl)
theorem qB_bi : ∀ u p, u < 4 → p < 4 → sPL kM 348 (fun a => [.ref a]) lisV (octV u p) (.str (txS u p) 0) 2600 (biN u p).1 (biN u p).2 := by
  refine four2 ?_ ?_ ?_ ?_ ?_ ?_ ?_ ?_ ?_ ?_ ?_ ?_ ?_ ?_ ?_ ?_
  exact qB_bi_00; exact qB_bi_01; exact qB_bi_02; exact qB_bi_03; exact qB_bi_10; exact qB_bi_11; exact qB_bi_12; exact qB_bi_13; exact qB_bi_20; exact qB_bi_21; exact qB_bi_22; exact qB_bi_23; exact qB_bi_30; exact qB_bi_31; exact qB_bi_32; exact qB_bi_33
theorem lvB : LvB kM := ⟨qB_va1, qB_va2, qB_va, qB_bi⟩
theorem qC_td0_00 : ∀ k, tdL kM 0 k 2 0 0 17 16 800 (td0N 0 0).1 (td0N 0 0).2 := by
  (intro k; intro P b A τ θ θ₁ L0 L1 e0 e1 e2; obtain ⟨b1, b2⟩ := b; kernel_rfl)
theorem qC_td0_01 : ∀ k, tdL kM 0 k 2 0 1 17 16 800 (td0N 0 1).1 (td0N 0 1).2 := by
  (intro k; intro P b A τ θ θ₁ L0 L1 e0 e1 e2; obtain ⟨b1, b2⟩ := b; kernel_rfl)
theorem qC_td0_02 : ∀ k, tdL kM 0 k 2 0 2 17 16 800 (td0N 0 2).1 (td0N 0 2).2 := by
  (intro k; intro P b A τ θ θ₁ L0 L1 e0 e1 e2; obtain ⟨b1, b2⟩ := b; kernel_rfl)
theorem qC_td0_03 : ∀ k, tdL kM 0 k 2 0 3 17 16 800 (td0N 0 3).1 (td0N 0 3).2 := by
  (intro k; intro P b A τ θ θ₁ L0 L1 e0 e1 e2; obtain ⟨b1, b2⟩ := b; kernel_rfl)
theorem qC_td0_10 : ∀ k, tdL kM 0 k 2 1 0 17 16 800 (td0N 1 0).1 (td0N 1 0).2 := by
  (intro k; intro P b A τ θ θ₁ L0 L1 e0 e1 e2; obtain ⟨b1, b2⟩ := b; kernel_rfl)
theorem qC_td0_11 : ∀ k, tdL kM 0 k 2 1 1 17 16 800 (td0N 1 1).1 (td0N 1 1).2 := by
  (intro k; intro P b A τ θ θ₁ L0 L1 e0 e1 e2; obtain ⟨b1, b2⟩ := b; kernel_rfl)
theorem qC_td0_12 : ∀ k, tdL kM 0 k 2 1 2 17 16 800 (td0N 1 2).1 (td0N 1 2).2 := by
  (intro k; intro P b A τ θ θ₁ L0 L1 e0 e1 e2; obtain ⟨b1, b2⟩ := b; kernel_rfl)
theorem qC_td0_13 : ∀ k, tdL kM 0 k 2 1 3 17 16 800 (td0N 1 3).1 (td0N 1 3).2 := by
  (intro k; intro P b A τ θ θ₁ L0 L1 e0 e1 e2; obtain ⟨b1, b2⟩ := b; kernel_rfl)
theorem qC_td0_20 : ∀ k, tdL kM 0 k 2 2 0 17 16 800 (td0N 2 0).1 (td0N 2 0).2 := by
  (intro k; intro P b A τ θ θ₁ L0 L1 e0 e1 e2; obtain ⟨b1, b2⟩ := b; kernel_rfl)
theorem qC_td0_21 : ∀ k, tdL kM 0 k 2 2 1 17 16 800 (td0N 2 1).1 (td0N 2 1).2 := by
  (intro k; intro P b A τ θ θ₁ L0 L1 e0 e1 e2; obtain ⟨b1, b2⟩ := b; kernel_rfl)
theorem qC_td0_22 : ∀ k, tdL kM 0 k 2 2 2 17 16 800 (td0N 2 2).1 (td0N 2 2).2 := by
  (intro k; intro P b A τ θ θ₁ L0 L1 e0 e1 e2; obtain ⟨b1, b2⟩ := b; kernel_rfl)
theorem qC_td0_23 : ∀ k, tdL kM 0 k 2 2 3 17 16 800 (td0N 2 3).1 (td0N 2 3).2 := by
  (intro k; intro P b A τ θ θ₁ L0 L1 e0 e1 e2; obtain ⟨b1, b2⟩ := b; kernel_rfl)
theorem qC_td0_30 : ∀ k, tdL kM 0 k 2 3 0 17 16 800 (td0N 3 0).1 (td0N 3 0).2 := by
  (intro k; intro P b A τ θ θ₁ L0 L1 e0 e1 e2; obtain ⟨b1, b2⟩ := b; kernel_rfl)
theorem qC_td0_31 : ∀ k, tdL kM 0 k 2 3 1 17 16 800 (td0N 3 1).1 (td0N 3 1).2 := by
  (intro k; intro P b A τ θ θ₁ L0 L1 e0 e1 e2; obtain ⟨b1, b2⟩ := b; kernel_rfl)
theorem qC_td0_32 : ∀ k, tdL kM 0 k 2 3 2 17 16 800 (td0N 3 2).1 (td0N 3 2).2 := by
  (intro k; intro P b A τ θ θ₁ L0 L1 e0 e1 e2; obtain ⟨b1, b2⟩ := b; kernel_rfl)
theorem qC_td0_33 : ∀ k, tdL kM 0 k 2 3 3 17 16 800 (td0N 3 3).1 (td0N 3 3).2 := by
  (intro k; intro P b A τ θ θ₁ L0 L1 e0 e1 e2; obtain ⟨b1, b2⟩ := b; kernel_rfl)
theorem qC_td0 : ∀ k u p, u < 4 → p < 4 → tdL kM 0 k 2 u p 17 16 800 (td0N u p).1 (td0N u p).2 := by
  refine fun k => four2 ?_ ?_ ?_ ?_ ?_ ?_ ?_ ?_ ?_ ?_ ?_ ?_ ?_ ?_ ?_ ?_
  exact (qC_td0_00 k); exact (qC_td0_01 k); exact (qC_td0_02 k); exact (qC_td0_03 k); exact (qC_td0_10 k); exact (qC_td0_11 k); exact (qC_td0_12 k); exact (qC_td0_13 k); exact (qC_td0_20 k); exact (qC_td0_21 k); exact (qC_td0_22 k); exact (qC_td0_23 k); exact (qC_td0_30 k); exact (qC_td0_31 k); exact (qC_td0_32 k); exact (qC_td0_33 k)
theorem qC_td1_01 : ∀ k w, tdL kM 1 k w 0 1 17 16 800 (td1N 0 1).1 (td1N 0 1).2 := by
  (intro k w; intro P b A τ θ θ₁ L0 L1 e0 e1 e2; obtain ⟨b1, b2⟩ := b; kernel_rfl)
theorem qC_td1_02 : ∀ k w, tdL kM 1 k w 0 2 17 16 800 (td1N 0 2).1 (td1N 0 2).2 := by
  (intro k w; intro P b A τ θ θ₁ L0 L1 e0 e1 e2; obtain ⟨b1, b2⟩ := b; kernel_rfl)
theorem qC_td1_03 : ∀ k w, tdL kM 1 k w 0 3 17 16 800 (td1N 0 3).1 (td1N 0 3).2 := by
  (intro k w; intro P b A τ θ θ₁ L0 L1 e0 e1 e2; obtain ⟨b1, b2⟩ := b; kernel_rfl)
theorem qC_td1_10 : ∀ k w, tdL kM 1 k w 1 0 17 16 800 (td1N 1 0).1 (td1N 1 0).2 := by
  (intro k w; intro P b A τ θ θ₁ L0 L1 e0 e1 e2; obtain ⟨b1, b2⟩ := b; kernel_rfl)
theorem qC_td1_12 : ∀ k w, tdL kM 1 k w 1 2 17 16 800 (td1N 1 2).1 (td1N 1 2).2 := by
  (intro k w; intro P b A τ θ θ₁ L0 L1 e0 e1 e2; obtain ⟨b1, b2⟩ := b; kernel_rfl)
theorem qC_td1_13 : ∀ k w, tdL kM 1 k w 1 3 17 16 800 (td1N 1 3).1 (td1N 1 3).2 := by
  (intro k w; intro P b A τ θ θ₁ L0 L1 e0 e1 e2; obtain ⟨b1, b2⟩ := b; kernel_rfl)
theorem qC_td1_20 : ∀ k w, tdL kM 1 k w 2 0 17 16 800 (td1N 2 0).1 (td1N 2 0).2 := by
  (intro k w; intro P b A τ θ θ₁ L0 L1 e0 e1 e2; obtain ⟨b1, b2⟩ := b; kernel_rfl)
theorem qC_td1_21 : ∀ k w, tdL kM 1 k w 2 1 17 16 800 (td1N 2 1).1 (td1N 2 1).2 := by
  (intro k w; intro P b A τ θ θ₁ L0 L1 e0 e1 e2; obtain ⟨b1, b2⟩ := b; kernel_rfl)
theorem qC_td1_23 : ∀ k w, tdL kM 1 k w 2 3 17 16 800 (td1N 2 3).1 (td1N 2 3).2 := by
  (intro k w; intro P b A τ θ θ₁ L0 L1 e0 e1 e2; obtain ⟨b1, b2⟩ := b; kernel_rfl)
theorem qC_td1_30 : ∀ k w, tdL kM 1 k w 3 0 17 16 800 (td1N 3 0).1 (td1N 3 0).2 := by
  (intro k w; intro P b A τ θ θ₁ L0 L1 e0 e1 e2; obtain ⟨b1, b2⟩ := b; kernel_rfl)
theorem qC_td1_31 : ∀ k w, tdL kM 1 k w 3 1 17 16 800 (td1N 3 1).1 (td1N 3 1).2 := by
  (intro k w; intro P b A τ θ θ₁ L0 L1 e0 e1 e2; obtain ⟨b1, b2⟩ := b; kernel_rfl)
theorem qC_td1_32 : ∀ k w, tdL kM 1 k w 3 2 17 16 800 (td1N 3 2).1 (td1N 3 2).2 := by
  (intro k w; intro P b A τ θ θ₁ L0 L1 e0 e1 e2; obtain ⟨b1, b2⟩ := b; kernel_rfl)
theorem qC_td1 : ∀ k w u p, u < 4 → p < 4 → u ≠ p → tdL kM 1 k w u p 17 16 800 (td1N u p).1 (td1N u p).2 := by
  refine fun k w => four2n ?_ ?_ ?_ ?_ ?_ ?_ ?_ ?_ ?_ ?_ ?_ ?_
  exact (qC_td1_01 k w); exact (qC_td1_02 k w); exact (qC_td1_03 k w); exact (qC_td1_10 k w); exact (qC_td1_12 k w); exact (qC_td1_13 k w); exact (qC_td1_20 k w); exact (qC_td1_21 k w); exact (qC_td1_23 k w); exact (qC_td1_30 k w); exact (qC_td1_31 k w); exact (qC_td1_32 k w)
theorem qC_td2_0 : ∀ k w, tdL kM 2 k w 0 0 19 18 800 (td2N 0).1 (td2N 0).2 := by
  (intro k w; intro P b A τ θ θ₁ L0 L1 e0 e1 e2; obtain ⟨b1, b2⟩ := b; kernel_rfl)
theorem qC_td2_1 : ∀ k w, tdL kM 2 k w 1 1 19 18 800 (td2N 1).1 (td2N 1).2 := by
  (intro k w; intro P b A τ θ θ₁ L0 L1 e0 e1 e2; obtain ⟨b1, b2⟩ := b; kernel_rfl)
theorem qC_td2_2 : ∀ k w, tdL kM 2 k w 2 2 19 18 800 (td2N 2).1 (td2N 2).2 := by
  (intro k w; intro P b A τ θ θ₁ L0 L1 e0 e1 e2; obtain ⟨b1, b2⟩ := b; kernel_rfl)
theorem qC_td2_3 : ∀ k w, tdL kM 2 k w 3 3 19 18 800 (td2N 3).1 (td2N 3).2 := by
  (intro k w; intro P b A τ θ θ₁ L0 L1 e0 e1 e2; obtain ⟨b1, b2⟩ := b; kernel_rfl)
theorem qC_td2 : ∀ k w u, u < 4 → tdL kM 2 k w u u 19 18 800 (td2N u).1 (td2N u).2 := by
  refine fun k w => four ?_ ?_ ?_ ?_
  exact (qC_td2_0 k w); exact (qC_td2_1 k w); exact (qC_td2_2 k w); exact (qC_td2_3 k w)
theorem qC_td3_0 : ∀ k w, tdL kM 3 k w 0 0 21 20 800 (td3N 0).1 (td3N 0).2 := by
  (intro k w; intro P b A τ θ θ₁ L0 L1 e0 e1 e2; obtain ⟨b1, b2⟩ := b; kernel_rfl)
theorem qC_td3_1 : ∀ k w, tdL kM 3 k w 1 1 21 20 800 (td3N 1).1 (td3N 1).2 := by
  (intro k w; intro P b A τ θ θ₁ L0 L1 e0 e1 e2; obtain ⟨b1, b2⟩ := b; kernel_rfl)
theorem qC_td3_2 : ∀ k w, tdL kM 3 k w 2 2 21 20 800 (td3N 2).1 (td3N 2).2 := by
  (intro k w; intro P b A τ θ θ₁ L0 L1 e0 e1 e2; obtain ⟨b1, b2⟩ := b; kernel_rfl)
theorem qC_td3_3 : ∀ k w, tdL kM 3 k w 3 3 21 20 800 (td3N 3).1 (td3N 3).2 := by
  (intro k w; intro P b A τ θ θ₁ L0 L1 e0 e1 e2; obtain ⟨b1, b2⟩ := b; kernel_rfl)
theorem qC_td3 : ∀ k w u, u < 4 → tdL kM 3 k w u u 21 20 800 (td3N u).1 (td3N u).2 := by
  refine fun k w => four ?_ ?_ ?_ ?_
  exact (qC_td3_0 k w); exact (qC_td3_1 k w); exact (qC_td3_2 k w); exact (qC_td3_3 k w)
theorem qC_td4_0 : ∀ k w, tdL kM 4 k w 0 0 26 25 800 (td4N 0).1 (td4N 0).2 := by
  (intro k w; intro P b A τ θ θ₁ L0 L1 e0 e1 e2; obtain ⟨b1, b2⟩ := b; kernel_rfl)
theorem qC_td4_1 : ∀ k w, tdL kM 4 k w 1 1 26 25 800 (td4N 1).1 (td4N 1).2 := by
  (intro k w; intro P b A τ θ θ₁ L0 L1 e0 e1 e2; obtain ⟨b1, b2⟩ := b; kernel_rfl)
theorem qC_td4_2 : ∀ k w, tdL kM 4 k w 2 2 26 25 800 (td4N 2).1 (td4N 2).2 := by
  (intro k w; intro P b A τ θ θ₁ L0 L1 e0 e1 e2; obtain ⟨b1, b2⟩ := b; kernel_rfl)
theorem qC_td4_3 : ∀ k w, tdL kM 4 k w 3 3 26 25 800 (td4N 3).1 (td4N 3).2 := by
  (intro k w; intro P b A τ θ θ₁ L0 L1 e0 e1 e2; obtain ⟨b1, b2⟩ := b; kernel_rfl)
theorem qC_td4 : ∀ k w u, u < 4 → tdL kM 4 k w u u 26 25 800 (td4N u).1 (td4N u).2 := by
  refine fun k w => four ?_ ?_ ?_ ?_
  exact (qC_td4_0 k w); exact (qC_td4_1 k w); exact (qC_td4_2 k w); exact (qC_td4_3 k w)
theorem lvC : LvC kM := ⟨qC_td0, qC_td1, qC_td2, qC_td3, qC_td4⟩
theorem qD_base : ∀ P, chkB (BB kM P) = true := by
  (intro P; kernel_rfl)
theorem qD_t0 : trL kM 0 1 800 tr0N.1 tr0N.2 := by
  (intro P b A τ t0 t2; obtain ⟨b1, b2⟩ := b; cases b1 <;> kernel_rfl)
theorem qD_t1 : trL kM 1 1 800 tr1N.1 tr1N.2 := by
  (intro P b A τ t0 t2; obtain ⟨b1, b2⟩ := b; cases b1 <;> kernel_rfl)
theorem qD_t4 : trL kM 4 1 800 tr4N.1 tr4N.2 := by
  (intro P b A τ t0 t2; obtain ⟨b1, b2⟩ := b; cases b1 <;> kernel_rfl)
theorem qD_t5 : trL kM 5 1 800 tr5N.1 tr5N.2 := by
  (intro P b A τ t0 t2; obtain ⟨b1, b2⟩ := b; cases b1 <;> kernel_rfl)
theorem qD_t30 : trT kM 3 0 2 (fun A _ _ => lamT (A 14)) 800 tt0N.1 tt0N.2.1 tt0N.2.2 := by
  (intro P b A τ t0 t2 a g; obtain ⟨b1, b2⟩ := b; cases b1 <;> cases b2 <;> kernel_rfl)
theorem qD_t31 : ∀ x, trT kM 3 (x + 1) 2 (fun _ a g => tabS (x + 1) a g) 800 tt1N.1 tt1N.2.1 tt1N.2.2 := by
  refine thr3 ?_ ?_ (fun n => ?_) <;> (intro P b A τ t0 t2 a g; obtain ⟨b1, b2⟩ := b; cases b1 <;> cases b2 <;> kernel_rfl)
theorem qD_t20 : tr2T kM 0 2 (fun A _ _ => tabS 3 (A 22) (A 16)) 800 t2N0.1 t2N0.2.1 t2N0.2.2 wp0 wp0' := by
  (intro P b A τ t0 t2 a g; obtain ⟨b1, b2⟩ := b; cases b1 <;> cases b2 <;> kernel_rfl)
theorem qD_t21 : tr2T kM 1 2 (fun A a _ => tabS 2 a (A 16)) 800 t2N1.1 t2N1.2.1 t2N1.2.2 wp1 wp1' := by
  (intro P b A τ t0 t2 a g; obtain ⟨b1, b2⟩ := b; cases b1 <;> cases b2 <;> kernel_rfl)
theorem qD_t22 : ∀ x, tr2T kM (x + 2) 2 (fun _ a g => tabS (x + 2) a g) 800 t2N2.1 t2N2.2.1 t2N2.2.2 wp2 wp2' := by
  refine two ?_ (fun n => ?_) <;> (intro P b A τ t0 t2 a g; obtain ⟨b1, b2⟩ := b; cases b1 <;> cases b2 <;> kernel_rfl)
theorem qD_tk_00 : vPLF kM (tkF 0 0) 333 [.str (trP 0) 0, .str (usS 0) 0] (.bool (tkB 0 0)) 1500 (tkNN 0 0).1 (tkNN 0 0).2 := by
  (intro P b A τ θ; obtain ⟨b1, b2⟩ := b; kernel_rfl)
theorem qD_tk_01 : vPLF kM (tkF 0 1) 333 [.str (trP 0) 0, .str (usS 1) 0] (.bool (tkB 0 1)) 1500 (tkNN 0 1).1 (tkNN 0 1).2 := by
  (intro P b A τ θ; obtain ⟨b1, b2⟩ := b; kernel_rfl)
theorem qD_tk_02 : vPLF kM (tkF 0 2) 333 [.str (trP 0) 0, .str (usS 2) 0] (.bool (tkB 0 2)) 1500 (tkNN 0 2).1 (tkNN 0 2).2 := by
  (intro P b A τ θ; obtain ⟨b1, b2⟩ := b; kernel_rfl)
theorem qD_tk_03 : vPLF kM (tkF 0 3) 333 [.str (trP 0) 0, .str (usS 3) 0] (.bool (tkB 0 3)) 1500 (tkNN 0 3).1 (tkNN 0 3).2 := by
  (intro P b A τ θ; obtain ⟨b1, b2⟩ := b; kernel_rfl)
theorem qD_tk_10 : vPLF kM (tkF 1 0) 333 [.str (trP 1) 0, .str (usS 0) 0] (.bool (tkB 1 0)) 1500 (tkNN 1 0).1 (tkNN 1 0).2 := by
  (intro P b A τ θ; obtain ⟨b1, b2⟩ := b; kernel_rfl)
theorem qD_tk_11 : vPLF kM (tkF 1 1) 333 [.str (trP 1) 0, .str (usS 1) 0] (.bool (tkB 1 1)) 1500 (tkNN 1 1).1 (tkNN 1 1).2 := by
  (intro P b A τ θ; obtain ⟨b1, b2⟩ := b; kernel_rfl)
theorem qD_tk_12 : vPLF kM (tkF 1 2) 333 [.str (trP 1) 0, .str (usS 2) 0] (.bool (tkB 1 2)) 1500 (tkNN 1 2).1 (tkNN 1 2).2 := by
  (intro P b A τ θ; obtain ⟨b1, b2⟩ := b; kernel_rfl)
theorem qD_tk_13 : vPLF kM (tkF 1 3) 333 [.str (trP 1) 0, .str (usS 3) 0] (.bool (tkB 1 3)) 1500 (tkNN 1 3).1 (tkNN 1 3).2 := by
  (intro P b A τ θ; obtain ⟨b1, b2⟩ := b; kernel_rfl)
theorem qD_tk_20 : vPLF kM (tkF 2 0) 333 [.str (trP 2) 0, .str (usS 0) 0] (.bool (tkB 2 0)) 1500 (tkNN 2 0).1 (tkNN 2 0).2 := by
  (intro P b A τ θ; obtain ⟨b1, b2⟩ := b; kernel_rfl)
theorem qD_tk_21 : vPLF kM (tkF 2 1) 333 [.str (trP 2) 0, .str (usS 1) 0] (.bool (tkB 2 1)) 1500 (tkNN 2 1).1 (tkNN 2 1).2 := by
  (intro P b A τ θ; obtain ⟨b1, b2⟩ := b; kernel_rfl)
theorem qD_tk_22 : vPLF kM (tkF 2 2) 333 [.str (trP 2) 0, .str (usS 2) 0] (.bool (tkB 2 2)) 1500 (tkNN 2 2).1 (tkNN 2 2).2 := by
  (intro P b A τ θ; obtain ⟨b1, b2⟩ := b; kernel_rfl)
theorem qD_tk_23 : vPLF kM (tkF 2 3) 333 [.str (trP 2) 0, .str (usS 3) 0] (.bool (tkB 2 3)) 1500 (tkNN 2 3).1 (tkNN 2 3).2 := by
  (intro P b A τ θ; obtain ⟨b1, b2⟩ := b; kernel_rfl)
theorem qD_tk_30 : vPLF kM (tkF 3 0) 333 [.str (trP 3) 0, .str (usS 0) 0] (.bool (tkB 3 0)) 1500 (tkNN 3 0).1 (tkNN 3 0).2 := by
  (intro P b A τ θ; obtain ⟨b1, b2⟩ := b; kernel_rfl)
theorem qD_tk_31 : vPLF kM (tkF 3 1) 333 [.str (trP 3) 0, .str (usS 1) 0] (.bool (tkB 3 1)) 1500 (tkNN 3 1).1 (tkNN 3 1).2 := by
  (intro P b A τ θ; obtain ⟨b1, b2⟩ := b; kernel_rfl)
theorem qD_tk_32 : vPLF kM (tkF 3 2) 333 [.str (trP 3) 0, .str (usS 2) 0] (.bool (tkB 3 2)) 1500 (tkNN 3 2).1 (tkNN 3 2).2 := by
  (intro P b A τ θ; obtain ⟨b1, b2⟩ := b; kernel_rfl)
theorem qD_tk_33 : vPLF kM (tkF 3 3) 333 [.str (trP 3) 0, .str (usS 3) 0] (.bool (tkB 3 3)) 1500 (tkNN 3 3).1 (tkNN 3 3).2 := by
  (intro P b A τ θ; obtain ⟨b1, b2⟩ := b; kernel_rfl)
theorem qD_tk_40 : vPLF kM (tkF 4 0) 333 [.str (trP 4) 0, .str (usS 0) 0] (.bool (tkB 4 0)) 1500 (tkNN 4 0).1 (tkNN 4 0).2 := by
  (intro P b A τ θ; obtain ⟨b1, b2⟩ := b; kernel_rfl)
theorem qD_tk_41 : vPLF kM (tkF 4 1) 333 [.str (trP 4) 0, .str (usS 1) 0] (.bool (tkB 4 1)) 1500 (tkNN 4 1).1 (tkNN 4 1).2 := by
  (intro P b A τ θ; obtain ⟨b1, b2⟩ := b; kernel_rfl)
theorem qD_tk_42 : vPLF kM (tkF 4 2) 333 [.str (trP 4) 0, .str (usS 2) 0] (.bool (tkB 4 2)) 1500 (tkNN 4 2).1 (tkNN 4 2).2 := by
  (intro P b A τ θ; obtain ⟨b1, b2⟩ := b; kernel_rfl)
theorem qD_tk_43 : vPLF kM (tkF 4 3) 333 [.str (trP 4) 0, .str (usS 3) 0] (.bool (tkB 4 3)) 1500 (tkNN 4 3).1 (tkNN 4 3).2 := by
  (intro P b A τ θ; obtain ⟨b1, b2⟩ := b; kernel_rfl)
theorem qD_tk_50 : vPLF kM (tkF 5 0) 333 [.str (trP 5) 0, .str (usS 0) 0] (.bool (tkB 5 0)) 1500 (tkNN 5 0).1 (tkNN 5 0).2 := by
  (intro P b A τ θ; obtain ⟨b1, b2⟩ := b; kernel_rfl)
theorem qD_tk_51 : vPLF kM (tkF 5 1) 333 [.str (trP 5) 0, .str (usS 1) 0] (.bool (tkB 5 1)) 1500 (tkNN 5 1).1 (tkNN 5 1).2 := by
  (intro P b A τ θ; obtain ⟨b1, b2⟩ := b; kernel_rfl)
theorem qD_tk_52 : vPLF kM (tkF 5 2) 333 [.str (trP 5) 0, .str (usS 2) 0] (.bool (tkB 5 2)) 1500 (tkNN 5 2).1 (tkNN 5 2).2 := by
  (intro P b A τ θ; obtain ⟨b1, b2⟩ := b; kernel_rfl)
theorem qD_tk_53 : vPLF kM (tkF 5 3) 333 [.str (trP 5) 0, .str (usS 3) 0] (.bool (tkB 5 3)) 1500 (tkNN 5 3).1 (tkNN 5 3).2 := by
  (intro P b A τ θ; obtain ⟨b1, b2⟩ := b; kernel_rfl)
theorem qD_tk : ∀ n u, n < 6 → u < 4 → vPLF kM (tkF n u) 333 [.str (trP n) 0, .str (usS u) 0] (.bool (tkB n u)) 1500 (tkNN n u).1 (tkNN n u).2 := by
  refine six4 ?_ ?_ ?_ ?_ ?_ ?_ ?_ ?_ ?_ ?_ ?_ ?_ ?_ ?_ ?_ ?_ ?_ ?_ ?_ ?_ ?_ ?_ ?_ ?_
  exact qD_tk_00; exact qD_tk_01; exact qD_tk_02; exact qD_tk_03; exact qD_tk_10; exact qD_tk_11; exact qD_tk_12; exact qD_tk_13; exact qD_tk_20; exact qD_tk_21; exact qD_tk_22; exact qD_tk_23; exact qD_tk_30; exact qD_tk_31; exact qD_tk_32; exact qD_tk_33; exact qD_tk_40; exact qD_tk_41; exact qD_tk_42; exact qD_tk_43; exact qD_tk_50; exact qD_tk_51; exact qD_tk_52; exact qD_tk_53
theorem lvD : LvD kM := ⟨qD_base, qD_t0, qD_t1, qD_t4, qD_t5, qD_t30, qD_t31, qD_t20, qD_t21, qD_t22, qD_tk⟩
theorem qE_pt : ptL kM 80 4 0 := by
  (intro P b A τ; kernel_rfl)
theorem qE_g3 : ∀ n, n < 3 → giL kM 3 n 40 1 1 := by
  refine thr ?_ ?_ ?_ <;> (intro P b A τ v t ep; kernel_rfl)
theorem qE_g6 : ∀ n, n < 6 → giL kM 6 n 40 1 1 := by
  refine six ?_ ?_ ?_ ?_ ?_ ?_ <;> (intro P b A τ v t ep; kernel_rfl)
theorem qE_l0 : lawL kM [] 42 15 24 4200 lw0.1 lw0.2 := by
  (intro  P b A τ θ ep; obtain ⟨b1, b2⟩ := b; kernel_rfl)
theorem qE_l1 : ∀ x0, lawL kM [x0] 42 15 24 4200 lw0.1 lw0.2 := by
  (intro x0 P b A τ θ ep; obtain ⟨b1, b2⟩ := b; kernel_rfl)
theorem qE_l2 : ∀ x0 x1, lawL kM [x0, x1] 42 15 24 4200 lw0.1 lw0.2 := by
  (intro x0 x1 P b A τ θ ep; obtain ⟨b1, b2⟩ := b; kernel_rfl)
theorem qE_l3 : ∀ x0 x1 x2, lawL kM [x0, x1, x2] 42 15 24 4200 lw3.1 lw3.2 := by
  (intro x0 x1 x2 P b A τ θ ep; obtain ⟨b1, b2⟩ := b; kernel_rfl)
theorem qE_l4 : ∀ x0 x1 x2 x3, lawL kM [x0, x1, x2, x3] 42 15 24 4200 lw4.1 lw4.2 := by
  (intro x0 x1 x2 x3 P b A τ θ ep; obtain ⟨b1, b2⟩ := b; kernel_rfl)
theorem qE_l5 : ∀ x0 x1 x2 x3 x4, lawL kM [x0, x1, x2, x3, x4] 42 15 24 4200 lw5.1 lw5.2 := by
  (intro x0 x1 x2 x3 x4 P b A τ θ ep; obtain ⟨b1, b2⟩ := b; kernel_rfl)
theorem qE_l6 : ∀ x0 x1 x2 x3 x4 x5, lawL kM [x0, x1, x2, x3, x4, x5] 42 15 24 4200 lw6.1 lw6.2 := by
  (intro x0 x1 x2 x3 x4 x5 P b A τ θ ep; obtain ⟨b1, b2⟩ := b; kernel_rfl)
theorem qE_l7 : ∀ x0 x1 x2 x3 x4 x5 x6, lawL kM [x0, x1, x2, x3, x4, x5, x6] 42 15 24 4200 lw7.1 lw7.2 := by
  (intro x0 x1 x2 x3 x4 x5 x6 P b A τ θ ep; obtain ⟨b1, b2⟩ := b; kernel_rfl)
theorem qE_l8 : ∀ x0 x1 x2 x3 x4 x5 x6 x7, lawL kM [x0, x1, x2, x3, x4, x5, x6, x7] 42 15 24 4200 lw8.1 lw8.2 := by
  (intro x0 x1 x2 x3 x4 x5 x6 x7 P b A τ θ ep; obtain ⟨b1, b2⟩ := b; kernel_rfl)
theorem qE_l9 : ∀ x0 x1 x2 x3 x4 x5 x6 x7 x8 l, lawL kM (x0 :: x1 :: x2 :: x3 :: x4 :: x5 :: x6 :: x7 :: x8 :: l) 42 15 24 4200 lw9.1 lw9.2 := by
  (intro x0 x1 x2 x3 x4 x5 x6 x7 x8 l P b A τ θ ep; obtain ⟨b1, b2⟩ := b; kernel_rfl)
theorem lvE : LvE kM := ⟨qE_pt, qE_g3, qE_g6, qE_l0, qE_l1, qE_l2, qE_l3, qE_l4, qE_l5, qE_l6, qE_l7, qE_l8, qE_l9⟩
theorem qF_tab : ∀ P, (kM P).get 288 = some (tabO []) := by
  (intro P; kernel_rfl)
theorem qF_no : ∀ P, (kM P).get 359 = none := by
  (intro P; kernel_rfl)
theorem qF_code : ∀ P, chkT ((kM P).get 292) = true := by
  (intro P; kernel_rfl)
theorem lvF : LvF kM := ⟨qF_tab, qF_no, qF_code⟩
theorem walk (V : Lv kM) (F : LvF kM) : top.2.1 := by
  unfold top
  dsimp only
  k_fill
  intro w s₀ s₁ mg mb G y fa o pm cd doc dV kV ho hd hcd hD hmg hg args vals as L hpre hlay hrd hwl hlo
  z_open y L KX ZH ZN ZT
  refine Ground.open G ?_
  intro T B D TE TW
  wrow_args hpre hlay hrd hwl hlo
  obtain ⟨hat, hsz⟩ := script_at L
  have htk := script_toks L ZT
  rw [ZN] at hat hsz
  subst hat
  x_fa T KX hmg
  all_lens
  have hscr := script_obj L (by assumption)
  refine wpAny_mono (law_wp (vals := _) V F ZH hscr (by assumption) hsz htk ?_ hg) (fun v s' h => ?_) (fun _ _ h => h.elim)
  · rename_i hb9
    exact hb9.1 ▸ hb9.2
  · obtain ⟨rfl, h1, h2, h3⟩ := h
    refine ⟨.inl ⟨.bool true, .bool true, [], rfl, fun cls => ?_, .bool true, ?_, fun _ => ⟨List.nodup_nil, fun _ h => nomatch h⟩⟩, h1, h3, h2⟩
    · rfl
    · first | rfl | wrow_post
end Mine
end
theorem PySem.Challenge.cw_kt0048_01_holds : PySem.Challenge.rw_kt0048_01.Holds :=
  Mine.top.2.2 Mine.left (Mine.walk ⟨Mine.lvA, Mine.lvB, Mine.lvC, Mine.lvD, Mine.lvE⟩ Mine.lvF)
