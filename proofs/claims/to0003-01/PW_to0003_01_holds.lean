import PyProof.Rows.All
import Wide.All
import OpenK.AllK
import Wide.FinOn
import KE.KPairTest
import KE.KPop
import PySem.Challenge.RW_to0003_01
section
set_option Elab.async false
set_option linter.unusedVariables false
namespace Mine
open PySem PySem.W PySem.Calls PyProof.Rows

section
variable {α : Type} {tb : String → Option Builtin} {p : Program} {w : World} {n₀ : Nat} {ann : Option Value} {b : Nat} {B : List Frame} {K' : α → Sem Fin} {H' : Value → Sem Fin} {gd : Bool → Bool} {lv : List Value → List Value} {res : α → Flow}

theorem endAt_ne {t : Thread} (h : t.stack.length ≠ b) : endAt b t = none := by
  unfold endAt
  have : (t.stack.length == b) = false := beq_eq_false_iff_ne.mpr h
  rw [this]

theorem go_step {n : Nat} {s s' : Shared} {t t' : Thread} {r : Option (Shared × Thread)} (h1 : t.stack.length ≠ b) (h2 : stepOk n₀ ann t = true) (h3 : step (denote tb) p w s t = .go s' t')
    (h : segGo tb p w n₀ ann b n s' t' = r) : segGo tb p w n₀ ann b (n + 1) s t = r := by
  unfold segGo
  rw [endAt_ne h1, h2, h3]
  exact h

theorem go_add : ∀ {n m : Nat} {s s' : Shared} {t t' : Thread} {r : Shared × Thread}, segGo tb p w n₀ ann b n s t = some (s', t') →
    segGo tb p w n₀ ann b m s' t' = some r → segGo tb p w n₀ ann b (n + m) s t = some r
  | 0, m, s, s', t, t', r, h, k => by
    obtain ⟨rfl, rfl⟩ : s = s' ∧ t = t' := by simpa [segGo] using h
    rw [Nat.zero_add]; exact k
  | n + 1, m, s, s', t, t', r, h, k => by
    rw [show n + 1 + m = n + m + 1 by omega]
    unfold segGo at h ⊢
    cases he : endAt b t with
    | some f => rw [he] at h; cases h
    | none =>
      rw [he] at h
      cases hk : stepOk n₀ ann t with
      | false => rw [hk] at h; cases h
      | true =>
        rw [hk] at h
        cases hs : step (denote tb) p w s t with
        | halt o s₂ => rw [hs] at h; cases h
        | go s₂ t₂ => rw [hs] at h; exact go_add h k

theorem seg_in (hB : splitAtGen B = none) (hb : b < B.length) : ∀ (n : Nat) (s : Shared) (t t' : Thread) (f : Flow) (s' : Shared) (c' : Code) (p' : Pos),
    Rel2 (fun a => .pure (.done (res a))) K' deadEnd H' gd lv B t t' → segRun tb p w n₀ ann B.length n s t = some (f, s', c', p') →
    ∃ a m, res a = f ∧ m ≤ n ∧ segGo tb p w n₀ ann b m s t' = some (s', ⟨K' a, c', p', B⟩)
  | 0, _, _, _, _, _, _, _, _, h => by simp [segRun] at h
  | n + 1, s, ⟨cur, code, pos, st⟩, ⟨cur', code', pos', st'⟩, f, s', c', p', R, h => by
    obtain ⟨e1, e2, R⟩ := R
    dsimp only at e1 e2 R
    subst e1 e2
    unfold segRun at h
    cases he : endAt B.length ⟨cur, code, pos, st⟩ with
    | some g =>
      rw [he] at h
      obtain ⟨rfl, rfl, rfl, rfl⟩ : g = f ∧ s = s' ∧ code = c' ∧ pos = p' := by simpa using h
      rcases R with ⟨rfl, rfl, x, rfl, rfl⟩ | ⟨rfl, F⟩
      · have hx : ∃ a, x = .pure a ∧ res a = g := by
          cases x with
          | pure a => simp only [endAt, Sem.wrap, beq_self_eq_true, Option.some.injEq] at he; exact ⟨a, rfl, he⟩
          | _ => simp [endAt, Sem.wrap] at he
        obtain ⟨a, rfl, rfl⟩ := hx
        exact ⟨a, 0, rfl, Nat.zero_le _, rfl⟩
      · have l := F.longer.1
        have : ((st.length == B.length) = false) := beq_eq_false_iff_ne.mpr (Nat.ne_of_gt l)
        simp only [endAt, this] at he
        cases he
    | none =>
      rw [he] at h
      cases hk : stepOk n₀ ann ⟨cur, code, pos, st⟩ with
      | false => rw [hk] at h; cases h
      | true =>
        rw [hk] at h
        cases hs : step (denote tb) p w s ⟨cur, code, pos, st⟩ with
        | halt o s₂ => rw [hs] at h; cases h
        | go s₂ t₂ =>
          rw [hs] at h
          have key : stepOk n₀ ann ⟨cur', code, pos, st'⟩ = true ∧ st'.length ≠ b ∧ ∃ t₂', step (denote tb) p w s ⟨cur', code, pos, st'⟩ = .go s₂ t₂' ∧ Rel2 (fun a => .pure (.done (res a))) K' deadEnd H' gd lv B t₂ t₂' := by
            rcases R with ⟨rfl, rfl, x, rfl, rfl⟩ | ⟨rfl, F⟩
            · have hp : ∀ a, x ≠ .pure a := by
                rintro a rfl
                simp [endAt, Sem.wrap] at he
              have hr : ∀ e, x ≠ .raise e := by
                rintro e rfl
                obtain ⟨heap, gens, drawn, toks, os⟩ := s
                simp only [Sem.wrap, step] at hs
                cases hs
              obtain ⟨k1, k2⟩ := okOuter (K' := K') (H' := H') hp hr hk
              exact ⟨k1, by omega, step_outer hB hp hs⟩
            · obtain ⟨k1, k2⟩ := okInner hB F hk
              have l := F.longer.2
              exact ⟨k1, by omega, step_inner hB F hs⟩
          obtain ⟨k1, k2, t₂', k3, R'⟩ := key
          obtain ⟨a, m, ha, hm, hN⟩ := seg_in hB hb n s₂ t₂ t₂' f s' c' p' R' h
          exact ⟨a, m + 1, ha, Nat.succ_le_succ hm, go_step k2 k1 k3 hN⟩
end

/-- what one more int does to a set's entries, its epoch and its table -/
noncomputable def addF (x : Value) (h : Int) (q : Array (Int × Value) × Nat × SetTable) : Array (Int × Value) × Nat × SetTable :=
  if !(layNew q.2.2 q.1 h x).2.2.1 && (layNew q.2.2 q.1 h x).2.1.tooFull then
    ((relayAll (layNew q.2.2 q.1 h x).2.1 (layNew q.2.2 q.1 h x).1 (SetTable.grown (layNew q.2.2 q.1 h x).1.size)).1, q.2.1 + 1 + 1, (relayAll (layNew q.2.2 q.1 h x).2.1 (layNew q.2.2 q.1 h x).1 (SetTable.grown (layNew q.2.2 q.1 h x).1.size)).2.1)
  else ((layNew q.2.2 q.1 h x).1, q.2.1 + 1, (layNew q.2.2 q.1 h x).2.1)

structure SetInv (es : Array (Int × Value)) (t : SetTable) : Prop where
  fits : t.place.size = es.size
  fill : t.fill ≤ t.mask
  scan : ∀ e ∈ es, e.2.scannable = true

theorem layNew_mem (t : SetTable) (es : Array (Int × Value)) (h : Int) (x : Value) (e : Int × Value) : e ∈ (layNew t es h x).1 ↔ e ∈ es ∨ e = (h, x) := by
  unfold layNew
  split
  · simp only [SetTable.insertAt, Array.mem_append, Array.mem_push]
    constructor
    · rintro ((h1 | h1) | h1)
      · exact .inl (by rw [Array.mem_extract_iff_getElem] at h1; obtain ⟨i, hi, rfl⟩ := h1; exact Array.getElem_mem _)
      · exact .inr h1
      · exact .inl (by rw [Array.mem_extract_iff_getElem] at h1; obtain ⟨i, hi, rfl⟩ := h1; exact Array.getElem_mem _)
    · rintro (h1 | h1)
      · rename_i slot wd hs
        generalize (t.put slot).2 = q
        obtain ⟨i, hi, rfl⟩ := Array.mem_iff_getElem.mp h1
        by_cases hq : i < q
        · exact .inl (.inl (by rw [Array.mem_extract_iff_getElem]; exact ⟨i, by omega, by simp⟩))
        · exact .inr (by rw [Array.mem_extract_iff_getElem]; exact ⟨i - q, by omega, by congr 1; omega⟩)
      · exact .inl (.inr h1)
  · simp only [Array.mem_push]


theorem layNew_size (t : SetTable) (es : Array (Int × Value)) (h : Int) (x : Value) (hp : ∀ slot wd, t.freeSlot h = some (slot, wd) → (t.put slot).2 ≤ es.size) : (layNew t es h x).1.size = es.size + 1 := by
  unfold layNew
  split
  · rename_i slot wd hs
    have := hp slot wd hs
    simp only [SetTable.insertAt, Array.size_append, Array.size_push, Array.size_extract]
    omega
  · simp

theorem below_le (xs : Array Nat) (j : Nat) : SetTable.below xs j ≤ xs.size := by
  unfold SetTable.below
  have : ∀ (fuel lo hi : Nat), lo ≤ xs.size → hi ≤ xs.size → SetTable.below.go xs j fuel lo hi ≤ xs.size := by
    intro fuel
    induction fuel with
    | zero => intro lo hi h1 h2; unfold SetTable.below.go; exact h1
    | succ f ih =>
      intro lo hi h1 h2
      unfold SetTable.below.go
      split
      · dsimp only
        split
        · exact ih _ _ (by omega) h2
        · exact ih _ _ h1 (by omega)
      · exact h1
  exact this _ _ _ (Nat.zero_le _) (Nat.le_refl _)

theorem put_le (t : SetTable) (j : Nat) : (t.put j).2 ≤ t.place.size := below_le t.place j

theorem fits_of {t : SetTable} {n : Nat} (h : t.fits n = true) : t.place.size = n ∧ t.fill ≤ t.mask := by
  unfold SetTable.fits at h
  simpa using h
theorem standIn_fits (t : SetTable) (n : Nat) : (t.standIn n).fits n = true := by
  simp only [SetTable.standIn, SetTable.fits, SetTable.fill, Array.size_range, beq_self_eq_true, Bool.true_and, decide_eq_true_eq]
  simp
  omega
theorem orStandIn_fits (t : SetTable) (n : Nat) : (t.orStandIn n).fits n = true := by
  unfold SetTable.orStandIn
  cases h : t.fits n with
  | true => simpa using h
  | false => simpa using standIn_fits t n

theorem layNew_fits (t : SetTable) (es : Array (Int × Value)) (h : Int) (x : Value) (hp : t.place.size = es.size) : (layNew t es h x).2.1.fits (layNew t es h x).1.size = true := by
  unfold layNew
  split
  · exact orStandIn_fits _ _
  · simp only [Array.size_push]; exact standIn_fits _ _

theorem coversAll_spec {order : Array Nat} {n : Nat} (h : coversAll order n = true) : order.toList.Perm (List.range n) := by
  unfold coversAll at h
  exact List.isPerm_iff.mp h

theorem relay_mem {order : Array Nat} {es : Array (Int × Value)} (h : coversAll order es.size = true) (e : Int × Value) : e ∈ order.filterMap (es[·]?) ↔ e ∈ es := by
  have hp := coversAll_spec h
  rw [Array.mem_filterMap]
  constructor
  · rintro ⟨i, _, hi⟩
    exact Array.mem_of_getElem? hi
  · intro he
    obtain ⟨i, hi, rfl⟩ := Array.mem_iff_getElem.mp he
    refine ⟨i, ?_, by simp [hi]⟩
    have : i ∈ List.range es.size := List.mem_range.mpr hi
    exact Array.mem_toList_iff.mp (hp.mem_iff.mpr this)

theorem relayAll_spec (t : SetTable) (es : Array (Int × Value)) (wanted : Nat) : (∀ e, e ∈ (relayAll t es wanted).1 ↔ e ∈ es) ∧ (relayAll t es wanted).2.1.fits (relayAll t es wanted).1.size = true := by
  unfold relayAll
  split
  · rename_i t' order hs
    dsimp only
    split
    · rename_i hc
      simp only [Bool.and_eq_true] at hc
      exact ⟨relay_mem hc.1, hc.2⟩
    · exact ⟨fun _ => Iff.rfl, standIn_fits _ _⟩
  · exact ⟨fun _ => Iff.rfl, standIn_fits _ _⟩

theorem relayAll_size (t : SetTable) (es : Array (Int × Value)) (wanted : Nat) : (relayAll t es wanted).1.size = es.size := by
  unfold relayAll
  split
  · rename_i t' order hs
    dsimp only
    split
    · rename_i hc
      simp only [Bool.and_eq_true] at hc
      have hp := coversAll_spec hc.1
      show (order.filterMap (es[·]?)).size = es.size
      have h1 : (order.filterMap (es[·]?)).toList = order.toList.filterMap (es[·]?) := by simp
      have h2 : (order.filterMap (es[·]?)).size = (order.toList.filterMap (es[·]?)).length := by rw [← h1, Array.length_toList]
      rw [h2, (hp.filterMap _).length_eq]
      have h3 : ∀ l : List Nat, (∀ i ∈ l, i < es.size) → (l.filterMap (es[·]?)).length = l.length := by
        intro l
        induction l with
        | nil => intro _; rfl
        | cons a l ih =>
          intro hl
          have ha : a < es.size := hl a (by simp)
          simp only [List.filterMap_cons, Array.getElem?_eq_getElem ha, List.length_cons]
          rw [ih fun i hi => hl i (by simp [hi])]
      rw [h3 _ fun i hi => List.mem_range.mp hi, List.length_range]
    · rfl
  · rfl

theorem addF_mem (x : Value) (h : Int) (es : Array (Int × Value)) (n : Nat) (t : SetTable) (e : Int × Value) : e ∈ (addF x h (es, n, t)).1 ↔ e ∈ es ∨ e = (h, x) := by
  unfold addF
  dsimp only
  have hm := layNew_mem t es h x e
  split
  · exact ((relayAll_spec _ _ _).1 e).trans hm
  · exact hm

theorem addF_size (x : Value) (h : Int) (es : Array (Int × Value)) (n : Nat) (t : SetTable) (hp : t.place.size = es.size) : (addF x h (es, n, t)).1.size = es.size + 1 := by
  unfold addF
  dsimp only
  have hm := layNew_size t es h x (fun slot wd _ => hp ▸ put_le t slot)
  split
  · exact (relayAll_size _ _ _).trans hm
  · exact hm

theorem addF_inv (x : Value) (h : Int) (es : Array (Int × Value)) (n : Nat) (t : SetTable) (I : SetInv es t) (hx : x.scannable = true) : SetInv (addF x h (es, n, t)).1 (addF x h (es, n, t)).2.2 := by
  have hm := addF_mem x h es n t
  have hf : (addF x h (es, n, t)).2.2.fits (addF x h (es, n, t)).1.size = true := by
    unfold addF
    dsimp only
    split
    · exact (relayAll_spec _ _ _).2
    · exact layNew_fits t es h x I.fits
  obtain ⟨h1, h2⟩ := fits_of hf
  refine ⟨h1, h2, fun e he => ?_⟩
  rcases (hm e).mp he with h3 | rfl
  · exact I.scan e h3
  · exact hx

section
variable {tb : String → Option Builtin} {p : Program} {w : World} {n₀ : Nat} {ann : Option Value} {b : Nat}

theorem setScan_int {a : Addr} {i : Int} {tk : Tok} {h : Int} {es : Array (Int × Value)} (hs : ∀ e ∈ es, e.1 ≠ h) : setScan a (.int i tk) h true es = pure .absent := by
  unfold setScan
  have : ∀ (l : List (Int × Value)) (k : Nat), (∀ e ∈ l, e.1 ≠ h) → setScanFrom a (.int i tk) h true l k = pure .absent := by
    intro l
    induction l with
    | nil => intro k _; rfl
    | cons e l ih =>
      intro k hl
      obtain ⟨h', y⟩ := e
      unfold setScanFrom
      have hne : (h' == h) = false := beq_eq_false_iff_ne.mpr (hl (h', y) (by simp))
      rw [hne]
      exact ih (k + 1) fun e he => hl e (by simp [he])
  exact this _ 0 fun e he => hs e (Array.mem_toList_iff.mp he)

theorem update_put {hp : Heap} {a : Addr} {c : Value} {dd : Option Addr} {es es' : Array (Int × Value)} {n : Nat} {t t' : SetTable} {sl : Array (Option Value)} (ho : hp.get? a = some ⟨c, dd, .set es n t, sl⟩) :
    (hp.update a (Obj.putSet es' t')).get? a = some ⟨c, dd, .set es' (n + 1) t', sl⟩ :=
  Heap.get?_update_self (h := hp) (Obj.putSet es' t') ho rfl

theorem bind_do {α β : Type} (m : Sem α) (f : α → Sem β) : (m >>= f) = m.bind f := rfl
theorem pure_bind_ {α β : Type} (x : α) (f : α → Sem β) : (Sem.pure x).bind f = f x := rfl
theorem pure_bind' {α β : Type} (x : α) (f : α → Sem β) : (pure x : Sem α).bind f = f x := rfl
theorem bind_assoc_ {α β γ : Type} (m : Sem α) (f : α → Sem β) (g : β → Sem γ) : (m.bind f).bind g = m.bind fun x => (f x).bind g := by
  induction m <;> simp only [Sem.bind, *]

variable {hp : Heap} {gens : Array GenState} {drawn : Drawn} {toks : Nat} {os : OsState} {a : Addr} {c : Value} {dd : Option Addr} {es : Array (Int × Value)} {n : Nat} {t : SetTable} {sl : Array (Option Value)} {code : Code} {pos : Pos} {stk : List Frame}

theorem step_setState {F : Array (Int × Value) × Nat × SetTable → Sem Fin} (ho : hp.get? a = some ⟨c, dd, .set es n t, sl⟩) (h1 : t.place.size = es.size) (h2 : t.fill ≤ t.mask) :
    step (denote tb) p w ⟨hp, gens, drawn, toks, os⟩ ⟨(setState a).bind F, code, pos, stk⟩ = .go ⟨hp, gens, drawn, toks, os⟩ ⟨F (es, n, t), code, pos, stk⟩ := by
  have hc : (t.place.size != es.size || decide (t.fill > t.mask)) = false := by simp [h1]; omega
  unfold setState
  simp only [load, bind_do, Sem.bind, step, ho, hc]
  rfl

noncomputable def Gk (tb : String → Option Builtin) (p : Program) (w : World) (n₀ : Nat) (ann : Option Value) (b k : Nat) (s : Shared) (t : Thread) (r : Shared × Thread) : Prop := ∃ m, m ≤ k ∧ segGo tb p w n₀ ann b m s t = some r
theorem Gk.step {k : Nat} {s s' : Shared} {t t' : Thread} {r : Shared × Thread} (h1 : t.stack.length ≠ b) (h2 : stepOk n₀ ann t = true) (h3 : PySem.step (denote tb) p w s t = .go s' t') (h : Gk tb p w n₀ ann b k s' t' r) :
    Gk tb p w n₀ ann b (k + 1) s t r := let ⟨m, hm, e⟩ := h; ⟨m + 1, Nat.succ_le_succ hm, go_step h1 h2 h3 e⟩
theorem Gk.mono {k k' : Nat} {s : Shared} {t : Thread} {r : Shared × Thread} (h : Gk tb p w n₀ ann b k s t r) (hk : k ≤ k') : Gk tb p w n₀ ann b k' s t r := let ⟨m, hm, e⟩ := h; ⟨m, Nat.le_trans hm hk, e⟩
theorem Gk.here {s : Shared} {t : Thread} : Gk tb p w n₀ ann b 0 s t (s, t) := ⟨0, Nat.le_refl _, rfl⟩
theorem Gk.trans {k k' : Nat} {s s' : Shared} {t t' : Thread} {r : Shared × Thread} (h : Gk tb p w n₀ ann b k s t (s', t')) (h' : Gk tb p w n₀ ann b k' s' t' r) : Gk tb p w n₀ ann b (k + k') s t r :=
  let ⟨m, hm, e⟩ := h; let ⟨m', hm', e'⟩ := h'; ⟨m + m', Nat.add_le_add hm hm', go_add e e'⟩

theorem Gk.storeSet {k : Nat} {F : Unit → Sem Fin} {es' : Array (Int × Value)} {t' : SetTable} {r : Shared × Thread} (ha : Nat.ble n₀ a = true) (hb : stk.length ≠ b) (ho : hp.get? a = some ⟨c, dd, .set es n t, sl⟩) (hsz : es'.size < 10000)
    (h : Gk tb p w n₀ ann b k ⟨hp.update a (Obj.putSet es' t'), gens, drawn, toks, os⟩ ⟨F (), code, pos, stk⟩ r) :
    Gk tb p w n₀ ann b (k + 1 + 1) ⟨hp, gens, drawn, toks, os⟩ ⟨(PySem.storeSet a es' t').bind F, code, pos, stk⟩ r := by
  have hc : ¬ (es'.size > sizeLine) := by
    have : sizeLine = 16777216 := by decide
    omega
  refine Gk.step (s' := ⟨hp, gens, drawn, toks, os⟩) (t' := ⟨(update a (Obj.putSet es' t')).bind F, code, pos, stk⟩) hb rfl ?_ ?_
  · unfold PySem.storeSet
    simp only [load, bind_do, Sem.bind, PySem.step, ho, hc, if_false]
    try rfl
  · refine Gk.step hb ?_ (s' := ⟨hp.update a (Obj.putSet es' t'), gens, drawn, toks, os⟩) (t' := ⟨F (), code, pos, stk⟩) ?_ h
    · simp only [stepOk, Thread.calm, update, Sem.bind, ha]
      try rfl
    · simp only [update, Sem.bind, PySem.step, ho, Option.isSome_some, if_true]

theorem Gk.rule {k : Nat} {tag : String} {F : Unit → Sem Fin} {s : Shared} {r : Shared × Thread} (hb : stk.length ≠ b)
    (h : Gk tb p w n₀ ann b k s ⟨F (), code, pos, stk⟩ r) : Gk tb p w n₀ ann b (k + 1) s ⟨(PySem.rule tag).bind F, code, pos, stk⟩ r :=
  Gk.step hb rfl rfl h

theorem Gk.maybe {k : Nat} {m : Sem Unit} {F : Unit → Sem Fin} {s : Shared} {r : Shared × Thread} (hm : (∃ tag, m = PySem.rule tag) ∨ m = Sem.pure ()) (hb : stk.length ≠ b)
    (h : Gk tb p w n₀ ann b k s ⟨F (), code, pos, stk⟩ r) : Gk tb p w n₀ ann b (k + 1) s ⟨m.bind F, code, pos, stk⟩ r := by
  rcases hm with ⟨tag, rfl⟩ | rfl
  · exact Gk.rule hb h
  · exact Gk.mono h (Nat.le_succ _)

theorem byScan_of {i : Int} {tk : Tok} (I : SetInv es t) (hsz : es.size < 4000) : byScan (.int i tk) es = true := by
  unfold byScan
  have h1 : es.size < scanBound := by unfold scanBound; omega
  have h2 : es.all (·.2.scannable) = true := by
    rw [Array.all_eq_true']
    exact fun e he => I.scan e he
  rw [h2, Bool.and_true, show (Value.int i tk).scannable = true from rfl, Bool.true_and]
  exact decide_eq_true h1

theorem setAdd_go {K : Bool → Sem Fin} {i : Int} {tk : Tok} {h : Int} (Tf : Obj → BT) {N : Nat} {life : Life} (hT : ∀ o f, (Tf o).set a f = Tf (f o)) (hG : ∀ o, (Tf o).get a = some o) (hN : a < N) (ha : Nat.ble n₀ a = true) (hb : stk.length ≠ b) (I : SetInv es t) (hs : ∀ e ∈ es, e.1 ≠ h) (hsz : es.size < 4000) :
    Gk tb p w n₀ ann b 12 ⟨absHeap (Tf ⟨c, dd, .set es n t, sl⟩) N life, gens, drawn, toks, os⟩ ⟨(setAddHashed a (.int i tk) h).bind K, code, pos, stk⟩
      (⟨absHeap (Tf ⟨c, dd, .set (addF (.int i tk) h (es, n, t)).1 (addF (.int i tk) h (es, n, t)).2.1 (addF (.int i tk) h (es, n, t)).2.2, sl⟩) N life, gens, drawn, toks, os⟩, ⟨K true, code, pos, stk⟩) := by
  have hget : ∀ es n t, (absHeap (Tf ⟨c, dd, .set es n t, sl⟩) N life).get? a = some ⟨c, dd, .set es n t, sl⟩ := fun es n t => by rw [abs_get hN (hG _)]; rfl
  have hput : ∀ es n t es' t', (absHeap (Tf ⟨c, dd, .set es n t, sl⟩) N life).update a (Obj.putSet es' t') = absHeap (Tf ⟨c, dd, .set es' (n + 1) t', sl⟩) N life := fun es n t es' t' => by
    rw [← absHeap_set (hG _), hT]; rfl
  have e0 : (setAddHashed a (.int i tk) h).bind K = (setAddHashedIn a (.int i tk) h 100000).bind K := rfl
  rw [e0]
  rw [setAddHashedIn, bind_do, bind_assoc_]
  have hbs := byScan_of (i := i) (tk := tk) I hsz
  have hlay := layNew_size t es h (.int i tk) (fun slot wd _ => I.fits ▸ put_le t slot)
  have hrel := relayAll_size (layNew t es h (.int i tk)).2.1 (layNew t es h (.int i tk)).1 (SetTable.grown (layNew t es h (.int i tk)).1.size)
  refine (Gk.step hb rfl (step_setState (hget es n t) I.fits I.fill) (k := 11) ?_)
  dsimp only
  rw [if_pos hbs]
  unfold setAddByScan
  simp only [bind_do, bind_assoc_]
  refine Gk.rule hb (k := 10) ?_
  rw [setScan_int hs]
  simp only [pure_bind', pure_bind_, bind_assoc_]
  refine Gk.maybe (k := 9) (m := _) ?_ hb ?_
  · generalize (layNew t es h (Value.int i tk)).2.2.2 = bb
    cases bb
    · exact .inr rfl
    · exact .inl ⟨_, rfl⟩
  have hF : addF (.int i tk) h (es, n, t) = if !(layNew t es h (.int i tk)).2.2.1 && (layNew t es h (.int i tk)).2.1.tooFull then
    ((relayAll (layNew t es h (.int i tk)).2.1 (layNew t es h (.int i tk)).1 (SetTable.grown (layNew t es h (.int i tk)).1.size)).1, n + 1 + 1, (relayAll (layNew t es h (.int i tk)).2.1 (layNew t es h (.int i tk)).1 (SetTable.grown (layNew t es h (.int i tk)).1.size)).2.1)
  else ((layNew t es h (.int i tk)).1, n + 1, (layNew t es h (.int i tk)).2.1) := rfl
  rw [hF]
  generalize hq : layNew t es h (.int i tk) = q at *
  obtain ⟨e1, t1, wd, gv⟩ := q
  dsimp only at *
  have hh : hashByValue 8 (Value.int i tk) = Sem.pure true := rfl
  simp only [hh, pure_bind_, eq_self, if_true, ite_self, bind_assoc_]
  refine Gk.storeSet (k := 7) ha hb (hget es n t) (by omega) ?_
  rw [hput]
  by_cases hc : (!wd && t1.tooFull) = true
  · rw [if_pos hc, if_pos hc]
    simp only [bind_assoc_]
    refine Gk.maybe (k := 6) (m := _) ?_ hb ?_
    · generalize (relayAll t1 e1 (SetTable.grown e1.size)).2.2 = bb
      cases bb
      · exact .inr rfl
      · exact .inl ⟨_, rfl⟩
    refine Gk.storeSet (k := 4) ha hb (hget e1 (n + 1) t1) (by omega) ?_
    rw [hput]
    exact Gk.mono Gk.here (Nat.zero_le _)
  · rw [if_neg hc, if_neg hc]
    exact Gk.mono Gk.here (Nat.zero_le _)
end

end Mine
end
section
set_option Elab.async false
set_option linter.unusedVariables false
namespace Mine
open PySem PySem.W PySem.Calls PyProof.Rows

noncomputable abbrev FrP : Type := (Result → Sem Fin) × Option Value × Bool × List Value × Code × Pos × List Value
noncomputable def fr (a : FrP) : Frame := .ret a.1 a.2.1 a.2.2.1 a.2.2.2.1 a.2.2.2.2.1 a.2.2.2.2.2.1 a.2.2.2.2.2.2
noncomputable def frP (f : Frame) : FrP := match f with | .ret k h g l c p kp => (k, h, g, l, c, p, kp) | _ => (fun _ => .raise .none, none, false, [], .builtin "" {}, ⟨0, 0, 0, 0⟩, [])
noncomputable def resN : Option Value → Flow | some v => .ret v | none => .next
noncomputable def resH (h : Int) : Flow := .ret (.int h 0)
noncomputable def loopC (s it : Addr) : Code := .builtin "set.update.loop" ⟨[.ref s, .ref it], []⟩

noncomputable def turnF (s it : Addr) : Option Value → Sem Fin := fun x => match x with
    | some x => (holding [x] (setAdd s x)).bind fun _ => again (loopC s it)
    | none => ret .none
theorem loop_body (s it : Addr) : Builtin.«set.update.loop» ⟨[.ref s, .ref it], []⟩ = (pyNext (.ref it)).bind (turnF s it) := by
  show Sem.bind (pyNext (.ref it)) _ = _
  congr 1
  funext x
  cases x <;> rfl
set_option maxRecDepth 10000 in
theorem denote_loop (s it : Addr) : denote treeTable (loopC s it) = (pyNext (.ref it)).bind (turnF s it) := by
  rw [← table_eq_tree]
  have e : entryFor table "set.update.loop" = some Builtin.«set.update.loop» := entryFor_of_fast (by kernel_rfl)
  rw [loopC, denote, e]
  exact loop_body s it

section
variable {tb : String → Option Builtin} {p : Program} {w : World} {n₀ : Nat} {ann : Option Value} {s it N : Nat} {Lf : Nat → Obj → BT} {pos : Pos} {os : OsState} {a : FrP} {b c : FrP} {q : Pos}

noncomputable def P1 (tb : String → Option Builtin) (p : Program) (w : World) (n₀ : Nat) (ann : Option Value) (s it N : Nat) (Lf : Nat → Obj → BT) (pos : Pos) (os : OsState) (a b c : FrP) (q : Pos) (i : Nat) (x : Int × Tok) : Prop :=
  ∀ o toks, segRunT tb p w n₀ ann 4 12 ⟨Lf i o, N, {}, ⟨[]⟩, {}, toks, os⟩ ⟨(pyNext (.ref it)).wrap (fun a => .pure (.done (resN a))) deadEnd id id, loopC s it, pos, [fr a, fr b, fr c, topFrame q]⟩ =
    some (.ret (.int x.1 x.2), ⟨Lf (i + 1) o, N, {}, ⟨[]⟩, {}, toks, os⟩, loopC s it, pos)
noncomputable def P2 (tb : String → Option Builtin) (p : Program) (w : World) (n₀ : Nat) (ann : Option Value) (x : Int × Tok) : Prop :=
  ∀ T N toks os c pos a b d q, segRunT tb p w n₀ ann 4 8 ⟨T, N, {}, ⟨[]⟩, {}, toks, os⟩ ⟨(pyHash (.int x.1 x.2)).wrap (fun a => .pure (.done (resH a))) deadEnd id id, c, pos, [fr a, fr b, fr d, topFrame q]⟩ =
    some (.ret (.int x.1 0), ⟨T, N, {}, ⟨[]⟩, {}, toks + 1, os⟩, c, pos)

noncomputable def AllP (A : Nat → Int × Tok → Prop) (B : Int × Tok → Prop) : List (Int × Tok) → Nat → Prop
  | [], _ => True
  | x :: r, i => (A i x ∧ B x) ∧ AllP A B r (i + 1)

noncomputable def setO (q : Array (Int × Value) × Nat × SetTable) : Obj := ⟨.type "set", none, .set q.1 q.2.1 q.2.2, #[]⟩
noncomputable def addX (q : Array (Int × Value) × Nat × SetTable) (x : Int × Tok) := addF (.int x.1 x.2) x.1 q

theorem again_ok {stk : List Frame} : stepOk n₀ ann ⟨again (loopC s it), loopC s it, pos, stk⟩ = true := by
  have h : ("set.update.loop").startsWith "lifetime." = false := by decide +kernel
  show (((!(("set.update.loop").startsWith "lifetime.") || _) && true && true) && true) = true
  rw [h]; rfl

theorem turn_go (hd : denote tb (loopC s it) = (pyNext (.ref it)).bind (turnF s it)) (hT : ∀ i o f, (Lf i o).set s f = Lf i (f o)) (hG : ∀ i o, (Lf i o).get s = some o) (hN : s < N) (hs₀ : Nat.ble n₀ s = true) {i : Nat} {x : Int × Tok}
    (h1 : P1 tb p w n₀ ann s it N Lf pos os a b c q i x) (h2 : P2 tb p w n₀ ann x) {Q : Array (Int × Value) × Nat × SetTable} {toks : Nat} (I : SetInv Q.1 Q.2.2) (hs : ∀ e ∈ Q.1, e.1 ≠ x.1) (hsz : Q.1.size < 4000) :
    Gk tb p w n₀ ann 1 40 (SharedT.abs ⟨Lf i (setO Q), N, {}, ⟨[]⟩, {}, toks, os⟩) ⟨denote tb (loopC s it), loopC s it, pos, [fr a, fr b, fr c, topFrame q]⟩
      (SharedT.abs ⟨Lf (i + 1) (setO (addX Q x)), N, {}, ⟨[]⟩, {}, toks + 1, os⟩, ⟨denote tb (loopC s it), loopC s it, pos, [fr a, fr b, fr c, topFrame q]⟩) := by
  obtain ⟨v, tk⟩ := x
  obtain ⟨es, n, t⟩ := Q
  rw [hd]
  have r1 := segRun_of (h1 (setO (es, n, t)) toks)
  obtain ⟨y, m1, hy, hm1, g1⟩ := seg_in (K' := turnF s it) (H' := Sem.raise) (gd := id) (lv := id) (b := 1) (B := [fr a, fr b, fr c, topFrame q]) (res := resN) rfl (by simp) 12 _ ⟨(pyNext (.ref it)).wrap (fun a => .pure (.done (resN a))) deadEnd id id, loopC s it, pos, [fr a, fr b, fr c, topFrame q]⟩
    ⟨(pyNext (.ref it)).bind (turnF s it), loopC s it, pos, [fr a, fr b, fr c, topFrame q]⟩ _ _ _ _ ⟨rfl, rfl, .inl ⟨rfl, rfl, _, rfl, Sem.bind_eq_wrap _ _⟩⟩ r1
  have hy' : y = some (.int v tk) := by
    cases y with
    | none => cases hy
    | some z => cases hy; rfl
  subst hy'
  refine Gk.mono (k := 12 + (8 + (12 + (0 + 1)))) (Gk.trans ⟨m1, hm1, g1⟩ ?_) (by omega)
  have e2 : turnF s it (some (.int v tk)) = (pyHash (.int v tk)).bind fun h => (setAddHashed s (.int v tk) h).bind fun _ => again (loopC s it) := by
    show ((pyHash (.int v tk)).bind fun h => setAddHashed s (.int v tk) h).bind _ = _
    rw [bind_assoc_]
  rw [e2]
  have r2 := segRun_of (h2 (Lf (i + 1) (setO (es, n, t))) N toks os (loopC s it) pos a b c q)
  obtain ⟨h, m2, hh, hm2, g2⟩ := seg_in (K' := fun h => (setAddHashed s (.int v tk) h).bind fun _ => again (loopC s it)) (H' := Sem.raise) (gd := id) (lv := id) (b := 1) (B := [fr a, fr b, fr c, topFrame q]) (res := resH) rfl (by simp) 8 _ ⟨(pyHash (.int v tk)).wrap (fun a => .pure (.done (resH a))) deadEnd id id, loopC s it, pos, [fr a, fr b, fr c, topFrame q]⟩
    ⟨(pyHash (.int v tk)).bind fun h => (setAddHashed s (.int v tk) h).bind fun _ => again (loopC s it), loopC s it, pos, [fr a, fr b, fr c, topFrame q]⟩ _ _ _ _ ⟨rfl, rfl, .inl ⟨rfl, rfl, _, rfl, Sem.bind_eq_wrap _ _⟩⟩ r2
  have hh' : h = v := by cases hh; rfl
  subst hh'
  refine Gk.trans ⟨m2, hm2, g2⟩ ?_
  refine Gk.trans (setAdd_go (K := fun _ => again (loopC s it)) (Lf (i + 1)) (hT (i + 1)) (hG (i + 1)) hN hs₀ (by simp) I hs hsz) ?_
  refine Gk.step (by simp) again_ok step_again ?_
  rw [hd]
  exact Gk.here

theorem loop_go (hd : denote tb (loopC s it) = (pyNext (.ref it)).bind (turnF s it)) (hT : ∀ i o f, (Lf i o).set s f = Lf i (f o)) (hG : ∀ i o, (Lf i o).get s = some o) (hN : s < N) (hs₀ : Nat.ble n₀ s = true) : ∀ (l : List (Int × Tok)) (i : Nat) (Q : Array (Int × Value) × Nat × SetTable) (toks : Nat),
    AllP (P1 tb p w n₀ ann s it N Lf pos os a b c q) (P2 tb p w n₀ ann) l i → SetInv Q.1 Q.2.2 → (∀ e ∈ Q.1, e.1 ∉ l.map (·.1)) → (l.map (·.1)).Nodup → Q.1.size + l.length < 4000 →
    Gk tb p w n₀ ann 1 (40 * l.length) (SharedT.abs ⟨Lf i (setO Q), N, {}, ⟨[]⟩, {}, toks, os⟩) ⟨denote tb (loopC s it), loopC s it, pos, [fr a, fr b, fr c, topFrame q]⟩
      (SharedT.abs ⟨Lf (i + l.length) (setO (l.foldl addX Q)), N, {}, ⟨[]⟩, {}, toks + l.length, os⟩, ⟨denote tb (loopC s it), loopC s it, pos, [fr a, fr b, fr c, topFrame q]⟩)
  | [], i, Q, toks, _, _, _, _, _ => Gk.here
  | x :: l, i, Q, toks, hA, I, hQ, hn, hsz => by
    have hx : ∀ e ∈ Q.1, e.1 ≠ x.1 := fun e he h => hQ e he (by simp [h])
    simp only [List.length_cons] at hsz
    have T := turn_go hd hT hG hN hs₀ hA.1.1 hA.1.2 I hx (by omega) (toks := toks)
    have hn' : x.1 ∉ l.map (·.1) ∧ (l.map (·.1)).Nodup := by simpa using hn
    have hm := addF_mem (.int x.1 x.2) x.1 Q.1 Q.2.1 Q.2.2
    have Lp := loop_go hd hT hG hN hs₀ l (i + 1) (addX Q x) (toks + 1) hA.2 (addF_inv _ _ _ _ _ I rfl) (fun e he => by
      rcases (hm e).mp he with h | rfl
      · intro hc; exact hQ e h (by simp [hc])
      · exact hn'.1) hn'.2 (by rw [show (addX Q x).1.size = Q.1.size + 1 from addF_size _ _ _ _ _ I.fits]; omega)
    have e1 : i + (x :: l).length = i + 1 + l.length := by simp; omega
    have e2 : toks + (x :: l).length = toks + 1 + l.length := by simp; omega
    rw [e1, e2]
    exact Gk.mono (Gk.trans T Lp) (by simp; omega)

theorem fold_mem : ∀ (l : List (Int × Tok)) (Q : Array (Int × Value) × Nat × SetTable) (e : Int × Value), e ∈ (l.foldl addX Q).1 ↔ e ∈ Q.1 ∨ ∃ x ∈ l, e = (x.1, .int x.1 x.2)
  | [], Q, e => by simp
  | x :: l, Q, e => by
    rw [List.foldl_cons, fold_mem l (addX Q x) e]
    have := addF_mem (.int x.1 x.2) x.1 Q.1 Q.2.1 Q.2.2 e
    show (e ∈ (addF (.int x.1 x.2) x.1 (Q.1, Q.2.1, Q.2.2)).1 ∨ _) ↔ _
    rw [this]
    simp [or_assoc]
end

end Mine
end
section
set_option Elab.async false
set_option linter.unusedVariables false
set_option maxRecDepth 100000
set_option maxHeartbeats 0
namespace Mine
open PySem PySem.W PySem.Calls PyProof.Rows
noncomputable abbrev pw : Program := PySem.Challenge.pw_to0003_01
noncomputable def stm (k : Nat) : Stmt := pw.main.body.getD k (.Pass ⟨0, 0, 0, 0⟩)
noncomputable def zp : Pos := ⟨0, 0, 0, 0⟩
noncomputable def S (l : List Nat) : Str := ⟨⟨l⟩⟩
noncomputable def d (P : Params) (x : Str) (t : Tok) (v : Value) : DictEntry := ⟨PyData.keyHash P x, .str x t, v⟩
noncomputable def fnD (st : Stmt) (g : Addr) (m c : Value) (b : Addr) : FuncData := match st with
  | .FunctionDef n a body _ _ _ sc _ _ _ => { name := n, qualname := n, params := a, body := .stmts body, scope := sc, globals := g, closure := [], defaults := .none, kwdefaults := .none, pyModule := m, code := c, builtins := b }
  | _ => default
noncomputable def bE : List Stmt := behindTheImports pw
noncomputable def envE : Env := { scope := pw.main.scope, locals := mainNs, globals := mainNs, cells := [], code := .ref 30, frame := some 31 }
noncomputable def cE : Code := .body bE envE
noncomputable def vals9 : List (Int × Tok) := (917505, 556) :: (List.range 96).map fun (j : Nat) => (917536 + (j : Int), 562 + j)
noncomputable def q0 (P : Params) : Array (Int × Value) × Nat × SetTable := (#[], 0, { mask := 7, place := ⟨[]⟩, dummies := ⟨[]⟩, finger := 0, led := !P.followText "set-order", moves := 0, plain := true })
noncomputable def o0 (P : Params) : Obj := ⟨(.type "dict"), none, (.dict ⟨[d P (S [95, 95, 110, 97, 109, 101, 95, 95]) 1 (.str (S [98, 117, 105, 108, 116, 105, 110, 115]) 160), d P (S [95, 95, 100, 111, 99, 95, 95]) 2 (.builtin "builtins.__doc__:str#opaque"), d P (S [95, 95, 112, 97, 99, 107, 97, 103, 101, 95, 95]) 3 (.builtin "builtins.__package__:str#opaque"), d P (S [95, 95, 108, 111, 97, 100, 101, 114, 95, 95]) 4 (.builtin "builtins.__loader__:shared#opaque"), d P (S [95, 95, 115, 112, 101, 99, 95, 95]) 5 (.builtin "builtins.__spec__#opaque"), d P (S [95, 95, 98, 117, 105, 108, 100, 95, 99, 108, 97, 115, 115, 95, 95]) 6 (.builtin "__build_class__"), d P (S [95, 95, 105, 109, 112, 111, 114, 116, 95, 95]) 7 (.builtin "__import__"), d P (S [97, 98, 115]) 8 (.builtin "abs"), d P (S [97, 108, 108]) 9 (.builtin "all"), d P (S [97, 110, 121]) 10 (.builtin "any"), d P (S [97, 115, 99, 105, 105]) 11 (.builtin "ascii"), d P (S [98, 105, 110]) 12 (.builtin "bin"), d P (S [98, 114, 101, 97, 107, 112, 111, 105, 110, 116]) 13 (.builtin "breakpoint"), d P (S [99, 97, 108, 108, 97, 98, 108, 101]) 14 (.builtin "callable"), d P (S [99, 104, 114]) 15 (.builtin "chr"), d P (S [99, 111, 109, 112, 105, 108, 101]) 16 (.builtin "compile"), d P (S [100, 101, 108, 97, 116, 116, 114]) 17 (.builtin "delattr"), d P (S [100, 105, 114]) 18 (.builtin "dir"), d P (S [100, 105, 118, 109, 111, 100]) 19 (.builtin "divmod"), d P (S [101, 118, 97, 108]) 20 (.builtin "eval"), d P (S [101, 120, 101, 99]) 21 (.builtin "exec"), d P (S [102, 111, 114, 109, 97, 116]) 22 (.builtin "format"), d P (S [103, 101, 116, 97, 116, 116, 114]) 23 (.builtin "getattr"), d P (S [103, 108, 111, 98, 97, 108, 115]) 24 (.builtin "globals"), d P (S [104, 97, 115, 97, 116, 116, 114]) 25 (.builtin "hasattr"), d P (S [104, 97, 115, 104]) 26 (.builtin "hash"), d P (S [104, 101, 120]) 27 (.builtin "hex"), d P (S [105, 100]) 28 (.builtin "id"), d P (S [105, 110, 112, 117, 116]) 29 (.builtin "input"), d P (S [105, 115, 105, 110, 115, 116, 97, 110, 99, 101]) 30 (.builtin "isinstance"), d P (S [105, 115, 115, 117, 98, 99, 108, 97, 115, 115]) 31 (.builtin "issubclass"), d P (S [105, 116, 101, 114]) 32 (.builtin "iter"), d P (S [97, 105, 116, 101, 114]) 33 (.builtin "aiter"), d P (S [108, 101, 110]) 34 (.builtin "len"), d P (S [108, 111, 99, 97, 108, 115]) 35 (.builtin "locals"), d P (S [109, 97, 120]) 36 (.builtin "max"), d P (S [109, 105, 110]) 37 (.builtin "min"), d P (S [110, 101, 120, 116]) 38 (.builtin "next"), d P (S [97, 110, 101, 120, 116]) 39 (.builtin "anext"), d P (S [111, 99, 116]) 40 (.builtin "oct"), d P (S [111, 114, 100]) 41 (.builtin "ord"), d P (S [112, 111, 119]) 42 (.builtin "pow"), d P (S [112, 114, 105, 110, 116]) 43 (.builtin "print"), d P (S [114, 101, 112, 114]) 44 (.builtin "repr"), d P (S [114, 111, 117, 110, 100]) 45 (.builtin "round"), d P (S [115, 101, 116, 97, 116, 116, 114]) 46 (.builtin "setattr"), d P (S [115, 111, 114, 116, 101, 100]) 47 (.builtin "sorted"), d P (S [115, 117, 109]) 48 (.builtin "sum"), d P (S [118, 97, 114, 115]) 49 (.builtin "vars"), d P (S [78, 111, 110, 101]) 50 .none, d P (S [69, 108, 108, 105, 112, 115, 105, 115]) 51 .ellipsis, d P (S [78, 111, 116, 73, 109, 112, 108, 101, 109, 101, 110, 116, 101, 100]) 52 .notImplemented, d P (S [70, 97, 108, 115, 101]) 53 (.bool false), d P (S [84, 114, 117, 101]) 54 (.bool true), d P (S [98, 111, 111, 108]) 55 (.type "bool"), d P (S [109, 101, 109, 111, 114, 121, 118, 105, 101, 119]) 56 (.type "memoryview"), d P (S [98, 121, 116, 101, 97, 114, 114, 97, 121]) 57 (.type "bytearray"), d P (S [98, 121, 116, 101, 115]) 58 (.type "bytes"), d P (S [99, 108, 97, 115, 115, 109, 101, 116, 104, 111, 100]) 59 (.type "classmethod"), d P (S [99, 111, 109, 112, 108, 101, 120]) 60 (.type "complex"), d P (S [100, 105, 99, 116]) 61 (.type "dict"), d P (S [101, 110, 117, 109, 101, 114, 97, 116, 101]) 62 (.type "enumerate"), d P (S [102, 105, 108, 116, 101, 114]) 63 (.type "filter"), d P (S [102, 108, 111, 97, 116]) 64 (.type "float"), d P (S [102, 114, 111, 122, 101, 110, 115, 101, 116]) 65 (.type "frozenset"), d P (S [112, 114, 111, 112, 101, 114, 116, 121]) 66 (.type "property"), d P (S [105, 110, 116]) 67 (.type "int"), d P (S [108, 105, 115, 116]) 68 (.type "list"), d P (S [109, 97, 112]) 69 (.type "map"), d P (S [111, 98, 106, 101, 99, 116]) 70 (.type "object"), d P (S [114, 97, 110, 103, 101]) 71 (.type "range"), d P (S [114, 101, 118, 101, 114, 115, 101, 100]) 72 (.type "reversed"), d P (S [115, 101, 116]) 73 (.type "set"), d P (S [115, 108, 105, 99, 101]) 74 (.type "slice"), d P (S [115, 116, 97, 116, 105, 99, 109, 101, 116, 104, 111, 100]) 75 (.type "staticmethod"), d P (S [115, 116, 114]) 76 (.type "str"), d P (S [115, 117, 112, 101, 114]) 77 (.type "super"), d P (S [116, 117, 112, 108, 101]) 78 (.type "tuple"), d P (S [116, 121, 112, 101]) 79 (.type "type"), d P (S [122, 105, 112]) 80 (.type "zip"), d P (S [95, 95, 100, 101, 98, 117, 103, 95, 95]) 81 (.bool true), d P (S [66, 97, 115, 101, 69, 120, 99, 101, 112, 116, 105, 111, 110]) 82 (.type "BaseException"), d P (S [66, 97, 115, 101, 69, 120, 99, 101, 112, 116, 105, 111, 110, 71, 114, 111, 117, 112]) 83 (.type "BaseExceptionGroup"), d P (S [69, 120, 99, 101, 112, 116, 105, 111, 110]) 84 (.type "Exception"), d P (S [71, 101, 110, 101, 114, 97, 116, 111, 114, 69, 120, 105, 116]) 85 (.type "GeneratorExit"), d P (S [75, 101, 121, 98, 111, 97, 114, 100, 73, 110, 116, 101, 114, 114, 117, 112, 116]) 86 (.type "KeyboardInterrupt"), d P (S [83, 121, 115, 116, 101, 109, 69, 120, 105, 116]) 87 (.type "SystemExit"), d P (S [65, 114, 105, 116, 104, 109, 101, 116, 105, 99, 69, 114, 114, 111, 114]) 88 (.type "ArithmeticError"), d P (S [65, 115, 115, 101, 114, 116, 105, 111, 110, 69, 114, 114, 111, 114]) 89 (.type "AssertionError"), d P (S [65, 116, 116, 114, 105, 98, 117, 116, 101, 69, 114, 114, 111, 114]) 90 (.type "AttributeError"), d P (S [66, 117, 102, 102, 101, 114, 69, 114, 114, 111, 114]) 91 (.type "BufferError"), d P (S [69, 79, 70, 69, 114, 114, 111, 114]) 92 (.type "EOFError"), d P (S [73, 109, 112, 111, 114, 116, 69, 114, 114, 111, 114]) 93 (.type "ImportError"), d P (S [76, 111, 111, 107, 117, 112, 69, 114, 114, 111, 114]) 94 (.type "LookupError"), d P (S [77, 101, 109, 111, 114, 121, 69, 114, 114, 111, 114]) 95 (.type "MemoryError"), d P (S [78, 97, 109, 101, 69, 114, 114, 111, 114]) 96 (.type "NameError"), d P (S [79, 83, 69, 114, 114, 111, 114]) 97 (.type "OSError"), d P (S [82, 101, 102, 101, 114, 101, 110, 99, 101, 69, 114, 114, 111, 114]) 98 (.type "ReferenceError"), d P (S [82, 117, 110, 116, 105, 109, 101, 69, 114, 114, 111, 114]) 99 (.type "RuntimeError"), d P (S [83, 116, 111, 112, 65, 115, 121, 110, 99, 73, 116, 101, 114, 97, 116, 105, 111, 110]) 100 (.type "StopAsyncIteration"), d P (S [83, 116, 111, 112, 73, 116, 101, 114, 97, 116, 105, 111, 110]) 101 (.type "StopIteration"), d P (S [83, 121, 110, 116, 97, 120, 69, 114, 114, 111, 114]) 102 (.type "SyntaxError"), d P (S [83, 121, 115, 116, 101, 109, 69, 114, 114, 111, 114]) 103 (.type "SystemError"), d P (S [84, 121, 112, 101, 69, 114, 114, 111, 114]) 104 (.type "TypeError"), d P (S [86, 97, 108, 117, 101, 69, 114, 114, 111, 114]) 105 (.type "ValueError"), d P (S [87, 97, 114, 110, 105, 110, 103]) 106 (.type "Warning"), d P (S [70, 108, 111, 97, 116, 105, 110, 103, 80, 111, 105, 110, 116, 69, 114, 114, 111, 114]) 107 (.type "FloatingPointError"), d P (S [79, 118, 101, 114, 102, 108, 111, 119, 69, 114, 114, 111, 114]) 108 (.type "OverflowError"), d P (S [90, 101, 114, 111, 68, 105, 118, 105, 115, 105, 111, 110, 69, 114, 114, 111, 114]) 109 (.type "ZeroDivisionError"), d P (S [66, 121, 116, 101, 115, 87, 97, 114, 110, 105, 110, 103]) 110 (.type "BytesWarning"), d P (S [68, 101, 112, 114, 101, 99, 97, 116, 105, 111, 110, 87, 97, 114, 110, 105, 110, 103]) 111 (.type "DeprecationWarning"), d P (S [69, 110, 99, 111, 100, 105, 110, 103, 87, 97, 114, 110, 105, 110, 103]) 112 (.type "EncodingWarning"), d P (S [70, 117, 116, 117, 114, 101, 87, 97, 114, 110, 105, 110, 103]) 113 (.type "FutureWarning"), d P (S [73, 109, 112, 111, 114, 116, 87, 97, 114, 110, 105, 110, 103]) 114 (.type "ImportWarning"), d P (S [80, 101, 110, 100, 105, 110, 103, 68, 101, 112, 114, 101, 99, 97, 116, 105, 111, 110, 87, 97, 114, 110, 105, 110, 103]) 115 (.type "PendingDeprecationWarning"), d P (S [82, 101, 115, 111, 117, 114, 99, 101, 87, 97, 114, 110, 105, 110, 103]) 116 (.type "ResourceWarning"), d P (S [82, 117, 110, 116, 105, 109, 101, 87, 97, 114, 110, 105, 110, 103]) 117 (.type "RuntimeWarning"), d P (S [83, 121, 110, 116, 97, 120, 87, 97, 114, 110, 105, 110, 103]) 118 (.type "SyntaxWarning"), d P (S [85, 110, 105, 99, 111, 100, 101, 87, 97, 114, 110, 105, 110, 103]) 119 (.type "UnicodeWarning"), d P (S [85, 115, 101, 114, 87, 97, 114, 110, 105, 110, 103]) 120 (.type "UserWarning"), d P (S [66, 108, 111, 99, 107, 105, 110, 103, 73, 79, 69, 114, 114, 111, 114]) 121 (.type "BlockingIOError"), d P (S [67, 104, 105, 108, 100, 80, 114, 111, 99, 101, 115, 115, 69, 114, 114, 111, 114]) 122 (.type "ChildProcessError"), d P (S [67, 111, 110, 110, 101, 99, 116, 105, 111, 110, 69, 114, 114, 111, 114]) 123 (.type "ConnectionError"), d P (S [70, 105, 108, 101, 69, 120, 105, 115, 116, 115, 69, 114, 114, 111, 114]) 124 (.type "FileExistsError"), d P (S [70, 105, 108, 101, 78, 111, 116, 70, 111, 117, 110, 100, 69, 114, 114, 111, 114]) 125 (.type "FileNotFoundError"), d P (S [73, 110, 116, 101, 114, 114, 117, 112, 116, 101, 100, 69, 114, 114, 111, 114]) 126 (.type "InterruptedError"), d P (S [73, 115, 65, 68, 105, 114, 101, 99, 116, 111, 114, 121, 69, 114, 114, 111, 114]) 127 (.type "IsADirectoryError"), d P (S [78, 111, 116, 65, 68, 105, 114, 101, 99, 116, 111, 114, 121, 69, 114, 114, 111, 114]) 128 (.type "NotADirectoryError"), d P (S [80, 101, 114, 109, 105, 115, 115, 105, 111, 110, 69, 114, 114, 111, 114]) 129 (.type "PermissionError"), d P (S [80, 114, 111, 99, 101, 115, 115, 76, 111, 111, 107, 117, 112, 69, 114, 114, 111, 114]) 130 (.type "ProcessLookupError"), d P (S [84, 105, 109, 101, 111, 117, 116, 69, 114, 114, 111, 114]) 131 (.type "TimeoutError"), d P (S [73, 110, 100, 101, 110, 116, 97, 116, 105, 111, 110, 69, 114, 114, 111, 114]) 132 (.type "IndentationError"), d P (S [95, 73, 110, 99, 111, 109, 112, 108, 101, 116, 101, 73, 110, 112, 117, 116, 69, 114, 114, 111, 114]) 133 (.type "_IncompleteInputError"), d P (S [73, 110, 100, 101, 120, 69, 114, 114, 111, 114]) 134 (.type "IndexError"), d P (S [75, 101, 121, 69, 114, 114, 111, 114]) 135 (.type "KeyError"), d P (S [77, 111, 100, 117, 108, 101, 78, 111, 116, 70, 111, 117, 110, 100, 69, 114, 114, 111, 114]) 136 (.type "ModuleNotFoundError"), d P (S [78, 111, 116, 73, 109, 112, 108, 101, 109, 101, 110, 116, 101, 100, 69, 114, 114, 111, 114]) 137 (.type "NotImplementedError"), d P (S [80, 121, 116, 104, 111, 110, 70, 105, 110, 97, 108, 105, 122, 97, 116, 105, 111, 110, 69, 114, 114, 111, 114]) 138 (.type "PythonFinalizationError"), d P (S [82, 101, 99, 117, 114, 115, 105, 111, 110, 69, 114, 114, 111, 114]) 139 (.type "RecursionError"), d P (S [85, 110, 98, 111, 117, 110, 100, 76, 111, 99, 97, 108, 69, 114, 114, 111, 114]) 140 (.type "UnboundLocalError"), d P (S [85, 110, 105, 99, 111, 100, 101, 69, 114, 114, 111, 114]) 141 (.type "UnicodeError"), d P (S [66, 114, 111, 107, 101, 110, 80, 105, 112, 101, 69, 114, 114, 111, 114]) 142 (.type "BrokenPipeError"), d P (S [67, 111, 110, 110, 101, 99, 116, 105, 111, 110, 65, 98, 111, 114, 116, 101, 100, 69, 114, 114, 111, 114]) 143 (.type "ConnectionAbortedError"), d P (S [67, 111, 110, 110, 101, 99, 116, 105, 111, 110, 82, 101, 102, 117, 115, 101, 100, 69, 114, 114, 111, 114]) 144 (.type "ConnectionRefusedError"), d P (S [67, 111, 110, 110, 101, 99, 116, 105, 111, 110, 82, 101, 115, 101, 116, 69, 114, 114, 111, 114]) 145 (.type "ConnectionResetError"), d P (S [84, 97, 98, 69, 114, 114, 111, 114]) 146 (.type "TabError"), d P (S [85, 110, 105, 99, 111, 100, 101, 68, 101, 99, 111, 100, 101, 69, 114, 114, 111, 114]) 147 (.type "UnicodeDecodeError"), d P (S [85, 110, 105, 99, 111, 100, 101, 69, 110, 99, 111, 100, 101, 69, 114, 114, 111, 114]) 148 (.type "UnicodeEncodeError"), d P (S [85, 110, 105, 99, 111, 100, 101, 84, 114, 97, 110, 115, 108, 97, 116, 101, 69, 114, 114, 111, 114]) 149 (.type "UnicodeTranslateError"), d P (S [69, 120, 99, 101, 112, 116, 105, 111, 110, 71, 114, 111, 117, 112]) 150 (.type "ExceptionGroup"), d P (S [69, 110, 118, 105, 114, 111, 110, 109, 101, 110, 116, 69, 114, 114, 111, 114]) 151 (.type "OSError"), d P (S [73, 79, 69, 114, 114, 111, 114]) 152 (.type "OSError"), d P (S [111, 112, 101, 110]) 153 (.builtin "open"), d P (S [113, 117, 105, 116]) 154 (.builtin "builtins.quit#opaque"), d P (S [101, 120, 105, 116]) 155 (.builtin "builtins.exit#opaque"), d P (S [99, 111, 112, 121, 114, 105, 103, 104, 116]) 156 (.builtin "builtins.copyright#opaque"), d P (S [99, 114, 101, 100, 105, 116, 115]) 157 (.builtin "builtins.credits#opaque"), d P (S [108, 105, 99, 101, 110, 115, 101]) 158 (.builtin "builtins.license#opaque"), d P (S [104, 101, 108, 112]) 159 (.builtin "builtins.help#opaque")]⟩ 159), ⟨[]⟩⟩
noncomputable def o1 (P : Params) : Obj := ⟨(.type "dict"), none, (.dict ⟨[d P (S [98, 117, 105, 108, 116, 105, 110, 115]) 162 (.ref 4), d P (S [95, 95, 109, 97, 105, 110, 95, 95]) 163 (.ref 5), d P (S [95, 115, 114, 101]) 244 (.ref 12)]⟩ 3), ⟨[]⟩⟩
noncomputable def o2 (P : Params) : Obj := ⟨.none, none, (.dict ⟨[d P (S [105, 109, 112, 111, 114, 116, 46, 108, 111, 97, 100, 101, 100, 46, 95, 115, 114, 101]) 183 (.bool true), d P (S [99, 108, 97, 115, 115, 46, 95, 102, 114, 111, 122, 101, 110, 95, 105, 109, 112, 111, 114, 116, 108, 105, 98, 46, 66, 117, 105, 108, 116, 105, 110, 73, 109, 112, 111, 114, 116, 101, 114]) 185 (.ref 14), d P (S [119, 97, 116, 99, 104, 101, 100, 46, 105, 109, 112, 111, 114, 116]) 206 (.ref 18), d P (S [99, 108, 97, 115, 115, 46, 95, 102, 114, 111, 122, 101, 110, 95, 105, 109, 112, 111, 114, 116, 108, 105, 98, 46, 77, 111, 100, 117, 108, 101, 83, 112, 101, 99]) 216 (.ref 22), d P (S [115, 121, 115, 46, 109, 111, 100, 117, 108, 101, 115, 46, 98, 111, 111, 107, 101, 100, 45, 101, 112, 111, 99, 104]) 245 (.int 3 0), d P (S [105, 109, 112, 111, 114, 116, 46, 108, 97, 116, 101, 114, 45, 108, 97, 105, 100, 46, 95, 115, 114, 101]) 270 (.bool true), d P (S [119, 97, 116, 99, 104, 101, 100, 46, 108, 105, 98, 114, 97, 114, 121]) 272 (.ref 27), d P (S [119, 97, 116, 99, 104, 101, 100, 46, 108, 105, 98, 114, 97, 114, 121, 45, 111, 98, 106, 101, 99, 116, 115]) 0 (.str (S [12]) 0), d P (S [119, 97, 116, 99, 104, 101, 100, 46, 108, 105, 98, 114, 97, 114, 121, 45, 100, 101, 101, 112, 46, 95, 115, 114, 101]) 273 (.str (S [4, 0, 0, 11, 4, 0, 0, 11, 4, 0, 0, 3, 4, 0, 0, 11, 8, 4, 100, 105, 99, 116, 2]) 0)]⟩ 9), ⟨[]⟩⟩
noncomputable def o3 (P : Params) : Obj := ⟨(.type "dict"), none, (.dict ⟨[d P (S [95, 95, 110, 97, 109, 101, 95, 95]) 165 (.str (S [95, 95, 109, 97, 105, 110, 95, 95]) 164), d P (S [95, 95, 100, 111, 99, 95, 95]) 166 .none, d P (S [95, 95, 112, 97, 99, 107, 97, 103, 101, 95, 95]) 167 .none, d P (S [95, 95, 108, 111, 97, 100, 101, 114, 95, 95]) 168 (.builtin "__main__.__loader__#opaque"), d P (S [95, 95, 115, 112, 101, 99, 95, 95]) 169 .none, d P (S [95, 95, 97, 110, 110, 111, 116, 97, 116, 105, 111, 110, 115, 95, 95]) 170 (.ref 6), d P (S [95, 95, 98, 117, 105, 108, 116, 105, 110, 115, 95, 95]) 171 (.ref 4), d P (S [95, 95, 102, 105, 108, 101, 95, 95]) 173 (.str (S [47, 99, 108, 97, 105, 109, 47, 99, 117, 116, 46, 112, 121]) 172), d P (S [95, 95, 99, 97, 99, 104, 101, 100, 95, 95]) 174 .none, d P (S [95, 115, 114, 101]) 275 (.ref 12)]⟩ 10), ⟨[]⟩⟩
noncomputable def o4 (P : Params) : Obj := ⟨(.type "module"), (some 0), .plain, ⟨[]⟩⟩
noncomputable def o5 (P : Params) : Obj := ⟨(.type "module"), (some 3), .plain, ⟨[]⟩⟩
noncomputable def o6 (P : Params) : Obj := ⟨(.type "dict"), none, (.dict ⟨[]⟩ 0), ⟨[]⟩⟩
noncomputable def o7 (P : Params) : Obj := ⟨(.type "tuple"), none, (.seq ⟨[]⟩ 0), ⟨[]⟩⟩
noncomputable def o8 (P : Params) : Obj := ⟨.none, none, (.fields ⟨[]⟩), ⟨[]⟩⟩
noncomputable def o9 (P : Params) : Obj := ⟨(.type "code"), none, (.fields ⟨[(.str (S [60, 109, 111, 100, 117, 108, 101, 62]) 176), (.str (S [60, 109, 111, 100, 117, 108, 101, 62]) 177), (.str (S [47, 99, 108, 97, 105, 109, 47, 99, 117, 116, 46, 112, 121]) 178), (.int 1 0), (.int 0 0), (.int 0 0), (.int 0 0), (.int 0 0), (.ref 7), (.bool false), (.int 175 0), (.ref 8), .none, .none, .none, .none, (.int 179 0), (.int 1 0), (.str (S [47, 99, 108, 97, 105, 109, 47, 99, 117, 116, 46, 112, 121]) 180)]⟩), ⟨[]⟩⟩
noncomputable def o10 (P : Params) : Obj := ⟨(.type "frame"), none, .plain, ⟨[(some (.ref 9)), (some (.ref 3)), (some (.ref 3)), none, (some (.str (S [95, 95, 109, 97, 105, 110, 95, 95]) 164)), none, (some (.ref 0))]⟩⟩
noncomputable def o11 (P : Params) : Obj := ⟨(.type "dict"), none, (.dict ⟨[d P (S [95, 95, 110, 97, 109, 101, 95, 95]) 247 (.str (S [95, 115, 114, 101]) 246), d P (S [95, 95, 100, 111, 99, 95, 95]) 248 .none, d P (S [95, 95, 112, 97, 99, 107, 97, 103, 101, 95, 95]) 250 (.str (S []) 249), d P (S [95, 95, 108, 111, 97, 100, 101, 114, 95, 95]) 251 (.builtin "off-the-table:_sre.__loader__:shared#opaque"), d P (S [95, 95, 115, 112, 101, 99, 95, 95]) 252 (.builtin "off-the-table:_sre.__spec__:shared#opaque"), d P (S [99, 111, 109, 112, 105, 108, 101]) 253 (.builtin "_sre.compile"), d P (S [116, 101, 109, 112, 108, 97, 116, 101]) 254 (.builtin "off-the-table:_sre.template:shared#opaque"), d P (S [103, 101, 116, 99, 111, 100, 101, 115, 105, 122, 101]) 255 (.builtin "off-the-table:_sre.getcodesize:shared#opaque"), d P (S [97, 115, 99, 105, 105, 95, 105, 115, 99, 97, 115, 101, 100]) 256 (.builtin "off-the-table:_sre.ascii_iscased:shared#opaque"), d P (S [117, 110, 105, 99, 111, 100, 101, 95, 105, 115, 99, 97, 115, 101, 100]) 257 (.builtin "off-the-table:_sre.unicode_iscased:shared#opaque"), d P (S [97, 115, 99, 105, 105, 95, 116, 111, 108, 111, 119, 101, 114]) 258 (.builtin "off-the-table:_sre.ascii_tolower:shared#opaque"), d P (S [117, 110, 105, 99, 111, 100, 101, 95, 116, 111, 108, 111, 119, 101, 114]) 259 (.builtin "off-the-table:_sre.unicode_tolower:shared#opaque"), d P (S [77, 65, 71, 73, 67]) 261 (.int 20230612 260), d P (S [67, 79, 68, 69, 83, 73, 90, 69]) 263 (.int 4 262), d P (S [77, 65, 88, 82, 69, 80, 69, 65, 84]) 265 (.int 4294967295 264), d P (S [77, 65, 88, 71, 82, 79, 85, 80, 83]) 267 (.int 1073741823 266), d P (S [99, 111, 112, 121, 114, 105, 103, 104, 116]) 269 (.str (S [32, 83, 82, 69, 32, 50, 46, 50, 46, 50, 32, 67, 111, 112, 121, 114, 105, 103, 104, 116, 32, 40, 99, 41, 32, 49, 57, 57, 55, 45, 50, 48, 48, 50, 32, 98, 121, 32, 83, 101, 99, 114, 101, 116, 32, 76, 97, 98, 115, 32, 65, 66, 32]) 268)]⟩ 17), ⟨[]⟩⟩
noncomputable def o12 (P : Params) : Obj := ⟨(.type "module"), (some 11), .plain, ⟨[]⟩⟩
noncomputable def o13 (P : Params) : Obj := ⟨(.type "dict"), none, (.dict ⟨[d P (S [95, 95, 109, 111, 100, 117, 108, 101, 95, 95]) 189 (.str (S [95, 102, 114, 111, 122, 101, 110, 95, 105, 109, 112, 111, 114, 116, 108, 105, 98]) 186), d P (S [95, 95, 102, 105, 114, 115, 116, 108, 105, 110, 101, 110, 111, 95, 95]) 190 (.int 971 187), d P (S [95, 95, 100, 111, 99, 95, 95]) 191 (.builtin "_frozen_importlib.BuiltinImporter.__doc__:str#opaque"), d P (S [95, 79, 82, 73, 71, 73, 78]) 192 (.str (S [98, 117, 105, 108, 116, 45, 105, 110]) 188), d P (S [102, 105, 110, 100, 95, 115, 112, 101, 99]) 193 (.builtin "_frozen_importlib.BuiltinImporter.find_spec#opaque"), d P (S [99, 114, 101, 97, 116, 101, 95, 109, 111, 100, 117, 108, 101]) 194 (.builtin "_frozen_importlib.BuiltinImporter.create_module#opaque"), d P (S [101, 120, 101, 99, 95, 109, 111, 100, 117, 108, 101]) 195 (.builtin "_frozen_importlib.BuiltinImporter.exec_module#opaque"), d P (S [103, 101, 116, 95, 99, 111, 100, 101]) 196 (.builtin "_frozen_importlib.BuiltinImporter.get_code#opaque"), d P (S [103, 101, 116, 95, 115, 111, 117, 114, 99, 101]) 197 (.builtin "_frozen_importlib.BuiltinImporter.get_source#opaque"), d P (S [105, 115, 95, 112, 97, 99, 107, 97, 103, 101]) 198 (.builtin "_frozen_importlib.BuiltinImporter.is_package#opaque"), d P (S [108, 111, 97, 100, 95, 109, 111, 100, 117, 108, 101]) 199 (.builtin "_frozen_importlib.BuiltinImporter.load_module#opaque"), d P (S [95, 95, 115, 116, 97, 116, 105, 99, 95, 97, 116, 116, 114, 105, 98, 117, 116, 101, 115, 95, 95]) 200 (.ref 15), d P (S [95, 95, 100, 105, 99, 116, 95, 95]) 202 (.ref 16), d P (S [95, 95, 119, 101, 97, 107, 114, 101, 102, 95, 95]) 204 (.ref 17)]⟩ 14), ⟨[]⟩⟩
noncomputable def o14 (P : Params) : Obj := ⟨(.type "type"), none, (.cls { name := (S [66, 117, 105, 108, 116, 105, 110, 73, 109, 112, 111, 114, 116, 101, 114]), bases := [(.type "object")], mro := [(.ref 14), (.type "object")], ns := 13, qualname := (S [66, 117, 105, 108, 116, 105, 110, 73, 109, 112, 111, 114, 116, 101, 114]), hasDict := true, slotNames := [], subclasses := [], abstract := false, collection := none, hasDel := false }), ⟨[]⟩⟩
noncomputable def o15 (P : Params) : Obj := ⟨(.type "tuple"), none, (.seq ⟨[]⟩ 0), ⟨[]⟩⟩
noncomputable def o16 (P : Params) : Obj := ⟨(.type "getset_descriptor"), none, (.fields ⟨[(.str (S [95, 95, 100, 105, 99, 116, 95, 95]) 201), (.ref 14), (.builtin "function.__dict__"), (.builtin "function.__dict__#set")]⟩), ⟨[]⟩⟩
noncomputable def o17 (P : Params) : Obj := ⟨(.type "getset_descriptor"), none, (.fields ⟨[(.str (S [95, 95, 119, 101, 97, 107, 114, 101, 102, 95, 95]) 203), (.ref 14), (.builtin "ExceptionGroup.__weakref__"), .none]⟩), ⟨[]⟩⟩
noncomputable def o18 (P : Params) : Obj := ⟨.none, none, (.seq ⟨[(.int 13 0), (.str (S [6, 189, 10, 95, 95, 109, 111, 100, 117, 108, 101, 95, 95, 6, 186, 17, 95, 102, 114, 111, 122, 101, 110, 95, 105, 109, 112, 111, 114, 116, 108, 105, 98, 6, 190, 15, 95, 95, 102, 105, 114, 115, 116, 108, 105, 110, 101, 110, 111, 95, 95, 4, 187, 0, 971, 6, 191, 7, 95, 95, 100, 111, 99, 95, 95, 9, 52, 95, 102, 114, 111, 122, 101, 110, 95, 105, 109, 112, 111, 114, 116, 108, 105, 98, 46, 66, 117, 105, 108, 116, 105, 110, 73, 109, 112, 111, 114, 116, 101, 114, 46, 95, 95, 100, 111, 99, 95, 95, 58, 115, 116, 114, 35, 111, 112, 97, 113, 117, 101, 6, 192, 7, 95, 79, 82, 73, 71, 73, 78, 6, 188, 8, 98, 117, 105, 108, 116, 45, 105, 110, 6, 193, 9, 102, 105, 110, 100, 95, 115, 112, 101, 99, 9, 50, 95, 102, 114, 111, 122, 101, 110, 95, 105, 109, 112, 111, 114, 116, 108, 105, 98, 46, 66, 117, 105, 108, 116, 105, 110, 73, 109, 112, 111, 114, 116, 101, 114, 46, 102, 105, 110, 100, 95, 115, 112, 101, 99, 35, 111, 112, 97, 113, 117, 101, 6, 194, 13, 99, 114, 101, 97, 116, 101, 95, 109, 111, 100, 117, 108, 101, 9, 54, 95, 102, 114, 111, 122, 101, 110, 95, 105, 109, 112, 111, 114, 116, 108, 105, 98, 46, 66, 117, 105, 108, 116, 105, 110, 73, 109, 112, 111, 114, 116, 101, 114, 46, 99, 114, 101, 97, 116, 101, 95, 109, 111, 100, 117, 108, 101, 35, 111, 112, 97, 113, 117, 101, 6, 195, 11, 101, 120, 101, 99, 95, 109, 111, 100, 117, 108, 101, 9, 52, 95, 102, 114, 111, 122, 101, 110, 95, 105, 109, 112, 111, 114, 116, 108, 105, 98, 46, 66, 117, 105, 108, 116, 105, 110, 73, 109, 112, 111, 114, 116, 101, 114, 46, 101, 120, 101, 99, 95, 109, 111, 100, 117, 108, 101, 35, 111, 112, 97, 113, 117, 101, 6, 196, 8, 103, 101, 116, 95, 99, 111, 100, 101, 9, 49, 95, 102, 114, 111, 122, 101, 110, 95, 105, 109, 112, 111, 114, 116, 108, 105, 98, 46, 66, 117, 105, 108, 116, 105, 110, 73, 109, 112, 111, 114, 116, 101, 114, 46, 103, 101, 116, 95, 99, 111, 100, 101, 35, 111, 112, 97, 113, 117, 101, 6, 197, 10, 103, 101, 116, 95, 115, 111, 117, 114, 99, 101, 9, 51, 95, 102, 114, 111, 122, 101, 110, 95, 105, 109, 112, 111, 114, 116, 108, 105, 98, 46, 66, 117, 105, 108, 116, 105, 110, 73, 109, 112, 111, 114, 116, 101, 114, 46, 103, 101, 116, 95, 115, 111, 117, 114, 99, 101, 35, 111, 112, 97, 113, 117, 101, 6, 198, 10, 105, 115, 95, 112, 97, 99, 107, 97, 103, 101, 9, 51, 95, 102, 114, 111, 122, 101, 110, 95, 105, 109, 112, 111, 114, 116, 108, 105, 98, 46, 66, 117, 105, 108, 116, 105, 110, 73, 109, 112, 111, 114, 116, 101, 114, 46, 105, 115, 95, 112, 97, 99, 107, 97, 103, 101, 35, 111, 112, 97, 113, 117, 101, 6, 199, 11, 108, 111, 97, 100, 95, 109, 111, 100, 117, 108, 101, 9, 52, 95, 102, 114, 111, 122, 101, 110, 95, 105, 109, 112, 111, 114, 116, 108, 105, 98, 46, 66, 117, 105, 108, 116, 105, 110, 73, 109, 112, 111, 114, 116, 101, 114, 46, 108, 111, 97, 100, 95, 109, 111, 100, 117, 108, 101, 35, 111, 112, 97, 113, 117, 101, 6, 200, 21, 95, 95, 115, 116, 97, 116, 105, 99, 95, 97, 116, 116, 114, 105, 98, 117, 116, 101, 115, 95, 95, 4, 0, 0, 15, 6, 202, 8, 95, 95, 100, 105, 99, 116, 95, 95, 4, 0, 0, 16, 6, 204, 11, 95, 95, 119, 101, 97, 107, 114, 101, 102, 95, 95, 4, 0, 0, 17]) 0), (.bool true), (.bool true), (.str (S []) 205), (.int 21 0), (.str (S [6, 227, 10, 95, 95, 109, 111, 100, 117, 108, 101, 95, 95, 6, 217, 17, 95, 102, 114, 111, 122, 101, 110, 95, 105, 109, 112, 111, 114, 116, 108, 105, 98, 6, 228, 15, 95, 95, 102, 105, 114, 115, 116, 108, 105, 110, 101, 110, 111, 95, 95, 4, 218, 0, 562, 6, 229, 7, 95, 95, 100, 111, 99, 95, 95, 9, 47, 95, 102, 114, 111, 122, 101, 110, 95, 105, 109, 112, 111, 114, 116, 108, 105, 98, 46, 77, 111, 100, 117, 108, 101, 83, 112, 101, 99, 46, 95, 95, 100, 111, 99, 95, 95, 58, 115, 116, 114, 35, 111, 112, 97, 113, 117, 101, 6, 230, 8, 95, 95, 105, 110, 105, 116, 95, 95, 9, 44, 95, 102, 114, 111, 122, 101, 110, 95, 105, 109, 112, 111, 114, 116, 108, 105, 98, 46, 77, 111, 100, 117, 108, 101, 83, 112, 101, 99, 46, 95, 95, 105, 110, 105, 116, 95, 95, 35, 111, 112, 97, 113, 117, 101, 6, 231, 8, 95, 95, 114, 101, 112, 114, 95, 95, 9, 44, 95, 102, 114, 111, 122, 101, 110, 95, 105, 109, 112, 111, 114, 116, 108, 105, 98, 46, 77, 111, 100, 117, 108, 101, 83, 112, 101, 99, 46, 95, 95, 114, 101, 112, 114, 95, 95, 35, 111, 112, 97, 113, 117, 101, 6, 232, 6, 95, 95, 101, 113, 95, 95, 9, 42, 95, 102, 114, 111, 122, 101, 110, 95, 105, 109, 112, 111, 114, 116, 108, 105, 98, 46, 77, 111, 100, 117, 108, 101, 83, 112, 101, 99, 46, 95, 95, 101, 113, 95, 95, 35, 111, 112, 97, 113, 117, 101, 6, 233, 6, 99, 97, 99, 104, 101, 100, 9, 42, 95, 102, 114, 111, 122, 101, 110, 95, 105, 109, 112, 111, 114, 116, 108, 105, 98, 46, 77, 111, 100, 117, 108, 101, 83, 112, 101, 99, 46, 99, 97, 99, 104, 101, 100, 35, 111, 112, 97, 113, 117, 101, 6, 234, 6, 112, 97, 114, 101, 110, 116, 9, 42, 95, 102, 114, 111, 122, 101, 110, 95, 105, 109, 112, 111, 114, 116, 108, 105, 98, 46, 77, 111, 100, 117, 108, 101, 83, 112, 101, 99, 46, 112, 97, 114, 101, 110, 116, 35, 111, 112, 97, 113, 117, 101, 6, 235, 12, 104, 97, 115, 95, 108, 111, 99, 97, 116, 105, 111, 110, 9, 48, 95, 102, 114, 111, 122, 101, 110, 95, 105, 109, 112, 111, 114, 116, 108, 105, 98, 46, 77, 111, 100, 117, 108, 101, 83, 112, 101, 99, 46, 104, 97, 115, 95, 108, 111, 99, 97, 116, 105, 111, 110, 35, 111, 112, 97, 113, 117, 101, 6, 236, 21, 95, 95, 115, 116, 97, 116, 105, 99, 95, 97, 116, 116, 114, 105, 98, 117, 116, 101, 115, 95, 95, 4, 0, 0, 23, 6, 238, 8, 95, 95, 100, 105, 99, 116, 95, 95, 4, 0, 0, 24, 6, 240, 11, 95, 95, 119, 101, 97, 107, 114, 101, 102, 95, 95, 4, 0, 0, 25, 6, 241, 8, 95, 95, 104, 97, 115, 104, 95, 95, 0]) 0), (.bool true), (.bool true), (.str (S []) 242)]⟩ 1), ⟨[]⟩⟩
noncomputable def o19 (P : Params) : Obj := ⟨(.type "list"), none, (.seq ⟨[]⟩ 0), ⟨[]⟩⟩
noncomputable def o20 (P : Params) : Obj := ⟨(.type "dict"), none, (.dict ⟨[d P (S [110, 97, 109, 101]) 208 (.str (S [95, 115, 114, 101]) 207), d P (S [108, 111, 97, 100, 101, 114]) 209 (.ref 14), d P (S [111, 114, 105, 103, 105, 110]) 210 (.str (S [98, 117, 105, 108, 116, 45, 105, 110]) 184), d P (S [108, 111, 97, 100, 101, 114, 95, 115, 116, 97, 116, 101]) 211 .none, d P (S [115, 117, 98, 109, 111, 100, 117, 108, 101, 95, 115, 101, 97, 114, 99, 104, 95, 108, 111, 99, 97, 116, 105, 111, 110, 115]) 212 .none, d P (S [95, 117, 110, 105, 110, 105, 116, 105, 97, 108, 105, 122, 101, 100, 95, 115, 117, 98, 109, 111, 100, 117, 108, 101, 115]) 213 (.ref 19), d P (S [95, 115, 101, 116, 95, 102, 105, 108, 101, 97, 116, 116, 114]) 214 (.bool false), d P (S [95, 99, 97, 99, 104, 101, 100]) 215 .none, d P (S [95, 105, 110, 105, 116, 105, 97, 108, 105, 122, 105, 110, 103]) 243 (.bool false)]⟩ 9), ⟨[]⟩⟩
noncomputable def o21 (P : Params) : Obj := ⟨(.type "dict"), none, (.dict ⟨[d P (S [95, 95, 109, 111, 100, 117, 108, 101, 95, 95]) 227 (.str (S [95, 102, 114, 111, 122, 101, 110, 95, 105, 109, 112, 111, 114, 116, 108, 105, 98]) 217), d P (S [95, 95, 102, 105, 114, 115, 116, 108, 105, 110, 101, 110, 111, 95, 95]) 228 (.int 562 218), d P (S [95, 95, 100, 111, 99, 95, 95]) 229 (.builtin "_frozen_importlib.ModuleSpec.__doc__:str#opaque"), d P (S [95, 95, 105, 110, 105, 116, 95, 95]) 230 (.builtin "_frozen_importlib.ModuleSpec.__init__#opaque"), d P (S [95, 95, 114, 101, 112, 114, 95, 95]) 231 (.builtin "_frozen_importlib.ModuleSpec.__repr__#opaque"), d P (S [95, 95, 101, 113, 95, 95]) 232 (.builtin "_frozen_importlib.ModuleSpec.__eq__#opaque"), d P (S [99, 97, 99, 104, 101, 100]) 233 (.builtin "_frozen_importlib.ModuleSpec.cached#opaque"), d P (S [112, 97, 114, 101, 110, 116]) 234 (.builtin "_frozen_importlib.ModuleSpec.parent#opaque"), d P (S [104, 97, 115, 95, 108, 111, 99, 97, 116, 105, 111, 110]) 235 (.builtin "_frozen_importlib.ModuleSpec.has_location#opaque"), d P (S [95, 95, 115, 116, 97, 116, 105, 99, 95, 97, 116, 116, 114, 105, 98, 117, 116, 101, 115, 95, 95]) 236 (.ref 23), d P (S [95, 95, 100, 105, 99, 116, 95, 95]) 238 (.ref 24), d P (S [95, 95, 119, 101, 97, 107, 114, 101, 102, 95, 95]) 240 (.ref 25), d P (S [95, 95, 104, 97, 115, 104, 95, 95]) 241 .none]⟩ 13), ⟨[]⟩⟩
noncomputable def o22 (P : Params) : Obj := ⟨(.type "type"), none, (.cls { name := (S [77, 111, 100, 117, 108, 101, 83, 112, 101, 99]), bases := [(.type "object")], mro := [(.ref 22), (.type "object")], ns := 21, qualname := (S [77, 111, 100, 117, 108, 101, 83, 112, 101, 99]), hasDict := true, slotNames := [], subclasses := [], abstract := false, collection := none, hasDel := false }), ⟨[]⟩⟩
noncomputable def o23 (P : Params) : Obj := ⟨(.type "tuple"), none, (.seq ⟨[(.str (S [95, 99, 97, 99, 104, 101, 100]) 219), (.str (S [95, 115, 101, 116, 95, 102, 105, 108, 101, 97, 116, 116, 114]) 220), (.str (S [95, 117, 110, 105, 110, 105, 116, 105, 97, 108, 105, 122, 101, 100, 95, 115, 117, 98, 109, 111, 100, 117, 108, 101, 115]) 221), (.str (S [108, 111, 97, 100, 101, 114]) 222), (.str (S [108, 111, 97, 100, 101, 114, 95, 115, 116, 97, 116, 101]) 223), (.str (S [110, 97, 109, 101]) 224), (.str (S [111, 114, 105, 103, 105, 110]) 225), (.str (S [115, 117, 98, 109, 111, 100, 117, 108, 101, 95, 115, 101, 97, 114, 99, 104, 95, 108, 111, 99, 97, 116, 105, 111, 110, 115]) 226)]⟩ 0), ⟨[]⟩⟩
noncomputable def o24 (P : Params) : Obj := ⟨(.type "getset_descriptor"), none, (.fields ⟨[(.str (S [95, 95, 100, 105, 99, 116, 95, 95]) 237), (.ref 22), (.builtin "function.__dict__"), (.builtin "function.__dict__#set")]⟩), ⟨[]⟩⟩
noncomputable def o25 (P : Params) : Obj := ⟨(.type "getset_descriptor"), none, (.fields ⟨[(.str (S [95, 95, 119, 101, 97, 107, 114, 101, 102, 95, 95]) 239), (.ref 22), (.builtin "ExceptionGroup.__weakref__"), .none]⟩), ⟨[]⟩⟩
noncomputable def o26 (P : Params) : Obj := ⟨(.ref 22), (some 20), .plain, ⟨[]⟩⟩
noncomputable def o27 (P : Params) : Obj := ⟨.none, none, (.seq ⟨[(.int 11 0), (.str (S [6, 247, 8, 95, 95, 110, 97, 109, 101, 95, 95, 6, 246, 4, 95, 115, 114, 101, 6, 248, 7, 95, 95, 100, 111, 99, 95, 95, 0, 6, 250, 11, 95, 95, 112, 97, 99, 107, 97, 103, 101, 95, 95, 6, 249, 0, 6, 251, 10, 95, 95, 108, 111, 97, 100, 101, 114, 95, 95, 4, 0, 0, 14, 6, 252, 8, 95, 95, 115, 112, 101, 99, 95, 95, 4, 0, 0, 26, 6, 253, 7, 99, 111, 109, 112, 105, 108, 101, 9, 12, 95, 115, 114, 101, 46, 99, 111, 109, 112, 105, 108, 101, 6, 254, 8, 116, 101, 109, 112, 108, 97, 116, 101, 9, 13, 95, 115, 114, 101, 46, 116, 101, 109, 112, 108, 97, 116, 101, 6, 255, 11, 103, 101, 116, 99, 111, 100, 101, 115, 105, 122, 101, 9, 16, 95, 115, 114, 101, 46, 103, 101, 116, 99, 111, 100, 101, 115, 105, 122, 101, 6, 256, 13, 97, 115, 99, 105, 105, 95, 105, 115, 99, 97, 115, 101, 100, 9, 18, 95, 115, 114, 101, 46, 97, 115, 99, 105, 105, 95, 105, 115, 99, 97, 115, 101, 100, 6, 257, 15, 117, 110, 105, 99, 111, 100, 101, 95, 105, 115, 99, 97, 115, 101, 100, 9, 20, 95, 115, 114, 101, 46, 117, 110, 105, 99, 111, 100, 101, 95, 105, 115, 99, 97, 115, 101, 100, 6, 258, 13, 97, 115, 99, 105, 105, 95, 116, 111, 108, 111, 119, 101, 114, 9, 18, 95, 115, 114, 101, 46, 97, 115, 99, 105, 105, 95, 116, 111, 108, 111, 119, 101, 114, 6, 259, 15, 117, 110, 105, 99, 111, 100, 101, 95, 116, 111, 108, 111, 119, 101, 114, 9, 20, 95, 115, 114, 101, 46, 117, 110, 105, 99, 111, 100, 101, 95, 116, 111, 108, 111, 119, 101, 114, 6, 261, 5, 77, 65, 71, 73, 67, 4, 260, 0, 20230612, 6, 263, 8, 67, 79, 68, 69, 83, 73, 90, 69, 4, 262, 0, 4, 6, 265, 9, 77, 65, 88, 82, 69, 80, 69, 65, 84, 4, 264, 0, 4294967295, 6, 267, 9, 77, 65, 88, 71, 82, 79, 85, 80, 83, 4, 266, 0, 1073741823, 6, 269, 9, 99, 111, 112, 121, 114, 105, 103, 104, 116, 6, 268, 53, 32, 83, 82, 69, 32, 50, 46, 50, 46, 50, 32, 67, 111, 112, 121, 114, 105, 103, 104, 116, 32, 40, 99, 41, 32, 49, 57, 57, 55, 45, 50, 48, 48, 50, 32, 98, 121, 32, 83, 101, 99, 114, 101, 116, 32, 76, 97, 98, 115, 32, 65, 66, 32]) 0), (.bool true), (.bool false), (.str (S [95, 115, 114, 101]) 271)]⟩ 0), ⟨[]⟩⟩
noncomputable def H0 (P : Params) : Heap := ⟨⟨[o0 P, o1 P, o2 P, o3 P, o4 P, o5 P, o6 P, o7 P, o8 P, o9 P, o10 P, o11 P, o12 P, o13 P, o14 P, o15 P, o16 P, o17 P, o18 P, o19 P, o20 P, o21 P, o22 P, o23 P, o24 P, o25 P, o26 P, o27 P]⟩, {}⟩
noncomputable def o28 (P : Params) : Obj := ⟨(.type "tuple"), none, (.seq ⟨[]⟩ 0), ⟨[]⟩⟩
noncomputable def o29 (P : Params) : Obj := ⟨.none, none, (.fields ⟨[]⟩), ⟨[]⟩⟩
noncomputable def o30 (P : Params) : Obj := ⟨(.type "code"), none, (.fields ⟨[(.str (Str.ofString "<module>") 277), (.str (Str.ofString "<module>") 278), (.str (Str.ofString "/claim/cut.py") 279), (.int 1 0), (.int 0 0), (.int 0 0), (.int 0 0), (.int 0 0), (.ref 28), (.bool false), (.int 276 0), (.ref 29), .none, .none, .none, .none, (.int 280 0), (.int 1 0), (.str (Str.ofString "/claim/cut.py") 281)]⟩), ⟨[]⟩⟩
noncomputable def o31 (P : Params) : Obj := ⟨(.type "frame"), none, .plain, ⟨[(some (.ref 30)), (some (.ref 3)), (some (.ref 3)), none, (some (.str (Str.ofString "__main__") 164)), none, (some (.ref 0))]⟩⟩
noncomputable def T1 (P : Params) : BT := (.node (o0 P) (.node (o1 P) (.node (o3 P) (.node (o7 P) (.node (o15 P) (.node (o31 P) .nil .nil) .nil) (.node (o23 P) .nil .nil)) (.node (o11 P) (.node (o19 P) .nil .nil) (.node (o27 P) .nil .nil))) (.node (o5 P) (.node (o9 P) (.node (o17 P) .nil .nil) (.node (o25 P) .nil .nil)) (.node (o13 P) (.node (o21 P) .nil .nil) (.node (o29 P) .nil .nil)))) (.node (o2 P) (.node (o4 P) (.node (o8 P) (.node (o16 P) .nil .nil) (.node (o24 P) .nil .nil)) (.node (o12 P) (.node (o20 P) .nil .nil) (.node (o28 P) .nil .nil))) (.node (o6 P) (.node (o10 P) (.node (o18 P) .nil .nil) (.node (o26 P) .nil .nil)) (.node (o14 P) (.node (o22 P) .nil .nil) (.node (o30 P) .nil .nil)))))
noncomputable def S1 (w : World) (os : OsState) : SharedT := ⟨T1 w.params, 32, {}, ⟨[]⟩, { order := 0, schedule := 0, lifetime := 0, other := 0 }, 282, os⟩
noncomputable def o3v2 (P : Params) : Obj := ⟨(.type "dict"), none, (.dict ⟨[d P (Str.ofString "__name__") 165 (.str (Str.ofString "cpy313.stringprep") 375), d P (Str.ofString "__doc__") 166 .none, d P (Str.ofString "__package__") 167 .none, d P (Str.ofString "__loader__") 168 (.builtin "__main__.__loader__#opaque"), d P (Str.ofString "__spec__") 169 .none, d P (Str.ofString "__annotations__") 170 (.ref 6), d P (Str.ofString "__builtins__") 171 (.ref 4), d P (Str.ofString "__file__") 173 (.str (Str.ofString "/claim/cut.py") 172), d P (Str.ofString "__cached__") 174 .none, d P (Str.ofString "_sre") 275 (.ref 12), d P (Str.ofString "_iter_escaped_chars") 293 (.ref 38), d P (Str.ofString "_strip_quoted_realnames") 305 (.ref 45), d P (Str.ofString "_twin_re_1") 323 (.ref 50), d P (Str.ofString "_twin_re_2") 365 (.ref 55), d P (Str.ofString "CRLF") 367 (.str (S [13, 10]) 366), d P (Str.ofString "quotedata") 374 (.ref 62)]⟩ 16), ⟨[]⟩⟩
noncomputable def o29v2 (P : Params) : Obj := ⟨.none, none, (.fields ⟨[(.int 3 0), (.int 0 0), (.ref 37), (.int 16 0), (.int 0 0), (.ref 44), (.int 38 0), (.int 0 0), (.ref 61)]⟩), ⟨[]⟩⟩
noncomputable def o32 (P : Params) : Obj := ⟨(.type "tuple"), none, (.seq ⟨[]⟩ 0), ⟨[]⟩⟩
noncomputable def o33 (P : Params) : Obj := ⟨.none, none, (.fields ⟨[]⟩), ⟨[]⟩⟩
noncomputable def o34 (P : Params) : Obj := ⟨(.type "tuple"), none, (.seq ⟨[(.str (Str.ofString "addr") 287), (.str (Str.ofString "pos") 288), (.str (Str.ofString "escape") 289), (.str (Str.ofString "ch") 290)]⟩ 0), ⟨[]⟩⟩
noncomputable def o35 (P : Params) : Obj := ⟨(.type "tuple"), none, (.seq ⟨[]⟩ 0), ⟨[]⟩⟩
noncomputable def o36 (P : Params) : Obj := ⟨.none, none, (.func (fnD (stm 2) 0 .none .none 0)), ⟨[]⟩⟩
noncomputable def o37 (P : Params) : Obj := ⟨(.type "code"), none, (.fields ⟨[(.str (Str.ofString "_iter_escaped_chars") 284), (.str (Str.ofString "_iter_escaped_chars") 285), (.str (Str.ofString "/claim/cut.py") 286), (.int 3 0), (.int 1 0), (.int 0 0), (.int 0 0), (.int 35 0), (.ref 32), (.bool true), (.int 276 0), (.ref 33), .none, (.ref 34), (.ref 35), (.ref 36), (.int 291 0), (.int 3 0), (.str (Str.ofString "/claim/cut.py") 292)]⟩), ⟨[]⟩⟩
noncomputable def o38 (P : Params) : Obj := ⟨(.type "function"), none, (.func (fnD (stm 2) 3 (.str (Str.ofString "cpy313.email.utils") 282) (.ref 37) 0)), ⟨[]⟩⟩
noncomputable def o39 (P : Params) : Obj := ⟨(.type "tuple"), none, (.seq ⟨[]⟩ 0), ⟨[]⟩⟩
noncomputable def o40 (P : Params) : Obj := ⟨.none, none, (.fields ⟨[]⟩), ⟨[]⟩⟩
noncomputable def o41 (P : Params) : Obj := ⟨(.type "tuple"), none, (.seq ⟨[(.str (Str.ofString "addr") 297), (.str (Str.ofString "start") 298), (.str (Str.ofString "open_pos") 299), (.str (Str.ofString "result") 300), (.str (Str.ofString "pos") 301), (.str (Str.ofString "ch") 302)]⟩ 0), ⟨[]⟩⟩
noncomputable def o42 (P : Params) : Obj := ⟨(.type "tuple"), none, (.seq ⟨[]⟩ 0), ⟨[]⟩⟩
noncomputable def o43 (P : Params) : Obj := ⟨.none, none, (.func (fnD (stm 3) 0 .none .none 0)), ⟨[]⟩⟩
noncomputable def o44 (P : Params) : Obj := ⟨(.type "code"), none, (.fields ⟨[(.str (Str.ofString "_strip_quoted_realnames") 294), (.str (Str.ofString "_strip_quoted_realnames") 295), (.str (Str.ofString "/claim/cut.py") 296), (.int 16 0), (.int 1 0), (.int 0 0), (.int 0 0), (.int 3 0), (.ref 39), (.bool true), (.int 276 0), (.ref 40), .none, (.ref 41), (.ref 42), (.ref 43), (.int 303 0), (.int 16 0), (.str (Str.ofString "/claim/cut.py") 304)]⟩), ⟨[]⟩⟩
noncomputable def o45 (P : Params) : Obj := ⟨(.type "function"), none, (.func (fnD (stm 3) 3 (.str (Str.ofString "cpy313.email.utils") 282) (.ref 44) 0)), ⟨[]⟩⟩
noncomputable def o46 (P : Params) : Obj := ⟨(.type "list"), none, (.seq ⟨[(.int 14 311), (.int 4 312), (.int 0 313), (.int 1 314), (.int 1 315), (.int 6 316), (.int 1 317), (.int 16 318), (.int 46 319), (.int 1 320)]⟩ 0), ⟨[]⟩⟩
noncomputable def o47 (P : Params) : Obj := ⟨(.type "dict"), none, (.dict ⟨[]⟩ 0), ⟨[]⟩⟩
noncomputable def o48 (P : Params) : Obj := ⟨(.type "tuple"), none, (.seq ⟨[.none]⟩ 0), ⟨[]⟩⟩
noncomputable def o49 (P : Params) : Obj := ⟨(.type "tuple"), none, (.seq ⟨[(.int 14 0), (.int 4 0), (.int 0 0), (.int 1 0), (.int 1 0), (.int 6 0), (.int 1 0), (.int 16 0), (.int 46 0), (.int 1 0)]⟩ 0), ⟨[]⟩⟩
noncomputable def o50 (P : Params) : Obj := ⟨(.type "re.Pattern"), none, (.fields ⟨[(.str (S [40, 63, 109, 41, 94, 92, 46]) 309), (.int 40 322), (.int 0 0), .none, .none, (.ref 49), (.int 0 0)]⟩), ⟨[]⟩⟩
noncomputable def o51 (P : Params) : Obj := ⟨(.type "list"), none, (.seq ⟨[(.int 14 327), (.int 9 328), (.int 4 329), (.int 1 330), (.int 2 331), (.int 16 332), (.int 10 333), (.int 16 334), (.int 13 335), (.int 0 336), (.int 7 337), (.int 7 338), (.int 16 339), (.int 13 340), (.int 16 341), (.int 10 342), (.int 15 343), (.int 18 344), (.int 5 345), (.int 16 346), (.int 10 347), (.int 15 348), (.int 13 349), (.int 11 350), (.int 16 351), (.int 13 352), (.int 5 353), (.int 5 354), (.int 0 355), (.int 16 356), (.int 10 357), (.int 1 358), (.int 15 359), (.int 2 360), (.int 0 361), (.int 1 362)]⟩ 0), ⟨[]⟩⟩
noncomputable def o52 (P : Params) : Obj := ⟨(.type "dict"), none, (.dict ⟨[]⟩ 0), ⟨[]⟩⟩
noncomputable def o53 (P : Params) : Obj := ⟨(.type "tuple"), none, (.seq ⟨[.none]⟩ 0), ⟨[]⟩⟩
noncomputable def o54 (P : Params) : Obj := ⟨(.type "tuple"), none, (.seq ⟨[(.int 14 0), (.int 9 0), (.int 4 0), (.int 1 0), (.int 2 0), (.int 16 0), (.int 10 0), (.int 16 0), (.int 13 0), (.int 0 0), (.int 7 0), (.int 7 0), (.int 16 0), (.int 13 0), (.int 16 0), (.int 10 0), (.int 15 0), (.int 18 0), (.int 5 0), (.int 16 0), (.int 10 0), (.int 15 0), (.int 13 0), (.int 11 0), (.int 16 0), (.int 13 0), (.int 5 0), (.int 5 0), (.int 0 0), (.int 16 0), (.int 10 0), (.int 1 0), (.int 15 0), (.int 2 0), (.int 0 0), (.int 1 0)]⟩ 0), ⟨[]⟩⟩
noncomputable def o55 (P : Params) : Obj := ⟨(.type "re.Pattern"), none, (.fields ⟨[(.str (S [40, 63, 58, 92, 114, 92, 110, 124, 92, 110, 124, 92, 114, 40, 63, 33, 92, 110, 41, 41]) 325), (.int 32 364), (.int 0 0), .none, .none, (.ref 54), (.int 0 0)]⟩), ⟨[]⟩⟩
noncomputable def o56 (P : Params) : Obj := ⟨(.type "tuple"), none, (.seq ⟨[]⟩ 0), ⟨[]⟩⟩
noncomputable def o57 (P : Params) : Obj := ⟨.none, none, (.fields ⟨[]⟩), ⟨[]⟩⟩
noncomputable def o58 (P : Params) : Obj := ⟨(.type "tuple"), none, (.seq ⟨[(.str (Str.ofString "data") 371)]⟩ 0), ⟨[]⟩⟩
noncomputable def o59 (P : Params) : Obj := ⟨(.type "tuple"), none, (.seq ⟨[]⟩ 0), ⟨[]⟩⟩
noncomputable def o60 (P : Params) : Obj := ⟨.none, none, (.func (fnD (stm 8) 0 .none .none 0)), ⟨[]⟩⟩
noncomputable def o61 (P : Params) : Obj := ⟨(.type "code"), none, (.fields ⟨[(.str (Str.ofString "quotedata") 368), (.str (Str.ofString "quotedata") 369), (.str (Str.ofString "/claim/cut.py") 370), (.int 38 0), (.int 1 0), (.int 0 0), (.int 0 0), (.int 3 0), (.ref 56), (.bool true), (.int 276 0), (.ref 57), .none, (.ref 58), (.ref 59), (.ref 60), (.int 372 0), (.int 38 0), (.str (Str.ofString "/claim/cut.py") 373)]⟩), ⟨[]⟩⟩
noncomputable def o62 (P : Params) : Obj := ⟨(.type "function"), none, (.func (fnD (stm 8) 3 (.str (Str.ofString "cpy313.smtplib") 306) (.ref 61) 0)), ⟨[]⟩⟩
noncomputable def T2 (P : Params) : BT := (.node (o0 P) (.node (o1 P) (.node (o3v2 P) (.node (o7 P) (.node (o15 P) (.node (o31 P) .nil .nil) (.node (o47 P) .nil .nil)) (.node (o23 P) (.node (o39 P) .nil .nil) (.node (o55 P) .nil .nil))) (.node (o11 P) (.node (o19 P) (.node (o35 P) .nil .nil) (.node (o51 P) .nil .nil)) (.node (o27 P) (.node (o43 P) .nil .nil) (.node (o59 P) .nil .nil)))) (.node (o5 P) (.node (o9 P) (.node (o17 P) (.node (o33 P) .nil .nil) (.node (o49 P) .nil .nil)) (.node (o25 P) (.node (o41 P) .nil .nil) (.node (o57 P) .nil .nil))) (.node (o13 P) (.node (o21 P) (.node (o37 P) .nil .nil) (.node (o53 P) .nil .nil)) (.node (o29v2 P) (.node (o45 P) .nil .nil) (.node (o61 P) .nil .nil))))) (.node (o2 P) (.node (o4 P) (.node (o8 P) (.node (o16 P) (.node (o32 P) .nil .nil) (.node (o48 P) .nil .nil)) (.node (o24 P) (.node (o40 P) .nil .nil) (.node (o56 P) .nil .nil))) (.node (o12 P) (.node (o20 P) (.node (o36 P) .nil .nil) (.node (o52 P) .nil .nil)) (.node (o28 P) (.node (o44 P) .nil .nil) (.node (o60 P) .nil .nil)))) (.node (o6 P) (.node (o10 P) (.node (o18 P) (.node (o34 P) .nil .nil) (.node (o50 P) .nil .nil)) (.node (o26 P) (.node (o42 P) .nil .nil) (.node (o58 P) .nil .nil))) (.node (o14 P) (.node (o22 P) (.node (o38 P) .nil .nil) (.node (o54 P) .nil .nil)) (.node (o30 P) (.node (o46 P) .nil .nil) (.node (o62 P) .nil .nil))))))
noncomputable def S2 (w : World) (os : OsState) : SharedT := ⟨T2 w.params, 63, {}, ⟨[]⟩, { order := 0, schedule := 0, lifetime := 0, other := 0 }, 377, os⟩
noncomputable def o3v3 (P : Params) : Obj := ⟨(.type "dict"), none, (.dict ⟨[d P (Str.ofString "__name__") 165 (.str (Str.ofString "cpy313.stringprep") 375), d P (Str.ofString "__doc__") 166 .none, d P (Str.ofString "__package__") 167 .none, d P (Str.ofString "__loader__") 168 (.builtin "__main__.__loader__#opaque"), d P (Str.ofString "__spec__") 169 .none, d P (Str.ofString "__annotations__") 170 (.ref 6), d P (Str.ofString "__builtins__") 171 (.ref 4), d P (Str.ofString "__file__") 173 (.str (Str.ofString "/claim/cut.py") 172), d P (Str.ofString "__cached__") 174 .none, d P (Str.ofString "_sre") 275 (.ref 12), d P (Str.ofString "_iter_escaped_chars") 293 (.ref 38), d P (Str.ofString "_strip_quoted_realnames") 305 (.ref 45), d P (Str.ofString "_twin_re_1") 323 (.ref 50), d P (Str.ofString "_twin_re_2") 365 (.ref 55), d P (Str.ofString "CRLF") 367 (.str (S [13, 10]) 366), d P (Str.ofString "quotedata") 374 (.ref 62), d P (Str.ofString "b1_set") 436 (.ref 70)]⟩ 17), ⟨[]⟩⟩
noncomputable def o63 (P : Params) : Obj := ⟨(.type "list"), none, (.seq ⟨[(.int 173 377), (.int 847 378), (.int 6150 379), (.int 6155 380), (.int 6156 381), (.int 6157 382), (.int 8203 383), (.int 8204 384), (.int 8205 385), (.int 8288 386), (.int 65279 387)]⟩ 0), ⟨[]⟩⟩
noncomputable def o64 (P : Params) : Obj := ⟨(.type "range"), none, (.fields ⟨[(.int 65024 388), (.int 65040 389), (.int 1 390)]⟩), ⟨[]⟩⟩
noncomputable def o65 (P : Params) : Obj := ⟨(.type "list"), none, (.seq ⟨[(.int 65024 393), (.int 65025 394), (.int 65026 395), (.int 65027 396), (.int 65028 397), (.int 65029 398), (.int 65030 399), (.int 65031 400), (.int 65032 401), (.int 65033 402), (.int 65034 403), (.int 65035 404), (.int 65036 405), (.int 65037 406), (.int 65038 407), (.int 65039 408)]⟩ 18), ⟨[]⟩⟩
noncomputable def o66 (P : Params) : Obj := ⟨(.type "range_iterator"), none, (.fields ⟨[(.int 65040 0), (.int 0 0), (.int 1 0)]⟩), ⟨[]⟩⟩
noncomputable def o67 (P : Params) : Obj := ⟨(.type "tuple"), none, (.seq ⟨[]⟩ 0), ⟨[]⟩⟩
noncomputable def o68 (P : Params) : Obj := ⟨(.type "StopIteration"), none, (.fields ⟨[(.ref 67), .none, .none, .none, (.bool false), .none]⟩), ⟨[]⟩⟩
noncomputable def o69 (P : Params) : Obj := ⟨(.type "list"), none, (.seq ⟨[(.int 173 377), (.int 847 378), (.int 6150 379), (.int 6155 380), (.int 6156 381), (.int 6157 382), (.int 8203 383), (.int 8204 384), (.int 8205 385), (.int 8288 386), (.int 65279 387), (.int 65024 393), (.int 65025 394), (.int 65026 395), (.int 65027 396), (.int 65028 397), (.int 65029 398), (.int 65030 399), (.int 65031 400), (.int 65032 401), (.int 65033 402), (.int 65034 403), (.int 65035 404), (.int 65036 405), (.int 65037 406), (.int 65038 407), (.int 65039 408)]⟩ 0), ⟨[]⟩⟩
noncomputable def o70 (P : Params) : Obj := ⟨(.type "set"), none, (.set ⟨[(65024, (.int 65024 393)), (65025, (.int 65025 394)), (65026, (.int 65026 395)), (65027, (.int 65027 396)), (65028, (.int 65028 397)), (65029, (.int 65029 398)), (6150, (.int 6150 379)), (65030, (.int 65030 399)), (65031, (.int 65031 400)), (65032, (.int 65032 401)), (65033, (.int 65033 402)), (6155, (.int 6155 380)), (6156, (.int 6156 381)), (6157, (.int 6157 382)), (8203, (.int 8203 383)), (8204, (.int 8204 384)), (8205, (.int 8205 385)), (65034, (.int 65034 403)), (65035, (.int 65035 404)), (65036, (.int 65036 405)), (65037, (.int 65037 406)), (65038, (.int 65038 407)), (65039, (.int 65039 408)), (173, (.int 173 377)), (847, (.int 847 378)), (8288, (.int 8288 386)), (65279, (.int 65279 387))]⟩ 29 { mask := 127, place := ⟨[0, 1, 2, 3, 4, 5, 6, 7, 8, 9, 10, 11, 12, 13, 14, 15, 16, 17, 18, 19, 20, 21, 22, 45, 79, 96, 127]⟩, dummies := ⟨[]⟩, finger := 0, led := !P.followText "set-order", moves := 2, plain := true }), ⟨[]⟩⟩
noncomputable def o71 (P : Params) : Obj := ⟨(.type "list_iterator"), none, (.fields ⟨[.none, (.int 27 0)]⟩), ⟨[]⟩⟩
noncomputable def o72 (P : Params) : Obj := ⟨(.type "tuple"), none, (.seq ⟨[]⟩ 0), ⟨[]⟩⟩
noncomputable def o73 (P : Params) : Obj := ⟨(.type "StopIteration"), none, (.fields ⟨[(.ref 72), .none, .none, .none, (.bool false), .none]⟩), ⟨[]⟩⟩
noncomputable def T3 (P : Params) : BT := (.node (o0 P) (.node (o1 P) (.node (o3v3 P) (.node (o7 P) (.node (o15 P) (.node (o31 P) (.node (o63 P) .nil .nil) .nil) (.node (o47 P) .nil .nil)) (.node (o23 P) (.node (o39 P) (.node (o71 P) .nil .nil) .nil) (.node (o55 P) .nil .nil))) (.node (o11 P) (.node (o19 P) (.node (o35 P) (.node (o67 P) .nil .nil) .nil) (.node (o51 P) .nil .nil)) (.node (o27 P) (.node (o43 P) .nil .nil) (.node (o59 P) .nil .nil)))) (.node (o5 P) (.node (o9 P) (.node (o17 P) (.node (o33 P) (.node (o65 P) .nil .nil) .nil) (.node (o49 P) .nil .nil)) (.node (o25 P) (.node (o41 P) (.node (o73 P) .nil .nil) .nil) (.node (o57 P) .nil .nil))) (.node (o13 P) (.node (o21 P) (.node (o37 P) (.node (o69 P) .nil .nil) .nil) (.node (o53 P) .nil .nil)) (.node (o29v2 P) (.node (o45 P) .nil .nil) (.node (o61 P) .nil .nil))))) (.node (o2 P) (.node (o4 P) (.node (o8 P) (.node (o16 P) (.node (o32 P) (.node (o64 P) .nil .nil) .nil) (.node (o48 P) .nil .nil)) (.node (o24 P) (.node (o40 P) (.node (o72 P) .nil .nil) .nil) (.node (o56 P) .nil .nil))) (.node (o12 P) (.node (o20 P) (.node (o36 P) (.node (o68 P) .nil .nil) .nil) (.node (o52 P) .nil .nil)) (.node (o28 P) (.node (o44 P) .nil .nil) (.node (o60 P) .nil .nil)))) (.node (o6 P) (.node (o10 P) (.node (o18 P) (.node (o34 P) (.node (o66 P) .nil .nil) .nil) (.node (o50 P) .nil .nil)) (.node (o26 P) (.node (o42 P) .nil .nil) (.node (o58 P) .nil .nil))) (.node (o14 P) (.node (o22 P) (.node (o38 P) (.node (o70 P) .nil .nil) .nil) (.node (o54 P) .nil .nil)) (.node (o30 P) (.node (o46 P) .nil .nil) (.node (o62 P) .nil .nil))))))
noncomputable def S3 (w : World) (os : OsState) : SharedT := ⟨T3 w.params, 74, {}, ⟨[]⟩, { order := 0, schedule := 0, lifetime := 0, other := 0 }, 437, os⟩
noncomputable def o3v4 (P : Params) : Obj := ⟨(.type "dict"), none, (.dict ⟨[d P (Str.ofString "__name__") 165 (.str (Str.ofString "cpy313.stringprep") 375), d P (Str.ofString "__doc__") 166 .none, d P (Str.ofString "__package__") 167 .none, d P (Str.ofString "__loader__") 168 (.builtin "__main__.__loader__#opaque"), d P (Str.ofString "__spec__") 169 .none, d P (Str.ofString "__annotations__") 170 (.ref 6), d P (Str.ofString "__builtins__") 171 (.ref 4), d P (Str.ofString "__file__") 173 (.str (Str.ofString "/claim/cut.py") 172), d P (Str.ofString "__cached__") 174 .none, d P (Str.ofString "_sre") 275 (.ref 12), d P (Str.ofString "_iter_escaped_chars") 293 (.ref 38), d P (Str.ofString "_strip_quoted_realnames") 305 (.ref 45), d P (Str.ofString "_twin_re_1") 323 (.ref 50), d P (Str.ofString "_twin_re_2") 365 (.ref 55), d P (Str.ofString "CRLF") 367 (.str (S [13, 10]) 366), d P (Str.ofString "quotedata") 374 (.ref 62), d P (Str.ofString "b1_set") 436 (.ref 70), d P (Str.ofString "in_table_b1") 443 (.ref 80), d P (Str.ofString "in_table_c4") 451 (.ref 87)]⟩ 19), ⟨[]⟩⟩
noncomputable def o29v4 (P : Params) : Obj := ⟨.none, none, (.fields ⟨[(.int 3 0), (.int 0 0), (.ref 37), (.int 16 0), (.int 0 0), (.ref 44), (.int 38 0), (.int 0 0), (.ref 61), (.int 42 0), (.int 0 0), (.ref 79), (.int 44 0), (.int 0 0), (.ref 86)]⟩), ⟨[]⟩⟩
noncomputable def o74 (P : Params) : Obj := ⟨(.type "tuple"), none, (.seq ⟨[]⟩ 0), ⟨[]⟩⟩
noncomputable def o75 (P : Params) : Obj := ⟨.none, none, (.fields ⟨[]⟩), ⟨[]⟩⟩
noncomputable def o76 (P : Params) : Obj := ⟨(.type "tuple"), none, (.seq ⟨[(.str (Str.ofString "code") 440)]⟩ 0), ⟨[]⟩⟩
noncomputable def o77 (P : Params) : Obj := ⟨(.type "tuple"), none, (.seq ⟨[]⟩ 0), ⟨[]⟩⟩
noncomputable def o78 (P : Params) : Obj := ⟨.none, none, (.func (fnD (stm 11) 0 .none .none 0)), ⟨[]⟩⟩
noncomputable def o79 (P : Params) : Obj := ⟨(.type "code"), none, (.fields ⟨[(.str (Str.ofString "in_table_b1") 437), (.str (Str.ofString "in_table_b1") 438), (.str (Str.ofString "/claim/cut.py") 439), (.int 42 0), (.int 1 0), (.int 0 0), (.int 0 0), (.int 3 0), (.ref 74), (.bool true), (.int 276 0), (.ref 75), .none, (.ref 76), (.ref 77), (.ref 78), (.int 441 0), (.int 42 0), (.str (Str.ofString "/claim/cut.py") 442)]⟩), ⟨[]⟩⟩
noncomputable def o80 (P : Params) : Obj := ⟨(.type "function"), none, (.func (fnD (stm 11) 3 (.str (Str.ofString "cpy313.stringprep") 375) (.ref 79) 0)), ⟨[]⟩⟩
noncomputable def o81 (P : Params) : Obj := ⟨(.type "tuple"), none, (.seq ⟨[]⟩ 0), ⟨[]⟩⟩
noncomputable def o82 (P : Params) : Obj := ⟨.none, none, (.fields ⟨[]⟩), ⟨[]⟩⟩
noncomputable def o83 (P : Params) : Obj := ⟨(.type "tuple"), none, (.seq ⟨[(.str (Str.ofString "code") 447), (.str (Str.ofString "c") 448)]⟩ 0), ⟨[]⟩⟩
noncomputable def o84 (P : Params) : Obj := ⟨(.type "tuple"), none, (.seq ⟨[]⟩ 0), ⟨[]⟩⟩
noncomputable def o85 (P : Params) : Obj := ⟨.none, none, (.func (fnD (stm 12) 0 .none .none 0)), ⟨[]⟩⟩
noncomputable def o86 (P : Params) : Obj := ⟨(.type "code"), none, (.fields ⟨[(.str (Str.ofString "in_table_c4") 444), (.str (Str.ofString "in_table_c4") 445), (.str (Str.ofString "/claim/cut.py") 446), (.int 44 0), (.int 1 0), (.int 0 0), (.int 0 0), (.int 3 0), (.ref 81), (.bool true), (.int 276 0), (.ref 82), .none, (.ref 83), (.ref 84), (.ref 85), (.int 449 0), (.int 44 0), (.str (Str.ofString "/claim/cut.py") 450)]⟩), ⟨[]⟩⟩
noncomputable def o87 (P : Params) : Obj := ⟨(.type "function"), none, (.func (fnD (stm 12) 3 (.str (Str.ofString "cpy313.stringprep") 375) (.ref 86) 0)), ⟨[]⟩⟩
noncomputable def T4 (P : Params) : BT := (.node (o0 P) (.node (o1 P) (.node (o3v4 P) (.node (o7 P) (.node (o15 P) (.node (o31 P) (.node (o63 P) .nil .nil) .nil) (.node (o47 P) (.node (o79 P) .nil .nil) .nil)) (.node (o23 P) (.node (o39 P) (.node (o71 P) .nil .nil) .nil) (.node (o55 P) (.node (o87 P) .nil .nil) .nil))) (.node (o11 P) (.node (o19 P) (.node (o35 P) (.node (o67 P) .nil .nil) .nil) (.node (o51 P) (.node (o83 P) .nil .nil) .nil)) (.node (o27 P) (.node (o43 P) (.node (o75 P) .nil .nil) .nil) (.node (o59 P) .nil .nil)))) (.node (o5 P) (.node (o9 P) (.node (o17 P) (.node (o33 P) (.node (o65 P) .nil .nil) .nil) (.node (o49 P) (.node (o81 P) .nil .nil) .nil)) (.node (o25 P) (.node (o41 P) (.node (o73 P) .nil .nil) .nil) (.node (o57 P) .nil .nil))) (.node (o13 P) (.node (o21 P) (.node (o37 P) (.node (o69 P) .nil .nil) .nil) (.node (o53 P) (.node (o85 P) .nil .nil) .nil)) (.node (o29v4 P) (.node (o45 P) (.node (o77 P) .nil .nil) .nil) (.node (o61 P) .nil .nil))))) (.node (o2 P) (.node (o4 P) (.node (o8 P) (.node (o16 P) (.node (o32 P) (.node (o64 P) .nil .nil) .nil) (.node (o48 P) (.node (o80 P) .nil .nil) .nil)) (.node (o24 P) (.node (o40 P) (.node (o72 P) .nil .nil) .nil) (.node (o56 P) .nil .nil))) (.node (o12 P) (.node (o20 P) (.node (o36 P) (.node (o68 P) .nil .nil) .nil) (.node (o52 P) (.node (o84 P) .nil .nil) .nil)) (.node (o28 P) (.node (o44 P) (.node (o76 P) .nil .nil) .nil) (.node (o60 P) .nil .nil)))) (.node (o6 P) (.node (o10 P) (.node (o18 P) (.node (o34 P) (.node (o66 P) .nil .nil) .nil) (.node (o50 P) (.node (o82 P) .nil .nil) .nil)) (.node (o26 P) (.node (o42 P) (.node (o74 P) .nil .nil) .nil) (.node (o58 P) .nil .nil))) (.node (o14 P) (.node (o22 P) (.node (o38 P) (.node (o70 P) .nil .nil) .nil) (.node (o54 P) (.node (o86 P) .nil .nil) .nil)) (.node (o30 P) (.node (o46 P) (.node (o78 P) .nil .nil) .nil) (.node (o62 P) .nil .nil))))))
noncomputable def S4 (w : World) (os : OsState) : SharedT := ⟨T4 w.params, 88, {}, ⟨[]⟩, { order := 0, schedule := 0, lifetime := 0, other := 0 }, 452, os⟩
noncomputable def o3v5 (P : Params) : Obj := ⟨(.type "dict"), none, (.dict ⟨[d P (Str.ofString "__name__") 165 (.str (Str.ofString "cpy313.stringprep") 375), d P (Str.ofString "__doc__") 166 .none, d P (Str.ofString "__package__") 167 .none, d P (Str.ofString "__loader__") 168 (.builtin "__main__.__loader__#opaque"), d P (Str.ofString "__spec__") 169 .none, d P (Str.ofString "__annotations__") 170 (.ref 6), d P (Str.ofString "__builtins__") 171 (.ref 4), d P (Str.ofString "__file__") 173 (.str (Str.ofString "/claim/cut.py") 172), d P (Str.ofString "__cached__") 174 .none, d P (Str.ofString "_sre") 275 (.ref 12), d P (Str.ofString "_iter_escaped_chars") 293 (.ref 38), d P (Str.ofString "_strip_quoted_realnames") 305 (.ref 45), d P (Str.ofString "_twin_re_1") 323 (.ref 50), d P (Str.ofString "_twin_re_2") 365 (.ref 55), d P (Str.ofString "CRLF") 367 (.str (S [13, 10]) 366), d P (Str.ofString "quotedata") 374 (.ref 62), d P (Str.ofString "b1_set") 436 (.ref 70), d P (Str.ofString "in_table_b1") 443 (.ref 80), d P (Str.ofString "in_table_c4") 451 (.ref 87), d P (Str.ofString "c6_set") 465 (.ref 89)]⟩ 20), ⟨[]⟩⟩
noncomputable def o88 (P : Params) : Obj := ⟨(.type "range"), none, (.fields ⟨[(.int 65529 452), (.int 65534 453), (.int 1 454)]⟩), ⟨[]⟩⟩
noncomputable def o89 (P : Params) : Obj := ⟨(.type "set"), none, (.set ⟨[(65529, (.int 65529 455)), (65530, (.int 65530 457)), (65531, (.int 65531 459)), (65532, (.int 65532 461)), (65533, (.int 65533 463))]⟩ 6 { mask := 31, place := ⟨[25, 26, 27, 28, 29]⟩, dummies := ⟨[]⟩, finger := 0, led := !P.followText "set-order", moves := 1, plain := true }), ⟨[]⟩⟩
noncomputable def o90 (P : Params) : Obj := ⟨(.type "range_iterator"), none, (.fields ⟨[(.int 65534 0), (.int 0 0), (.int 1 0)]⟩), ⟨[]⟩⟩
noncomputable def o91 (P : Params) : Obj := ⟨(.type "tuple"), none, (.seq ⟨[]⟩ 0), ⟨[]⟩⟩
noncomputable def o92 (P : Params) : Obj := ⟨(.type "StopIteration"), none, (.fields ⟨[(.ref 91), .none, .none, .none, (.bool false), .none]⟩), ⟨[]⟩⟩
noncomputable def T5 (P : Params) : BT := (.node (o0 P) (.node (o1 P) (.node (o3v5 P) (.node (o7 P) (.node (o15 P) (.node (o31 P) (.node (o63 P) .nil .nil) .nil) (.node (o47 P) (.node (o79 P) .nil .nil) .nil)) (.node (o23 P) (.node (o39 P) (.node (o71 P) .nil .nil) .nil) (.node (o55 P) (.node (o87 P) .nil .nil) .nil))) (.node (o11 P) (.node (o19 P) (.node (o35 P) (.node (o67 P) .nil .nil) .nil) (.node (o51 P) (.node (o83 P) .nil .nil) .nil)) (.node (o27 P) (.node (o43 P) (.node (o75 P) .nil .nil) .nil) (.node (o59 P) (.node (o91 P) .nil .nil) .nil)))) (.node (o5 P) (.node (o9 P) (.node (o17 P) (.node (o33 P) (.node (o65 P) .nil .nil) .nil) (.node (o49 P) (.node (o81 P) .nil .nil) .nil)) (.node (o25 P) (.node (o41 P) (.node (o73 P) .nil .nil) .nil) (.node (o57 P) (.node (o89 P) .nil .nil) .nil))) (.node (o13 P) (.node (o21 P) (.node (o37 P) (.node (o69 P) .nil .nil) .nil) (.node (o53 P) (.node (o85 P) .nil .nil) .nil)) (.node (o29v4 P) (.node (o45 P) (.node (o77 P) .nil .nil) .nil) (.node (o61 P) .nil .nil))))) (.node (o2 P) (.node (o4 P) (.node (o8 P) (.node (o16 P) (.node (o32 P) (.node (o64 P) .nil .nil) .nil) (.node (o48 P) (.node (o80 P) .nil .nil) .nil)) (.node (o24 P) (.node (o40 P) (.node (o72 P) .nil .nil) .nil) (.node (o56 P) (.node (o88 P) .nil .nil) .nil))) (.node (o12 P) (.node (o20 P) (.node (o36 P) (.node (o68 P) .nil .nil) .nil) (.node (o52 P) (.node (o84 P) .nil .nil) .nil)) (.node (o28 P) (.node (o44 P) (.node (o76 P) .nil .nil) .nil) (.node (o60 P) (.node (o92 P) .nil .nil) .nil)))) (.node (o6 P) (.node (o10 P) (.node (o18 P) (.node (o34 P) (.node (o66 P) .nil .nil) .nil) (.node (o50 P) (.node (o82 P) .nil .nil) .nil)) (.node (o26 P) (.node (o42 P) (.node (o74 P) .nil .nil) .nil) (.node (o58 P) (.node (o90 P) .nil .nil) .nil))) (.node (o14 P) (.node (o22 P) (.node (o38 P) (.node (o70 P) .nil .nil) .nil) (.node (o54 P) (.node (o86 P) .nil .nil) .nil)) (.node (o30 P) (.node (o46 P) (.node (o78 P) .nil .nil) .nil) (.node (o62 P) .nil .nil))))))
noncomputable def S5 (w : World) (os : OsState) : SharedT := ⟨T5 w.params, 93, {}, ⟨[]⟩, { order := 0, schedule := 0, lifetime := 0, other := 0 }, 466, os⟩
noncomputable def o3v6 (P : Params) : Obj := ⟨(.type "dict"), none, (.dict ⟨[d P (Str.ofString "__name__") 165 (.str (Str.ofString "cpy313.stringprep") 375), d P (Str.ofString "__doc__") 166 .none, d P (Str.ofString "__package__") 167 .none, d P (Str.ofString "__loader__") 168 (.builtin "__main__.__loader__#opaque"), d P (Str.ofString "__spec__") 169 .none, d P (Str.ofString "__annotations__") 170 (.ref 6), d P (Str.ofString "__builtins__") 171 (.ref 4), d P (Str.ofString "__file__") 173 (.str (Str.ofString "/claim/cut.py") 172), d P (Str.ofString "__cached__") 174 .none, d P (Str.ofString "_sre") 275 (.ref 12), d P (Str.ofString "_iter_escaped_chars") 293 (.ref 38), d P (Str.ofString "_strip_quoted_realnames") 305 (.ref 45), d P (Str.ofString "_twin_re_1") 323 (.ref 50), d P (Str.ofString "_twin_re_2") 365 (.ref 55), d P (Str.ofString "CRLF") 367 (.str (S [13, 10]) 366), d P (Str.ofString "quotedata") 374 (.ref 62), d P (Str.ofString "b1_set") 436 (.ref 70), d P (Str.ofString "in_table_b1") 443 (.ref 80), d P (Str.ofString "in_table_c4") 451 (.ref 87), d P (Str.ofString "c6_set") 465 (.ref 89), d P (Str.ofString "in_table_c6") 472 (.ref 99)]⟩ 21), ⟨[]⟩⟩
noncomputable def o29v6 (P : Params) : Obj := ⟨.none, none, (.fields ⟨[(.int 3 0), (.int 0 0), (.ref 37), (.int 16 0), (.int 0 0), (.ref 44), (.int 38 0), (.int 0 0), (.ref 61), (.int 42 0), (.int 0 0), (.ref 79), (.int 44 0), (.int 0 0), (.ref 86), (.int 52 0), (.int 0 0), (.ref 98)]⟩), ⟨[]⟩⟩
noncomputable def o93 (P : Params) : Obj := ⟨(.type "tuple"), none, (.seq ⟨[]⟩ 0), ⟨[]⟩⟩
noncomputable def o94 (P : Params) : Obj := ⟨.none, none, (.fields ⟨[]⟩), ⟨[]⟩⟩
noncomputable def o95 (P : Params) : Obj := ⟨(.type "tuple"), none, (.seq ⟨[(.str (Str.ofString "code") 469)]⟩ 0), ⟨[]⟩⟩
noncomputable def o96 (P : Params) : Obj := ⟨(.type "tuple"), none, (.seq ⟨[]⟩ 0), ⟨[]⟩⟩
noncomputable def o97 (P : Params) : Obj := ⟨.none, none, (.func (fnD (stm 14) 0 .none .none 0)), ⟨[]⟩⟩
noncomputable def o98 (P : Params) : Obj := ⟨(.type "code"), none, (.fields ⟨[(.str (Str.ofString "in_table_c6") 466), (.str (Str.ofString "in_table_c6") 467), (.str (Str.ofString "/claim/cut.py") 468), (.int 52 0), (.int 1 0), (.int 0 0), (.int 0 0), (.int 3 0), (.ref 93), (.bool true), (.int 276 0), (.ref 94), .none, (.ref 95), (.ref 96), (.ref 97), (.int 470 0), (.int 52 0), (.str (Str.ofString "/claim/cut.py") 471)]⟩), ⟨[]⟩⟩
noncomputable def o99 (P : Params) : Obj := ⟨(.type "function"), none, (.func (fnD (stm 14) 3 (.str (Str.ofString "cpy313.stringprep") 375) (.ref 98) 0)), ⟨[]⟩⟩
noncomputable def T6 (P : Params) : BT := (.node (o0 P) (.node (o1 P) (.node (o3v6 P) (.node (o7 P) (.node (o15 P) (.node (o31 P) (.node (o63 P) .nil .nil) (.node (o95 P) .nil .nil)) (.node (o47 P) (.node (o79 P) .nil .nil) .nil)) (.node (o23 P) (.node (o39 P) (.node (o71 P) .nil .nil) .nil) (.node (o55 P) (.node (o87 P) .nil .nil) .nil))) (.node (o11 P) (.node (o19 P) (.node (o35 P) (.node (o67 P) .nil .nil) (.node (o99 P) .nil .nil)) (.node (o51 P) (.node (o83 P) .nil .nil) .nil)) (.node (o27 P) (.node (o43 P) (.node (o75 P) .nil .nil) .nil) (.node (o59 P) (.node (o91 P) .nil .nil) .nil)))) (.node (o5 P) (.node (o9 P) (.node (o17 P) (.node (o33 P) (.node (o65 P) .nil .nil) (.node (o97 P) .nil .nil)) (.node (o49 P) (.node (o81 P) .nil .nil) .nil)) (.node (o25 P) (.node (o41 P) (.node (o73 P) .nil .nil) .nil) (.node (o57 P) (.node (o89 P) .nil .nil) .nil))) (.node (o13 P) (.node (o21 P) (.node (o37 P) (.node (o69 P) .nil .nil) .nil) (.node (o53 P) (.node (o85 P) .nil .nil) .nil)) (.node (o29v6 P) (.node (o45 P) (.node (o77 P) .nil .nil) .nil) (.node (o61 P) (.node (o93 P) .nil .nil) .nil))))) (.node (o2 P) (.node (o4 P) (.node (o8 P) (.node (o16 P) (.node (o32 P) (.node (o64 P) .nil .nil) (.node (o96 P) .nil .nil)) (.node (o48 P) (.node (o80 P) .nil .nil) .nil)) (.node (o24 P) (.node (o40 P) (.node (o72 P) .nil .nil) .nil) (.node (o56 P) (.node (o88 P) .nil .nil) .nil))) (.node (o12 P) (.node (o20 P) (.node (o36 P) (.node (o68 P) .nil .nil) .nil) (.node (o52 P) (.node (o84 P) .nil .nil) .nil)) (.node (o28 P) (.node (o44 P) (.node (o76 P) .nil .nil) .nil) (.node (o60 P) (.node (o92 P) .nil .nil) .nil)))) (.node (o6 P) (.node (o10 P) (.node (o18 P) (.node (o34 P) (.node (o66 P) .nil .nil) (.node (o98 P) .nil .nil)) (.node (o50 P) (.node (o82 P) .nil .nil) .nil)) (.node (o26 P) (.node (o42 P) (.node (o74 P) .nil .nil) .nil) (.node (o58 P) (.node (o90 P) .nil .nil) .nil))) (.node (o14 P) (.node (o22 P) (.node (o38 P) (.node (o70 P) .nil .nil) .nil) (.node (o54 P) (.node (o86 P) .nil .nil) .nil)) (.node (o30 P) (.node (o46 P) (.node (o78 P) .nil .nil) .nil) (.node (o62 P) (.node (o94 P) .nil .nil) .nil))))))
noncomputable def S6 (w : World) (os : OsState) : SharedT := ⟨T6 w.params, 100, {}, ⟨[]⟩, { order := 0, schedule := 0, lifetime := 0, other := 0 }, 473, os⟩
noncomputable def o3v7 (P : Params) : Obj := ⟨(.type "dict"), none, (.dict ⟨[d P (Str.ofString "__name__") 165 (.str (Str.ofString "cpy313.stringprep") 375), d P (Str.ofString "__doc__") 166 .none, d P (Str.ofString "__package__") 167 .none, d P (Str.ofString "__loader__") 168 (.builtin "__main__.__loader__#opaque"), d P (Str.ofString "__spec__") 169 .none, d P (Str.ofString "__annotations__") 170 (.ref 6), d P (Str.ofString "__builtins__") 171 (.ref 4), d P (Str.ofString "__file__") 173 (.str (Str.ofString "/claim/cut.py") 172), d P (Str.ofString "__cached__") 174 .none, d P (Str.ofString "_sre") 275 (.ref 12), d P (Str.ofString "_iter_escaped_chars") 293 (.ref 38), d P (Str.ofString "_strip_quoted_realnames") 305 (.ref 45), d P (Str.ofString "_twin_re_1") 323 (.ref 50), d P (Str.ofString "_twin_re_2") 365 (.ref 55), d P (Str.ofString "CRLF") 367 (.str (S [13, 10]) 366), d P (Str.ofString "quotedata") 374 (.ref 62), d P (Str.ofString "b1_set") 436 (.ref 70), d P (Str.ofString "in_table_b1") 443 (.ref 80), d P (Str.ofString "in_table_c4") 451 (.ref 87), d P (Str.ofString "c6_set") 465 (.ref 89), d P (Str.ofString "in_table_c6") 472 (.ref 99), d P (Str.ofString "c7_set") 500 (.ref 101)]⟩ 22), ⟨[]⟩⟩
noncomputable def o100 (P : Params) : Obj := ⟨(.type "range"), none, (.fields ⟨[(.int 12272 473), (.int 12284 474), (.int 1 475)]⟩), ⟨[]⟩⟩
noncomputable def o101 (P : Params) : Obj := ⟨(.type "set"), none, (.set ⟨[(12272, (.int 12272 476)), (12273, (.int 12273 478)), (12274, (.int 12274 480)), (12275, (.int 12275 482)), (12276, (.int 12276 484)), (12277, (.int 12277 486)), (12278, (.int 12278 488)), (12279, (.int 12279 490)), (12280, (.int 12280 492)), (12281, (.int 12281 494)), (12282, (.int 12282 496)), (12283, (.int 12283 498))]⟩ 13 { mask := 31, place := ⟨[16, 17, 18, 19, 20, 21, 22, 23, 24, 25, 26, 27]⟩, dummies := ⟨[]⟩, finger := 0, led := !P.followText "set-order", moves := 1, plain := true }), ⟨[]⟩⟩
noncomputable def o102 (P : Params) : Obj := ⟨(.type "range_iterator"), none, (.fields ⟨[(.int 12284 0), (.int 0 0), (.int 1 0)]⟩), ⟨[]⟩⟩
noncomputable def o103 (P : Params) : Obj := ⟨(.type "tuple"), none, (.seq ⟨[]⟩ 0), ⟨[]⟩⟩
noncomputable def o104 (P : Params) : Obj := ⟨(.type "StopIteration"), none, (.fields ⟨[(.ref 103), .none, .none, .none, (.bool false), .none]⟩), ⟨[]⟩⟩
noncomputable def T7 (P : Params) : BT := (.node (o0 P) (.node (o1 P) (.node (o3v7 P) (.node (o7 P) (.node (o15 P) (.node (o31 P) (.node (o63 P) .nil .nil) (.node (o95 P) .nil .nil)) (.node (o47 P) (.node (o79 P) .nil .nil) .nil)) (.node (o23 P) (.node (o39 P) (.node (o71 P) .nil .nil) (.node (o103 P) .nil .nil)) (.node (o55 P) (.node (o87 P) .nil .nil) .nil))) (.node (o11 P) (.node (o19 P) (.node (o35 P) (.node (o67 P) .nil .nil) (.node (o99 P) .nil .nil)) (.node (o51 P) (.node (o83 P) .nil .nil) .nil)) (.node (o27 P) (.node (o43 P) (.node (o75 P) .nil .nil) .nil) (.node (o59 P) (.node (o91 P) .nil .nil) .nil)))) (.node (o5 P) (.node (o9 P) (.node (o17 P) (.node (o33 P) (.node (o65 P) .nil .nil) (.node (o97 P) .nil .nil)) (.node (o49 P) (.node (o81 P) .nil .nil) .nil)) (.node (o25 P) (.node (o41 P) (.node (o73 P) .nil .nil) .nil) (.node (o57 P) (.node (o89 P) .nil .nil) .nil))) (.node (o13 P) (.node (o21 P) (.node (o37 P) (.node (o69 P) .nil .nil) (.node (o101 P) .nil .nil)) (.node (o53 P) (.node (o85 P) .nil .nil) .nil)) (.node (o29v6 P) (.node (o45 P) (.node (o77 P) .nil .nil) .nil) (.node (o61 P) (.node (o93 P) .nil .nil) .nil))))) (.node (o2 P) (.node (o4 P) (.node (o8 P) (.node (o16 P) (.node (o32 P) (.node (o64 P) .nil .nil) (.node (o96 P) .nil .nil)) (.node (o48 P) (.node (o80 P) .nil .nil) .nil)) (.node (o24 P) (.node (o40 P) (.node (o72 P) .nil .nil) (.node (o104 P) .nil .nil)) (.node (o56 P) (.node (o88 P) .nil .nil) .nil))) (.node (o12 P) (.node (o20 P) (.node (o36 P) (.node (o68 P) .nil .nil) (.node (o100 P) .nil .nil)) (.node (o52 P) (.node (o84 P) .nil .nil) .nil)) (.node (o28 P) (.node (o44 P) (.node (o76 P) .nil .nil) .nil) (.node (o60 P) (.node (o92 P) .nil .nil) .nil)))) (.node (o6 P) (.node (o10 P) (.node (o18 P) (.node (o34 P) (.node (o66 P) .nil .nil) (.node (o98 P) .nil .nil)) (.node (o50 P) (.node (o82 P) .nil .nil) .nil)) (.node (o26 P) (.node (o42 P) (.node (o74 P) .nil .nil) .nil) (.node (o58 P) (.node (o90 P) .nil .nil) .nil))) (.node (o14 P) (.node (o22 P) (.node (o38 P) (.node (o70 P) .nil .nil) (.node (o102 P) .nil .nil)) (.node (o54 P) (.node (o86 P) .nil .nil) .nil)) (.node (o30 P) (.node (o46 P) (.node (o78 P) .nil .nil) .nil) (.node (o62 P) (.node (o94 P) .nil .nil) .nil))))))
noncomputable def S7 (w : World) (os : OsState) : SharedT := ⟨T7 w.params, 105, {}, ⟨[]⟩, { order := 0, schedule := 0, lifetime := 0, other := 0 }, 501, os⟩
noncomputable def o3v8 (P : Params) : Obj := ⟨(.type "dict"), none, (.dict ⟨[d P (Str.ofString "__name__") 165 (.str (Str.ofString "cpy313.stringprep") 375), d P (Str.ofString "__doc__") 166 .none, d P (Str.ofString "__package__") 167 .none, d P (Str.ofString "__loader__") 168 (.builtin "__main__.__loader__#opaque"), d P (Str.ofString "__spec__") 169 .none, d P (Str.ofString "__annotations__") 170 (.ref 6), d P (Str.ofString "__builtins__") 171 (.ref 4), d P (Str.ofString "__file__") 173 (.str (Str.ofString "/claim/cut.py") 172), d P (Str.ofString "__cached__") 174 .none, d P (Str.ofString "_sre") 275 (.ref 12), d P (Str.ofString "_iter_escaped_chars") 293 (.ref 38), d P (Str.ofString "_strip_quoted_realnames") 305 (.ref 45), d P (Str.ofString "_twin_re_1") 323 (.ref 50), d P (Str.ofString "_twin_re_2") 365 (.ref 55), d P (Str.ofString "CRLF") 367 (.str (S [13, 10]) 366), d P (Str.ofString "quotedata") 374 (.ref 62), d P (Str.ofString "b1_set") 436 (.ref 70), d P (Str.ofString "in_table_b1") 443 (.ref 80), d P (Str.ofString "in_table_c4") 451 (.ref 87), d P (Str.ofString "c6_set") 465 (.ref 89), d P (Str.ofString "in_table_c6") 472 (.ref 99), d P (Str.ofString "c7_set") 500 (.ref 101), d P (Str.ofString "in_table_c7") 507 (.ref 111)]⟩ 23), ⟨[]⟩⟩
noncomputable def o29v8 (P : Params) : Obj := ⟨.none, none, (.fields ⟨[(.int 3 0), (.int 0 0), (.ref 37), (.int 16 0), (.int 0 0), (.ref 44), (.int 38 0), (.int 0 0), (.ref 61), (.int 42 0), (.int 0 0), (.ref 79), (.int 44 0), (.int 0 0), (.ref 86), (.int 52 0), (.int 0 0), (.ref 98), (.int 55 0), (.int 0 0), (.ref 110)]⟩), ⟨[]⟩⟩
noncomputable def o105 (P : Params) : Obj := ⟨(.type "tuple"), none, (.seq ⟨[]⟩ 0), ⟨[]⟩⟩
noncomputable def o106 (P : Params) : Obj := ⟨.none, none, (.fields ⟨[]⟩), ⟨[]⟩⟩
noncomputable def o107 (P : Params) : Obj := ⟨(.type "tuple"), none, (.seq ⟨[(.str (Str.ofString "code") 504)]⟩ 0), ⟨[]⟩⟩
noncomputable def o108 (P : Params) : Obj := ⟨(.type "tuple"), none, (.seq ⟨[]⟩ 0), ⟨[]⟩⟩
noncomputable def o109 (P : Params) : Obj := ⟨.none, none, (.func (fnD (stm 16) 0 .none .none 0)), ⟨[]⟩⟩
noncomputable def o110 (P : Params) : Obj := ⟨(.type "code"), none, (.fields ⟨[(.str (Str.ofString "in_table_c7") 501), (.str (Str.ofString "in_table_c7") 502), (.str (Str.ofString "/claim/cut.py") 503), (.int 55 0), (.int 1 0), (.int 0 0), (.int 0 0), (.int 3 0), (.ref 105), (.bool true), (.int 276 0), (.ref 106), .none, (.ref 107), (.ref 108), (.ref 109), (.int 505 0), (.int 55 0), (.str (Str.ofString "/claim/cut.py") 506)]⟩), ⟨[]⟩⟩
noncomputable def o111 (P : Params) : Obj := ⟨(.type "function"), none, (.func (fnD (stm 16) 3 (.str (Str.ofString "cpy313.stringprep") 375) (.ref 110) 0)), ⟨[]⟩⟩
noncomputable def T8 (P : Params) : BT := (.node (o0 P) (.node (o1 P) (.node (o3v8 P) (.node (o7 P) (.node (o15 P) (.node (o31 P) (.node (o63 P) .nil .nil) (.node (o95 P) .nil .nil)) (.node (o47 P) (.node (o79 P) .nil .nil) (.node (o111 P) .nil .nil))) (.node (o23 P) (.node (o39 P) (.node (o71 P) .nil .nil) (.node (o103 P) .nil .nil)) (.node (o55 P) (.node (o87 P) .nil .nil) .nil))) (.node (o11 P) (.node (o19 P) (.node (o35 P) (.node (o67 P) .nil .nil) (.node (o99 P) .nil .nil)) (.node (o51 P) (.node (o83 P) .nil .nil) .nil)) (.node (o27 P) (.node (o43 P) (.node (o75 P) .nil .nil) (.node (o107 P) .nil .nil)) (.node (o59 P) (.node (o91 P) .nil .nil) .nil)))) (.node (o5 P) (.node (o9 P) (.node (o17 P) (.node (o33 P) (.node (o65 P) .nil .nil) (.node (o97 P) .nil .nil)) (.node (o49 P) (.node (o81 P) .nil .nil) .nil)) (.node (o25 P) (.node (o41 P) (.node (o73 P) .nil .nil) (.node (o105 P) .nil .nil)) (.node (o57 P) (.node (o89 P) .nil .nil) .nil))) (.node (o13 P) (.node (o21 P) (.node (o37 P) (.node (o69 P) .nil .nil) (.node (o101 P) .nil .nil)) (.node (o53 P) (.node (o85 P) .nil .nil) .nil)) (.node (o29v8 P) (.node (o45 P) (.node (o77 P) .nil .nil) (.node (o109 P) .nil .nil)) (.node (o61 P) (.node (o93 P) .nil .nil) .nil))))) (.node (o2 P) (.node (o4 P) (.node (o8 P) (.node (o16 P) (.node (o32 P) (.node (o64 P) .nil .nil) (.node (o96 P) .nil .nil)) (.node (o48 P) (.node (o80 P) .nil .nil) .nil)) (.node (o24 P) (.node (o40 P) (.node (o72 P) .nil .nil) (.node (o104 P) .nil .nil)) (.node (o56 P) (.node (o88 P) .nil .nil) .nil))) (.node (o12 P) (.node (o20 P) (.node (o36 P) (.node (o68 P) .nil .nil) (.node (o100 P) .nil .nil)) (.node (o52 P) (.node (o84 P) .nil .nil) .nil)) (.node (o28 P) (.node (o44 P) (.node (o76 P) .nil .nil) (.node (o108 P) .nil .nil)) (.node (o60 P) (.node (o92 P) .nil .nil) .nil)))) (.node (o6 P) (.node (o10 P) (.node (o18 P) (.node (o34 P) (.node (o66 P) .nil .nil) (.node (o98 P) .nil .nil)) (.node (o50 P) (.node (o82 P) .nil .nil) .nil)) (.node (o26 P) (.node (o42 P) (.node (o74 P) .nil .nil) (.node (o106 P) .nil .nil)) (.node (o58 P) (.node (o90 P) .nil .nil) .nil))) (.node (o14 P) (.node (o22 P) (.node (o38 P) (.node (o70 P) .nil .nil) (.node (o102 P) .nil .nil)) (.node (o54 P) (.node (o86 P) .nil .nil) .nil)) (.node (o30 P) (.node (o46 P) (.node (o78 P) .nil .nil) (.node (o110 P) .nil .nil)) (.node (o62 P) (.node (o94 P) .nil .nil) .nil))))))
noncomputable def S8 (w : World) (os : OsState) : SharedT := ⟨T8 w.params, 112, {}, ⟨[]⟩, { order := 0, schedule := 0, lifetime := 0, other := 0 }, 508, os⟩
noncomputable def o3v9 (P : Params) : Obj := ⟨(.type "dict"), none, (.dict ⟨[d P (Str.ofString "__name__") 165 (.str (Str.ofString "cpy313.stringprep") 375), d P (Str.ofString "__doc__") 166 .none, d P (Str.ofString "__package__") 167 .none, d P (Str.ofString "__loader__") 168 (.builtin "__main__.__loader__#opaque"), d P (Str.ofString "__spec__") 169 .none, d P (Str.ofString "__annotations__") 170 (.ref 6), d P (Str.ofString "__builtins__") 171 (.ref 4), d P (Str.ofString "__file__") 173 (.str (Str.ofString "/claim/cut.py") 172), d P (Str.ofString "__cached__") 174 .none, d P (Str.ofString "_sre") 275 (.ref 12), d P (Str.ofString "_iter_escaped_chars") 293 (.ref 38), d P (Str.ofString "_strip_quoted_realnames") 305 (.ref 45), d P (Str.ofString "_twin_re_1") 323 (.ref 50), d P (Str.ofString "_twin_re_2") 365 (.ref 55), d P (Str.ofString "CRLF") 367 (.str (S [13, 10]) 366), d P (Str.ofString "quotedata") 374 (.ref 62), d P (Str.ofString "b1_set") 436 (.ref 70), d P (Str.ofString "in_table_b1") 443 (.ref 80), d P (Str.ofString "in_table_c4") 451 (.ref 87), d P (Str.ofString "c6_set") 465 (.ref 89), d P (Str.ofString "in_table_c6") 472 (.ref 99), d P (Str.ofString "c7_set") 500 (.ref 101), d P (Str.ofString "in_table_c7") 507 (.ref 111), d P (Str.ofString "c8_set") 548 (.ref 125)]⟩ 24), ⟨[]⟩⟩
noncomputable def o112 (P : Params) : Obj := ⟨(.type "list"), none, (.seq ⟨[(.int 832 508), (.int 833 509), (.int 8206 510), (.int 8207 511)]⟩ 0), ⟨[]⟩⟩
noncomputable def o113 (P : Params) : Obj := ⟨(.type "range"), none, (.fields ⟨[(.int 8234 512), (.int 8239 513), (.int 1 514)]⟩), ⟨[]⟩⟩
noncomputable def o114 (P : Params) : Obj := ⟨(.type "list"), none, (.seq ⟨[(.int 8234 517), (.int 8235 518), (.int 8236 519), (.int 8237 520), (.int 8238 521)]⟩ 7), ⟨[]⟩⟩
noncomputable def o115 (P : Params) : Obj := ⟨(.type "range_iterator"), none, (.fields ⟨[(.int 8239 0), (.int 0 0), (.int 1 0)]⟩), ⟨[]⟩⟩
noncomputable def o116 (P : Params) : Obj := ⟨(.type "tuple"), none, (.seq ⟨[]⟩ 0), ⟨[]⟩⟩
noncomputable def o117 (P : Params) : Obj := ⟨(.type "StopIteration"), none, (.fields ⟨[(.ref 116), .none, .none, .none, (.bool false), .none]⟩), ⟨[]⟩⟩
noncomputable def o118 (P : Params) : Obj := ⟨(.type "list"), none, (.seq ⟨[(.int 832 508), (.int 833 509), (.int 8206 510), (.int 8207 511), (.int 8234 517), (.int 8235 518), (.int 8236 519), (.int 8237 520), (.int 8238 521)]⟩ 0), ⟨[]⟩⟩
noncomputable def o119 (P : Params) : Obj := ⟨(.type "range"), none, (.fields ⟨[(.int 8298 522), (.int 8304 523), (.int 1 524)]⟩), ⟨[]⟩⟩
noncomputable def o120 (P : Params) : Obj := ⟨(.type "list"), none, (.seq ⟨[(.int 8298 527), (.int 8299 528), (.int 8300 529), (.int 8301 530), (.int 8302 531), (.int 8303 532)]⟩ 8), ⟨[]⟩⟩
noncomputable def o121 (P : Params) : Obj := ⟨(.type "range_iterator"), none, (.fields ⟨[(.int 8304 0), (.int 0 0), (.int 1 0)]⟩), ⟨[]⟩⟩
noncomputable def o122 (P : Params) : Obj := ⟨(.type "tuple"), none, (.seq ⟨[]⟩ 0), ⟨[]⟩⟩
noncomputable def o123 (P : Params) : Obj := ⟨(.type "StopIteration"), none, (.fields ⟨[(.ref 122), .none, .none, .none, (.bool false), .none]⟩), ⟨[]⟩⟩
noncomputable def o124 (P : Params) : Obj := ⟨(.type "list"), none, (.seq ⟨[(.int 832 508), (.int 833 509), (.int 8206 510), (.int 8207 511), (.int 8234 517), (.int 8235 518), (.int 8236 519), (.int 8237 520), (.int 8238 521), (.int 8298 527), (.int 8299 528), (.int 8300 529), (.int 8301 530), (.int 8302 531), (.int 8303 532)]⟩ 0), ⟨[]⟩⟩
noncomputable def o125 (P : Params) : Obj := ⟨(.type "set"), none, (.set ⟨[(832, (.int 832 508)), (833, (.int 833 509)), (8234, (.int 8234 517)), (8235, (.int 8235 518)), (8236, (.int 8236 519)), (8237, (.int 8237 520)), (8206, (.int 8206 510)), (8207, (.int 8207 511)), (8238, (.int 8238 521)), (8298, (.int 8298 527)), (8299, (.int 8299 528)), (8300, (.int 8300 529)), (8301, (.int 8301 530)), (8302, (.int 8302 531)), (8303, (.int 8303 532))]⟩ 16 { mask := 31, place := ⟨[0, 1, 10, 11, 12, 13, 14, 15, 16, 17, 18, 19, 20, 21, 22]⟩, dummies := ⟨[]⟩, finger := 0, led := !P.followText "set-order", moves := 1, plain := true }), ⟨[]⟩⟩
noncomputable def o126 (P : Params) : Obj := ⟨(.type "list_iterator"), none, (.fields ⟨[.none, (.int 15 0)]⟩), ⟨[]⟩⟩
noncomputable def o127 (P : Params) : Obj := ⟨(.type "tuple"), none, (.seq ⟨[]⟩ 0), ⟨[]⟩⟩
noncomputable def o128 (P : Params) : Obj := ⟨(.type "StopIteration"), none, (.fields ⟨[(.ref 127), .none, .none, .none, (.bool false), .none]⟩), ⟨[]⟩⟩
noncomputable def T9 (P : Params) : BT := (.node (o0 P) (.node (o1 P) (.node (o3v9 P) (.node (o7 P) (.node (o15 P) (.node (o31 P) (.node (o63 P) (.node (o127 P) .nil .nil) .nil) (.node (o95 P) .nil .nil)) (.node (o47 P) (.node (o79 P) .nil .nil) (.node (o111 P) .nil .nil))) (.node (o23 P) (.node (o39 P) (.node (o71 P) .nil .nil) (.node (o103 P) .nil .nil)) (.node (o55 P) (.node (o87 P) .nil .nil) (.node (o119 P) .nil .nil)))) (.node (o11 P) (.node (o19 P) (.node (o35 P) (.node (o67 P) .nil .nil) (.node (o99 P) .nil .nil)) (.node (o51 P) (.node (o83 P) .nil .nil) (.node (o115 P) .nil .nil))) (.node (o27 P) (.node (o43 P) (.node (o75 P) .nil .nil) (.node (o107 P) .nil .nil)) (.node (o59 P) (.node (o91 P) .nil .nil) (.node (o123 P) .nil .nil))))) (.node (o5 P) (.node (o9 P) (.node (o17 P) (.node (o33 P) (.node (o65 P) .nil .nil) (.node (o97 P) .nil .nil)) (.node (o49 P) (.node (o81 P) .nil .nil) (.node (o113 P) .nil .nil))) (.node (o25 P) (.node (o41 P) (.node (o73 P) .nil .nil) (.node (o105 P) .nil .nil)) (.node (o57 P) (.node (o89 P) .nil .nil) (.node (o121 P) .nil .nil)))) (.node (o13 P) (.node (o21 P) (.node (o37 P) (.node (o69 P) .nil .nil) (.node (o101 P) .nil .nil)) (.node (o53 P) (.node (o85 P) .nil .nil) (.node (o117 P) .nil .nil))) (.node (o29v8 P) (.node (o45 P) (.node (o77 P) .nil .nil) (.node (o109 P) .nil .nil)) (.node (o61 P) (.node (o93 P) .nil .nil) (.node (o125 P) .nil .nil)))))) (.node (o2 P) (.node (o4 P) (.node (o8 P) (.node (o16 P) (.node (o32 P) (.node (o64 P) (.node (o128 P) .nil .nil) .nil) (.node (o96 P) .nil .nil)) (.node (o48 P) (.node (o80 P) .nil .nil) (.node (o112 P) .nil .nil))) (.node (o24 P) (.node (o40 P) (.node (o72 P) .nil .nil) (.node (o104 P) .nil .nil)) (.node (o56 P) (.node (o88 P) .nil .nil) (.node (o120 P) .nil .nil)))) (.node (o12 P) (.node (o20 P) (.node (o36 P) (.node (o68 P) .nil .nil) (.node (o100 P) .nil .nil)) (.node (o52 P) (.node (o84 P) .nil .nil) (.node (o116 P) .nil .nil))) (.node (o28 P) (.node (o44 P) (.node (o76 P) .nil .nil) (.node (o108 P) .nil .nil)) (.node (o60 P) (.node (o92 P) .nil .nil) (.node (o124 P) .nil .nil))))) (.node (o6 P) (.node (o10 P) (.node (o18 P) (.node (o34 P) (.node (o66 P) .nil .nil) (.node (o98 P) .nil .nil)) (.node (o50 P) (.node (o82 P) .nil .nil) (.node (o114 P) .nil .nil))) (.node (o26 P) (.node (o42 P) (.node (o74 P) .nil .nil) (.node (o106 P) .nil .nil)) (.node (o58 P) (.node (o90 P) .nil .nil) (.node (o122 P) .nil .nil)))) (.node (o14 P) (.node (o22 P) (.node (o38 P) (.node (o70 P) .nil .nil) (.node (o102 P) .nil .nil)) (.node (o54 P) (.node (o86 P) .nil .nil) (.node (o118 P) .nil .nil))) (.node (o30 P) (.node (o46 P) (.node (o78 P) .nil .nil) (.node (o110 P) .nil .nil)) (.node (o62 P) (.node (o94 P) .nil .nil) (.node (o126 P) .nil .nil)))))))
noncomputable def S9 (w : World) (os : OsState) : SharedT := ⟨T9 w.params, 129, {}, ⟨[]⟩, { order := 0, schedule := 0, lifetime := 0, other := 0 }, 549, os⟩
noncomputable def o3v10 (P : Params) : Obj := ⟨(.type "dict"), none, (.dict ⟨[d P (Str.ofString "__name__") 165 (.str (Str.ofString "cpy313.stringprep") 375), d P (Str.ofString "__doc__") 166 .none, d P (Str.ofString "__package__") 167 .none, d P (Str.ofString "__loader__") 168 (.builtin "__main__.__loader__#opaque"), d P (Str.ofString "__spec__") 169 .none, d P (Str.ofString "__annotations__") 170 (.ref 6), d P (Str.ofString "__builtins__") 171 (.ref 4), d P (Str.ofString "__file__") 173 (.str (Str.ofString "/claim/cut.py") 172), d P (Str.ofString "__cached__") 174 .none, d P (Str.ofString "_sre") 275 (.ref 12), d P (Str.ofString "_iter_escaped_chars") 293 (.ref 38), d P (Str.ofString "_strip_quoted_realnames") 305 (.ref 45), d P (Str.ofString "_twin_re_1") 323 (.ref 50), d P (Str.ofString "_twin_re_2") 365 (.ref 55), d P (Str.ofString "CRLF") 367 (.str (S [13, 10]) 366), d P (Str.ofString "quotedata") 374 (.ref 62), d P (Str.ofString "b1_set") 436 (.ref 70), d P (Str.ofString "in_table_b1") 443 (.ref 80), d P (Str.ofString "in_table_c4") 451 (.ref 87), d P (Str.ofString "c6_set") 465 (.ref 89), d P (Str.ofString "in_table_c6") 472 (.ref 99), d P (Str.ofString "c7_set") 500 (.ref 101), d P (Str.ofString "in_table_c7") 507 (.ref 111), d P (Str.ofString "c8_set") 548 (.ref 125), d P (Str.ofString "in_table_c8") 555 (.ref 135)]⟩ 25), ⟨[]⟩⟩
noncomputable def o29v10 (P : Params) : Obj := ⟨.none, none, (.fields ⟨[(.int 3 0), (.int 0 0), (.ref 37), (.int 16 0), (.int 0 0), (.ref 44), (.int 38 0), (.int 0 0), (.ref 61), (.int 42 0), (.int 0 0), (.ref 79), (.int 44 0), (.int 0 0), (.ref 86), (.int 52 0), (.int 0 0), (.ref 98), (.int 55 0), (.int 0 0), (.ref 110), (.int 58 0), (.int 0 0), (.ref 134)]⟩), ⟨[]⟩⟩
noncomputable def o129 (P : Params) : Obj := ⟨(.type "tuple"), none, (.seq ⟨[]⟩ 0), ⟨[]⟩⟩
noncomputable def o130 (P : Params) : Obj := ⟨.none, none, (.fields ⟨[]⟩), ⟨[]⟩⟩
noncomputable def o131 (P : Params) : Obj := ⟨(.type "tuple"), none, (.seq ⟨[(.str (Str.ofString "code") 552)]⟩ 0), ⟨[]⟩⟩
noncomputable def o132 (P : Params) : Obj := ⟨(.type "tuple"), none, (.seq ⟨[]⟩ 0), ⟨[]⟩⟩
noncomputable def o133 (P : Params) : Obj := ⟨.none, none, (.func (fnD (stm 18) 0 .none .none 0)), ⟨[]⟩⟩
noncomputable def o134 (P : Params) : Obj := ⟨(.type "code"), none, (.fields ⟨[(.str (Str.ofString "in_table_c8") 549), (.str (Str.ofString "in_table_c8") 550), (.str (Str.ofString "/claim/cut.py") 551), (.int 58 0), (.int 1 0), (.int 0 0), (.int 0 0), (.int 3 0), (.ref 129), (.bool true), (.int 276 0), (.ref 130), .none, (.ref 131), (.ref 132), (.ref 133), (.int 553 0), (.int 58 0), (.str (Str.ofString "/claim/cut.py") 554)]⟩), ⟨[]⟩⟩
noncomputable def o135 (P : Params) : Obj := ⟨(.type "function"), none, (.func (fnD (stm 18) 3 (.str (Str.ofString "cpy313.stringprep") 375) (.ref 134) 0)), ⟨[]⟩⟩
noncomputable def T10 (P : Params) : BT := (.node (o0 P) (.node (o1 P) (.node (o3v10 P) (.node (o7 P) (.node (o15 P) (.node (o31 P) (.node (o63 P) (.node (o127 P) .nil .nil) .nil) (.node (o95 P) .nil .nil)) (.node (o47 P) (.node (o79 P) .nil .nil) (.node (o111 P) .nil .nil))) (.node (o23 P) (.node (o39 P) (.node (o71 P) (.node (o135 P) .nil .nil) .nil) (.node (o103 P) .nil .nil)) (.node (o55 P) (.node (o87 P) .nil .nil) (.node (o119 P) .nil .nil)))) (.node (o11 P) (.node (o19 P) (.node (o35 P) (.node (o67 P) (.node (o131 P) .nil .nil) .nil) (.node (o99 P) .nil .nil)) (.node (o51 P) (.node (o83 P) .nil .nil) (.node (o115 P) .nil .nil))) (.node (o27 P) (.node (o43 P) (.node (o75 P) .nil .nil) (.node (o107 P) .nil .nil)) (.node (o59 P) (.node (o91 P) .nil .nil) (.node (o123 P) .nil .nil))))) (.node (o5 P) (.node (o9 P) (.node (o17 P) (.node (o33 P) (.node (o65 P) (.node (o129 P) .nil .nil) .nil) (.node (o97 P) .nil .nil)) (.node (o49 P) (.node (o81 P) .nil .nil) (.node (o113 P) .nil .nil))) (.node (o25 P) (.node (o41 P) (.node (o73 P) .nil .nil) (.node (o105 P) .nil .nil)) (.node (o57 P) (.node (o89 P) .nil .nil) (.node (o121 P) .nil .nil)))) (.node (o13 P) (.node (o21 P) (.node (o37 P) (.node (o69 P) (.node (o133 P) .nil .nil) .nil) (.node (o101 P) .nil .nil)) (.node (o53 P) (.node (o85 P) .nil .nil) (.node (o117 P) .nil .nil))) (.node (o29v10 P) (.node (o45 P) (.node (o77 P) .nil .nil) (.node (o109 P) .nil .nil)) (.node (o61 P) (.node (o93 P) .nil .nil) (.node (o125 P) .nil .nil)))))) (.node (o2 P) (.node (o4 P) (.node (o8 P) (.node (o16 P) (.node (o32 P) (.node (o64 P) (.node (o128 P) .nil .nil) .nil) (.node (o96 P) .nil .nil)) (.node (o48 P) (.node (o80 P) .nil .nil) (.node (o112 P) .nil .nil))) (.node (o24 P) (.node (o40 P) (.node (o72 P) .nil .nil) (.node (o104 P) .nil .nil)) (.node (o56 P) (.node (o88 P) .nil .nil) (.node (o120 P) .nil .nil)))) (.node (o12 P) (.node (o20 P) (.node (o36 P) (.node (o68 P) (.node (o132 P) .nil .nil) .nil) (.node (o100 P) .nil .nil)) (.node (o52 P) (.node (o84 P) .nil .nil) (.node (o116 P) .nil .nil))) (.node (o28 P) (.node (o44 P) (.node (o76 P) .nil .nil) (.node (o108 P) .nil .nil)) (.node (o60 P) (.node (o92 P) .nil .nil) (.node (o124 P) .nil .nil))))) (.node (o6 P) (.node (o10 P) (.node (o18 P) (.node (o34 P) (.node (o66 P) (.node (o130 P) .nil .nil) .nil) (.node (o98 P) .nil .nil)) (.node (o50 P) (.node (o82 P) .nil .nil) (.node (o114 P) .nil .nil))) (.node (o26 P) (.node (o42 P) (.node (o74 P) .nil .nil) (.node (o106 P) .nil .nil)) (.node (o58 P) (.node (o90 P) .nil .nil) (.node (o122 P) .nil .nil)))) (.node (o14 P) (.node (o22 P) (.node (o38 P) (.node (o70 P) (.node (o134 P) .nil .nil) .nil) (.node (o102 P) .nil .nil)) (.node (o54 P) (.node (o86 P) .nil .nil) (.node (o118 P) .nil .nil))) (.node (o30 P) (.node (o46 P) (.node (o78 P) .nil .nil) (.node (o110 P) .nil .nil)) (.node (o62 P) (.node (o94 P) .nil .nil) (.node (o126 P) .nil .nil)))))))
noncomputable def S10 (w : World) (os : OsState) : SharedT := ⟨T10 w.params, 136, {}, ⟨[]⟩, { order := 0, schedule := 0, lifetime := 0, other := 0 }, 556, os⟩
noncomputable def o3v11 (P : Params) : Obj := ⟨(.type "dict"), none, (.dict ⟨[d P (Str.ofString "__name__") 165 (.str (Str.ofString "cpy313.stringprep") 375), d P (Str.ofString "__doc__") 166 .none, d P (Str.ofString "__package__") 167 .none, d P (Str.ofString "__loader__") 168 (.builtin "__main__.__loader__#opaque"), d P (Str.ofString "__spec__") 169 .none, d P (Str.ofString "__annotations__") 170 (.ref 6), d P (Str.ofString "__builtins__") 171 (.ref 4), d P (Str.ofString "__file__") 173 (.str (Str.ofString "/claim/cut.py") 172), d P (Str.ofString "__cached__") 174 .none, d P (Str.ofString "_sre") 275 (.ref 12), d P (Str.ofString "_iter_escaped_chars") 293 (.ref 38), d P (Str.ofString "_strip_quoted_realnames") 305 (.ref 45), d P (Str.ofString "_twin_re_1") 323 (.ref 50), d P (Str.ofString "_twin_re_2") 365 (.ref 55), d P (Str.ofString "CRLF") 367 (.str (S [13, 10]) 366), d P (Str.ofString "quotedata") 374 (.ref 62), d P (Str.ofString "b1_set") 436 (.ref 70), d P (Str.ofString "in_table_b1") 443 (.ref 80), d P (Str.ofString "in_table_c4") 451 (.ref 87), d P (Str.ofString "c6_set") 465 (.ref 89), d P (Str.ofString "in_table_c6") 472 (.ref 99), d P (Str.ofString "c7_set") 500 (.ref 101), d P (Str.ofString "in_table_c7") 507 (.ref 111), d P (Str.ofString "c8_set") 548 (.ref 125), d P (Str.ofString "in_table_c8") 555 (.ref 135), d P (Str.ofString "c9_set") 755 (.ref 143)]⟩ 26), ⟨[]⟩⟩
noncomputable def o136 (P : Params) : Obj := ⟨(.type "list"), none, (.seq ⟨[(.int 917505 556)]⟩ 0), ⟨[]⟩⟩
noncomputable def o137 (P : Params) : Obj := ⟨(.type "range"), none, (.fields ⟨[(.int 917536 557), (.int 917632 558), (.int 1 559)]⟩), ⟨[]⟩⟩
noncomputable def o138 (P : Params) : Obj := ⟨(.type "list"), none, (.seq ⟨[(.int 917536 562), (.int 917537 563), (.int 917538 564), (.int 917539 565), (.int 917540 566), (.int 917541 567), (.int 917542 568), (.int 917543 569), (.int 917544 570), (.int 917545 571), (.int 917546 572), (.int 917547 573), (.int 917548 574), (.int 917549 575), (.int 917550 576), (.int 917551 577), (.int 917552 578), (.int 917553 579), (.int 917554 580), (.int 917555 581), (.int 917556 582), (.int 917557 583), (.int 917558 584), (.int 917559 585), (.int 917560 586), (.int 917561 587), (.int 917562 588), (.int 917563 589), (.int 917564 590), (.int 917565 591), (.int 917566 592), (.int 917567 593), (.int 917568 594), (.int 917569 595), (.int 917570 596), (.int 917571 597), (.int 917572 598), (.int 917573 599), (.int 917574 600), (.int 917575 601), (.int 917576 602), (.int 917577 603), (.int 917578 604), (.int 917579 605), (.int 917580 606), (.int 917581 607), (.int 917582 608), (.int 917583 609), (.int 917584 610), (.int 917585 611), (.int 917586 612), (.int 917587 613), (.int 917588 614), (.int 917589 615), (.int 917590 616), (.int 917591 617), (.int 917592 618), (.int 917593 619), (.int 917594 620), (.int 917595 621), (.int 917596 622), (.int 917597 623), (.int 917598 624), (.int 917599 625), (.int 917600 626), (.int 917601 627), (.int 917602 628), (.int 917603 629), (.int 917604 630), (.int 917605 631), (.int 917606 632), (.int 917607 633), (.int 917608 634), (.int 917609 635), (.int 917610 636), (.int 917611 637), (.int 917612 638), (.int 917613 639), (.int 917614 640), (.int 917615 641), (.int 917616 642), (.int 917617 643), (.int 917618 644), (.int 917619 645), (.int 917620 646), (.int 917621 647), (.int 917622 648), (.int 917623 649), (.int 917624 650), (.int 917625 651), (.int 917626 652), (.int 917627 653), (.int 917628 654), (.int 917629 655), (.int 917630 656), (.int 917631 657)]⟩ 98), ⟨[]⟩⟩
noncomputable def o139 (P : Params) : Obj := ⟨(.type "range_iterator"), none, (.fields ⟨[(.int 917632 0), (.int 0 0), (.int 1 0)]⟩), ⟨[]⟩⟩
noncomputable def o140 (P : Params) : Obj := ⟨(.type "tuple"), none, (.seq ⟨[]⟩ 0), ⟨[]⟩⟩
noncomputable def o141 (P : Params) : Obj := ⟨(.type "StopIteration"), none, (.fields ⟨[(.ref 140), .none, .none, .none, (.bool false), .none]⟩), ⟨[]⟩⟩
noncomputable def o142 (P : Params) : Obj := ⟨(.type "list"), none, (.seq ⟨[(.int 917505 556), (.int 917536 562), (.int 917537 563), (.int 917538 564), (.int 917539 565), (.int 917540 566), (.int 917541 567), (.int 917542 568), (.int 917543 569), (.int 917544 570), (.int 917545 571), (.int 917546 572), (.int 917547 573), (.int 917548 574), (.int 917549 575), (.int 917550 576), (.int 917551 577), (.int 917552 578), (.int 917553 579), (.int 917554 580), (.int 917555 581), (.int 917556 582), (.int 917557 583), (.int 917558 584), (.int 917559 585), (.int 917560 586), (.int 917561 587), (.int 917562 588), (.int 917563 589), (.int 917564 590), (.int 917565 591), (.int 917566 592), (.int 917567 593), (.int 917568 594), (.int 917569 595), (.int 917570 596), (.int 917571 597), (.int 917572 598), (.int 917573 599), (.int 917574 600), (.int 917575 601), (.int 917576 602), (.int 917577 603), (.int 917578 604), (.int 917579 605), (.int 917580 606), (.int 917581 607), (.int 917582 608), (.int 917583 609), (.int 917584 610), (.int 917585 611), (.int 917586 612), (.int 917587 613), (.int 917588 614), (.int 917589 615), (.int 917590 616), (.int 917591 617), (.int 917592 618), (.int 917593 619), (.int 917594 620), (.int 917595 621), (.int 917596 622), (.int 917597 623), (.int 917598 624), (.int 917599 625), (.int 917600 626), (.int 917601 627), (.int 917602 628), (.int 917603 629), (.int 917604 630), (.int 917605 631), (.int 917606 632), (.int 917607 633), (.int 917608 634), (.int 917609 635), (.int 917610 636), (.int 917611 637), (.int 917612 638), (.int 917613 639), (.int 917614 640), (.int 917615 641), (.int 917616 642), (.int 917617 643), (.int 917618 644), (.int 917619 645), (.int 917620 646), (.int 917621 647), (.int 917622 648), (.int 917623 649), (.int 917624 650), (.int 917625 651), (.int 917626 652), (.int 917627 653), (.int 917628 654), (.int 917629 655), (.int 917630 656), (.int 917631 657)]⟩ 0), ⟨[]⟩⟩
noncomputable def o143 (P : Params) : Obj := setO (vals9.foldl addX (q0 P))
noncomputable def o144 (P : Params) : Obj := ⟨(.type "list_iterator"), none, (.fields ⟨[.none, (.int 97 0)]⟩), ⟨[]⟩⟩
noncomputable def o145 (P : Params) : Obj := ⟨(.type "tuple"), none, (.seq ⟨[]⟩ 0), ⟨[]⟩⟩
noncomputable def o146 (P : Params) : Obj := ⟨(.type "StopIteration"), none, (.fields ⟨[(.ref 145), .none, .none, .none, (.bool false), .none]⟩), ⟨[]⟩⟩
noncomputable def T11 (P : Params) : BT := (.node (o0 P) (.node (o1 P) (.node (o3v11 P) (.node (o7 P) (.node (o15 P) (.node (o31 P) (.node (o63 P) (.node (o127 P) .nil .nil) .nil) (.node (o95 P) .nil .nil)) (.node (o47 P) (.node (o79 P) (.node (o143 P) .nil .nil) .nil) (.node (o111 P) .nil .nil))) (.node (o23 P) (.node (o39 P) (.node (o71 P) (.node (o135 P) .nil .nil) .nil) (.node (o103 P) .nil .nil)) (.node (o55 P) (.node (o87 P) .nil .nil) (.node (o119 P) .nil .nil)))) (.node (o11 P) (.node (o19 P) (.node (o35 P) (.node (o67 P) (.node (o131 P) .nil .nil) .nil) (.node (o99 P) .nil .nil)) (.node (o51 P) (.node (o83 P) .nil .nil) (.node (o115 P) .nil .nil))) (.node (o27 P) (.node (o43 P) (.node (o75 P) (.node (o139 P) .nil .nil) .nil) (.node (o107 P) .nil .nil)) (.node (o59 P) (.node (o91 P) .nil .nil) (.node (o123 P) .nil .nil))))) (.node (o5 P) (.node (o9 P) (.node (o17 P) (.node (o33 P) (.node (o65 P) (.node (o129 P) .nil .nil) .nil) (.node (o97 P) .nil .nil)) (.node (o49 P) (.node (o81 P) (.node (o145 P) .nil .nil) .nil) (.node (o113 P) .nil .nil))) (.node (o25 P) (.node (o41 P) (.node (o73 P) (.node (o137 P) .nil .nil) .nil) (.node (o105 P) .nil .nil)) (.node (o57 P) (.node (o89 P) .nil .nil) (.node (o121 P) .nil .nil)))) (.node (o13 P) (.node (o21 P) (.node (o37 P) (.node (o69 P) (.node (o133 P) .nil .nil) .nil) (.node (o101 P) .nil .nil)) (.node (o53 P) (.node (o85 P) .nil .nil) (.node (o117 P) .nil .nil))) (.node (o29v10 P) (.node (o45 P) (.node (o77 P) (.node (o141 P) .nil .nil) .nil) (.node (o109 P) .nil .nil)) (.node (o61 P) (.node (o93 P) .nil .nil) (.node (o125 P) .nil .nil)))))) (.node (o2 P) (.node (o4 P) (.node (o8 P) (.node (o16 P) (.node (o32 P) (.node (o64 P) (.node (o128 P) .nil .nil) .nil) (.node (o96 P) .nil .nil)) (.node (o48 P) (.node (o80 P) (.node (o144 P) .nil .nil) .nil) (.node (o112 P) .nil .nil))) (.node (o24 P) (.node (o40 P) (.node (o72 P) (.node (o136 P) .nil .nil) .nil) (.node (o104 P) .nil .nil)) (.node (o56 P) (.node (o88 P) .nil .nil) (.node (o120 P) .nil .nil)))) (.node (o12 P) (.node (o20 P) (.node (o36 P) (.node (o68 P) (.node (o132 P) .nil .nil) .nil) (.node (o100 P) .nil .nil)) (.node (o52 P) (.node (o84 P) .nil .nil) (.node (o116 P) .nil .nil))) (.node (o28 P) (.node (o44 P) (.node (o76 P) (.node (o140 P) .nil .nil) .nil) (.node (o108 P) .nil .nil)) (.node (o60 P) (.node (o92 P) .nil .nil) (.node (o124 P) .nil .nil))))) (.node (o6 P) (.node (o10 P) (.node (o18 P) (.node (o34 P) (.node (o66 P) (.node (o130 P) .nil .nil) .nil) (.node (o98 P) .nil .nil)) (.node (o50 P) (.node (o82 P) (.node (o146 P) .nil .nil) .nil) (.node (o114 P) .nil .nil))) (.node (o26 P) (.node (o42 P) (.node (o74 P) (.node (o138 P) .nil .nil) .nil) (.node (o106 P) .nil .nil)) (.node (o58 P) (.node (o90 P) .nil .nil) (.node (o122 P) .nil .nil)))) (.node (o14 P) (.node (o22 P) (.node (o38 P) (.node (o70 P) (.node (o134 P) .nil .nil) .nil) (.node (o102 P) .nil .nil)) (.node (o54 P) (.node (o86 P) .nil .nil) (.node (o118 P) .nil .nil))) (.node (o30 P) (.node (o46 P) (.node (o78 P) (.node (o142 P) .nil .nil) .nil) (.node (o110 P) .nil .nil)) (.node (o62 P) (.node (o94 P) .nil .nil) (.node (o126 P) .nil .nil)))))))
noncomputable def S11 (w : World) (os : OsState) : SharedT := ⟨T11 w.params, 147, {}, ⟨[]⟩, { order := 0, schedule := 0, lifetime := 0, other := 0 }, 756, os⟩
noncomputable def o3v12 (P : Params) : Obj := ⟨(.type "dict"), none, (.dict ⟨[d P (Str.ofString "__name__") 165 (.str (Str.ofString "law_to0003_01") 763), d P (Str.ofString "__doc__") 166 .none, d P (Str.ofString "__package__") 167 .none, d P (Str.ofString "__loader__") 168 (.builtin "__main__.__loader__#opaque"), d P (Str.ofString "__spec__") 169 .none, d P (Str.ofString "__annotations__") 170 (.ref 6), d P (Str.ofString "__builtins__") 171 (.ref 4), d P (Str.ofString "__file__") 173 (.str (Str.ofString "/claim/cut.py") 172), d P (Str.ofString "__cached__") 174 .none, d P (Str.ofString "_sre") 275 (.ref 12), d P (Str.ofString "_iter_escaped_chars") 293 (.ref 38), d P (Str.ofString "_strip_quoted_realnames") 305 (.ref 45), d P (Str.ofString "_twin_re_1") 323 (.ref 50), d P (Str.ofString "_twin_re_2") 365 (.ref 55), d P (Str.ofString "CRLF") 367 (.str (S [13, 10]) 366), d P (Str.ofString "quotedata") 374 (.ref 62), d P (Str.ofString "b1_set") 436 (.ref 70), d P (Str.ofString "in_table_b1") 443 (.ref 80), d P (Str.ofString "in_table_c4") 451 (.ref 87), d P (Str.ofString "c6_set") 465 (.ref 89), d P (Str.ofString "in_table_c6") 472 (.ref 99), d P (Str.ofString "c7_set") 500 (.ref 101), d P (Str.ofString "in_table_c7") 507 (.ref 111), d P (Str.ofString "c8_set") 548 (.ref 125), d P (Str.ofString "in_table_c8") 555 (.ref 135), d P (Str.ofString "c9_set") 755 (.ref 143), d P (Str.ofString "in_table_c9") 762 (.ref 153), d P (Str.ofString "_law_sign") 770 (.ref 158), d P (Str.ofString "_law_beside") 779 (.ref 165), d P (Str.ofString "_law_last") 786 (.ref 172), d P (Str.ofString "_law_nets") 803 (.ref 179), d P (Str.ofString "_law_pieces") 818 (.ref 186), d P (Str.ofString "_law_told") 824 (.ref 191), d P (Str.ofString "_law_due") 838 (.ref 198), d P (Str.ofString "law") 844 (.ref 203)]⟩ 35), ⟨[]⟩⟩
noncomputable def o29v12 (P : Params) : Obj := ⟨.none, none, (.fields ⟨[(.int 3 0), (.int 0 0), (.ref 37), (.int 16 0), (.int 0 0), (.ref 44), (.int 38 0), (.int 0 0), (.ref 61), (.int 42 0), (.int 0 0), (.ref 79), (.int 44 0), (.int 0 0), (.ref 86), (.int 52 0), (.int 0 0), (.ref 98), (.int 55 0), (.int 0 0), (.ref 110), (.int 58 0), (.int 0 0), (.ref 134), (.int 61 0), (.int 0 0), (.ref 152), (.int 64 0), (.int 0 0), (.ref 157), (.int 76 0), (.int 0 0), (.ref 164), (.int 80 0), (.int 0 0), (.ref 171), (.int 82 0), (.int 0 0), (.ref 178), (.int 99 0), (.int 0 0), (.ref 185), (.int 111 0), (.int 0 0), (.ref 190), (.int 114 0), (.int 0 0), (.ref 197), (.int 124 0), (.int 0 0), (.ref 202)]⟩), ⟨[]⟩⟩
noncomputable def o147 (P : Params) : Obj := ⟨(.type "tuple"), none, (.seq ⟨[]⟩ 0), ⟨[]⟩⟩
noncomputable def o148 (P : Params) : Obj := ⟨.none, none, (.fields ⟨[]⟩), ⟨[]⟩⟩
noncomputable def o149 (P : Params) : Obj := ⟨(.type "tuple"), none, (.seq ⟨[(.str (Str.ofString "code") 759)]⟩ 0), ⟨[]⟩⟩
noncomputable def o150 (P : Params) : Obj := ⟨(.type "tuple"), none, (.seq ⟨[]⟩ 0), ⟨[]⟩⟩
noncomputable def o151 (P : Params) : Obj := ⟨.none, none, (.func (fnD (stm 20) 0 .none .none 0)), ⟨[]⟩⟩
noncomputable def o152 (P : Params) : Obj := ⟨(.type "code"), none, (.fields ⟨[(.str (Str.ofString "in_table_c9") 756), (.str (Str.ofString "in_table_c9") 757), (.str (Str.ofString "/claim/cut.py") 758), (.int 61 0), (.int 1 0), (.int 0 0), (.int 0 0), (.int 3 0), (.ref 147), (.bool true), (.int 276 0), (.ref 148), .none, (.ref 149), (.ref 150), (.ref 151), (.int 760 0), (.int 61 0), (.str (Str.ofString "/claim/cut.py") 761)]⟩), ⟨[]⟩⟩
noncomputable def o153 (P : Params) : Obj := ⟨(.type "function"), none, (.func (fnD (stm 20) 3 (.str (Str.ofString "cpy313.stringprep") 375) (.ref 152) 0)), ⟨[]⟩⟩
noncomputable def o154 (P : Params) : Obj := ⟨(.type "tuple"), none, (.seq ⟨[]⟩ 0), ⟨[]⟩⟩
noncomputable def o155 (P : Params) : Obj := ⟨.none, none, (.fields ⟨[]⟩), ⟨[]⟩⟩
noncomputable def o156 (P : Params) : Obj := ⟨.none, none, (.func (fnD (stm 22) 0 .none .none 0)), ⟨[]⟩⟩
noncomputable def o157 (P : Params) : Obj := ⟨(.type "code"), none, (.fields ⟨[(.str (Str.ofString "_law_sign") 765), (.str (Str.ofString "_law_sign") 766), (.str (Str.ofString "/claim/cut.py") 767), (.int 64 0), (.int 2 0), (.int 0 0), (.int 0 0), (.int 3 0), (.ref 154), (.bool true), (.int 276 0), (.ref 155), .none, .none, .none, (.ref 156), (.int 768 0), (.int 64 0), (.str (Str.ofString "/claim/cut.py") 769)]⟩), ⟨[]⟩⟩
noncomputable def o158 (P : Params) : Obj := ⟨(.type "function"), none, (.func (fnD (stm 22) 3 (.str (Str.ofString "law_to0003_01") 763) (.ref 157) 0)), ⟨[]⟩⟩
noncomputable def o159 (P : Params) : Obj := ⟨(.type "tuple"), none, (.seq ⟨[]⟩ 0), ⟨[]⟩⟩
noncomputable def o160 (P : Params) : Obj := ⟨.none, none, (.fields ⟨[]⟩), ⟨[]⟩⟩
noncomputable def o161 (P : Params) : Obj := ⟨(.type "tuple"), none, (.seq ⟨[(.str (Str.ofString "number") 774), (.str (Str.ofString "codes") 775), (.str (Str.ofString "more") 776)]⟩ 0), ⟨[]⟩⟩
noncomputable def o162 (P : Params) : Obj := ⟨(.type "tuple"), none, (.seq ⟨[]⟩ 0), ⟨[]⟩⟩
noncomputable def o163 (P : Params) : Obj := ⟨.none, none, (.func (fnD (stm 23) 0 .none .none 0)), ⟨[]⟩⟩
noncomputable def o164 (P : Params) : Obj := ⟨(.type "code"), none, (.fields ⟨[(.str (Str.ofString "_law_beside") 771), (.str (Str.ofString "_law_beside") 772), (.str (Str.ofString "/claim/cut.py") 773), (.int 76 0), (.int 1 0), (.int 0 0), (.int 0 0), (.int 3 0), (.ref 159), (.bool true), (.int 276 0), (.ref 160), .none, (.ref 161), (.ref 162), (.ref 163), (.int 777 0), (.int 76 0), (.str (Str.ofString "/claim/cut.py") 778)]⟩), ⟨[]⟩⟩
noncomputable def o165 (P : Params) : Obj := ⟨(.type "function"), none, (.func (fnD (stm 23) 3 (.str (Str.ofString "law_to0003_01") 763) (.ref 164) 0)), ⟨[]⟩⟩
noncomputable def o166 (P : Params) : Obj := ⟨(.type "tuple"), none, (.seq ⟨[]⟩ 0), ⟨[]⟩⟩
noncomputable def o167 (P : Params) : Obj := ⟨.none, none, (.fields ⟨[]⟩), ⟨[]⟩⟩
noncomputable def o168 (P : Params) : Obj := ⟨(.type "tuple"), none, (.seq ⟨[(.str (Str.ofString "opened") 783)]⟩ 0), ⟨[]⟩⟩
noncomputable def o169 (P : Params) : Obj := ⟨(.type "tuple"), none, (.seq ⟨[]⟩ 0), ⟨[]⟩⟩
noncomputable def o170 (P : Params) : Obj := ⟨.none, none, (.func (fnD (stm 24) 0 .none .none 0)), ⟨[]⟩⟩
noncomputable def o171 (P : Params) : Obj := ⟨(.type "code"), none, (.fields ⟨[(.str (Str.ofString "_law_last") 780), (.str (Str.ofString "_law_last") 781), (.str (Str.ofString "/claim/cut.py") 782), (.int 80 0), (.int 1 0), (.int 0 0), (.int 0 0), (.int 3 0), (.ref 166), (.bool true), (.int 276 0), (.ref 167), .none, (.ref 168), (.ref 169), (.ref 170), (.int 784 0), (.int 80 0), (.str (Str.ofString "/claim/cut.py") 785)]⟩), ⟨[]⟩⟩
noncomputable def o172 (P : Params) : Obj := ⟨(.type "function"), none, (.func (fnD (stm 24) 3 (.str (Str.ofString "law_to0003_01") 763) (.ref 171) 0)), ⟨[]⟩⟩
noncomputable def o173 (P : Params) : Obj := ⟨(.type "tuple"), none, (.seq ⟨[]⟩ 0), ⟨[]⟩⟩
noncomputable def o174 (P : Params) : Obj := ⟨.none, none, (.fields ⟨[]⟩), ⟨[]⟩⟩
noncomputable def o175 (P : Params) : Obj := ⟨(.type "tuple"), none, (.seq ⟨[(.str (Str.ofString "numbers") 790), (.str (Str.ofString "kinds") 791), (.str (Str.ofString "nets") 792), (.str (Str.ofString "opened") 793), (.str (Str.ofString "k") 794), (.str (Str.ofString "own") 795), (.str (Str.ofString "half") 796), (.str (Str.ofString "deed") 797), (.str (Str.ofString "line") 798), (.str (Str.ofString "then") 799), (.str (Str.ofString "now") 800)]⟩ 0), ⟨[]⟩⟩
noncomputable def o176 (P : Params) : Obj := ⟨(.type "tuple"), none, (.seq ⟨[]⟩ 0), ⟨[]⟩⟩
noncomputable def o177 (P : Params) : Obj := ⟨.none, none, (.func (fnD (stm 25) 0 .none .none 0)), ⟨[]⟩⟩
noncomputable def o178 (P : Params) : Obj := ⟨(.type "code"), none, (.fields ⟨[(.str (Str.ofString "_law_nets") 787), (.str (Str.ofString "_law_nets") 788), (.str (Str.ofString "/claim/cut.py") 789), (.int 82 0), (.int 1 0), (.int 0 0), (.int 0 0), (.int 3 0), (.ref 173), (.bool true), (.int 276 0), (.ref 174), .none, (.ref 175), (.ref 176), (.ref 177), (.int 801 0), (.int 82 0), (.str (Str.ofString "/claim/cut.py") 802)]⟩), ⟨[]⟩⟩
noncomputable def o179 (P : Params) : Obj := ⟨(.type "function"), none, (.func (fnD (stm 25) 3 (.str (Str.ofString "law_to0003_01") 763) (.ref 178) 0)), ⟨[]⟩⟩
noncomputable def o180 (P : Params) : Obj := ⟨(.type "tuple"), none, (.seq ⟨[]⟩ 0), ⟨[]⟩⟩
noncomputable def o181 (P : Params) : Obj := ⟨.none, none, (.fields ⟨[]⟩), ⟨[]⟩⟩
noncomputable def o182 (P : Params) : Obj := ⟨(.type "tuple"), none, (.seq ⟨[(.str (Str.ofString "net") 807), (.str (Str.ofString "start") 808), (.str (Str.ofString "number") 809), (.str (Str.ofString "pieces") 810), (.str (Str.ofString "k") 811), (.str (Str.ofString "left") 812), (.str (Str.ofString "right") 813), (.str (Str.ofString "node") 814), (.str (Str.ofString "dots") 815)]⟩ 0), ⟨[]⟩⟩
noncomputable def o183 (P : Params) : Obj := ⟨(.type "tuple"), none, (.seq ⟨[]⟩ 0), ⟨[]⟩⟩
noncomputable def o184 (P : Params) : Obj := ⟨.none, none, (.func (fnD (stm 26) 0 .none .none 0)), ⟨[]⟩⟩
noncomputable def o185 (P : Params) : Obj := ⟨(.type "code"), none, (.fields ⟨[(.str (Str.ofString "_law_pieces") 804), (.str (Str.ofString "_law_pieces") 805), (.str (Str.ofString "/claim/cut.py") 806), (.int 99 0), (.int 3 0), (.int 0 0), (.int 0 0), (.int 3 0), (.ref 180), (.bool true), (.int 276 0), (.ref 181), .none, (.ref 182), (.ref 183), (.ref 184), (.int 816 0), (.int 99 0), (.str (Str.ofString "/claim/cut.py") 817)]⟩), ⟨[]⟩⟩
noncomputable def o186 (P : Params) : Obj := ⟨(.type "function"), none, (.func (fnD (stm 26) 3 (.str (Str.ofString "law_to0003_01") 763) (.ref 185) 0)), ⟨[]⟩⟩
noncomputable def o187 (P : Params) : Obj := ⟨(.type "tuple"), none, (.seq ⟨[]⟩ 0), ⟨[]⟩⟩
noncomputable def o188 (P : Params) : Obj := ⟨.none, none, (.fields ⟨[]⟩), ⟨[]⟩⟩
noncomputable def o189 (P : Params) : Obj := ⟨.none, none, (.func (fnD (stm 27) 0 .none .none 0)), ⟨[]⟩⟩
noncomputable def o190 (P : Params) : Obj := ⟨(.type "code"), none, (.fields ⟨[(.str (Str.ofString "_law_told") 819), (.str (Str.ofString "_law_told") 820), (.str (Str.ofString "/claim/cut.py") 821), (.int 111 0), (.int 3 0), (.int 0 0), (.int 0 0), (.int 3 0), (.ref 187), (.bool true), (.int 276 0), (.ref 188), .none, .none, .none, (.ref 189), (.int 822 0), (.int 111 0), (.str (Str.ofString "/claim/cut.py") 823)]⟩), ⟨[]⟩⟩
noncomputable def o191 (P : Params) : Obj := ⟨(.type "function"), none, (.func (fnD (stm 27) 3 (.str (Str.ofString "law_to0003_01") 763) (.ref 190) 0)), ⟨[]⟩⟩
noncomputable def o192 (P : Params) : Obj := ⟨(.type "tuple"), none, (.seq ⟨[]⟩ 0), ⟨[]⟩⟩
noncomputable def o193 (P : Params) : Obj := ⟨.none, none, (.fields ⟨[]⟩), ⟨[]⟩⟩
noncomputable def o194 (P : Params) : Obj := ⟨(.type "tuple"), none, (.seq ⟨[(.str (Str.ofString "pieces") 828), (.str (Str.ofString "nodes") 829), (.str (Str.ofString "due") 830), (.str (Str.ofString "seen") 831), (.str (Str.ofString "node") 832), (.str (Str.ofString "text") 833), (.str (Str.ofString "sent") 834), (.str (Str.ofString "live") 835)]⟩ 0), ⟨[]⟩⟩
noncomputable def o195 (P : Params) : Obj := ⟨(.type "tuple"), none, (.seq ⟨[]⟩ 0), ⟨[]⟩⟩
noncomputable def o196 (P : Params) : Obj := ⟨.none, none, (.func (fnD (stm 28) 0 .none .none 0)), ⟨[]⟩⟩
noncomputable def o197 (P : Params) : Obj := ⟨(.type "code"), none, (.fields ⟨[(.str (Str.ofString "_law_due") 825), (.str (Str.ofString "_law_due") 826), (.str (Str.ofString "/claim/cut.py") 827), (.int 114 0), (.int 2 0), (.int 0 0), (.int 0 0), (.int 3 0), (.ref 192), (.bool true), (.int 276 0), (.ref 193), .none, (.ref 194), (.ref 195), (.ref 196), (.int 836 0), (.int 114 0), (.str (Str.ofString "/claim/cut.py") 837)]⟩), ⟨[]⟩⟩
noncomputable def o198 (P : Params) : Obj := ⟨(.type "function"), none, (.func (fnD (stm 28) 3 (.str (Str.ofString "law_to0003_01") 763) (.ref 197) 0)), ⟨[]⟩⟩
noncomputable def o199 (P : Params) : Obj := ⟨(.type "tuple"), none, (.seq ⟨[]⟩ 0), ⟨[]⟩⟩
noncomputable def o200 (P : Params) : Obj := ⟨.none, none, (.fields ⟨[]⟩), ⟨[]⟩⟩
noncomputable def o201 (P : Params) : Obj := ⟨.none, none, (.func (fnD (stm 29) 0 .none .none 0)), ⟨[]⟩⟩
noncomputable def o202 (P : Params) : Obj := ⟨(.type "code"), none, (.fields ⟨[(.str (Str.ofString "law") 839), (.str (Str.ofString "law") 840), (.str (Str.ofString "/claim/cut.py") 841), (.int 124 0), (.int 1 0), (.int 0 0), (.int 0 0), (.int 3 0), (.ref 199), (.bool true), (.int 276 0), (.ref 200), .none, .none, .none, (.ref 201), (.int 842 0), (.int 124 0), (.str (Str.ofString "/claim/cut.py") 843)]⟩), ⟨[]⟩⟩
noncomputable def o203 (P : Params) : Obj := ⟨(.type "function"), none, (.func (fnD (stm 29) 3 (.str (Str.ofString "law_to0003_01") 763) (.ref 202) 0)), ⟨[]⟩⟩
noncomputable def T12 (P : Params) : BT := (.node (o0 P) (.node (o1 P) (.node (o3v12 P) (.node (o7 P) (.node (o15 P) (.node (o31 P) (.node (o63 P) (.node (o127 P) .nil .nil) (.node (o191 P) .nil .nil)) (.node (o95 P) (.node (o159 P) .nil .nil) .nil)) (.node (o47 P) (.node (o79 P) (.node (o143 P) .nil .nil) .nil) (.node (o111 P) (.node (o175 P) .nil .nil) .nil))) (.node (o23 P) (.node (o39 P) (.node (o71 P) (.node (o135 P) .nil .nil) (.node (o199 P) .nil .nil)) (.node (o103 P) (.node (o167 P) .nil .nil) .nil)) (.node (o55 P) (.node (o87 P) (.node (o151 P) .nil .nil) .nil) (.node (o119 P) (.node (o183 P) .nil .nil) .nil)))) (.node (o11 P) (.node (o19 P) (.node (o35 P) (.node (o67 P) (.node (o131 P) .nil .nil) (.node (o195 P) .nil .nil)) (.node (o99 P) (.node (o163 P) .nil .nil) .nil)) (.node (o51 P) (.node (o83 P) (.node (o147 P) .nil .nil) .nil) (.node (o115 P) (.node (o179 P) .nil .nil) .nil))) (.node (o27 P) (.node (o43 P) (.node (o75 P) (.node (o139 P) .nil .nil) (.node (o203 P) .nil .nil)) (.node (o107 P) (.node (o171 P) .nil .nil) .nil)) (.node (o59 P) (.node (o91 P) (.node (o155 P) .nil .nil) .nil) (.node (o123 P) (.node (o187 P) .nil .nil) .nil))))) (.node (o5 P) (.node (o9 P) (.node (o17 P) (.node (o33 P) (.node (o65 P) (.node (o129 P) .nil .nil) (.node (o193 P) .nil .nil)) (.node (o97 P) (.node (o161 P) .nil .nil) .nil)) (.node (o49 P) (.node (o81 P) (.node (o145 P) .nil .nil) .nil) (.node (o113 P) (.node (o177 P) .nil .nil) .nil))) (.node (o25 P) (.node (o41 P) (.node (o73 P) (.node (o137 P) .nil .nil) (.node (o201 P) .nil .nil)) (.node (o105 P) (.node (o169 P) .nil .nil) .nil)) (.node (o57 P) (.node (o89 P) (.node (o153 P) .nil .nil) .nil) (.node (o121 P) (.node (o185 P) .nil .nil) .nil)))) (.node (o13 P) (.node (o21 P) (.node (o37 P) (.node (o69 P) (.node (o133 P) .nil .nil) (.node (o197 P) .nil .nil)) (.node (o101 P) (.node (o165 P) .nil .nil) .nil)) (.node (o53 P) (.node (o85 P) (.node (o149 P) .nil .nil) .nil) (.node (o117 P) (.node (o181 P) .nil .nil) .nil))) (.node (o29v12 P) (.node (o45 P) (.node (o77 P) (.node (o141 P) .nil .nil) .nil) (.node (o109 P) (.node (o173 P) .nil .nil) .nil)) (.node (o61 P) (.node (o93 P) (.node (o157 P) .nil .nil) .nil) (.node (o125 P) (.node (o189 P) .nil .nil) .nil)))))) (.node (o2 P) (.node (o4 P) (.node (o8 P) (.node (o16 P) (.node (o32 P) (.node (o64 P) (.node (o128 P) .nil .nil) (.node (o192 P) .nil .nil)) (.node (o96 P) (.node (o160 P) .nil .nil) .nil)) (.node (o48 P) (.node (o80 P) (.node (o144 P) .nil .nil) .nil) (.node (o112 P) (.node (o176 P) .nil .nil) .nil))) (.node (o24 P) (.node (o40 P) (.node (o72 P) (.node (o136 P) .nil .nil) (.node (o200 P) .nil .nil)) (.node (o104 P) (.node (o168 P) .nil .nil) .nil)) (.node (o56 P) (.node (o88 P) (.node (o152 P) .nil .nil) .nil) (.node (o120 P) (.node (o184 P) .nil .nil) .nil)))) (.node (o12 P) (.node (o20 P) (.node (o36 P) (.node (o68 P) (.node (o132 P) .nil .nil) (.node (o196 P) .nil .nil)) (.node (o100 P) (.node (o164 P) .nil .nil) .nil)) (.node (o52 P) (.node (o84 P) (.node (o148 P) .nil .nil) .nil) (.node (o116 P) (.node (o180 P) .nil .nil) .nil))) (.node (o28 P) (.node (o44 P) (.node (o76 P) (.node (o140 P) .nil .nil) .nil) (.node (o108 P) (.node (o172 P) .nil .nil) .nil)) (.node (o60 P) (.node (o92 P) (.node (o156 P) .nil .nil) .nil) (.node (o124 P) (.node (o188 P) .nil .nil) .nil))))) (.node (o6 P) (.node (o10 P) (.node (o18 P) (.node (o34 P) (.node (o66 P) (.node (o130 P) .nil .nil) (.node (o194 P) .nil .nil)) (.node (o98 P) (.node (o162 P) .nil .nil) .nil)) (.node (o50 P) (.node (o82 P) (.node (o146 P) .nil .nil) .nil) (.node (o114 P) (.node (o178 P) .nil .nil) .nil))) (.node (o26 P) (.node (o42 P) (.node (o74 P) (.node (o138 P) .nil .nil) (.node (o202 P) .nil .nil)) (.node (o106 P) (.node (o170 P) .nil .nil) .nil)) (.node (o58 P) (.node (o90 P) (.node (o154 P) .nil .nil) .nil) (.node (o122 P) (.node (o186 P) .nil .nil) .nil)))) (.node (o14 P) (.node (o22 P) (.node (o38 P) (.node (o70 P) (.node (o134 P) .nil .nil) (.node (o198 P) .nil .nil)) (.node (o102 P) (.node (o166 P) .nil .nil) .nil)) (.node (o54 P) (.node (o86 P) (.node (o150 P) .nil .nil) .nil) (.node (o118 P) (.node (o182 P) .nil .nil) .nil))) (.node (o30 P) (.node (o46 P) (.node (o78 P) (.node (o142 P) .nil .nil) .nil) (.node (o110 P) (.node (o174 P) .nil .nil) .nil)) (.node (o62 P) (.node (o94 P) (.node (o158 P) .nil .nil) .nil) (.node (o126 P) (.node (o190 P) .nil .nil) .nil)))))))
noncomputable def S12 (w : World) (os : OsState) : SharedT := ⟨T12 w.params, 204, {}, ⟨[]⟩, { order := 0, schedule := 0, lifetime := 0, other := 0 }, 845, os⟩
noncomputable def H12 (P : Params) : Heap := ⟨⟨[o0 P, o1 P, o2 P, o3v12 P, o4 P, o5 P, o6 P, o7 P, o8 P, o9 P, o10 P, o11 P, o12 P, o13 P, o14 P, o15 P, o16 P, o17 P, o18 P, o19 P, o20 P, o21 P, o22 P, o23 P, o24 P, o25 P, o26 P, o27 P, o28 P, o29v12 P, o30 P, o31 P, o32 P, o33 P, o34 P, o35 P, o36 P, o37 P, o38 P, o39 P, o40 P, o41 P, o42 P, o43 P, o44 P, o45 P, o46 P, o47 P, o48 P, o49 P, o50 P, o51 P, o52 P, o53 P, o54 P, o55 P, o56 P, o57 P, o58 P, o59 P, o60 P, o61 P, o62 P, o63 P, o64 P, o65 P, o66 P, o67 P, o68 P, o69 P, o70 P, o71 P, o72 P, o73 P, o74 P, o75 P, o76 P, o77 P, o78 P, o79 P, o80 P, o81 P, o82 P, o83 P, o84 P, o85 P, o86 P, o87 P, o88 P, o89 P, o90 P, o91 P, o92 P, o93 P, o94 P, o95 P, o96 P, o97 P, o98 P, o99 P, o100 P, o101 P, o102 P, o103 P, o104 P, o105 P, o106 P, o107 P, o108 P, o109 P, o110 P, o111 P, o112 P, o113 P, o114 P, o115 P, o116 P, o117 P, o118 P, o119 P, o120 P, o121 P, o122 P, o123 P, o124 P, o125 P, o126 P, o127 P, o128 P, o129 P, o130 P, o131 P, o132 P, o133 P, o134 P, o135 P, o136 P, o137 P, o138 P, o139 P, o140 P, o141 P, o142 P, o143 P, o144 P, o145 P, o146 P, o147 P, o148 P, o149 P, o150 P, o151 P, o152 P, o153 P, o154 P, o155 P, o156 P, o157 P, o158 P, o159 P, o160 P, o161 P, o162 P, o163 P, o164 P, o165 P, o166 P, o167 P, o168 P, o169 P, o170 P, o171 P, o172 P, o173 P, o174 P, o175 P, o176 P, o177 P, o178 P, o179 P, o180 P, o181 P, o182 P, o183 P, o184 P, o185 P, o186 P, o187 P, o188 P, o189 P, o190 P, o191 P, o192 P, o193 P, o194 P, o195 P, o196 P, o197 P, o198 P, o199 P, o200 P, o201 P, o202 P, o203 P]⟩, {}⟩
end Mine
end
section
set_option Elab.async false
set_option linter.unusedVariables false
set_option maxRecDepth 100000
set_option maxHeartbeats 0
namespace Mine
open PySem PySem.W PySem.Calls PyProof.Rows
noncomputable def itO (l i : Nat) : Obj := ⟨.type "list_iterator", none, .fields ⟨[.ref l, .int (i : Int) 0]⟩, ⟨[]⟩⟩
noncomputable def l136 (P : Params) : Obj := ⟨(.type "list"), none, (.seq ⟨[(.int 917505 556)]⟩ 0), ⟨[]⟩⟩
noncomputable def l137 (P : Params) : Obj := ⟨(.type "range"), none, (.fields ⟨[(.int 917536 557), (.int 917632 558), (.int 1 559)]⟩), ⟨[]⟩⟩
noncomputable def l138 (P : Params) : Obj := ⟨(.type "list"), none, (.seq ⟨[(.int 917536 562), (.int 917537 563), (.int 917538 564), (.int 917539 565), (.int 917540 566), (.int 917541 567), (.int 917542 568), (.int 917543 569), (.int 917544 570), (.int 917545 571), (.int 917546 572), (.int 917547 573), (.int 917548 574), (.int 917549 575), (.int 917550 576), (.int 917551 577), (.int 917552 578), (.int 917553 579), (.int 917554 580), (.int 917555 581), (.int 917556 582), (.int 917557 583), (.int 917558 584), (.int 917559 585), (.int 917560 586), (.int 917561 587), (.int 917562 588), (.int 917563 589), (.int 917564 590), (.int 917565 591), (.int 917566 592), (.int 917567 593), (.int 917568 594), (.int 917569 595), (.int 917570 596), (.int 917571 597), (.int 917572 598), (.int 917573 599), (.int 917574 600), (.int 917575 601), (.int 917576 602), (.int 917577 603), (.int 917578 604), (.int 917579 605), (.int 917580 606), (.int 917581 607), (.int 917582 608), (.int 917583 609), (.int 917584 610), (.int 917585 611), (.int 917586 612), (.int 917587 613), (.int 917588 614), (.int 917589 615), (.int 917590 616), (.int 917591 617), (.int 917592 618), (.int 917593 619), (.int 917594 620), (.int 917595 621), (.int 917596 622), (.int 917597 623), (.int 917598 624), (.int 917599 625), (.int 917600 626), (.int 917601 627), (.int 917602 628), (.int 917603 629), (.int 917604 630), (.int 917605 631), (.int 917606 632), (.int 917607 633), (.int 917608 634), (.int 917609 635), (.int 917610 636), (.int 917611 637), (.int 917612 638), (.int 917613 639), (.int 917614 640), (.int 917615 641), (.int 917616 642), (.int 917617 643), (.int 917618 644), (.int 917619 645), (.int 917620 646), (.int 917621 647), (.int 917622 648), (.int 917623 649), (.int 917624 650), (.int 917625 651), (.int 917626 652), (.int 917627 653), (.int 917628 654), (.int 917629 655), (.int 917630 656), (.int 917631 657)]⟩ 98), ⟨[]⟩⟩
noncomputable def l139 (P : Params) : Obj := ⟨(.type "range_iterator"), none, (.fields ⟨[(.int 917632 0), (.int 0 0), (.int 1 0)]⟩), ⟨[]⟩⟩
noncomputable def l140 (P : Params) : Obj := ⟨(.type "tuple"), none, (.seq ⟨[]⟩ 0), ⟨[]⟩⟩
noncomputable def l141 (P : Params) : Obj := ⟨(.type "StopIteration"), none, (.fields ⟨[(.ref 140), .none, .none, .none, (.bool false), .none]⟩), ⟨[]⟩⟩
noncomputable def l142 (P : Params) : Obj := ⟨(.type "list"), none, (.seq ⟨[(.int 917505 556), (.int 917536 562), (.int 917537 563), (.int 917538 564), (.int 917539 565), (.int 917540 566), (.int 917541 567), (.int 917542 568), (.int 917543 569), (.int 917544 570), (.int 917545 571), (.int 917546 572), (.int 917547 573), (.int 917548 574), (.int 917549 575), (.int 917550 576), (.int 917551 577), (.int 917552 578), (.int 917553 579), (.int 917554 580), (.int 917555 581), (.int 917556 582), (.int 917557 583), (.int 917558 584), (.int 917559 585), (.int 917560 586), (.int 917561 587), (.int 917562 588), (.int 917563 589), (.int 917564 590), (.int 917565 591), (.int 917566 592), (.int 917567 593), (.int 917568 594), (.int 917569 595), (.int 917570 596), (.int 917571 597), (.int 917572 598), (.int 917573 599), (.int 917574 600), (.int 917575 601), (.int 917576 602), (.int 917577 603), (.int 917578 604), (.int 917579 605), (.int 917580 606), (.int 917581 607), (.int 917582 608), (.int 917583 609), (.int 917584 610), (.int 917585 611), (.int 917586 612), (.int 917587 613), (.int 917588 614), (.int 917589 615), (.int 917590 616), (.int 917591 617), (.int 917592 618), (.int 917593 619), (.int 917594 620), (.int 917595 621), (.int 917596 622), (.int 917597 623), (.int 917598 624), (.int 917599 625), (.int 917600 626), (.int 917601 627), (.int 917602 628), (.int 917603 629), (.int 917604 630), (.int 917605 631), (.int 917606 632), (.int 917607 633), (.int 917608 634), (.int 917609 635), (.int 917610 636), (.int 917611 637), (.int 917612 638), (.int 917613 639), (.int 917614 640), (.int 917615 641), (.int 917616 642), (.int 917617 643), (.int 917618 644), (.int 917619 645), (.int 917620 646), (.int 917621 647), (.int 917622 648), (.int 917623 649), (.int 917624 650), (.int 917625 651), (.int 917626 652), (.int 917627 653), (.int 917628 654), (.int 917629 655), (.int 917630 656), (.int 917631 657)]⟩ 0), ⟨[]⟩⟩
noncomputable def Lc (P : Params) (i : Nat) (o : Obj) : BT := (.node (o0 P) (.node (o1 P) (.node (o3v10 P) (.node (o7 P) (.node (o15 P) (.node (o31 P) (.node (o63 P) (.node (o127 P) .nil .nil) .nil) (.node (o95 P) .nil .nil)) (.node (o47 P) (.node (o79 P) (.node o .nil .nil) .nil) (.node (o111 P) .nil .nil))) (.node (o23 P) (.node (o39 P) (.node (o71 P) (.node (o135 P) .nil .nil) .nil) (.node (o103 P) .nil .nil)) (.node (o55 P) (.node (o87 P) .nil .nil) (.node (o119 P) .nil .nil)))) (.node (o11 P) (.node (o19 P) (.node (o35 P) (.node (o67 P) (.node (o131 P) .nil .nil) .nil) (.node (o99 P) .nil .nil)) (.node (o51 P) (.node (o83 P) .nil .nil) (.node (o115 P) .nil .nil))) (.node (o27 P) (.node (o43 P) (.node (o75 P) (.node (l139 P) .nil .nil) .nil) (.node (o107 P) .nil .nil)) (.node (o59 P) (.node (o91 P) .nil .nil) (.node (o123 P) .nil .nil))))) (.node (o5 P) (.node (o9 P) (.node (o17 P) (.node (o33 P) (.node (o65 P) (.node (o129 P) .nil .nil) .nil) (.node (o97 P) .nil .nil)) (.node (o49 P) (.node (o81 P) .nil .nil) (.node (o113 P) .nil .nil))) (.node (o25 P) (.node (o41 P) (.node (o73 P) (.node (l137 P) .nil .nil) .nil) (.node (o105 P) .nil .nil)) (.node (o57 P) (.node (o89 P) .nil .nil) (.node (o121 P) .nil .nil)))) (.node (o13 P) (.node (o21 P) (.node (o37 P) (.node (o69 P) (.node (o133 P) .nil .nil) .nil) (.node (o101 P) .nil .nil)) (.node (o53 P) (.node (o85 P) .nil .nil) (.node (o117 P) .nil .nil))) (.node (o29v10 P) (.node (o45 P) (.node (o77 P) (.node (l141 P) .nil .nil) .nil) (.node (o109 P) .nil .nil)) (.node (o61 P) (.node (o93 P) .nil .nil) (.node (o125 P) .nil .nil)))))) (.node (o2 P) (.node (o4 P) (.node (o8 P) (.node (o16 P) (.node (o32 P) (.node (o64 P) (.node (o128 P) .nil .nil) .nil) (.node (o96 P) .nil .nil)) (.node (o48 P) (.node (o80 P) (.node (itO 142 i) .nil .nil) .nil) (.node (o112 P) .nil .nil))) (.node (o24 P) (.node (o40 P) (.node (o72 P) (.node (l136 P) .nil .nil) .nil) (.node (o104 P) .nil .nil)) (.node (o56 P) (.node (o88 P) .nil .nil) (.node (o120 P) .nil .nil)))) (.node (o12 P) (.node (o20 P) (.node (o36 P) (.node (o68 P) (.node (o132 P) .nil .nil) .nil) (.node (o100 P) .nil .nil)) (.node (o52 P) (.node (o84 P) .nil .nil) (.node (o116 P) .nil .nil))) (.node (o28 P) (.node (o44 P) (.node (o76 P) (.node (l140 P) .nil .nil) .nil) (.node (o108 P) .nil .nil)) (.node (o60 P) (.node (o92 P) .nil .nil) (.node (o124 P) .nil .nil))))) (.node (o6 P) (.node (o10 P) (.node (o18 P) (.node (o34 P) (.node (o66 P) (.node (o130 P) .nil .nil) .nil) (.node (o98 P) .nil .nil)) (.node (o50 P) (.node (o82 P) .nil .nil) (.node (o114 P) .nil .nil))) (.node (o26 P) (.node (o42 P) (.node (o74 P) (.node (l138 P) .nil .nil) .nil) (.node (o106 P) .nil .nil)) (.node (o58 P) (.node (o90 P) .nil .nil) (.node (o122 P) .nil .nil)))) (.node (o14 P) (.node (o22 P) (.node (o38 P) (.node (o70 P) (.node (o134 P) .nil .nil) .nil) (.node (o102 P) .nil .nil)) (.node (o54 P) (.node (o86 P) .nil .nil) (.node (o118 P) .nil .nil))) (.node (o30 P) (.node (o46 P) (.node (o78 P) (.node (l142 P) .nil .nil) .nil) (.node (o110 P) .nil .nil)) (.node (o62 P) (.node (o94 P) .nil .nil) (.node (o126 P) .nil .nil)))))))
noncomputable def pL : Pos := ⟨60, 9, 60, 52⟩
noncomputable def SLc (w : World) (os : OsState) (i : Nat) (o : Obj) : SharedT := ⟨Lc w.params i o, 145, {}, ⟨[]⟩, {}, 658 + i, os⟩
noncomputable def sts9 : List Stmt := [stm 19]
noncomputable def runA (w : World) (os : OsState) : Option (SharedT × Thread) := PySem.W.Fast.tw10295753902157049106 PySem.W.Fast.tw14364793385576792824 pw w 28 (some (.ref 6)) 1 1778 (S10 w os) (piecesOf sts9 envE cE ⟨58, 0, 59, 30⟩ [topFrame zp])
noncomputable def frA (w : World) (os : OsState) (k : Nat) : Frame := match runA w os with | some (_, t) => t.stack.getD k (topFrame zp) | none => topFrame zp
noncomputable def thL (a b c : FrP) : Thread := ⟨PySem.W.Fast.tw11892475500146522536 PySem.W.Fast.tw14364793385576792824 (loopC 143 144), loopC 143 144, pL, [fr a, fr b, fr c, topFrame zp]⟩
noncomputable def Q1 (w : World) (os : OsState) (a b c : FrP) (o : Obj) (toks i : Nat) (v : Int) (tk : Nat) : Prop :=
  PySem.W.Fast.tw10110043849684766642 PySem.W.Fast.tw14364793385576792824 pw w 28 (some (.ref 6)) 4 12 ⟨Lc w.params i o, 145, {}, ⟨[]⟩, {}, toks, os⟩ ⟨(PySem.W.Fast.tw9404975358583537561 (.ref 144)).wrap (fun a => .pure (.done (resN a))) deadEnd id id, loopC 143 144, pL, [fr a, fr b, fr c, topFrame zp]⟩ =
    some (Flow.ret (.int v tk), ⟨Lc w.params (i + 1) o, 145, {}, ⟨[]⟩, {}, toks, os⟩, loopC 143 144, pL)
noncomputable def Q2 (v : Int) (tk : Nat) (T : BT) (N toks : Nat) (os : OsState) (c : Code) (pos : Pos) (a b d : FrP) (q : Pos) (w : World) : Prop :=
  PySem.W.Fast.tw10110043849684766642 PySem.W.Fast.tw14364793385576792824 pw w 28 (some (.ref 6)) 4 8 ⟨T, N, {}, ⟨[]⟩, {}, toks, os⟩ ⟨(PySem.W.Fast.tw10540108854288196387 (.int v tk)).wrap (fun a => .pure (.done (resH a))) deadEnd id id, c, pos, [fr a, fr b, fr d, topFrame q]⟩ =
    some (Flow.ret (.int v 0), ⟨T, N, {}, ⟨[]⟩, {}, toks + 1, os⟩, c, pos)
end Mine
end
section
set_option Elab.async false
set_option linter.unusedVariables false
set_option maxRecDepth 100000
set_option maxHeartbeats 0
namespace Mine
open PySem PySem.W PySem.Calls PyProof.Rows
theorem open_ (w : World) : ((PySem.W.Fast.tw10274390034422433532 PySem.W.Fast.tw14364793385576792824 (opening pw) w 20000 (PySem.W.Fast.tw1435165496053646825 (opening pw)).1 (PySem.W.Fast.tw1435165496053646825 (opening pw)).2).bind (PySem.W.Fast.tw14289696077712309145 pw)).map (fun s => (s.heap, s.gens, s.drawn, s.toks)) = some (H0 w.params, ⟨[]⟩, {}, 276) := by kernel_rfl!
theorem pre_ (w : World) : (fun os => PySem.W.Fast.tw15667345088766844465 PySem.W.Fast.tw14364793385576792824 pw w 28 (some (.ref 6)) 12 ⟨H0 w.params, ⟨[]⟩, {}, 276, os⟩ (topStub pw)) = fun os => some ((S1 w os).abs, ⟨PySem.W.Fast.tw11892475500146522536 PySem.W.Fast.tw14364793385576792824 cE, cE, zp, [topFrame zp]⟩) := by kernel_rfl!
theorem block_ (w : World) : (fun os => PySem.W.Fast.tw14374325043358763698 PySem.W.Fast.tw14364793385576792824 pw w 28 (some (.ref 6)) 1 1 (S1 w os).abs (blockOf bE envE cE zp [topFrame zp])) = fun os => some (Flow.next, (S1 w os).abs, cE, zp) := by kernel_rfl!
theorem size_ (w : World) : ((H0 w.params).isNs mainGlobals && ((⟨[]⟩ : Array GenState)).size == 0, (H0 w.params).objs.size, (H0 w.params).nsMap mainGlobals "__annotations__") = (true, 28, some (.ref 6)) := by kernel_rfl!
end Mine
end
section
set_option Elab.async false
set_option linter.unusedVariables false
set_option maxRecDepth 100000
set_option maxHeartbeats 0
namespace Mine
open PySem PySem.W PySem.Calls PyProof.Rows
noncomputable def sts0 : List Stmt := [stm 1, stm 2, stm 3, stm 4, stm 5, stm 6, stm 7, stm 8, stm 9]
theorem pc0 : ∀ w : World, (fun os => PySem.W.Fast.tw10110043849684766642 PySem.W.Fast.tw14364793385576792824 pw w 28 (some (.ref 6)) 1 276 (S1 w os) (piecesOf sts0 envE cE zp [topFrame zp])) = fun os => some (Flow.next, S2 w os, cE, ⟨40, 0, 40, 8⟩) := fun w => by kernel_rfl!
noncomputable def sts2 : List Stmt := [stm 11, stm 12]
theorem pc2 : ∀ w : World, (fun os => PySem.W.Fast.tw10110043849684766642 PySem.W.Fast.tw14364793385576792824 pw w 28 (some (.ref 6)) 1 60 (S3 w os) (piecesOf sts2 envE cE ⟨41, 0, 41, 6⟩ [topFrame zp])) = fun os => some (Flow.next, S4 w os, cE, ⟨44, 0, 50, 46⟩) := fun w => by kernel_rfl!
noncomputable def sts3 : List Stmt := [stm 13]
theorem pc3 : ∀ w : World, (fun os => PySem.W.Fast.tw10110043849684766642 PySem.W.Fast.tw14364793385576792824 pw w 28 (some (.ref 6)) 1 200 (S4 w os) (piecesOf sts3 envE cE ⟨44, 0, 50, 46⟩ [topFrame zp])) = fun os => some (Flow.next, S5 w os, cE, ⟨51, 0, 51, 6⟩) := byRow2 "special-get-raises" (fun w => by kernel_rfl!) (fun w => by kernel_rfl!)
noncomputable def sts4 : List Stmt := [stm 14]
theorem pc4 : ∀ w : World, (fun os => PySem.W.Fast.tw10110043849684766642 PySem.W.Fast.tw14364793385576792824 pw w 28 (some (.ref 6)) 1 30 (S5 w os) (piecesOf sts4 envE cE ⟨51, 0, 51, 6⟩ [topFrame zp])) = fun os => some (Flow.next, S6 w os, cE, ⟨52, 0, 53, 30⟩) := fun w => by kernel_rfl!
noncomputable def sts5 : List Stmt := [stm 15]
theorem pc5 : ∀ w : World, (fun os => PySem.W.Fast.tw10110043849684766642 PySem.W.Fast.tw14364793385576792824 pw w 28 (some (.ref 6)) 1 361 (S6 w os) (piecesOf sts5 envE cE ⟨52, 0, 53, 30⟩ [topFrame zp])) = fun os => some (Flow.next, S7 w os, cE, ⟨54, 0, 54, 6⟩) := byRow2 "special-get-raises" (fun w => by kernel_rfl!) (fun w => by kernel_rfl!)
noncomputable def sts6 : List Stmt := [stm 16]
theorem pc6 : ∀ w : World, (fun os => PySem.W.Fast.tw10110043849684766642 PySem.W.Fast.tw14364793385576792824 pw w 28 (some (.ref 6)) 1 30 (S7 w os) (piecesOf sts6 envE cE ⟨54, 0, 54, 6⟩ [topFrame zp])) = fun os => some (Flow.next, S8 w os, cE, ⟨55, 0, 56, 30⟩) := fun w => by kernel_rfl!
end Mine
end
section
set_option Elab.async false
set_option linter.unusedVariables false
set_option maxRecDepth 100000
set_option maxHeartbeats 0
namespace Mine
open PySem PySem.W PySem.Calls PyProof.Rows
noncomputable def sts1 : List Stmt := [stm 10]
noncomputable def pc1P (w : World) : Prop := (fun os => PySem.W.Fast.tw10110043849684766642 PySem.W.Fast.tw14364793385576792824 pw w 28 (some (.ref 6)) 1 999 (S2 w os) (piecesOf sts1 envE cE ⟨40, 0, 40, 8⟩ [topFrame zp])) = fun os => some (Flow.next, S3 w os, cE, ⟨41, 0, 41, 6⟩)
theorem pc1f (w : World) : pc1P (w.withFollow "special-get-raises" false) := by delta pc1P; kernel_rfl!
theorem pc1t (w : World) : pc1P (w.withFollow "special-get-raises" true) := by delta pc1P; kernel_rfl!
theorem pc1 : ∀ w : World, (fun os => PySem.W.Fast.tw10110043849684766642 PySem.W.Fast.tw14364793385576792824 pw w 28 (some (.ref 6)) 1 999 (S2 w os) (piecesOf sts1 envE cE ⟨40, 0, 40, 8⟩ [topFrame zp])) = fun os => some (Flow.next, S3 w os, cE, ⟨41, 0, 41, 6⟩) := byRow2 (P := pc1P) "special-get-raises" pc1f pc1t
noncomputable def sts7 : List Stmt := [stm 17]
noncomputable def pc7P (w : World) : Prop := (fun os => PySem.W.Fast.tw10110043849684766642 PySem.W.Fast.tw14364793385576792824 pw w 28 (some (.ref 6)) 1 775 (S8 w os) (piecesOf sts7 envE cE ⟨55, 0, 56, 30⟩ [topFrame zp])) = fun os => some (Flow.next, S9 w os, cE, ⟨57, 0, 57, 6⟩)
theorem pc7f (w : World) : pc7P (w.withFollow "special-get-raises" false) := by delta pc7P; kernel_rfl!
theorem pc7t (w : World) : pc7P (w.withFollow "special-get-raises" true) := by delta pc7P; kernel_rfl!
theorem pc7 : ∀ w : World, (fun os => PySem.W.Fast.tw10110043849684766642 PySem.W.Fast.tw14364793385576792824 pw w 28 (some (.ref 6)) 1 775 (S8 w os) (piecesOf sts7 envE cE ⟨55, 0, 56, 30⟩ [topFrame zp])) = fun os => some (Flow.next, S9 w os, cE, ⟨57, 0, 57, 6⟩) := byRow2 (P := pc7P) "special-get-raises" pc7f pc7t
noncomputable def sts8 : List Stmt := [stm 18]
theorem pc8 : ∀ w : World, (fun os => PySem.W.Fast.tw10110043849684766642 PySem.W.Fast.tw14364793385576792824 pw w 28 (some (.ref 6)) 1 30 (S9 w os) (piecesOf sts8 envE cE ⟨57, 0, 57, 6⟩ [topFrame zp])) = fun os => some (Flow.next, S10 w os, cE, ⟨58, 0, 59, 30⟩) := fun w => by kernel_rfl!
noncomputable def sts10 : List Stmt := [stm 20, stm 21, stm 22, stm 23, stm 24, stm 25, stm 26, stm 27, stm 28, stm 29]
theorem pc10 : ∀ w : World, (fun os => PySem.W.Fast.tw10110043849684766642 PySem.W.Fast.tw14364793385576792824 pw w 28 (some (.ref 6)) 1 289 (S11 w os) (piecesOf sts10 envE cE ⟨60, 0, 60, 6⟩ [topFrame zp])) = fun os => some (Flow.next, S12 w os, cE, ⟨124, 0, 150, 37⟩) := fun w => by kernel_rfl!
end Mine
end
section
set_option Elab.async false
set_option linter.unusedVariables false
set_option maxRecDepth 100000
set_option maxHeartbeats 0
namespace Mine
open PySem PySem.W PySem.Calls PyProof.Rows
theorem c9a : ∀ w : World, (fun os => runA w os) = fun os => some (SLc w os 0 (setO (q0 w.params)), thL (frP (frA w os 0)) (frP (frA w os 1)) (frP (frA w os 2))) := byRow2 "special-get-raises" (fun w => by kernel_rfl!) (fun w => by kernel_rfl!)
end Mine
end
section
set_option Elab.async false
set_option linter.unusedVariables false
set_option maxRecDepth 100000
set_option maxHeartbeats 0
namespace Mine
open PySem PySem.W PySem.Calls PyProof.Rows
theorem q1_0 (w : World) (os : OsState) (a b c : FrP) (o : Obj) (toks : Nat) : Q1 w os a b c o toks 0 917505 556 := by delta Q1; kernel_rfl!
theorem q2_0 (T : BT) (N toks : Nat) (os : OsState) (c : Code) (pos : Pos) (a b d : FrP) (q : Pos) : ∀ w, Q2 917505 556 T N toks os c pos a b d q w := byRow2 "special-get-raises" (fun w => by delta Q2; kernel_rfl!) (fun w => by delta Q2; kernel_rfl!)
theorem q1_1 (w : World) (os : OsState) (a b c : FrP) (o : Obj) (toks : Nat) : Q1 w os a b c o toks 1 917536 562 := by delta Q1; kernel_rfl!
theorem q2_1 (T : BT) (N toks : Nat) (os : OsState) (c : Code) (pos : Pos) (a b d : FrP) (q : Pos) : ∀ w, Q2 917536 562 T N toks os c pos a b d q w := byRow2 "special-get-raises" (fun w => by delta Q2; kernel_rfl!) (fun w => by delta Q2; kernel_rfl!)
theorem q1_2 (w : World) (os : OsState) (a b c : FrP) (o : Obj) (toks : Nat) : Q1 w os a b c o toks 2 917537 563 := by delta Q1; kernel_rfl!
theorem q2_2 (T : BT) (N toks : Nat) (os : OsState) (c : Code) (pos : Pos) (a b d : FrP) (q : Pos) : ∀ w, Q2 917537 563 T N toks os c pos a b d q w := byRow2 "special-get-raises" (fun w => by delta Q2; kernel_rfl!) (fun w => by delta Q2; kernel_rfl!)
theorem q1_3 (w : World) (os : OsState) (a b c : FrP) (o : Obj) (toks : Nat) : Q1 w os a b c o toks 3 917538 564 := by delta Q1; kernel_rfl!
theorem q2_3 (T : BT) (N toks : Nat) (os : OsState) (c : Code) (pos : Pos) (a b d : FrP) (q : Pos) : ∀ w, Q2 917538 564 T N toks os c pos a b d q w := byRow2 "special-get-raises" (fun w => by delta Q2; kernel_rfl!) (fun w => by delta Q2; kernel_rfl!)
theorem q1_4 (w : World) (os : OsState) (a b c : FrP) (o : Obj) (toks : Nat) : Q1 w os a b c o toks 4 917539 565 := by delta Q1; kernel_rfl!
theorem q2_4 (T : BT) (N toks : Nat) (os : OsState) (c : Code) (pos : Pos) (a b d : FrP) (q : Pos) : ∀ w, Q2 917539 565 T N toks os c pos a b d q w := byRow2 "special-get-raises" (fun w => by delta Q2; kernel_rfl!) (fun w => by delta Q2; kernel_rfl!)
theorem q1_5 (w : World) (os : OsState) (a b c : FrP) (o : Obj) (toks : Nat) : Q1 w os a b c o toks 5 917540 566 := by delta Q1; kernel_rfl!
theorem q2_5 (T : BT) (N toks : Nat) (os : OsState) (c : Code) (pos : Pos) (a b d : FrP) (q : Pos) : ∀ w, Q2 917540 566 T N toks os c pos a b d q w := byRow2 "special-get-raises" (fun w => by delta Q2; kernel_rfl!) (fun w => by delta Q2; kernel_rfl!)
theorem q1_6 (w : World) (os : OsState) (a b c : FrP) (o : Obj) (toks : Nat) : Q1 w os a b c o toks 6 917541 567 := by delta Q1; kernel_rfl!
theorem q2_6 (T : BT) (N toks : Nat) (os : OsState) (c : Code) (pos : Pos) (a b d : FrP) (q : Pos) : ∀ w, Q2 917541 567 T N toks os c pos a b d q w := byRow2 "special-get-raises" (fun w => by delta Q2; kernel_rfl!) (fun w => by delta Q2; kernel_rfl!)
theorem q1_7 (w : World) (os : OsState) (a b c : FrP) (o : Obj) (toks : Nat) : Q1 w os a b c o toks 7 917542 568 := by delta Q1; kernel_rfl!
theorem q2_7 (T : BT) (N toks : Nat) (os : OsState) (c : Code) (pos : Pos) (a b d : FrP) (q : Pos) : ∀ w, Q2 917542 568 T N toks os c pos a b d q w := byRow2 "special-get-raises" (fun w => by delta Q2; kernel_rfl!) (fun w => by delta Q2; kernel_rfl!)
theorem q1_8 (w : World) (os : OsState) (a b c : FrP) (o : Obj) (toks : Nat) : Q1 w os a b c o toks 8 917543 569 := by delta Q1; kernel_rfl!
theorem q2_8 (T : BT) (N toks : Nat) (os : OsState) (c : Code) (pos : Pos) (a b d : FrP) (q : Pos) : ∀ w, Q2 917543 569 T N toks os c pos a b d q w := byRow2 "special-get-raises" (fun w => by delta Q2; kernel_rfl!) (fun w => by delta Q2; kernel_rfl!)
theorem q1_9 (w : World) (os : OsState) (a b c : FrP) (o : Obj) (toks : Nat) : Q1 w os a b c o toks 9 917544 570 := by delta Q1; kernel_rfl!
theorem q2_9 (T : BT) (N toks : Nat) (os : OsState) (c : Code) (pos : Pos) (a b d : FrP) (q : Pos) : ∀ w, Q2 917544 570 T N toks os c pos a b d q w := byRow2 "special-get-raises" (fun w => by delta Q2; kernel_rfl!) (fun w => by delta Q2; kernel_rfl!)
theorem q1_10 (w : World) (os : OsState) (a b c : FrP) (o : Obj) (toks : Nat) : Q1 w os a b c o toks 10 917545 571 := by delta Q1; kernel_rfl!
theorem q2_10 (T : BT) (N toks : Nat) (os : OsState) (c : Code) (pos : Pos) (a b d : FrP) (q : Pos) : ∀ w, Q2 917545 571 T N toks os c pos a b d q w := byRow2 "special-get-raises" (fun w => by delta Q2; kernel_rfl!) (fun w => by delta Q2; kernel_rfl!)
theorem q1_11 (w : World) (os : OsState) (a b c : FrP) (o : Obj) (toks : Nat) : Q1 w os a b c o toks 11 917546 572 := by delta Q1; kernel_rfl!
theorem q2_11 (T : BT) (N toks : Nat) (os : OsState) (c : Code) (pos : Pos) (a b d : FrP) (q : Pos) : ∀ w, Q2 917546 572 T N toks os c pos a b d q w := byRow2 "special-get-raises" (fun w => by delta Q2; kernel_rfl!) (fun w => by delta Q2; kernel_rfl!)
theorem q1_12 (w : World) (os : OsState) (a b c : FrP) (o : Obj) (toks : Nat) : Q1 w os a b c o toks 12 917547 573 := by delta Q1; kernel_rfl!
theorem q2_12 (T : BT) (N toks : Nat) (os : OsState) (c : Code) (pos : Pos) (a b d : FrP) (q : Pos) : ∀ w, Q2 917547 573 T N toks os c pos a b d q w := byRow2 "special-get-raises" (fun w => by delta Q2; kernel_rfl!) (fun w => by delta Q2; kernel_rfl!)
theorem q1_13 (w : World) (os : OsState) (a b c : FrP) (o : Obj) (toks : Nat) : Q1 w os a b c o toks 13 917548 574 := by delta Q1; kernel_rfl!
theorem q2_13 (T : BT) (N toks : Nat) (os : OsState) (c : Code) (pos : Pos) (a b d : FrP) (q : Pos) : ∀ w, Q2 917548 574 T N toks os c pos a b d q w := byRow2 "special-get-raises" (fun w => by delta Q2; kernel_rfl!) (fun w => by delta Q2; kernel_rfl!)
theorem q1_14 (w : World) (os : OsState) (a b c : FrP) (o : Obj) (toks : Nat) : Q1 w os a b c o toks 14 917549 575 := by delta Q1; kernel_rfl!
theorem q2_14 (T : BT) (N toks : Nat) (os : OsState) (c : Code) (pos : Pos) (a b d : FrP) (q : Pos) : ∀ w, Q2 917549 575 T N toks os c pos a b d q w := byRow2 "special-get-raises" (fun w => by delta Q2; kernel_rfl!) (fun w => by delta Q2; kernel_rfl!)
theorem q1_15 (w : World) (os : OsState) (a b c : FrP) (o : Obj) (toks : Nat) : Q1 w os a b c o toks 15 917550 576 := by delta Q1; kernel_rfl!
theorem q2_15 (T : BT) (N toks : Nat) (os : OsState) (c : Code) (pos : Pos) (a b d : FrP) (q : Pos) : ∀ w, Q2 917550 576 T N toks os c pos a b d q w := byRow2 "special-get-raises" (fun w => by delta Q2; kernel_rfl!) (fun w => by delta Q2; kernel_rfl!)
theorem q1_16 (w : World) (os : OsState) (a b c : FrP) (o : Obj) (toks : Nat) : Q1 w os a b c o toks 16 917551 577 := by delta Q1; kernel_rfl!
theorem q2_16 (T : BT) (N toks : Nat) (os : OsState) (c : Code) (pos : Pos) (a b d : FrP) (q : Pos) : ∀ w, Q2 917551 577 T N toks os c pos a b d q w := byRow2 "special-get-raises" (fun w => by delta Q2; kernel_rfl!) (fun w => by delta Q2; kernel_rfl!)
theorem q1_17 (w : World) (os : OsState) (a b c : FrP) (o : Obj) (toks : Nat) : Q1 w os a b c o toks 17 917552 578 := by delta Q1; kernel_rfl!
theorem q2_17 (T : BT) (N toks : Nat) (os : OsState) (c : Code) (pos : Pos) (a b d : FrP) (q : Pos) : ∀ w, Q2 917552 578 T N toks os c pos a b d q w := byRow2 "special-get-raises" (fun w => by delta Q2; kernel_rfl!) (fun w => by delta Q2; kernel_rfl!)
theorem q1_18 (w : World) (os : OsState) (a b c : FrP) (o : Obj) (toks : Nat) : Q1 w os a b c o toks 18 917553 579 := by delta Q1; kernel_rfl!
theorem q2_18 (T : BT) (N toks : Nat) (os : OsState) (c : Code) (pos : Pos) (a b d : FrP) (q : Pos) : ∀ w, Q2 917553 579 T N toks os c pos a b d q w := byRow2 "special-get-raises" (fun w => by delta Q2; kernel_rfl!) (fun w => by delta Q2; kernel_rfl!)
theorem q1_19 (w : World) (os : OsState) (a b c : FrP) (o : Obj) (toks : Nat) : Q1 w os a b c o toks 19 917554 580 := by delta Q1; kernel_rfl!
theorem q2_19 (T : BT) (N toks : Nat) (os : OsState) (c : Code) (pos : Pos) (a b d : FrP) (q : Pos) : ∀ w, Q2 917554 580 T N toks os c pos a b d q w := byRow2 "special-get-raises" (fun w => by delta Q2; kernel_rfl!) (fun w => by delta Q2; kernel_rfl!)
theorem q1_20 (w : World) (os : OsState) (a b c : FrP) (o : Obj) (toks : Nat) : Q1 w os a b c o toks 20 917555 581 := by delta Q1; kernel_rfl!
theorem q2_20 (T : BT) (N toks : Nat) (os : OsState) (c : Code) (pos : Pos) (a b d : FrP) (q : Pos) : ∀ w, Q2 917555 581 T N toks os c pos a b d q w := byRow2 "special-get-raises" (fun w => by delta Q2; kernel_rfl!) (fun w => by delta Q2; kernel_rfl!)
theorem q1_21 (w : World) (os : OsState) (a b c : FrP) (o : Obj) (toks : Nat) : Q1 w os a b c o toks 21 917556 582 := by delta Q1; kernel_rfl!
theorem q2_21 (T : BT) (N toks : Nat) (os : OsState) (c : Code) (pos : Pos) (a b d : FrP) (q : Pos) : ∀ w, Q2 917556 582 T N toks os c pos a b d q w := byRow2 "special-get-raises" (fun w => by delta Q2; kernel_rfl!) (fun w => by delta Q2; kernel_rfl!)
theorem q1_22 (w : World) (os : OsState) (a b c : FrP) (o : Obj) (toks : Nat) : Q1 w os a b c o toks 22 917557 583 := by delta Q1; kernel_rfl!
theorem q2_22 (T : BT) (N toks : Nat) (os : OsState) (c : Code) (pos : Pos) (a b d : FrP) (q : Pos) : ∀ w, Q2 917557 583 T N toks os c pos a b d q w := byRow2 "special-get-raises" (fun w => by delta Q2; kernel_rfl!) (fun w => by delta Q2; kernel_rfl!)
theorem q1_23 (w : World) (os : OsState) (a b c : FrP) (o : Obj) (toks : Nat) : Q1 w os a b c o toks 23 917558 584 := by delta Q1; kernel_rfl!
theorem q2_23 (T : BT) (N toks : Nat) (os : OsState) (c : Code) (pos : Pos) (a b d : FrP) (q : Pos) : ∀ w, Q2 917558 584 T N toks os c pos a b d q w := byRow2 "special-get-raises" (fun w => by delta Q2; kernel_rfl!) (fun w => by delta Q2; kernel_rfl!)
theorem q1_24 (w : World) (os : OsState) (a b c : FrP) (o : Obj) (toks : Nat) : Q1 w os a b c o toks 24 917559 585 := by delta Q1; kernel_rfl!
theorem q2_24 (T : BT) (N toks : Nat) (os : OsState) (c : Code) (pos : Pos) (a b d : FrP) (q : Pos) : ∀ w, Q2 917559 585 T N toks os c pos a b d q w := byRow2 "special-get-raises" (fun w => by delta Q2; kernel_rfl!) (fun w => by delta Q2; kernel_rfl!)
theorem q1_25 (w : World) (os : OsState) (a b c : FrP) (o : Obj) (toks : Nat) : Q1 w os a b c o toks 25 917560 586 := by delta Q1; kernel_rfl!
theorem q2_25 (T : BT) (N toks : Nat) (os : OsState) (c : Code) (pos : Pos) (a b d : FrP) (q : Pos) : ∀ w, Q2 917560 586 T N toks os c pos a b d q w := byRow2 "special-get-raises" (fun w => by delta Q2; kernel_rfl!) (fun w => by delta Q2; kernel_rfl!)
theorem q1_26 (w : World) (os : OsState) (a b c : FrP) (o : Obj) (toks : Nat) : Q1 w os a b c o toks 26 917561 587 := by delta Q1; kernel_rfl!
theorem q2_26 (T : BT) (N toks : Nat) (os : OsState) (c : Code) (pos : Pos) (a b d : FrP) (q : Pos) : ∀ w, Q2 917561 587 T N toks os c pos a b d q w := byRow2 "special-get-raises" (fun w => by delta Q2; kernel_rfl!) (fun w => by delta Q2; kernel_rfl!)
theorem q1_27 (w : World) (os : OsState) (a b c : FrP) (o : Obj) (toks : Nat) : Q1 w os a b c o toks 27 917562 588 := by delta Q1; kernel_rfl!
theorem q2_27 (T : BT) (N toks : Nat) (os : OsState) (c : Code) (pos : Pos) (a b d : FrP) (q : Pos) : ∀ w, Q2 917562 588 T N toks os c pos a b d q w := byRow2 "special-get-raises" (fun w => by delta Q2; kernel_rfl!) (fun w => by delta Q2; kernel_rfl!)
theorem q1_28 (w : World) (os : OsState) (a b c : FrP) (o : Obj) (toks : Nat) : Q1 w os a b c o toks 28 917563 589 := by delta Q1; kernel_rfl!
theorem q2_28 (T : BT) (N toks : Nat) (os : OsState) (c : Code) (pos : Pos) (a b d : FrP) (q : Pos) : ∀ w, Q2 917563 589 T N toks os c pos a b d q w := byRow2 "special-get-raises" (fun w => by delta Q2; kernel_rfl!) (fun w => by delta Q2; kernel_rfl!)
theorem q1_29 (w : World) (os : OsState) (a b c : FrP) (o : Obj) (toks : Nat) : Q1 w os a b c o toks 29 917564 590 := by delta Q1; kernel_rfl!
theorem q2_29 (T : BT) (N toks : Nat) (os : OsState) (c : Code) (pos : Pos) (a b d : FrP) (q : Pos) : ∀ w, Q2 917564 590 T N toks os c pos a b d q w := byRow2 "special-get-raises" (fun w => by delta Q2; kernel_rfl!) (fun w => by delta Q2; kernel_rfl!)
theorem q1_30 (w : World) (os : OsState) (a b c : FrP) (o : Obj) (toks : Nat) : Q1 w os a b c o toks 30 917565 591 := by delta Q1; kernel_rfl!
theorem q2_30 (T : BT) (N toks : Nat) (os : OsState) (c : Code) (pos : Pos) (a b d : FrP) (q : Pos) : ∀ w, Q2 917565 591 T N toks os c pos a b d q w := byRow2 "special-get-raises" (fun w => by delta Q2; kernel_rfl!) (fun w => by delta Q2; kernel_rfl!)
theorem q1_31 (w : World) (os : OsState) (a b c : FrP) (o : Obj) (toks : Nat) : Q1 w os a b c o toks 31 917566 592 := by delta Q1; kernel_rfl!
theorem q2_31 (T : BT) (N toks : Nat) (os : OsState) (c : Code) (pos : Pos) (a b d : FrP) (q : Pos) : ∀ w, Q2 917566 592 T N toks os c pos a b d q w := byRow2 "special-get-raises" (fun w => by delta Q2; kernel_rfl!) (fun w => by delta Q2; kernel_rfl!)
theorem q1_32 (w : World) (os : OsState) (a b c : FrP) (o : Obj) (toks : Nat) : Q1 w os a b c o toks 32 917567 593 := by delta Q1; kernel_rfl!
theorem q2_32 (T : BT) (N toks : Nat) (os : OsState) (c : Code) (pos : Pos) (a b d : FrP) (q : Pos) : ∀ w, Q2 917567 593 T N toks os c pos a b d q w := byRow2 "special-get-raises" (fun w => by delta Q2; kernel_rfl!) (fun w => by delta Q2; kernel_rfl!)
theorem q1_33 (w : World) (os : OsState) (a b c : FrP) (o : Obj) (toks : Nat) : Q1 w os a b c o toks 33 917568 594 := by delta Q1; kernel_rfl!
theorem q2_33 (T : BT) (N toks : Nat) (os : OsState) (c : Code) (pos : Pos) (a b d : FrP) (q : Pos) : ∀ w, Q2 917568 594 T N toks os c pos a b d q w := byRow2 "special-get-raises" (fun w => by delta Q2; kernel_rfl!) (fun w => by delta Q2; kernel_rfl!)
theorem q1_34 (w : World) (os : OsState) (a b c : FrP) (o : Obj) (toks : Nat) : Q1 w os a b c o toks 34 917569 595 := by delta Q1; kernel_rfl!
theorem q2_34 (T : BT) (N toks : Nat) (os : OsState) (c : Code) (pos : Pos) (a b d : FrP) (q : Pos) : ∀ w, Q2 917569 595 T N toks os c pos a b d q w := byRow2 "special-get-raises" (fun w => by delta Q2; kernel_rfl!) (fun w => by delta Q2; kernel_rfl!)
theorem q1_35 (w : World) (os : OsState) (a b c : FrP) (o : Obj) (toks : Nat) : Q1 w os a b c o toks 35 917570 596 := by delta Q1; kernel_rfl!
theorem q2_35 (T : BT) (N toks : Nat) (os : OsState) (c : Code) (pos : Pos) (a b d : FrP) (q : Pos) : ∀ w, Q2 917570 596 T N toks os c pos a b d q w := byRow2 "special-get-raises" (fun w => by delta Q2; kernel_rfl!) (fun w => by delta Q2; kernel_rfl!)
theorem q1_36 (w : World) (os : OsState) (a b c : FrP) (o : Obj) (toks : Nat) : Q1 w os a b c o toks 36 917571 597 := by delta Q1; kernel_rfl!
theorem q2_36 (T : BT) (N toks : Nat) (os : OsState) (c : Code) (pos : Pos) (a b d : FrP) (q : Pos) : ∀ w, Q2 917571 597 T N toks os c pos a b d q w := byRow2 "special-get-raises" (fun w => by delta Q2; kernel_rfl!) (fun w => by delta Q2; kernel_rfl!)
theorem q1_37 (w : World) (os : OsState) (a b c : FrP) (o : Obj) (toks : Nat) : Q1 w os a b c o toks 37 917572 598 := by delta Q1; kernel_rfl!
theorem q2_37 (T : BT) (N toks : Nat) (os : OsState) (c : Code) (pos : Pos) (a b d : FrP) (q : Pos) : ∀ w, Q2 917572 598 T N toks os c pos a b d q w := byRow2 "special-get-raises" (fun w => by delta Q2; kernel_rfl!) (fun w => by delta Q2; kernel_rfl!)
theorem q1_38 (w : World) (os : OsState) (a b c : FrP) (o : Obj) (toks : Nat) : Q1 w os a b c o toks 38 917573 599 := by delta Q1; kernel_rfl!
theorem q2_38 (T : BT) (N toks : Nat) (os : OsState) (c : Code) (pos : Pos) (a b d : FrP) (q : Pos) : ∀ w, Q2 917573 599 T N toks os c pos a b d q w := byRow2 "special-get-raises" (fun w => by delta Q2; kernel_rfl!) (fun w => by delta Q2; kernel_rfl!)
theorem q1_39 (w : World) (os : OsState) (a b c : FrP) (o : Obj) (toks : Nat) : Q1 w os a b c o toks 39 917574 600 := by delta Q1; kernel_rfl!
theorem q2_39 (T : BT) (N toks : Nat) (os : OsState) (c : Code) (pos : Pos) (a b d : FrP) (q : Pos) : ∀ w, Q2 917574 600 T N toks os c pos a b d q w := byRow2 "special-get-raises" (fun w => by delta Q2; kernel_rfl!) (fun w => by delta Q2; kernel_rfl!)
theorem q1_40 (w : World) (os : OsState) (a b c : FrP) (o : Obj) (toks : Nat) : Q1 w os a b c o toks 40 917575 601 := by delta Q1; kernel_rfl!
theorem q2_40 (T : BT) (N toks : Nat) (os : OsState) (c : Code) (pos : Pos) (a b d : FrP) (q : Pos) : ∀ w, Q2 917575 601 T N toks os c pos a b d q w := byRow2 "special-get-raises" (fun w => by delta Q2; kernel_rfl!) (fun w => by delta Q2; kernel_rfl!)
theorem q1_41 (w : World) (os : OsState) (a b c : FrP) (o : Obj) (toks : Nat) : Q1 w os a b c o toks 41 917576 602 := by delta Q1; kernel_rfl!
theorem q2_41 (T : BT) (N toks : Nat) (os : OsState) (c : Code) (pos : Pos) (a b d : FrP) (q : Pos) : ∀ w, Q2 917576 602 T N toks os c pos a b d q w := byRow2 "special-get-raises" (fun w => by delta Q2; kernel_rfl!) (fun w => by delta Q2; kernel_rfl!)
theorem q1_42 (w : World) (os : OsState) (a b c : FrP) (o : Obj) (toks : Nat) : Q1 w os a b c o toks 42 917577 603 := by delta Q1; kernel_rfl!
theorem q2_42 (T : BT) (N toks : Nat) (os : OsState) (c : Code) (pos : Pos) (a b d : FrP) (q : Pos) : ∀ w, Q2 917577 603 T N toks os c pos a b d q w := byRow2 "special-get-raises" (fun w => by delta Q2; kernel_rfl!) (fun w => by delta Q2; kernel_rfl!)
theorem q1_43 (w : World) (os : OsState) (a b c : FrP) (o : Obj) (toks : Nat) : Q1 w os a b c o toks 43 917578 604 := by delta Q1; kernel_rfl!
theorem q2_43 (T : BT) (N toks : Nat) (os : OsState) (c : Code) (pos : Pos) (a b d : FrP) (q : Pos) : ∀ w, Q2 917578 604 T N toks os c pos a b d q w := byRow2 "special-get-raises" (fun w => by delta Q2; kernel_rfl!) (fun w => by delta Q2; kernel_rfl!)
theorem q1_44 (w : World) (os : OsState) (a b c : FrP) (o : Obj) (toks : Nat) : Q1 w os a b c o toks 44 917579 605 := by delta Q1; kernel_rfl!
theorem q2_44 (T : BT) (N toks : Nat) (os : OsState) (c : Code) (pos : Pos) (a b d : FrP) (q : Pos) : ∀ w, Q2 917579 605 T N toks os c pos a b d q w := byRow2 "special-get-raises" (fun w => by delta Q2; kernel_rfl!) (fun w => by delta Q2; kernel_rfl!)
theorem q1_45 (w : World) (os : OsState) (a b c : FrP) (o : Obj) (toks : Nat) : Q1 w os a b c o toks 45 917580 606 := by delta Q1; kernel_rfl!
theorem q2_45 (T : BT) (N toks : Nat) (os : OsState) (c : Code) (pos : Pos) (a b d : FrP) (q : Pos) : ∀ w, Q2 917580 606 T N toks os c pos a b d q w := byRow2 "special-get-raises" (fun w => by delta Q2; kernel_rfl!) (fun w => by delta Q2; kernel_rfl!)
theorem q1_46 (w : World) (os : OsState) (a b c : FrP) (o : Obj) (toks : Nat) : Q1 w os a b c o toks 46 917581 607 := by delta Q1; kernel_rfl!
theorem q2_46 (T : BT) (N toks : Nat) (os : OsState) (c : Code) (pos : Pos) (a b d : FrP) (q : Pos) : ∀ w, Q2 917581 607 T N toks os c pos a b d q w := byRow2 "special-get-raises" (fun w => by delta Q2; kernel_rfl!) (fun w => by delta Q2; kernel_rfl!)
theorem q1_47 (w : World) (os : OsState) (a b c : FrP) (o : Obj) (toks : Nat) : Q1 w os a b c o toks 47 917582 608 := by delta Q1; kernel_rfl!
theorem q2_47 (T : BT) (N toks : Nat) (os : OsState) (c : Code) (pos : Pos) (a b d : FrP) (q : Pos) : ∀ w, Q2 917582 608 T N toks os c pos a b d q w := byRow2 "special-get-raises" (fun w => by delta Q2; kernel_rfl!) (fun w => by delta Q2; kernel_rfl!)
theorem q1_48 (w : World) (os : OsState) (a b c : FrP) (o : Obj) (toks : Nat) : Q1 w os a b c o toks 48 917583 609 := by delta Q1; kernel_rfl!
theorem q2_48 (T : BT) (N toks : Nat) (os : OsState) (c : Code) (pos : Pos) (a b d : FrP) (q : Pos) : ∀ w, Q2 917583 609 T N toks os c pos a b d q w := byRow2 "special-get-raises" (fun w => by delta Q2; kernel_rfl!) (fun w => by delta Q2; kernel_rfl!)
theorem q1_49 (w : World) (os : OsState) (a b c : FrP) (o : Obj) (toks : Nat) : Q1 w os a b c o toks 49 917584 610 := by delta Q1; kernel_rfl!
theorem q2_49 (T : BT) (N toks : Nat) (os : OsState) (c : Code) (pos : Pos) (a b d : FrP) (q : Pos) : ∀ w, Q2 917584 610 T N toks os c pos a b d q w := byRow2 "special-get-raises" (fun w => by delta Q2; kernel_rfl!) (fun w => by delta Q2; kernel_rfl!)
theorem q1_50 (w : World) (os : OsState) (a b c : FrP) (o : Obj) (toks : Nat) : Q1 w os a b c o toks 50 917585 611 := by delta Q1; kernel_rfl!
theorem q2_50 (T : BT) (N toks : Nat) (os : OsState) (c : Code) (pos : Pos) (a b d : FrP) (q : Pos) : ∀ w, Q2 917585 611 T N toks os c pos a b d q w := byRow2 "special-get-raises" (fun w => by delta Q2; kernel_rfl!) (fun w => by delta Q2; kernel_rfl!)
theorem q1_51 (w : World) (os : OsState) (a b c : FrP) (o : Obj) (toks : Nat) : Q1 w os a b c o toks 51 917586 612 := by delta Q1; kernel_rfl!
theorem q2_51 (T : BT) (N toks : Nat) (os : OsState) (c : Code) (pos : Pos) (a b d : FrP) (q : Pos) : ∀ w, Q2 917586 612 T N toks os c pos a b d q w := byRow2 "special-get-raises" (fun w => by delta Q2; kernel_rfl!) (fun w => by delta Q2; kernel_rfl!)
theorem q1_52 (w : World) (os : OsState) (a b c : FrP) (o : Obj) (toks : Nat) : Q1 w os a b c o toks 52 917587 613 := by delta Q1; kernel_rfl!
theorem q2_52 (T : BT) (N toks : Nat) (os : OsState) (c : Code) (pos : Pos) (a b d : FrP) (q : Pos) : ∀ w, Q2 917587 613 T N toks os c pos a b d q w := byRow2 "special-get-raises" (fun w => by delta Q2; kernel_rfl!) (fun w => by delta Q2; kernel_rfl!)
theorem q1_53 (w : World) (os : OsState) (a b c : FrP) (o : Obj) (toks : Nat) : Q1 w os a b c o toks 53 917588 614 := by delta Q1; kernel_rfl!
theorem q2_53 (T : BT) (N toks : Nat) (os : OsState) (c : Code) (pos : Pos) (a b d : FrP) (q : Pos) : ∀ w, Q2 917588 614 T N toks os c pos a b d q w := byRow2 "special-get-raises" (fun w => by delta Q2; kernel_rfl!) (fun w => by delta Q2; kernel_rfl!)
theorem q1_54 (w : World) (os : OsState) (a b c : FrP) (o : Obj) (toks : Nat) : Q1 w os a b c o toks 54 917589 615 := by delta Q1; kernel_rfl!
theorem q2_54 (T : BT) (N toks : Nat) (os : OsState) (c : Code) (pos : Pos) (a b d : FrP) (q : Pos) : ∀ w, Q2 917589 615 T N toks os c pos a b d q w := byRow2 "special-get-raises" (fun w => by delta Q2; kernel_rfl!) (fun w => by delta Q2; kernel_rfl!)
theorem q1_55 (w : World) (os : OsState) (a b c : FrP) (o : Obj) (toks : Nat) : Q1 w os a b c o toks 55 917590 616 := by delta Q1; kernel_rfl!
theorem q2_55 (T : BT) (N toks : Nat) (os : OsState) (c : Code) (pos : Pos) (a b d : FrP) (q : Pos) : ∀ w, Q2 917590 616 T N toks os c pos a b d q w := byRow2 "special-get-raises" (fun w => by delta Q2; kernel_rfl!) (fun w => by delta Q2; kernel_rfl!)
theorem q1_56 (w : World) (os : OsState) (a b c : FrP) (o : Obj) (toks : Nat) : Q1 w os a b c o toks 56 917591 617 := by delta Q1; kernel_rfl!
theorem q2_56 (T : BT) (N toks : Nat) (os : OsState) (c : Code) (pos : Pos) (a b d : FrP) (q : Pos) : ∀ w, Q2 917591 617 T N toks os c pos a b d q w := byRow2 "special-get-raises" (fun w => by delta Q2; kernel_rfl!) (fun w => by delta Q2; kernel_rfl!)
theorem q1_57 (w : World) (os : OsState) (a b c : FrP) (o : Obj) (toks : Nat) : Q1 w os a b c o toks 57 917592 618 := by delta Q1; kernel_rfl!
theorem q2_57 (T : BT) (N toks : Nat) (os : OsState) (c : Code) (pos : Pos) (a b d : FrP) (q : Pos) : ∀ w, Q2 917592 618 T N toks os c pos a b d q w := byRow2 "special-get-raises" (fun w => by delta Q2; kernel_rfl!) (fun w => by delta Q2; kernel_rfl!)
theorem q1_58 (w : World) (os : OsState) (a b c : FrP) (o : Obj) (toks : Nat) : Q1 w os a b c o toks 58 917593 619 := by delta Q1; kernel_rfl!
theorem q2_58 (T : BT) (N toks : Nat) (os : OsState) (c : Code) (pos : Pos) (a b d : FrP) (q : Pos) : ∀ w, Q2 917593 619 T N toks os c pos a b d q w := byRow2 "special-get-raises" (fun w => by delta Q2; kernel_rfl!) (fun w => by delta Q2; kernel_rfl!)
theorem q1_59 (w : World) (os : OsState) (a b c : FrP) (o : Obj) (toks : Nat) : Q1 w os a b c o toks 59 917594 620 := by delta Q1; kernel_rfl!
theorem q2_59 (T : BT) (N toks : Nat) (os : OsState) (c : Code) (pos : Pos) (a b d : FrP) (q : Pos) : ∀ w, Q2 917594 620 T N toks os c pos a b d q w := byRow2 "special-get-raises" (fun w => by delta Q2; kernel_rfl!) (fun w => by delta Q2; kernel_rfl!)
theorem q1_60 (w : World) (os : OsState) (a b c : FrP) (o : Obj) (toks : Nat) : Q1 w os a b c o toks 60 917595 621 := by delta Q1; kernel_rfl!
theorem q2_60 (T : BT) (N toks : Nat) (os : OsState) (c : Code) (pos : Pos) (a b d : FrP) (q : Pos) : ∀ w, Q2 917595 621 T N toks os c pos a b d q w := byRow2 "special-get-raises" (fun w => by delta Q2; kernel_rfl!) (fun w => by delta Q2; kernel_rfl!)
theorem q1_61 (w : World) (os : OsState) (a b c : FrP) (o : Obj) (toks : Nat) : Q1 w os a b c o toks 61 917596 622 := by delta Q1; kernel_rfl!
theorem q2_61 (T : BT) (N toks : Nat) (os : OsState) (c : Code) (pos : Pos) (a b d : FrP) (q : Pos) : ∀ w, Q2 917596 622 T N toks os c pos a b d q w := byRow2 "special-get-raises" (fun w => by delta Q2; kernel_rfl!) (fun w => by delta Q2; kernel_rfl!)
theorem q1_62 (w : World) (os : OsState) (a b c : FrP) (o : Obj) (toks : Nat) : Q1 w os a b c o toks 62 917597 623 := by delta Q1; kernel_rfl!
theorem q2_62 (T : BT) (N toks : Nat) (os : OsState) (c : Code) (pos : Pos) (a b d : FrP) (q : Pos) : ∀ w, Q2 917597 623 T N toks os c pos a b d q w := byRow2 "special-get-raises" (fun w => by delta Q2; kernel_rfl!) (fun w => by delta Q2; kernel_rfl!)
theorem q1_63 (w : World) (os : OsState) (a b c : FrP) (o : Obj) (toks : Nat) : Q1 w os a b c o toks 63 917598 624 := by delta Q1; kernel_rfl!
theorem q2_63 (T : BT) (N toks : Nat) (os : OsState) (c : Code) (pos : Pos) (a b d : FrP) (q : Pos) : ∀ w, Q2 917598 624 T N toks os c pos a b d q w := byRow2 "special-get-raises" (fun w => by delta Q2; kernel_rfl!) (fun w => by delta Q2; kernel_rfl!)
theorem q1_64 (w : World) (os : OsState) (a b c : FrP) (o : Obj) (toks : Nat) : Q1 w os a b c o toks 64 917599 625 := by delta Q1; kernel_rfl!
theorem q2_64 (T : BT) (N toks : Nat) (os : OsState) (c : Code) (pos : Pos) (a b d : FrP) (q : Pos) : ∀ w, Q2 917599 625 T N toks os c pos a b d q w := byRow2 "special-get-raises" (fun w => by delta Q2; kernel_rfl!) (fun w => by delta Q2; kernel_rfl!)
theorem q1_65 (w : World) (os : OsState) (a b c : FrP) (o : Obj) (toks : Nat) : Q1 w os a b c o toks 65 917600 626 := by delta Q1; kernel_rfl!
theorem q2_65 (T : BT) (N toks : Nat) (os : OsState) (c : Code) (pos : Pos) (a b d : FrP) (q : Pos) : ∀ w, Q2 917600 626 T N toks os c pos a b d q w := byRow2 "special-get-raises" (fun w => by delta Q2; kernel_rfl!) (fun w => by delta Q2; kernel_rfl!)
theorem q1_66 (w : World) (os : OsState) (a b c : FrP) (o : Obj) (toks : Nat) : Q1 w os a b c o toks 66 917601 627 := by delta Q1; kernel_rfl!
theorem q2_66 (T : BT) (N toks : Nat) (os : OsState) (c : Code) (pos : Pos) (a b d : FrP) (q : Pos) : ∀ w, Q2 917601 627 T N toks os c pos a b d q w := byRow2 "special-get-raises" (fun w => by delta Q2; kernel_rfl!) (fun w => by delta Q2; kernel_rfl!)
theorem q1_67 (w : World) (os : OsState) (a b c : FrP) (o : Obj) (toks : Nat) : Q1 w os a b c o toks 67 917602 628 := by delta Q1; kernel_rfl!
theorem q2_67 (T : BT) (N toks : Nat) (os : OsState) (c : Code) (pos : Pos) (a b d : FrP) (q : Pos) : ∀ w, Q2 917602 628 T N toks os c pos a b d q w := byRow2 "special-get-raises" (fun w => by delta Q2; kernel_rfl!) (fun w => by delta Q2; kernel_rfl!)
theorem q1_68 (w : World) (os : OsState) (a b c : FrP) (o : Obj) (toks : Nat) : Q1 w os a b c o toks 68 917603 629 := by delta Q1; kernel_rfl!
theorem q2_68 (T : BT) (N toks : Nat) (os : OsState) (c : Code) (pos : Pos) (a b d : FrP) (q : Pos) : ∀ w, Q2 917603 629 T N toks os c pos a b d q w := byRow2 "special-get-raises" (fun w => by delta Q2; kernel_rfl!) (fun w => by delta Q2; kernel_rfl!)
theorem q1_69 (w : World) (os : OsState) (a b c : FrP) (o : Obj) (toks : Nat) : Q1 w os a b c o toks 69 917604 630 := by delta Q1; kernel_rfl!
theorem q2_69 (T : BT) (N toks : Nat) (os : OsState) (c : Code) (pos : Pos) (a b d : FrP) (q : Pos) : ∀ w, Q2 917604 630 T N toks os c pos a b d q w := byRow2 "special-get-raises" (fun w => by delta Q2; kernel_rfl!) (fun w => by delta Q2; kernel_rfl!)
theorem q1_70 (w : World) (os : OsState) (a b c : FrP) (o : Obj) (toks : Nat) : Q1 w os a b c o toks 70 917605 631 := by delta Q1; kernel_rfl!
theorem q2_70 (T : BT) (N toks : Nat) (os : OsState) (c : Code) (pos : Pos) (a b d : FrP) (q : Pos) : ∀ w, Q2 917605 631 T N toks os c pos a b d q w := byRow2 "special-get-raises" (fun w => by delta Q2; kernel_rfl!) (fun w => by delta Q2; kernel_rfl!)
theorem q1_71 (w : World) (os : OsState) (a b c : FrP) (o : Obj) (toks : Nat) : Q1 w os a b c o toks 71 917606 632 := by delta Q1; kernel_rfl!
theorem q2_71 (T : BT) (N toks : Nat) (os : OsState) (c : Code) (pos : Pos) (a b d : FrP) (q : Pos) : ∀ w, Q2 917606 632 T N toks os c pos a b d q w := byRow2 "special-get-raises" (fun w => by delta Q2; kernel_rfl!) (fun w => by delta Q2; kernel_rfl!)
theorem q1_72 (w : World) (os : OsState) (a b c : FrP) (o : Obj) (toks : Nat) : Q1 w os a b c o toks 72 917607 633 := by delta Q1; kernel_rfl!
theorem q2_72 (T : BT) (N toks : Nat) (os : OsState) (c : Code) (pos : Pos) (a b d : FrP) (q : Pos) : ∀ w, Q2 917607 633 T N toks os c pos a b d q w := byRow2 "special-get-raises" (fun w => by delta Q2; kernel_rfl!) (fun w => by delta Q2; kernel_rfl!)
theorem q1_73 (w : World) (os : OsState) (a b c : FrP) (o : Obj) (toks : Nat) : Q1 w os a b c o toks 73 917608 634 := by delta Q1; kernel_rfl!
theorem q2_73 (T : BT) (N toks : Nat) (os : OsState) (c : Code) (pos : Pos) (a b d : FrP) (q : Pos) : ∀ w, Q2 917608 634 T N toks os c pos a b d q w := byRow2 "special-get-raises" (fun w => by delta Q2; kernel_rfl!) (fun w => by delta Q2; kernel_rfl!)
theorem q1_74 (w : World) (os : OsState) (a b c : FrP) (o : Obj) (toks : Nat) : Q1 w os a b c o toks 74 917609 635 := by delta Q1; kernel_rfl!
theorem q2_74 (T : BT) (N toks : Nat) (os : OsState) (c : Code) (pos : Pos) (a b d : FrP) (q : Pos) : ∀ w, Q2 917609 635 T N toks os c pos a b d q w := byRow2 "special-get-raises" (fun w => by delta Q2; kernel_rfl!) (fun w => by delta Q2; kernel_rfl!)
theorem q1_75 (w : World) (os : OsState) (a b c : FrP) (o : Obj) (toks : Nat) : Q1 w os a b c o toks 75 917610 636 := by delta Q1; kernel_rfl!
theorem q2_75 (T : BT) (N toks : Nat) (os : OsState) (c : Code) (pos : Pos) (a b d : FrP) (q : Pos) : ∀ w, Q2 917610 636 T N toks os c pos a b d q w := byRow2 "special-get-raises" (fun w => by delta Q2; kernel_rfl!) (fun w => by delta Q2; kernel_rfl!)
theorem q1_76 (w : World) (os : OsState) (a b c : FrP) (o : Obj) (toks : Nat) : Q1 w os a b c o toks 76 917611 637 := by delta Q1; kernel_rfl!
theorem q2_76 (T : BT) (N toks : Nat) (os : OsState) (c : Code) (pos : Pos) (a b d : FrP) (q : Pos) : ∀ w, Q2 917611 637 T N toks os c pos a b d q w := byRow2 "special-get-raises" (fun w => by delta Q2; kernel_rfl!) (fun w => by delta Q2; kernel_rfl!)
theorem q1_77 (w : World) (os : OsState) (a b c : FrP) (o : Obj) (toks : Nat) : Q1 w os a b c o toks 77 917612 638 := by delta Q1; kernel_rfl!
theorem q2_77 (T : BT) (N toks : Nat) (os : OsState) (c : Code) (pos : Pos) (a b d : FrP) (q : Pos) : ∀ w, Q2 917612 638 T N toks os c pos a b d q w := byRow2 "special-get-raises" (fun w => by delta Q2; kernel_rfl!) (fun w => by delta Q2; kernel_rfl!)
theorem q1_78 (w : World) (os : OsState) (a b c : FrP) (o : Obj) (toks : Nat) : Q1 w os a b c o toks 78 917613 639 := by delta Q1; kernel_rfl!
theorem q2_78 (T : BT) (N toks : Nat) (os : OsState) (c : Code) (pos : Pos) (a b d : FrP) (q : Pos) : ∀ w, Q2 917613 639 T N toks os c pos a b d q w := byRow2 "special-get-raises" (fun w => by delta Q2; kernel_rfl!) (fun w => by delta Q2; kernel_rfl!)
theorem q1_79 (w : World) (os : OsState) (a b c : FrP) (o : Obj) (toks : Nat) : Q1 w os a b c o toks 79 917614 640 := by delta Q1; kernel_rfl!
theorem q2_79 (T : BT) (N toks : Nat) (os : OsState) (c : Code) (pos : Pos) (a b d : FrP) (q : Pos) : ∀ w, Q2 917614 640 T N toks os c pos a b d q w := byRow2 "special-get-raises" (fun w => by delta Q2; kernel_rfl!) (fun w => by delta Q2; kernel_rfl!)
theorem q1_80 (w : World) (os : OsState) (a b c : FrP) (o : Obj) (toks : Nat) : Q1 w os a b c o toks 80 917615 641 := by delta Q1; kernel_rfl!
theorem q2_80 (T : BT) (N toks : Nat) (os : OsState) (c : Code) (pos : Pos) (a b d : FrP) (q : Pos) : ∀ w, Q2 917615 641 T N toks os c pos a b d q w := byRow2 "special-get-raises" (fun w => by delta Q2; kernel_rfl!) (fun w => by delta Q2; kernel_rfl!)
theorem q1_81 (w : World) (os : OsState) (a b c : FrP) (o : Obj) (toks : Nat) : Q1 w os a b c o toks 81 917616 642 := by delta Q1; kernel_rfl!
theorem q2_81 (T : BT) (N toks : Nat) (os : OsState) (c : Code) (pos : Pos) (a b d : FrP) (q : Pos) : ∀ w, Q2 917616 642 T N toks os c pos a b d q w := byRow2 "special-get-raises" (fun w => by delta Q2; kernel_rfl!) (fun w => by delta Q2; kernel_rfl!)
theorem q1_82 (w : World) (os : OsState) (a b c : FrP) (o : Obj) (toks : Nat) : Q1 w os a b c o toks 82 917617 643 := by delta Q1; kernel_rfl!
theorem q2_82 (T : BT) (N toks : Nat) (os : OsState) (c : Code) (pos : Pos) (a b d : FrP) (q : Pos) : ∀ w, Q2 917617 643 T N toks os c pos a b d q w := byRow2 "special-get-raises" (fun w => by delta Q2; kernel_rfl!) (fun w => by delta Q2; kernel_rfl!)
theorem q1_83 (w : World) (os : OsState) (a b c : FrP) (o : Obj) (toks : Nat) : Q1 w os a b c o toks 83 917618 644 := by delta Q1; kernel_rfl!
theorem q2_83 (T : BT) (N toks : Nat) (os : OsState) (c : Code) (pos : Pos) (a b d : FrP) (q : Pos) : ∀ w, Q2 917618 644 T N toks os c pos a b d q w := byRow2 "special-get-raises" (fun w => by delta Q2; kernel_rfl!) (fun w => by delta Q2; kernel_rfl!)
theorem q1_84 (w : World) (os : OsState) (a b c : FrP) (o : Obj) (toks : Nat) : Q1 w os a b c o toks 84 917619 645 := by delta Q1; kernel_rfl!
theorem q2_84 (T : BT) (N toks : Nat) (os : OsState) (c : Code) (pos : Pos) (a b d : FrP) (q : Pos) : ∀ w, Q2 917619 645 T N toks os c pos a b d q w := byRow2 "special-get-raises" (fun w => by delta Q2; kernel_rfl!) (fun w => by delta Q2; kernel_rfl!)
theorem q1_85 (w : World) (os : OsState) (a b c : FrP) (o : Obj) (toks : Nat) : Q1 w os a b c o toks 85 917620 646 := by delta Q1; kernel_rfl!
theorem q2_85 (T : BT) (N toks : Nat) (os : OsState) (c : Code) (pos : Pos) (a b d : FrP) (q : Pos) : ∀ w, Q2 917620 646 T N toks os c pos a b d q w := byRow2 "special-get-raises" (fun w => by delta Q2; kernel_rfl!) (fun w => by delta Q2; kernel_rfl!)
theorem q1_86 (w : World) (os : OsState) (a b c : FrP) (o : Obj) (toks : Nat) : Q1 w os a b c o toks 86 917621 647 := by delta Q1; kernel_rfl!
theorem q2_86 (T : BT) (N toks : Nat) (os : OsState) (c : Code) (pos : Pos) (a b d : FrP) (q : Pos) : ∀ w, Q2 917621 647 T N toks os c pos a b d q w := byRow2 "special-get-raises" (fun w => by delta Q2; kernel_rfl!) (fun w => by delta Q2; kernel_rfl!)
theorem q1_87 (w : World) (os : OsState) (a b c : FrP) (o : Obj) (toks : Nat) : Q1 w os a b c o toks 87 917622 648 := by delta Q1; kernel_rfl!
theorem q2_87 (T : BT) (N toks : Nat) (os : OsState) (c : Code) (pos : Pos) (a b d : FrP) (q : Pos) : ∀ w, Q2 917622 648 T N toks os c pos a b d q w := byRow2 "special-get-raises" (fun w => by delta Q2; kernel_rfl!) (fun w => by delta Q2; kernel_rfl!)
theorem q1_88 (w : World) (os : OsState) (a b c : FrP) (o : Obj) (toks : Nat) : Q1 w os a b c o toks 88 917623 649 := by delta Q1; kernel_rfl!
theorem q2_88 (T : BT) (N toks : Nat) (os : OsState) (c : Code) (pos : Pos) (a b d : FrP) (q : Pos) : ∀ w, Q2 917623 649 T N toks os c pos a b d q w := byRow2 "special-get-raises" (fun w => by delta Q2; kernel_rfl!) (fun w => by delta Q2; kernel_rfl!)
theorem q1_89 (w : World) (os : OsState) (a b c : FrP) (o : Obj) (toks : Nat) : Q1 w os a b c o toks 89 917624 650 := by delta Q1; kernel_rfl!
theorem q2_89 (T : BT) (N toks : Nat) (os : OsState) (c : Code) (pos : Pos) (a b d : FrP) (q : Pos) : ∀ w, Q2 917624 650 T N toks os c pos a b d q w := byRow2 "special-get-raises" (fun w => by delta Q2; kernel_rfl!) (fun w => by delta Q2; kernel_rfl!)
theorem q1_90 (w : World) (os : OsState) (a b c : FrP) (o : Obj) (toks : Nat) : Q1 w os a b c o toks 90 917625 651 := by delta Q1; kernel_rfl!
theorem q2_90 (T : BT) (N toks : Nat) (os : OsState) (c : Code) (pos : Pos) (a b d : FrP) (q : Pos) : ∀ w, Q2 917625 651 T N toks os c pos a b d q w := byRow2 "special-get-raises" (fun w => by delta Q2; kernel_rfl!) (fun w => by delta Q2; kernel_rfl!)
theorem q1_91 (w : World) (os : OsState) (a b c : FrP) (o : Obj) (toks : Nat) : Q1 w os a b c o toks 91 917626 652 := by delta Q1; kernel_rfl!
theorem q2_91 (T : BT) (N toks : Nat) (os : OsState) (c : Code) (pos : Pos) (a b d : FrP) (q : Pos) : ∀ w, Q2 917626 652 T N toks os c pos a b d q w := byRow2 "special-get-raises" (fun w => by delta Q2; kernel_rfl!) (fun w => by delta Q2; kernel_rfl!)
theorem q1_92 (w : World) (os : OsState) (a b c : FrP) (o : Obj) (toks : Nat) : Q1 w os a b c o toks 92 917627 653 := by delta Q1; kernel_rfl!
theorem q2_92 (T : BT) (N toks : Nat) (os : OsState) (c : Code) (pos : Pos) (a b d : FrP) (q : Pos) : ∀ w, Q2 917627 653 T N toks os c pos a b d q w := byRow2 "special-get-raises" (fun w => by delta Q2; kernel_rfl!) (fun w => by delta Q2; kernel_rfl!)
theorem q1_93 (w : World) (os : OsState) (a b c : FrP) (o : Obj) (toks : Nat) : Q1 w os a b c o toks 93 917628 654 := by delta Q1; kernel_rfl!
theorem q2_93 (T : BT) (N toks : Nat) (os : OsState) (c : Code) (pos : Pos) (a b d : FrP) (q : Pos) : ∀ w, Q2 917628 654 T N toks os c pos a b d q w := byRow2 "special-get-raises" (fun w => by delta Q2; kernel_rfl!) (fun w => by delta Q2; kernel_rfl!)
theorem q1_94 (w : World) (os : OsState) (a b c : FrP) (o : Obj) (toks : Nat) : Q1 w os a b c o toks 94 917629 655 := by delta Q1; kernel_rfl!
theorem q2_94 (T : BT) (N toks : Nat) (os : OsState) (c : Code) (pos : Pos) (a b d : FrP) (q : Pos) : ∀ w, Q2 917629 655 T N toks os c pos a b d q w := byRow2 "special-get-raises" (fun w => by delta Q2; kernel_rfl!) (fun w => by delta Q2; kernel_rfl!)
theorem q1_95 (w : World) (os : OsState) (a b c : FrP) (o : Obj) (toks : Nat) : Q1 w os a b c o toks 95 917630 656 := by delta Q1; kernel_rfl!
theorem q2_95 (T : BT) (N toks : Nat) (os : OsState) (c : Code) (pos : Pos) (a b d : FrP) (q : Pos) : ∀ w, Q2 917630 656 T N toks os c pos a b d q w := byRow2 "special-get-raises" (fun w => by delta Q2; kernel_rfl!) (fun w => by delta Q2; kernel_rfl!)
theorem q1_96 (w : World) (os : OsState) (a b c : FrP) (o : Obj) (toks : Nat) : Q1 w os a b c o toks 96 917631 657 := by delta Q1; kernel_rfl!
theorem q2_96 (T : BT) (N toks : Nat) (os : OsState) (c : Code) (pos : Pos) (a b d : FrP) (q : Pos) : ∀ w, Q2 917631 657 T N toks os c pos a b d q w := byRow2 "special-get-raises" (fun w => by delta Q2; kernel_rfl!) (fun w => by delta Q2; kernel_rfl!)
end Mine
end
section
set_option Elab.async false
set_option linter.unusedVariables false
set_option maxRecDepth 100000
set_option maxHeartbeats 0
namespace Mine
open PySem PySem.W PySem.Calls PyProof.Rows
theorem c9c : ∀ w : World, (fun os => PySem.W.Fast.tw10110043849684766642 PySem.W.Fast.tw14364793385576792824 pw w 28 (some (.ref 6)) 1 27 (SLc w os 97 (o143 w.params)) (thL (frP (frA w os 0)) (frP (frA w os 1)) (frP (frA w os 2)))) = fun os => some (Flow.next, S11 w os, cE, ⟨60, 0, 60, 6⟩) := byRow2 "special-get-raises" (fun w => by kernel_rfl!) (fun w => by kernel_rfl!)
end Mine
end
section
set_option Elab.async false
set_option linter.unusedVariables false
set_option maxRecDepth 100000
set_option maxHeartbeats 1000000
namespace Mine
open PySem PySem.W PySem.Calls PyProof.Rows
noncomputable def qv : Program := view pw [0, 29]
noncomputable def loose : List Str := ["_sre", "_iter_escaped_chars", "_strip_quoted_realnames", "_twin_re_1", "_twin_re_2", "CRLF", "quotedata", "b1_set", "in_table_b1", "in_table_c4", "c6_set", "in_table_c6", "c7_set", "in_table_c7", "c8_set", "in_table_c8", "c9_set", "in_table_c9", "_law_sign", "_law_beside", "_law_last", "_law_nets", "_law_pieces", "_law_told", "_law_due"]
noncomputable def ls (w : World) (os : OsState) : Shared := ⟨H12 w.params, ⟨[]⟩, {}, 845, os⟩
theorem lk1 (w : World) : staticsOk (importedModules pw.main.body) (H0 w.params) (H12 w.params) = true := by kernel_rfl!
theorem lk2 (w : World) : namesBound pw (H12 w.params) = true := by kernel_rfl!
theorem lk3 (w : World) : laidKept (H0 w.params) (H12 w.params) = true := by kernel_rfl!
theorem lk4 (w : World) (os : OsState) : PySem.W.Fast.tw4187177175401517315 qv loose (importedModules pw.main.body) (fun s => xlAt qv [] s && recOk [] s) true (ls w os) = openGood qv loose := by kernel_rfl!
end Mine
end
section
set_option Elab.async false
set_option linter.unusedVariables false
set_option maxRecDepth 100000
set_option maxHeartbeats 0
namespace Mine
open PySem PySem.W PySem.Calls PyProof.Rows

theorem conv_seg {l : List Stmt} {N : Nat} {c : Code} {p p' : Pos} {A B : World → OsState → SharedT} (h : ∀ w : World, (fun os => PySem.W.Fast.tw10110043849684766642 PySem.W.Fast.tw14364793385576792824 pw w 28 (some (.ref 6)) 1 N (A w os) (piecesOf l envE c p [topFrame zp])) = fun os => some (Flow.next, B w os, c, p')) (w : World) (os : OsState) :
    segRun treeTable pw w 28 (some (.ref 6)) 1 N (A w os).abs (piecesOf l envE c p [topFrame zp]) = some (.next, (B w os).abs, c, p') := by
  rw [← PySem.W.Fast.te10110043849684766642, ← PySem.W.Fast.te14364793385576792824] at h
  exact segRun_of (congrFun (h w) os)
theorem AllP.cons_ {A : Nat → Int × Tok → Prop} {B : Int × Tok → Prop} {x : Int × Tok} {l : List (Int × Tok)} {i : Nat} (h : A i x) (h' : B x) (r : AllP A B l (i + 1)) : AllP A B (x :: l) i := ⟨⟨h, h'⟩, r⟩
theorem p1_of {w : World} {os : OsState} {a b c : FrP} {i : Nat} {v : Int} {tk : Nat} (h : ∀ o toks, Q1 w os a b c o toks i v tk) : P1 treeTable pw w 28 (some (.ref 6)) 143 144 145 (Lc w.params) pL os a b c zp i (v, tk) := by
  intro o toks
  have h := h o toks
  unfold Q1 at h
  rw [← PySem.W.Fast.te10110043849684766642, ← PySem.W.Fast.te14364793385576792824, ← PySem.W.Fast.te9404975358583537561] at h
  exact h
theorem p2_of {w : World} {v : Int} {tk : Nat} (h : ∀ T N toks os c pos a b d q, Q2 v tk T N toks os c pos a b d q w) : P2 treeTable pw w 28 (some (.ref 6)) (v, tk) := by
  intro T N toks os c pos a b d q
  have h := h T N toks os c pos a b d q
  unfold Q2 at h
  rw [← PySem.W.Fast.te10110043849684766642, ← PySem.W.Fast.te14364793385576792824, ← PySem.W.Fast.te10540108854288196387] at h
  exact h
theorem Lc_set (P : Params) (i : Nat) (o : Obj) (f : Obj → Obj) : (Lc P i o).set 143 f = Lc P i (f o) := by kernel_rfl!
theorem Lc_get (P : Params) (i : Nat) (o : Obj) : (Lc P i o).get 143 = some o := by kernel_rfl!
theorem vals9_eq : vals9 = [(917505, 556), (917536, 562), (917537, 563), (917538, 564), (917539, 565), (917540, 566), (917541, 567), (917542, 568), (917543, 569), (917544, 570), (917545, 571), (917546, 572), (917547, 573), (917548, 574), (917549, 575), (917550, 576), (917551, 577), (917552, 578), (917553, 579), (917554, 580), (917555, 581), (917556, 582), (917557, 583), (917558, 584), (917559, 585), (917560, 586), (917561, 587), (917562, 588), (917563, 589), (917564, 590), (917565, 591), (917566, 592), (917567, 593), (917568, 594), (917569, 595), (917570, 596), (917571, 597), (917572, 598), (917573, 599), (917574, 600), (917575, 601), (917576, 602), (917577, 603), (917578, 604), (917579, 605), (917580, 606), (917581, 607), (917582, 608), (917583, 609), (917584, 610), (917585, 611), (917586, 612), (917587, 613), (917588, 614), (917589, 615), (917590, 616), (917591, 617), (917592, 618), (917593, 619), (917594, 620), (917595, 621), (917596, 622), (917597, 623), (917598, 624), (917599, 625), (917600, 626), (917601, 627), (917602, 628), (917603, 629), (917604, 630), (917605, 631), (917606, 632), (917607, 633), (917608, 634), (917609, 635), (917610, 636), (917611, 637), (917612, 638), (917613, 639), (917614, 640), (917615, 641), (917616, 642), (917617, 643), (917618, 644), (917619, 645), (917620, 646), (917621, 647), (917622, 648), (917623, 649), (917624, 650), (917625, 651), (917626, 652), (917627, 653), (917628, 654), (917629, 655), (917630, 656), (917631, 657)] := by decide +kernel
theorem all9 (w : World) (os : OsState) (a b c : FrP) : AllP (P1 treeTable pw w 28 (some (.ref 6)) 143 144 145 (Lc w.params) pL os a b c zp) (P2 treeTable pw w 28 (some (.ref 6))) vals9 0 := by
  rw [vals9_eq]
  refine AllP.cons_ (p1_of (i := 0) (q1_0 w os a b c)) (p2_of fun T N toks os c pos a b d q => q2_0 T N toks os c pos a b d q w) ?_
  refine AllP.cons_ (p1_of (i := 1) (q1_1 w os a b c)) (p2_of fun T N toks os c pos a b d q => q2_1 T N toks os c pos a b d q w) ?_
  refine AllP.cons_ (p1_of (i := 2) (q1_2 w os a b c)) (p2_of fun T N toks os c pos a b d q => q2_2 T N toks os c pos a b d q w) ?_
  refine AllP.cons_ (p1_of (i := 3) (q1_3 w os a b c)) (p2_of fun T N toks os c pos a b d q => q2_3 T N toks os c pos a b d q w) ?_
  refine AllP.cons_ (p1_of (i := 4) (q1_4 w os a b c)) (p2_of fun T N toks os c pos a b d q => q2_4 T N toks os c pos a b d q w) ?_
  refine AllP.cons_ (p1_of (i := 5) (q1_5 w os a b c)) (p2_of fun T N toks os c pos a b d q => q2_5 T N toks os c pos a b d q w) ?_
  refine AllP.cons_ (p1_of (i := 6) (q1_6 w os a b c)) (p2_of fun T N toks os c pos a b d q => q2_6 T N toks os c pos a b d q w) ?_
  refine AllP.cons_ (p1_of (i := 7) (q1_7 w os a b c)) (p2_of fun T N toks os c pos a b d q => q2_7 T N toks os c pos a b d q w) ?_
  refine AllP.cons_ (p1_of (i := 8) (q1_8 w os a b c)) (p2_of fun T N toks os c pos a b d q => q2_8 T N toks os c pos a b d q w) ?_
  refine AllP.cons_ (p1_of (i := 9) (q1_9 w os a b c)) (p2_of fun T N toks os c pos a b d q => q2_9 T N toks os c pos a b d q w) ?_
  refine AllP.cons_ (p1_of (i := 10) (q1_10 w os a b c)) (p2_of fun T N toks os c pos a b d q => q2_10 T N toks os c pos a b d q w) ?_
  refine AllP.cons_ (p1_of (i := 11) (q1_11 w os a b c)) (p2_of fun T N toks os c pos a b d q => q2_11 T N toks os c pos a b d q w) ?_
  refine AllP.cons_ (p1_of (i := 12) (q1_12 w os a b c)) (p2_of fun T N toks os c pos a b d q => q2_12 T N toks os c pos a b d q w) ?_
  refine AllP.cons_ (p1_of (i := 13) (q1_13 w os a b c)) (p2_of fun T N toks os c pos a b d q => q2_13 T N toks os c pos a b d q w) ?_
  refine AllP.cons_ (p1_of (i := 14) (q1_14 w os a b c)) (p2_of fun T N toks os c pos a b d q => q2_14 T N toks os c pos a b d q w) ?_
  refine AllP.cons_ (p1_of (i := 15) (q1_15 w os a b c)) (p2_of fun T N toks os c pos a b d q => q2_15 T N toks os c pos a b d q w) ?_
  refine AllP.cons_ (p1_of (i := 16) (q1_16 w os a b c)) (p2_of fun T N toks os c pos a b d q => q2_16 T N toks os c pos a b d q w) ?_
  refine AllP.cons_ (p1_of (i := 17) (q1_17 w os a b c)) (p2_of fun T N toks os c pos a b d q => q2_17 T N toks os c pos a b d q w) ?_
  refine AllP.cons_ (p1_of (i := 18) (q1_18 w os a b c)) (p2_of fun T N toks os c pos a b d q => q2_18 T N toks os c pos a b d q w) ?_
  refine AllP.cons_ (p1_of (i := 19) (q1_19 w os a b c)) (p2_of fun T N toks os c pos a b d q => q2_19 T N toks os c pos a b d q w) ?_
  refine AllP.cons_ (p1_of (i := 20) (q1_20 w os a b c)) (p2_of fun T N toks os c pos a b d q => q2_20 T N toks os c pos a b d q w) ?_
  refine AllP.cons_ (p1_of (i := 21) (q1_21 w os a b c)) (p2_of fun T N toks os c pos a b d q => q2_21 T N toks os c pos a b d q w) ?_
  refine AllP.cons_ (p1_of (i := 22) (q1_22 w os a b c)) (p2_of fun T N toks os c pos a b d q => q2_22 T N toks os c pos a b d q w) ?_
  refine AllP.cons_ (p1_of (i := 23) (q1_23 w os a b c)) (p2_of fun T N toks os c pos a b d q => q2_23 T N toks os c pos a b d q w) ?_
  refine AllP.cons_ (p1_of (i := 24) (q1_24 w os a b c)) (p2_of fun T N toks os c pos a b d q => q2_24 T N toks os c pos a b d q w) ?_
  refine AllP.cons_ (p1_of (i := 25) (q1_25 w os a b c)) (p2_of fun T N toks os c pos a b d q => q2_25 T N toks os c pos a b d q w) ?_
  refine AllP.cons_ (p1_of (i := 26) (q1_26 w os a b c)) (p2_of fun T N toks os c pos a b d q => q2_26 T N toks os c pos a b d q w) ?_
  refine AllP.cons_ (p1_of (i := 27) (q1_27 w os a b c)) (p2_of fun T N toks os c pos a b d q => q2_27 T N toks os c pos a b d q w) ?_
  refine AllP.cons_ (p1_of (i := 28) (q1_28 w os a b c)) (p2_of fun T N toks os c pos a b d q => q2_28 T N toks os c pos a b d q w) ?_
  refine AllP.cons_ (p1_of (i := 29) (q1_29 w os a b c)) (p2_of fun T N toks os c pos a b d q => q2_29 T N toks os c pos a b d q w) ?_
  refine AllP.cons_ (p1_of (i := 30) (q1_30 w os a b c)) (p2_of fun T N toks os c pos a b d q => q2_30 T N toks os c pos a b d q w) ?_
  refine AllP.cons_ (p1_of (i := 31) (q1_31 w os a b c)) (p2_of fun T N toks os c pos a b d q => q2_31 T N toks os c pos a b d q w) ?_
  refine AllP.cons_ (p1_of (i := 32) (q1_32 w os a b c)) (p2_of fun T N toks os c pos a b d q => q2_32 T N toks os c pos a b d q w) ?_
  refine AllP.cons_ (p1_of (i := 33) (q1_33 w os a b c)) (p2_of fun T N toks os c pos a b d q => q2_33 T N toks os c pos a b d q w) ?_
  refine AllP.cons_ (p1_of (i := 34) (q1_34 w os a b c)) (p2_of fun T N toks os c pos a b d q => q2_34 T N toks os c pos a b d q w) ?_
  refine AllP.cons_ (p1_of (i := 35) (q1_35 w os a b c)) (p2_of fun T N toks os c pos a b d q => q2_35 T N toks os c pos a b d q w) ?_
  refine AllP.cons_ (p1_of (i := 36) (q1_36 w os a b c)) (p2_of fun T N toks os c pos a b d q => q2_36 T N toks os c pos a b d q w) ?_
  refine AllP.cons_ (p1_of (i := 37) (q1_37 w os a b c)) (p2_of fun T N toks os c pos a b d q => q2_37 T N toks os c pos a b d q w) ?_
  refine AllP.cons_ (p1_of (i := 38) (q1_38 w os a b c)) (p2_of fun T N toks os c pos a b d q => q2_38 T N toks os c pos a b d q w) ?_
  refine AllP.cons_ (p1_of (i := 39) (q1_39 w os a b c)) (p2_of fun T N toks os c pos a b d q => q2_39 T N toks os c pos a b d q w) ?_
  refine AllP.cons_ (p1_of (i := 40) (q1_40 w os a b c)) (p2_of fun T N toks os c pos a b d q => q2_40 T N toks os c pos a b d q w) ?_
  refine AllP.cons_ (p1_of (i := 41) (q1_41 w os a b c)) (p2_of fun T N toks os c pos a b d q => q2_41 T N toks os c pos a b d q w) ?_
  refine AllP.cons_ (p1_of (i := 42) (q1_42 w os a b c)) (p2_of fun T N toks os c pos a b d q => q2_42 T N toks os c pos a b d q w) ?_
  refine AllP.cons_ (p1_of (i := 43) (q1_43 w os a b c)) (p2_of fun T N toks os c pos a b d q => q2_43 T N toks os c pos a b d q w) ?_
  refine AllP.cons_ (p1_of (i := 44) (q1_44 w os a b c)) (p2_of fun T N toks os c pos a b d q => q2_44 T N toks os c pos a b d q w) ?_
  refine AllP.cons_ (p1_of (i := 45) (q1_45 w os a b c)) (p2_of fun T N toks os c pos a b d q => q2_45 T N toks os c pos a b d q w) ?_
  refine AllP.cons_ (p1_of (i := 46) (q1_46 w os a b c)) (p2_of fun T N toks os c pos a b d q => q2_46 T N toks os c pos a b d q w) ?_
  refine AllP.cons_ (p1_of (i := 47) (q1_47 w os a b c)) (p2_of fun T N toks os c pos a b d q => q2_47 T N toks os c pos a b d q w) ?_
  refine AllP.cons_ (p1_of (i := 48) (q1_48 w os a b c)) (p2_of fun T N toks os c pos a b d q => q2_48 T N toks os c pos a b d q w) ?_
  refine AllP.cons_ (p1_of (i := 49) (q1_49 w os a b c)) (p2_of fun T N toks os c pos a b d q => q2_49 T N toks os c pos a b d q w) ?_
  refine AllP.cons_ (p1_of (i := 50) (q1_50 w os a b c)) (p2_of fun T N toks os c pos a b d q => q2_50 T N toks os c pos a b d q w) ?_
  refine AllP.cons_ (p1_of (i := 51) (q1_51 w os a b c)) (p2_of fun T N toks os c pos a b d q => q2_51 T N toks os c pos a b d q w) ?_
  refine AllP.cons_ (p1_of (i := 52) (q1_52 w os a b c)) (p2_of fun T N toks os c pos a b d q => q2_52 T N toks os c pos a b d q w) ?_
  refine AllP.cons_ (p1_of (i := 53) (q1_53 w os a b c)) (p2_of fun T N toks os c pos a b d q => q2_53 T N toks os c pos a b d q w) ?_
  refine AllP.cons_ (p1_of (i := 54) (q1_54 w os a b c)) (p2_of fun T N toks os c pos a b d q => q2_54 T N toks os c pos a b d q w) ?_
  refine AllP.cons_ (p1_of (i := 55) (q1_55 w os a b c)) (p2_of fun T N toks os c pos a b d q => q2_55 T N toks os c pos a b d q w) ?_
  refine AllP.cons_ (p1_of (i := 56) (q1_56 w os a b c)) (p2_of fun T N toks os c pos a b d q => q2_56 T N toks os c pos a b d q w) ?_
  refine AllP.cons_ (p1_of (i := 57) (q1_57 w os a b c)) (p2_of fun T N toks os c pos a b d q => q2_57 T N toks os c pos a b d q w) ?_
  refine AllP.cons_ (p1_of (i := 58) (q1_58 w os a b c)) (p2_of fun T N toks os c pos a b d q => q2_58 T N toks os c pos a b d q w) ?_
  refine AllP.cons_ (p1_of (i := 59) (q1_59 w os a b c)) (p2_of fun T N toks os c pos a b d q => q2_59 T N toks os c pos a b d q w) ?_
  refine AllP.cons_ (p1_of (i := 60) (q1_60 w os a b c)) (p2_of fun T N toks os c pos a b d q => q2_60 T N toks os c pos a b d q w) ?_
  refine AllP.cons_ (p1_of (i := 61) (q1_61 w os a b c)) (p2_of fun T N toks os c pos a b d q => q2_61 T N toks os c pos a b d q w) ?_
  refine AllP.cons_ (p1_of (i := 62) (q1_62 w os a b c)) (p2_of fun T N toks os c pos a b d q => q2_62 T N toks os c pos a b d q w) ?_
  refine AllP.cons_ (p1_of (i := 63) (q1_63 w os a b c)) (p2_of fun T N toks os c pos a b d q => q2_63 T N toks os c pos a b d q w) ?_
  refine AllP.cons_ (p1_of (i := 64) (q1_64 w os a b c)) (p2_of fun T N toks os c pos a b d q => q2_64 T N toks os c pos a b d q w) ?_
  refine AllP.cons_ (p1_of (i := 65) (q1_65 w os a b c)) (p2_of fun T N toks os c pos a b d q => q2_65 T N toks os c pos a b d q w) ?_
  refine AllP.cons_ (p1_of (i := 66) (q1_66 w os a b c)) (p2_of fun T N toks os c pos a b d q => q2_66 T N toks os c pos a b d q w) ?_
  refine AllP.cons_ (p1_of (i := 67) (q1_67 w os a b c)) (p2_of fun T N toks os c pos a b d q => q2_67 T N toks os c pos a b d q w) ?_
  refine AllP.cons_ (p1_of (i := 68) (q1_68 w os a b c)) (p2_of fun T N toks os c pos a b d q => q2_68 T N toks os c pos a b d q w) ?_
  refine AllP.cons_ (p1_of (i := 69) (q1_69 w os a b c)) (p2_of fun T N toks os c pos a b d q => q2_69 T N toks os c pos a b d q w) ?_
  refine AllP.cons_ (p1_of (i := 70) (q1_70 w os a b c)) (p2_of fun T N toks os c pos a b d q => q2_70 T N toks os c pos a b d q w) ?_
  refine AllP.cons_ (p1_of (i := 71) (q1_71 w os a b c)) (p2_of fun T N toks os c pos a b d q => q2_71 T N toks os c pos a b d q w) ?_
  refine AllP.cons_ (p1_of (i := 72) (q1_72 w os a b c)) (p2_of fun T N toks os c pos a b d q => q2_72 T N toks os c pos a b d q w) ?_
  refine AllP.cons_ (p1_of (i := 73) (q1_73 w os a b c)) (p2_of fun T N toks os c pos a b d q => q2_73 T N toks os c pos a b d q w) ?_
  refine AllP.cons_ (p1_of (i := 74) (q1_74 w os a b c)) (p2_of fun T N toks os c pos a b d q => q2_74 T N toks os c pos a b d q w) ?_
  refine AllP.cons_ (p1_of (i := 75) (q1_75 w os a b c)) (p2_of fun T N toks os c pos a b d q => q2_75 T N toks os c pos a b d q w) ?_
  refine AllP.cons_ (p1_of (i := 76) (q1_76 w os a b c)) (p2_of fun T N toks os c pos a b d q => q2_76 T N toks os c pos a b d q w) ?_
  refine AllP.cons_ (p1_of (i := 77) (q1_77 w os a b c)) (p2_of fun T N toks os c pos a b d q => q2_77 T N toks os c pos a b d q w) ?_
  refine AllP.cons_ (p1_of (i := 78) (q1_78 w os a b c)) (p2_of fun T N toks os c pos a b d q => q2_78 T N toks os c pos a b d q w) ?_
  refine AllP.cons_ (p1_of (i := 79) (q1_79 w os a b c)) (p2_of fun T N toks os c pos a b d q => q2_79 T N toks os c pos a b d q w) ?_
  refine AllP.cons_ (p1_of (i := 80) (q1_80 w os a b c)) (p2_of fun T N toks os c pos a b d q => q2_80 T N toks os c pos a b d q w) ?_
  refine AllP.cons_ (p1_of (i := 81) (q1_81 w os a b c)) (p2_of fun T N toks os c pos a b d q => q2_81 T N toks os c pos a b d q w) ?_
  refine AllP.cons_ (p1_of (i := 82) (q1_82 w os a b c)) (p2_of fun T N toks os c pos a b d q => q2_82 T N toks os c pos a b d q w) ?_
  refine AllP.cons_ (p1_of (i := 83) (q1_83 w os a b c)) (p2_of fun T N toks os c pos a b d q => q2_83 T N toks os c pos a b d q w) ?_
  refine AllP.cons_ (p1_of (i := 84) (q1_84 w os a b c)) (p2_of fun T N toks os c pos a b d q => q2_84 T N toks os c pos a b d q w) ?_
  refine AllP.cons_ (p1_of (i := 85) (q1_85 w os a b c)) (p2_of fun T N toks os c pos a b d q => q2_85 T N toks os c pos a b d q w) ?_
  refine AllP.cons_ (p1_of (i := 86) (q1_86 w os a b c)) (p2_of fun T N toks os c pos a b d q => q2_86 T N toks os c pos a b d q w) ?_
  refine AllP.cons_ (p1_of (i := 87) (q1_87 w os a b c)) (p2_of fun T N toks os c pos a b d q => q2_87 T N toks os c pos a b d q w) ?_
  refine AllP.cons_ (p1_of (i := 88) (q1_88 w os a b c)) (p2_of fun T N toks os c pos a b d q => q2_88 T N toks os c pos a b d q w) ?_
  refine AllP.cons_ (p1_of (i := 89) (q1_89 w os a b c)) (p2_of fun T N toks os c pos a b d q => q2_89 T N toks os c pos a b d q w) ?_
  refine AllP.cons_ (p1_of (i := 90) (q1_90 w os a b c)) (p2_of fun T N toks os c pos a b d q => q2_90 T N toks os c pos a b d q w) ?_
  refine AllP.cons_ (p1_of (i := 91) (q1_91 w os a b c)) (p2_of fun T N toks os c pos a b d q => q2_91 T N toks os c pos a b d q w) ?_
  refine AllP.cons_ (p1_of (i := 92) (q1_92 w os a b c)) (p2_of fun T N toks os c pos a b d q => q2_92 T N toks os c pos a b d q w) ?_
  refine AllP.cons_ (p1_of (i := 93) (q1_93 w os a b c)) (p2_of fun T N toks os c pos a b d q => q2_93 T N toks os c pos a b d q w) ?_
  refine AllP.cons_ (p1_of (i := 94) (q1_94 w os a b c)) (p2_of fun T N toks os c pos a b d q => q2_94 T N toks os c pos a b d q w) ?_
  refine AllP.cons_ (p1_of (i := 95) (q1_95 w os a b c)) (p2_of fun T N toks os c pos a b d q => q2_95 T N toks os c pos a b d q w) ?_
  refine AllP.cons_ (p1_of (i := 96) (q1_96 w os a b c)) (p2_of fun T N toks os c pos a b d q => q2_96 T N toks os c pos a b d q w) ?_
  exact trivial

theorem vals9_len : vals9.length = 97 := by decide +kernel
theorem vals9_nodup : (vals9.map (·.1)).Nodup := by decide +kernel
theorem c9loop (w : World) (os : OsState) (a b c : FrP) : Gk treeTable pw w 28 (some (.ref 6)) 1 (40 * 97) (SLc w os 0 (setO (q0 w.params))).abs ⟨denote treeTable (loopC 143 144), loopC 143 144, pL, [fr a, fr b, fr c, topFrame zp]⟩
    ((SLc w os 97 (o143 w.params)).abs, ⟨denote treeTable (loopC 143 144), loopC 143 144, pL, [fr a, fr b, fr c, topFrame zp]⟩) := by
  have h := loop_go (denote_loop 143 144) (Lc_set w.params) (Lc_get w.params) (by decide) (by decide) vals9 0 (q0 w.params) 658 (all9 w os a b c)
    ⟨rfl, Nat.zero_le _, fun e he => absurd he (by simp [q0])⟩ (fun e he => absurd he (by simp [q0])) vals9_nodup (by show 0 + _ < 4000; rw [vals9_len]; decide)
  rw [vals9_len] at h
  exact h
theorem conv_den : PySem.W.Fast.tw11892475500146522536 PySem.W.Fast.tw14364793385576792824 (loopC 143 144) = denote treeTable (loopC 143 144) := by rw [PySem.W.Fast.te11892475500146522536, PySem.W.Fast.te14364793385576792824]
theorem pc9 (w : World) (os : OsState) : ∃ n, n ≤ 6000 ∧ segRun treeTable pw w 28 (some (.ref 6)) 1 n (S10 w os).abs (piecesOf sts9 envE cE ⟨58, 0, 59, 30⟩ [topFrame zp]) = some (.next, (S11 w os).abs, cE, ⟨60, 0, 60, 6⟩) := by
  have hA := congrFun (c9a w) os
  have hC := congrFun (c9c w) os
  try dsimp only at hA hC
  unfold thL at hA hC
  rw [conv_den] at hA hC
  unfold runA at hA
  rw [← PySem.W.Fast.te10295753902157049106, ← PySem.W.Fast.te14364793385576792824] at hA
  rw [← PySem.W.Fast.te10110043849684766642, ← PySem.W.Fast.te14364793385576792824] at hC
  have gA := segGo_of hA
  have gC := segRun_of hC
  obtain ⟨m, hm, gB⟩ := c9loop w os (frP (frA w os 0)) (frP (frA w os 1)) (frP (frA w os 2))
  exact ⟨1778 + (m + 27), by omega, seg_go gA (seg_go gB gC)⟩

theorem pre0 (w : World) (os : OsState) : topGo treeTable pw w 28 (some (.ref 6)) 12 ⟨H0 w.params, ⟨[]⟩, {}, 276, os⟩ (topStub pw) = some ((S1 w os).abs, ⟨denote treeTable cE, cE, zp, [topFrame zp]⟩) := by
  have h := congrFun (pre_ w) os
  try dsimp only at h
  rw [← PySem.W.Fast.te15667345088766844465, ← PySem.W.Fast.te14364793385576792824, ← PySem.W.Fast.te11892475500146522536] at h
  exact h
theorem block0 (w : World) (os : OsState) : segRun treeTable pw w 28 (some (.ref 6)) 1 1 (S1 w os).abs (blockOf bE envE cE zp [topFrame zp]) = some (Flow.next, (S1 w os).abs, cE, zp) := by
  have h := congrFun (block_ w) os
  try dsimp only at h
  rw [← PySem.W.Fast.te14374325043358763698, ← PySem.W.Fast.te14364793385576792824] at h
  exact h
theorem fin0 (w : World) (s : Shared) : topRun treeTable pw w 28 (some (.ref 6)) 3 s ⟨doneF .next, cE, ⟨124, 0, 150, 37⟩, [topFrame zp]⟩ = some s := by kernel_rfl!
theorem body_eq : bE = sts0 ++ (sts1 ++ (sts2 ++ (sts3 ++ (sts4 ++ (sts5 ++ (sts6 ++ (sts7 ++ (sts8 ++ (sts9 ++ (sts10 ++ [])))))))))) := by kernel_rfl!
theorem heap_eq (P : Params) : absHeap (T12 P) 204 {} = H12 P := by kernel_rfl!
theorem run_ (w : World) (os : OsState) : topRun treeTable pw w 28 (some (.ref 6)) 20000 ⟨H0 w.params, ⟨[]⟩, {}, 276, os⟩ (topStub pw) = some ⟨H12 w.params, ⟨[]⟩, {}, 845, os⟩ := by
  obtain ⟨n9, hn9, h9⟩ := pc9 w os
  have k11 := piece_nil (env := envE) (fin0 w (S12 w os).abs)
  have k10 := piece_app (conv_seg pc10 w os) k11
  have k9 := piece_app h9 k10
  have k8 := piece_app (conv_seg pc8 w os) k9
  have k7 := piece_app (conv_seg pc7 w os) k8
  have k6 := piece_app (conv_seg pc6 w os) k7
  have k5 := piece_app (conv_seg pc5 w os) k6
  have k4 := piece_app (conv_seg pc4 w os) k5
  have k3 := piece_app (conv_seg pc3 w os) k4
  have k2 := piece_app (conv_seg pc2 w os) k3
  have k1 := piece_app (conv_seg pc1 w os) k2
  have k0 := piece_app (conv_seg pc0 w os) k1
  rw [← body_eq] at k0
  have kb := piece_block (block0 w os) k0
  have ka := go_top (pre0 w os) kb
  obtain ⟨M, hM, km⟩ : ∃ M, M ≤ 20000 ∧ topRun treeTable pw w 28 (some (.ref 6)) M ⟨H0 w.params, ⟨[]⟩, {}, 276, os⟩ (topStub pw) = some (S12 w os).abs := ⟨_, by omega, ka⟩
  have e : (S12 w os).abs = ⟨H12 w.params, ⟨[]⟩, {}, 845, os⟩ := by
    show Shared.mk (absHeap (T12 w.params) 204 {}) _ _ _ _ = _
    rw [heap_eq]
    rfl
  rw [e] at km
  have kn := topRun_mono (20000 - M) _ _ _ _ km
  rw [Nat.add_sub_cancel' hM] at kn
  exact kn
end Mine
end
section
set_option Elab.async false
set_option linter.unusedVariables false
set_option maxRecDepth 100000
set_option maxHeartbeats 1000000
namespace Mine
open PySem PySem.W PySem.Calls PyProof.Rows
noncomputable def Keeps0 (P : Params) (h : Heap) : Prop := ∀ b o, (H12 P).get? b = some o → h.get? b = some o
theorem left0 : LeftO pw qv loose (fun s => xlAt qv [] s && recOk [] s) (fun s => s.heap) (fun w => H12 w.params) 20000 := by
  refine LeftO.of_pieces (H₀ := H0) (H₁ := H12) (gs₀ := ⟨[]⟩) (gs₁ := ⟨[]⟩) (d₀ := {}) (d₁ := {}) (k₀ := 276) (k₁ := 845) (m₀ := 28) (ann := some (.ref 6)) (M := 20000) ?_ size_ run_ (by decide) ?_
  · intro w
    have h := open_ w
    rw [← PySem.W.Fast.te10274390034422433532, ← PySem.W.Fast.te14364793385576792824, ← PySem.W.Fast.te1435165496053646825, ← PySem.W.Fast.te14289696077712309145] at h
    exact h
  · intro w
    funext os
    have h4 := lk4 w os
    rw [← PySem.W.Fast.te4187177175401517315] at h4
    show ((_ && _ && _ && _), openSeen qv loose (importedModules pw.main.body) _ true (ls w os), _) = _
    rw [lk1, lk2, lk3, h4]
    rfl
noncomputable abbrev rr : OpenRow := OpenLaw.row PySem.Challenge.rw_to0003_01
theorem top_law (call : ∀ d kwd, defOf qv rr.name = some (d, kwd) → rr.prog.theDef rr.name = some (d.params, d.body, d.scope) → WalkO qv loose (XL qv []) (fun w h => Keeps0 w.params h) rr.toRowW d kwd fun f vs => PySem.call f vs) : PySem.Challenge.rw_to0003_01.Holds := by
  w_on
  o_law
  refine holds_open (q := qv) (loose := loose) (Xt := fun s => xlAt qv [] s && recOk [] s) (XP := XL qv []) (Yf := fun s => s.heap) (Ya := fun w => H12 w.params) (YP := fun w h => Keeps0 w.params h) (N := 20000) left0
    (fun w s e b o h => by rw [e]; exact h) (fun w h h' k hk b o e => hk b o (k b o e)) (fun s e => xl_of s (Bool.and_eq_true_iff.mp e).1) XL.keeps (by rfl) (by rfl) (by rfl) (fun s e => recFacts_of (Bool.and_eq_true_iff.mp e).2) (by rfl) (by assumption) (by decide +kernel) ⟨rfl, rfl, rfl, rfl, rfl, by decide +kernel⟩ ?hw ?hc
  case hw => w_witness2
  case hc => exact call _ _ rfl rfl
end Mine
end
section
set_option Elab.async false
set_option linter.unusedVariables false
set_option maxRecDepth 10000
namespace Mine
open PySem PySem.W PySem.Calls PyProof.Rows

noncomputable abbrev View := Addr → Option Obj
noncomputable def View.Sub (g : View) (h : Heap) : Prop := ∀ b o, g b = some o → h.get? b = some o
noncomputable def View.Le (g g' : View) : Prop := ∀ b o, g b = some o → g' b = some o
/-- what is known behind a step: what was known, and all that the step made anew -/
noncomputable def nv (g : View) (h h' : Heap) : View := fun b => match g b with | some o => some o | none => match h.get? b with | some _ => none | none => h'.get? b

structure Gr (s s' : Shared) : Prop where
  keep : ∀ b o, s.heap.get? b = some o → s'.heap.get? b = some o
  os : s'.os = s.os
  gens : ∀ (i : Nat) (x : GenState), s.gens[i]? = some x → s'.gens[i]? = some x
  bare : AllBare s.gens → AllBare s'.gens

theorem Gr.refl (s : Shared) : Gr s s := ⟨fun _ _ e => e, rfl, fun _ _ e => e, id⟩
theorem Gr.trans {s s' s'' : Shared} (a : Gr s s') (b : Gr s' s'') : Gr s s'' :=
  ⟨fun x o e => b.keep x o (a.keep x o e), b.os.trans a.os, fun i x e => b.gens i x (a.gens i x e), fun x => b.bare (a.bare x)⟩
theorem Gr.toks {s : Shared} {t : Nat} : Gr s { s with toks := t } := ⟨fun _ _ e => e, rfl, fun _ _ e => e, id⟩
theorem Gr.heap {s : Shared} {h : Heap} {t : Nat} (k : ∀ b o, s.heap.get? b = some o → h.get? b = some o) : Gr s { s with heap := h, toks := t } := ⟨k, rfl, fun _ _ e => e, id⟩
theorem Gr.of_keeps {s s' : Shared} (k : Keeps s s') : Gr s s' := by
  obtain ⟨h, t, rfl, k⟩ := k
  exact Gr.heap k

theorem View.Le.refl (g : View) : g.Le g := fun _ _ e => e
theorem View.Le.trans {a b c : View} (x : a.Le b) (y : b.Le c) : a.Le c := fun b o e => y b o (x b o e)
theorem nv_le (g : View) (h h' : Heap) : g.Le (nv g h h') := fun b o e => by unfold nv; rw [e]
theorem nv_sub {g : View} {h h' : Heap} (hg : g.Sub h) (k : ∀ b o, h.get? b = some o → h'.get? b = some o) : (nv g h h').Sub h' := fun b o e => by
  unfold nv at e
  cases q : g b with
  | some x => rw [q] at e; cases e; exact k _ _ (hg _ _ q)
  | none =>
    rw [q] at e
    cases r : h.get? b with
    | some x => rw [r] at e; cases e
    | none => rw [r] at e; exact e
theorem nv_mono {g : View} {h h' h'' : Heap} (k : ∀ b o, h'.get? b = some o → h''.get? b = some o) : (nv g h h').Le (nv g h h'') := fun b o e => by
  unfold nv at e ⊢
  cases q : g b with
  | some x => rw [q] at e; exact e
  | none =>
    rw [q] at e
    cases r : h.get? b with
    | some x => rw [r] at e; cases e
    | none => rw [r] at e; exact k _ _ e
theorem nv_later {g : View} {h h' h'' : Heap} (k : ∀ b o, h.get? b = some o → h'.get? b = some o) : (nv g h' h'').Le (nv g h h'') := fun b o e => by
  unfold nv at e ⊢
  cases q : g b with
  | some x => rw [q] at e; exact e
  | none =>
    rw [q] at e
    cases r : h.get? b with
    | some x => rw [k _ _ r] at e; cases e
    | none =>
      cases r' : h'.get? b with
      | some x => rw [r'] at e; cases e
      | none => rw [r'] at e; exact e
/-- a view that was taken behind a step, and what a later step made -/
theorem nv_nv {g : View} {h h' h'' : Heap} (k : ∀ b o, h.get? b = some o → h'.get? b = some o) (k' : ∀ b o, h'.get? b = some o → h''.get? b = some o) : (nv (nv g h h') h' h'').Le (nv g h h'') := fun b o e => by
  unfold nv at e ⊢
  cases q : g b with
  | some x => rw [q] at e; exact e
  | none =>
    rw [q] at e
    cases r : h.get? b with
    | some x => rw [r] at e; dsimp only at e; rw [k _ _ r] at e; cases e
    | none =>
      rw [r] at e
      dsimp only at e
      cases r' : h'.get? b with
      | some x => rw [r'] at e; dsimp only at e; cases e; exact k' _ _ r'
      | none => rw [r'] at e; exact e

inductive PV where
  | none
  | bool (b : Bool)
  | int (i : Int)
  | str (x : Str)
  | ref (a : Addr)
  | blt (id : String)
  | tup (l : List PV)
  | lst (l : List PV)

mutual
noncomputable def Rep (g : View) : PV → Value → Prop
  | .none, v => v = .none
  | .bool b, v => v = .bool b
  | .int i, v => ∃ t, v = .int i t
  | .str x, v => ∃ t, v = .str x t
  | .ref a, v => v = .ref a
  | .blt i, v => v = .builtin i
  | .tup l, v => ∃ a vs n, v = .ref a ∧ g a = some ⟨.type "tuple", none, .seq (List.toArray vs) n, #[]⟩ ∧ Reps g l vs
  | .lst l, v => ∃ a vs n, v = .ref a ∧ g a = some ⟨.type "list", none, .seq (List.toArray vs) n, #[]⟩ ∧ Reps g l vs
noncomputable def Reps (g : View) : List PV → List Value → Prop
  | [], vs => vs = []
  | p :: ps, vs => ∃ v r, vs = v :: r ∧ Rep g p v ∧ Reps g ps r
end

mutual
theorem Rep.mono {g g' : View} (k : g.Le g') : ∀ (p : PV) (v : Value), Rep g p v → Rep g' p v
  | .none, v, h => h
  | .bool b, v, h => h
  | .int i, v, h => h
  | .str x, v, h => h
  | .ref a, v, h => h
  | .blt i, v, h => h
  | .tup l, v, h => by
    unfold Rep at h ⊢
    obtain ⟨a, vs, n, h1, h2, h5⟩ := h
    exact ⟨a, vs, n, h1, k _ _ h2, Reps.mono k l vs h5⟩
  | .lst l, v, h => by
    unfold Rep at h ⊢
    obtain ⟨a, vs, n, h1, h2, h5⟩ := h
    exact ⟨a, vs, n, h1, k _ _ h2, Reps.mono k l vs h5⟩
theorem Reps.mono {g g' : View} (k : g.Le g') : ∀ (ps : List PV) (vs : List Value), Reps g ps vs → Reps g' ps vs
  | [], vs, h => h
  | p :: ps, vs, h => by
    unfold Reps at h ⊢
    obtain ⟨v, r, h1, h2, h3⟩ := h
    exact ⟨v, r, h1, Rep.mono k p v h2, Reps.mono k ps r h3⟩
end

theorem Reps.length {g : View} : ∀ {ps : List PV} {vs : List Value}, Reps g ps vs → vs.length = ps.length
  | [], vs, h => by unfold Reps at h; simp [h]
  | p :: ps, vs, h => by
    unfold Reps at h
    obtain ⟨v, r, rfl, _, h3⟩ := h
    simp [Reps.length h3]
theorem Reps.get {g : View} : ∀ {ps : List PV} {vs : List Value} {i : Nat} {p : PV}, Reps g ps vs → ps[i]? = some p → ∃ v, vs[i]? = some v ∧ Rep g p v
  | [], vs, i, p, h, e => by simp at e
  | q :: ps, vs, i, p, h, e => by
    unfold Reps at h
    obtain ⟨v, r, rfl, h2, h3⟩ := h
    cases i with
    | zero => simp at e; subst e; exact ⟨v, rfl, h2⟩
    | succ i => simp at e; simpa using Reps.get h3 e
theorem Reps.append {g : View} : ∀ {ps qs : List PV} {vs us : List Value}, Reps g ps vs → Reps g qs us → Reps g (ps ++ qs) (vs ++ us)
  | [], qs, vs, us, h, h' => by unfold Reps at h; subst h; exact h'
  | p :: ps, qs, vs, us, h, h' => by
    unfold Reps at h
    obtain ⟨v, r, rfl, h2, h3⟩ := h
    show Reps g (p :: (ps ++ qs)) (v :: (r ++ us))
    unfold Reps
    exact ⟨v, r ++ us, rfl, h2, Reps.append h3 h'⟩
theorem Reps.cons {g : View} {p : PV} {ps : List PV} {v : Value} {vs : List Value} (h : Rep g p v) (h' : Reps g ps vs) : Reps g (p :: ps) (v :: vs) := by
  unfold Reps; exact ⟨v, vs, rfl, h, h'⟩
theorem Reps.nil {g : View} : Reps g [] [] := by unfold Reps; rfl

/-- where a name's value stands -/
noncomputable def ReadsAs (h : Heap) (env : Env) (x : Str) (v : Value) : Prop :=
  (env.kindOf x = some .local ∧ ∃ m, h.Ns env.locals m ∧ m x = some v) ∨
  ((env.kindOf x = some .cell ∨ env.kindOf x = some .free) ∧ x ≠ ("__classdict__" : Str) ∧ ∃ c o, env.cells.lookup x = some c ∧ h.get? c = some o ∧ o.data = .cell (some v))

structure EnvOk (env : Env) : Prop where
  kind : env.scope.kind = .function
  glob : env.globals = mainGlobals
  bi : env.builtins = builtinsNs

structure Pre (P : Params) (env : Env) (l : List (Str × PV)) (g : View) (s : Shared) : Prop where
  ok : EnvOk env
  base : Keeps0 P s.heap
  sub : g.Sub s.heap
  loc : ∀ x p, l.lookup x = some p → ∃ v, ReadsAs s.heap env x v ∧ Rep g p v

theorem ReadsAs.gr {s s' : Shared} {env : Env} {x : Str} {v : Value} (h : ReadsAs s.heap env x v) (g : Gr s s') : ReadsAs s'.heap env x v := by
  rcases h with ⟨a, m, hn, hm⟩ | ⟨a, b, c, o, h1, h2, h3⟩
  · exact .inl ⟨a, m, hn.keeps g.keep, hm⟩
  · exact .inr ⟨a, b, c, o, h1, g.keep _ _ h2, h3⟩
theorem Pre.gr {P : Params} {env : Env} {l : List (Str × PV)} {g : View} {s s' : Shared} (h : Pre P env l g s) (k : Gr s s') : Pre P env l g s' :=
  ⟨h.ok, fun b o e => k.keep _ _ (h.base b o e), fun b o e => k.keep _ _ (h.sub b o e), fun x p e => let ⟨v, a, b⟩ := h.loc x p e; ⟨v, a.gr k, b⟩⟩

structure AOk (n : Nat) (A : Around) : Prop where
  handled : A.handled = none
  depth : A.depth + n ≤ 900
  units : A.units + 10 * n ≤ 9000
theorem AOk.deeper {n : Nat} {A : Around} (h : AOk (n + 1) A) (env : Env) : AOk n (A.deeper env) :=
  ⟨h.handled, by have := h.depth; simp only [Around.deeper]; omega, by have := h.units; simp only [Around.deeper]; omega⟩
theorem AOk.mono {n m : Nat} {A : Around} (h : AOk n A) (hm : m ≤ n) : AOk m A := ⟨h.handled, by have := h.depth; omega, by have := h.units; omega⟩
theorem AOk.lim {n : Nat} {A : Around} (h : AOk n A) : A.depth < recursionLimit := by have := h.depth; unfold recursionLimit; omega
theorem AOk.line {n : Nat} {A : Around} (h : AOk n A) : A.units < cLine := by have := h.units; unfold cLine; omega

structure Ev (p : Program) (w : World) (A : Around) (env : Env) (l : List (Str × PV)) (g : View) (e : Expr) (r : PV) : Prop where
  run : ∀ s, Pre w.params env l g s → ∀ (Q : Value → Shared → Prop) (E : Value → Shared → Prop), (∀ v s', Gr s s' → Rep (nv g s.heap s'.heap) r v → Q v s') → wpAny (model p w) A (eval e env) Q E s
structure EvB (p : Program) (w : World) (A : Around) (env : Env) (l : List (Str × PV)) (g : View) (e : Expr) (b : Bool) : Prop where
  run : ∀ s, Pre w.params env l g s → ∀ (Q : Bool → Shared → Prop) (E : Value → Shared → Prop), (∀ s', Gr s s' → Q b s') → wpAny (model p w) A (isTrue e env (eval e env)) Q E s
structure Evs (p : Program) (w : World) (A : Around) (env : Env) (l : List (Str × PV)) (g : View) (es : List Expr) (rs : List PV) : Prop where
  run : ∀ pos s, Pre w.params env l g s → ∀ (Q : List Value → Shared → Prop) (E : Value → Shared → Prop), (∀ vs s', Gr s s' → Reps (nv g s.heap s'.heap) rs vs → Q vs s') → wpAny (model p w) A (spliced (backTo pos (starEach es env))) Q E s
noncomputable def FnOk (p : Program) (w : World) (n : Nat) (f : Value) (ps : List PV) (r : PV) : Prop :=
  ∀ A g s, AOk n A → Keeps0 w.params s.heap → g.Sub s.heap → ∀ vs, Reps g ps vs → ∀ (Q : Value → Shared → Prop) (E : Value → Shared → Prop), (∀ v s', Gr s s' → Rep (nv g s.heap s'.heap) r v → Q v s') → wpAny (model p w) A (call f vs) Q E s
end Mine
end
section
set_option Elab.async false
set_option linter.unusedVariables false
set_option maxRecDepth 10000
namespace Mine
open PySem PySem.W PySem.Calls PyProof.Rows

section
variable {p : Program} {w : World} {A : Around} {env : Env} {l : List (Str × PV)} {g : View} {E : Value → Shared → Prop}

theorem rep_int {g : View} {i : Int} {t : Tok} : Rep g (.int i) (.int i t) := by unfold Rep; exact ⟨t, rfl⟩
theorem rep_str {g : View} {x : Str} {t : Tok} : Rep g (.str x) (.str x t) := by unfold Rep; exact ⟨t, rfl⟩
theorem rep_bool {g : View} {b : Bool} : Rep g (.bool b) (.bool b) := by unfold Rep; rfl
theorem rep_none {g : View} : Rep g .none .none := by unfold Rep; rfl
theorem rep_ref {g : View} {a : Addr} : Rep g (.ref a) (.ref a) := by unfold Rep; rfl
theorem rep_blt {g : View} {a : String} : Rep g (.blt a) (.builtin a) := by unfold Rep; rfl
theorem rep_int_inv {g : View} {i : Int} {v : Value} (h : Rep g (.int i) v) : ∃ t, v = .int i t := by unfold Rep at h; exact h
theorem rep_str_inv {g : View} {x : Str} {v : Value} (h : Rep g (.str x) v) : ∃ t, v = .str x t := by unfold Rep at h; exact h
theorem rep_bool_inv {g : View} {b : Bool} {v : Value} (h : Rep g (.bool b) v) : v = .bool b := by unfold Rep at h; exact h
theorem rep_none_inv {g : View} {v : Value} (h : Rep g .none v) : v = .none := by unfold Rep at h; exact h
theorem rep_ref_inv {g : View} {a : Addr} {v : Value} (h : Rep g (.ref a) v) : v = .ref a := by unfold Rep at h; exact h
theorem rep_blt_inv {g : View} {a : String} {v : Value} (h : Rep g (.blt a) v) : v = .builtin a := by unfold Rep at h; exact h
theorem rep_lst_inv {g : View} {ps : List PV} {v : Value} (h : Rep g (.lst ps) v) : ∃ a vs n, v = .ref a ∧ g a = some ⟨.type "list", none, .seq (List.toArray vs) n, #[]⟩ ∧ Reps g ps vs := by unfold Rep at h; exact h
theorem rep_tup_inv {g : View} {ps : List PV} {v : Value} (h : Rep g (.tup ps) v) : ∃ a vs n, v = .ref a ∧ g a = some ⟨.type "tuple", none, .seq (List.toArray vs) n, #[]⟩ ∧ Reps g ps vs := by unfold Rep at h; exact h
theorem rep_lst {g : View} {ps : List PV} {a : Addr} {vs : List Value} {n : Nat} (h : g a = some ⟨.type "list", none, .seq (List.toArray vs) n, #[]⟩) (h' : Reps g ps vs) : Rep g (.lst ps) (.ref a) := by unfold Rep; exact ⟨a, vs, n, rfl, h, h'⟩
theorem rep_tup {g : View} {ps : List PV} {a : Addr} {vs : List Value} {n : Nat} (h : g a = some ⟨.type "tuple", none, .seq (List.toArray vs) n, #[]⟩) (h' : Reps g ps vs) : Rep g (.tup ps) (.ref a) := by unfold Rep; exact ⟨a, vs, n, rfl, h, h'⟩

theorem isList_of {g : View} {h : Heap} {a : Addr} {vs : List Value} {n : Nat} (k : g.Sub h) (e : g a = some ⟨.type "list", none, .seq (List.toArray vs) n, #[]⟩) : h.IsList a (List.toArray vs) := ⟨_, k _ _ e, rfl, n, rfl⟩

/-- a fresh object is in the view behind the step -/
theorem nv_new {g : View} {h : Heap} {o : Obj} (hg : g.Sub h) (hf : o.isFreed = false) : nv g h (h.push o) h.objs.size = some o := by
  have e : h.get? h.objs.size = none := by
    cases q : h.get? h.objs.size with
    | none => rfl
    | some x => exact absurd (Heap.lt_size q) (Nat.lt_irrefl _)
  have e' : g h.objs.size = none := by
    cases q : g h.objs.size with
    | none => rfl
    | some x => rw [hg _ _ q] at e; cases e
  unfold nv
  rw [e', e]
  exact Heap.get?_push_size _ hf
theorem gr_push {s : Shared} {o : Obj} {t : Nat} : Gr s { s with heap := s.heap.push o, toks := t } := Gr.heap fun b o' e => Heap.get?_push_of_some _ e
theorem nvr {s s1 s2 : Shared} {r : PV} {v : Value} (k1 : Gr s s1) (k2 : Gr s1 s2) (h : Rep (nv g s.heap s1.heap) r v) : Rep (nv g s.heap s2.heap) r v := Rep.mono (nv_mono k2.keep) r v h
theorem nvl {s s1 s2 : Shared} {r : PV} {v : Value} (k1 : Gr s s1) (h : Rep (nv g s1.heap s2.heap) r v) : Rep (nv g s.heap s2.heap) r v := Rep.mono (nv_later k1.keep) r v h
theorem nvrs {s s1 s2 : Shared} {r : List PV} {v : List Value} (k1 : Gr s s1) (k2 : Gr s1 s2) (h : Reps (nv g s.heap s1.heap) r v) : Reps (nv g s.heap s2.heap) r v := Reps.mono (nv_mono k2.keep) r v h
theorem nvls {s s1 s2 : Shared} {r : List PV} {v : List Value} (k1 : Gr s s1) (h : Reps (nv g s1.heap s2.heap) r v) : Reps (nv g s.heap s2.heap) r v := Reps.mono (nv_later k1.keep) r v h

theorem Ev.conv {e : Expr} {r r' : PV} (h : Ev p w A env l g e r) (k : r = r') : Ev p w A env l g e r' := k ▸ h

theorem Ev.int {i : Int} {k : Nat} {pos : Pos} : Ev p w A env l g (.Constant (.int i) k pos) (.int i) := .mk fun s _ Q E hQ => wpAny_Constant_int (hQ _ _ Gr.toks rep_int)
theorem Ev.str {x : Str} {k : Nat} {pos : Pos} : Ev p w A env l g (.Constant (.str x) k pos) (.str x) := .mk fun s _ Q E hQ => wpAny_Constant_str (hQ _ _ Gr.toks rep_str)
theorem Ev.bool {b : Bool} {k : Nat} {pos : Pos} : Ev p w A env l g (.Constant (.bool b) k pos) (.bool b) := .mk fun s _ Q E hQ => wpAny_Constant_bool (hQ _ _ (Gr.refl s) rep_bool)
theorem Ev.none_ {k : Nat} {pos : Pos} : Ev p w A env l g (.Constant .none k pos) .none := .mk fun s _ Q E hQ => wpAny_Constant_none (hQ _ _ (Gr.refl s) rep_none)

theorem loadName_cell {x : Str} {s : Shared} {c : Addr} {o : Obj} {v : Value} {Q : Value → Shared → Prop} (hk : env.scope.kind = .function) (hx : env.kindOf x = some .cell ∨ env.kindOf x = some .free) (hd : x ≠ ("__classdict__" : Str))
    (hc : env.cells.lookup x = some c) (ho : s.heap.get? c = some o) (hv : o.data = .cell (some v)) (h : Q v s) : wpAny (model p w) A (loadName env x) Q E s := by
  have hcell : wpAny (model p w) A (cellOf env x) (fun c' s' => c' = c ∧ s' = s) E s := by
    unfold cellOf; rw [hc]; exact wpAny_pure ⟨rfl, rfl⟩
  have hget : ∀ (R : Option Value → Shared → Prop), R (some v) s → wpAny (model p w) A (cellGet c) R E s := fun R hR => by
    unfold cellGet
    refine wpAny_bind (wpAny_load ho ?_)
    rw [hv]; exact wpAny_pure hR
  have hne : (x == ("__classdict__" : Str)) = false := beq_eq_false_iff_ne.mpr hd
  unfold loadName
  rcases hx with hx | hx
  · simp only [Env.blockKind, hk, hx, ScopeKind.isAnnotationScope, Bool.false_and, Bool.false_eq_true, if_false]
    refine wpAny_bind (wpAny_mono hcell (fun c' s' e => ?_) fun _ _ e => e)
    obtain ⟨rfl, rfl⟩ := e
    exact wpAny_bind (hget _ (wpAny_pure h))
  · simp only [Env.blockKind, hk, hx, ScopeKind.isAnnotationScope, Bool.false_and, Bool.false_eq_true, if_false, hne]
    refine wpAny_bind (wpAny_mono hcell (fun c' s' e => ?_) fun _ _ e => e)
    obtain ⟨rfl, rfl⟩ := e
    exact wpAny_bind (hget _ (wpAny_pure h))

theorem Ev.name {x : Str} {pos : Pos} {r : PV} (hl : l.lookup x = some r) (hd : (x == ("__debug__" : Str)) = false := by decide) : Ev p w A env l g (.Name x pos) r := .mk fun s P Q E hQ => by
  obtain ⟨v, hv, hr⟩ := P.loc x r hl
  refine wpAny_Name ?_ hd
  rcases hv with ⟨a, m, hn, hm⟩ | ⟨a, b, c, o, h1, h2, h3⟩
  · exact wpAny_loadName_local P.ok.kind a hn hm (hQ _ _ (Gr.refl s) (Rep.mono (nv_le _ _ _) _ _ hr))
  · exact loadName_cell P.ok.kind a b h1 h2 h3 (hQ _ _ (Gr.refl s) (Rep.mono (nv_le _ _ _) _ _ hr))

theorem main_ns (P : Params) : (H12 P).isNs mainGlobals = true := by kernel_rfl!
theorem blt_ns (P : Params) : (H12 P).isNs builtinsNs = true := by kernel_rfl!
noncomputable def GlobIs (P : Params) (x : Str) (r : PV) : Prop := ∃ v, (H12 P).nsMap mainGlobals x = some v ∧ ∀ g, Rep g r v
noncomputable def BltIs (P : Params) (x : Str) (v : Value) : Prop := (H12 P).nsMap mainGlobals x = none ∧ (H12 P).nsMap builtinsNs x = some v
theorem ns_main {P : Params} {h : Heap} (k : Keeps0 P h) : h.Ns mainGlobals ((H12 P).nsMap mainGlobals) := (Heap.Ns.of_isNs (main_ns P)).keeps k
theorem ns_blt {P : Params} {h : Heap} (k : Keeps0 P h) : h.Ns builtinsNs ((H12 P).nsMap builtinsNs) := (Heap.Ns.of_isNs (blt_ns P)).keeps k

theorem Ev.global {x : Str} {pos : Pos} {r : PV} (hx : env.kindOf x = some .globalImplicit) (hg : GlobIs w.params x r) (hd : (x == ("__debug__" : Str)) = false := by decide) : Ev p w A env l g (.Name x pos) r := .mk fun s P Q E hQ => by
  obtain ⟨v, hv, hr⟩ := hg
  exact Name_function_global P.ok.kind hx (loadGlobal_global (P.ok.glob ▸ ns_main P.base) hv (hQ _ _ (Gr.refl s) (hr _))) hd
theorem builtin_name {x : Str} {pos : Pos} {v : Value} {s : Shared} {Q : Value → Shared → Prop} (P : Pre w.params env l g s) (hx : env.kindOf x = some .globalImplicit) (hg : BltIs w.params x v) (h : Q v s) (hd : (x == ("__debug__" : Str)) = false := by decide) :
    wpAny (model p w) A (eval (.Name x pos) env) Q E s :=
  Name_function_global P.ok.kind hx (loadGlobal_builtin (P.ok.glob ▸ ns_main P.base) hg.1 (P.ok.bi ▸ ns_blt P.base) hg.2 h) hd

/-- two operands, one after the other -/
theorem Ev.two {a b : Expr} {x y : PV} {s : Shared} {R : Value → Value → Shared → Prop} (P : Pre w.params env l g s) (ha : Ev p w A env l g a x) (hb : Ev p w A env l g b y)
    (h : ∀ u v s2, Gr s s2 → Rep (nv g s.heap s2.heap) x u → Rep (nv g s.heap s2.heap) y v → R u v s2) :
    wpAny (model p w) A (eval a env) (fun u s1 => wpAny (model p w) A (eval b env) (fun v s2 => R u v s2) E s1) E s :=
  ha.run s P _ _ fun u s1 k1 r1 => hb.run s1 (P.gr k1) _ _ fun v s2 k2 r2 => h u v s2 (k1.trans k2) (nvr k1 k2 r1) (nvl k1 r2)

theorem Ev.arith {op : Operator} {a b : Expr} {pos : Pos} {x y z : Int} (ha : Ev p w A env l g a (.int x)) (hb : Ev p w A env l g b (.int y))
    (hop : ∀ t u s (Q : Value → Shared → Prop) (E : Value → Shared → Prop), (∀ tk, Q (.int z tk) { s with toks := s.toks + 1 }) → wpAny (model p w) A (binaryOp op (.int x t) (.int y u)) Q E s) :
    Ev p w A env l g (.BinOp a op b pos) (.int z) := .mk fun s P Q E hQ => wpAny_BinOp (Ev.two P ha hb fun u v s2 k r1 r2 => by
  obtain ⟨t, rfl⟩ := rep_int_inv r1
  obtain ⟨t', rfl⟩ := rep_int_inv r2
  exact hop _ _ _ _ _ fun tk => hQ _ _ (k.trans Gr.toks) rep_int)
theorem Ev.add {a b : Expr} {pos : Pos} {x y : Int} (ha : Ev p w A env l g a (.int x)) (hb : Ev p w A env l g b (.int y)) : Ev p w A env l g (.BinOp a .Add b pos) (.int (x + y)) :=
  Ev.arith ha hb fun _ _ _ _ _ h => add_int (h _)
theorem Ev.sub {a b : Expr} {pos : Pos} {x y : Int} (ha : Ev p w A env l g a (.int x)) (hb : Ev p w A env l g b (.int y)) : Ev p w A env l g (.BinOp a .Sub b pos) (.int (x - y)) :=
  Ev.arith ha hb fun _ _ _ _ _ h => sub_int (h _)
theorem Ev.mul {a b : Expr} {pos : Pos} {x y : Int} (ha : Ev p w A env l g a (.int x)) (hb : Ev p w A env l g b (.int y)) (hm : IntMulOk x y) : Ev p w A env l g (.BinOp a .Mult b pos) (.int (x * y)) :=
  Ev.arith ha hb fun _ _ _ _ _ h => mul_int (h _) hm
theorem Ev.mod {a b : Expr} {pos : Pos} {x y : Int} (ha : Ev p w A env l g a (.int x)) (hb : Ev p w A env l g b (.int y)) (hy : y ≠ 0) : Ev p w A env l g (.BinOp a .Mod b pos) (.int (x.fmod y)) :=
  Ev.arith ha hb fun _ _ _ _ _ h => mod_int hy (h _)
theorem Ev.floordiv {a b : Expr} {pos : Pos} {x y : Int} (ha : Ev p w A env l g a (.int x)) (hb : Ev p w A env l g b (.int y)) (hy : y ≠ 0) (hs : y.natAbs < 1073741824) : Ev p w A env l g (.BinOp a .FloorDiv b pos) (.int (x.fdiv y)) :=
  Ev.arith ha hb fun _ _ _ _ _ h => floordiv_int hy (h _) (.inl (PyProof.noPylong_small hs))
theorem Ev.band {a b : Expr} {pos : Pos} {x y : Int} (ha : Ev p w A env l g a (.int x)) (hb : Ev p w A env l g b (.int y)) : Ev p w A env l g (.BinOp a .BitAnd b pos) (.int (Builtin.bitAnd x y)) :=
  Ev.arith ha hb fun _ _ _ _ _ h => and_int (h _)
theorem Ev.pow {a b : Expr} {pos : Pos} {x y : Int} (ha : Ev p w A env l g a (.int x)) (hb : Ev p w A env l g b (.int y)) (h0 : 0 ≤ y) (h1 : y ≤ 1000000) (hx : x.natAbs < 2 ^ 64) : Ev p w A env l g (.BinOp a .Pow b pos) (.int (x ^ y.toNat)) :=
  Ev.arith ha hb fun _ _ _ _ _ h => pow_int_small h0 h1 hx (h _)
theorem Ev.neg {a : Expr} {pos : Pos} {x : Int} (ha : Ev p w A env l g a (.int x)) : Ev p w A env l g (.UnaryOp .USub a pos) (.int (-x)) := .mk fun s P Q E hQ =>
  wpAny_UnaryOp (ha.run s P _ _ fun v s1 k r => by
    obtain ⟨t, rfl⟩ := rep_int_inv r
    exact PyProof.Rows.neg_int (hQ _ _ (k.trans Gr.toks) rep_int))
theorem Ev.addS {a b : Expr} {pos : Pos} {x y : Str} (ha : Ev p w A env l g a (.str x)) (hb : Ev p w A env l g b (.str y)) (hsz : x.length + y.length ≤ sizeLine) : Ev p w A env l g (.BinOp a .Add b pos) (.str (x ++ y)) := .mk fun s P Q E hQ =>
  wpAny_BinOp (Ev.two P ha hb fun u v s2 k r1 r2 => by
    obtain ⟨t, rfl⟩ := rep_str_inv r1
    obtain ⟨t', rfl⟩ := rep_str_inv r2
    exact add_str (fun t' tk => hQ _ _ (k.trans Gr.toks) rep_str) hsz)
theorem Ev.mulS {a b : Expr} {pos : Pos} {x : Str} {n : Int} (ha : Ev p w A env l g a (.str x)) (hb : Ev p w A env l g b (.int n)) (h0 : 0 ≤ n) (hn : n ≤ 1000) (hx : x.length ≤ 1000) : Ev p w A env l g (.BinOp a .Mult b pos) (.str (Txt.mul x n)) := .mk fun s P Q E hQ =>
  wpAny_BinOp (Ev.two P ha hb fun u v s2 k r1 r2 => by
    obtain ⟨t, rfl⟩ := rep_str_inv r1
    obtain ⟨t', rfl⟩ := rep_int_inv r2
    exact SB.mul (mulOk_of 1000 1000 hx hn (by omega) (by decide) (by decide)) fun t' k' => hQ _ _ (k.trans Gr.toks) rep_str)

-- comparisons
theorem Ev.cmp {op : CmpOp} {a b : Expr} {pos : Pos} {x y z : PV} (ha : Ev p w A env l g a x) (hb : Ev p w A env l g b y)
    (hop : ∀ u v s s0 (Q : Value → Shared → Prop) (E : Value → Shared → Prop), Pre w.params env l g s0 → Gr s0 s → Rep (nv g s0.heap s.heap) x u → Rep (nv g s0.heap s.heap) y v → (∀ r s', Gr s s' → Rep (nv g s0.heap s'.heap) z r → Q r s') → wpAny (model p w) A (compareOp op u v) Q E s)
    (hm : behindInMarks op b = false := by with_unfolding_all rfl) : Ev p w A env l g (.Compare a [op] [b] pos) z := .mk fun s P Q E hQ =>
  wpAny_Compare1 (Ev.two P ha hb fun u v s2 k r1 r2 => hop _ _ _ _ _ _ P k r1 r2 fun r s' k' hr => hQ _ _ (k.trans k') hr) hm
/-- a comparison as a test -/
theorem EvB.cmp {op : CmpOp} {a b : Expr} {pos : Pos} {x y : PV} {z : Bool} (ha : Ev p w A env l g a x) (hb : Ev p w A env l g b y)
    (hop : ∀ u v s s0 (Q : Value → Shared → Prop) (E : Value → Shared → Prop), Pre w.params env l g s0 → Gr s0 s → Rep (nv g s0.heap s.heap) x u → Rep (nv g s0.heap s.heap) y v → (∀ s', Gr s s' → Q (.bool z) s') → wpAny (model p w) A (compareOp op u v) Q E s)
    (hm : behindInMarks op b = false := by with_unfolding_all rfl) : EvB p w A env l g (.Compare a [op] [b] pos) z := .mk fun s P Q E hQ =>
  wpAny_isTrue_Compare1 (Ev.two P ha hb fun u v s2 k r1 r2 => hop _ _ _ _ _ _ P k r1 r2 fun s' k' => wpAny_truthy_bool (hQ _ (k.trans k'))) hm

noncomputable def CmpI (p : Program) (w : World) (op : CmpOp) (x y : Int) (z : Bool) : Prop := ∀ A t u s (Q : Value → Shared → Prop) (E : Value → Shared → Prop), Q (.bool z) s → wpAny (model p w) A (compareOp op (.int x t) (.int y u)) Q E s
theorem CmpI.lt {x y : Int} : CmpI p w .Lt x y (decide (x < y)) := fun _ _ _ _ _ _ h => lt_int h
theorem CmpI.gt {x y : Int} : CmpI p w .Gt x y (decide (y < x)) := fun _ _ _ _ _ _ h => gt_int h
theorem CmpI.eq {x y : Int} : CmpI p w .Eq x y (x == y) := fun _ _ _ _ _ _ h => eq_int h
theorem CmpI.ne {x y : Int} : CmpI p w .NotEq x y (x != y) := fun _ _ _ _ _ _ h => ne_int h
theorem EvB.cmpI {op : CmpOp} {a b : Expr} {pos : Pos} {x y : Int} {z : Bool} (hc : CmpI p w op x y z) (ha : Ev p w A env l g a (.int x)) (hb : Ev p w A env l g b (.int y))
    (hm : behindInMarks op b = false := by with_unfolding_all rfl) : EvB p w A env l g (.Compare a [op] [b] pos) z :=
  EvB.cmp ha hb (fun u v s s0 Q E _ k r1 r2 h => by
    obtain ⟨t, rfl⟩ := rep_int_inv r1
    obtain ⟨t', rfl⟩ := rep_int_inv r2
    exact hc _ _ _ _ _ _ (h _ (Gr.refl s))) hm
theorem Ev.cmpI {op : CmpOp} {a b : Expr} {pos : Pos} {x y : Int} {z : Bool} (hc : CmpI p w op x y z) (ha : Ev p w A env l g a (.int x)) (hb : Ev p w A env l g b (.int y))
    (hm : behindInMarks op b = false := by with_unfolding_all rfl) : Ev p w A env l g (.Compare a [op] [b] pos) (.bool z) :=
  Ev.cmp ha hb (fun u v s s0 Q E _ k r1 r2 h => by
    obtain ⟨t, rfl⟩ := rep_int_inv r1
    obtain ⟨t', rfl⟩ := rep_int_inv r2
    exact hc _ _ _ _ _ _ (h _ _ (Gr.refl s) rep_bool)) hm
theorem EvB.eqS {a b : Expr} {pos : Pos} {x y : Str} (ha : Ev p w A env l g a (.str x)) (hb : Ev p w A env l g b (.str y))
    (hm : behindInMarks .Eq b = false := by with_unfolding_all rfl) : EvB p w A env l g (.Compare a [.Eq] [b] pos) (x == y) :=
  EvB.cmp ha hb (fun u v s s0 Q E _ k r1 r2 h => by
    obtain ⟨t, rfl⟩ := rep_str_inv r1
    obtain ⟨t', rfl⟩ := rep_str_inv r2
    exact eq_str (h _ (Gr.refl s))) hm
theorem EvB.neS {a b : Expr} {pos : Pos} {x y : Str} (ha : Ev p w A env l g a (.str x)) (hb : Ev p w A env l g b (.str y))
    (hm : behindInMarks .NotEq b = false := by with_unfolding_all rfl) : EvB p w A env l g (.Compare a [.NotEq] [b] pos) (x != y) :=
  EvB.cmp ha hb (fun u v s s0 Q E _ k r1 r2 h => by
    obtain ⟨t, rfl⟩ := rep_str_inv r1
    obtain ⟨t', rfl⟩ := rep_str_inv r2
    exact ne_str (h _ (Gr.refl s))) hm
theorem EvB.notInS {a b : Expr} {pos : Pos} {x y : Str} (ha : Ev p w A env l g a (.str y)) (hb : Ev p w A env l g b (.str x))
    (hm : behindInMarks .NotIn b = false := by with_unfolding_all rfl) : EvB p w A env l g (.Compare a [.NotIn] [b] pos) (!(!(Builtin.Str.occurrences x y 0 x.length 1).isEmpty)) :=
  EvB.cmp ha hb (fun u v s s0 Q E _ k r1 r2 h => by
    obtain ⟨t, rfl⟩ := rep_str_inv r1
    obtain ⟨t', rfl⟩ := rep_str_inv r2
    exact notIn_str (h _ (Gr.refl s))) hm
noncomputable def isNoneP : PV → Bool | .none => true | _ => false
theorem rep_isNone {x : PV} {v : Value} (h : Rep g x v) : (v == .none) = isNoneP x := by
  cases x with
  | none => rw [rep_none_inv h]; rfl
  | bool b => rw [rep_bool_inv h]; rfl
  | int i => obtain ⟨t, rfl⟩ := rep_int_inv h; rfl
  | str i => obtain ⟨t, rfl⟩ := rep_str_inv h; rfl
  | ref i => rw [rep_ref_inv h]; rfl
  | blt i => rw [rep_blt_inv h]; rfl
  | lst i => obtain ⟨a, vs, n, rfl, _⟩ := rep_lst_inv h; rfl
  | tup i => obtain ⟨a, vs, n, rfl, _⟩ := rep_tup_inv h; rfl
theorem EvB.isNone {a : Expr} {k : Nat} {pos pos' : Pos} {x : PV} (ha : Ev p w A env l g a x) : EvB p w A env l g (.Compare a [.Is] [.Constant .none k pos'] pos) (isNoneP x) :=
  EvB.cmp ha Ev.none_ (fun u v s s0 Q E _ k r1 r2 h => by
    have := rep_none_inv r2
    subst this
    refine is_none ?_
    rw [rep_isNone r1]
    exact h _ (Gr.refl s))
theorem EvB.isBool {a : Expr} {k : Nat} {pos pos' : Pos} {x y : Bool} (ha : Ev p w A env l g a (.bool x)) : EvB p w A env l g (.Compare a [.Is] [.Constant (.bool y) k pos'] pos) (x == y) :=
  EvB.cmp ha Ev.bool (fun u v s s0 Q E _ k r1 r2 h => by
    have e1 := rep_bool_inv r1
    have e2 := rep_bool_inv r2
    subst e1 e2
    exact is_bool (h _ (Gr.refl s)))

-- tests
theorem EvB.name {x : Str} {pos : Pos} {b : Bool} (hl : l.lookup x = some (.bool b)) (hd : (x == ("__debug__" : Str)) = false := by decide) : EvB p w A env l g (.Name x pos) b := .mk fun s P Q E hQ =>
  isTrue_plain ((Ev.name hl hd).run s P _ _ fun v s' k r => by
    rw [rep_bool_inv r]
    exact wpAny_truthy_bool (hQ _ k))
theorem EvB.not {x : Expr} {pos : Pos} {b : Bool} (h : EvB p w A env l g x b) : EvB p w A env l g (.UnaryOp .Not x pos) (!b) := .mk fun s P Q E hQ => isTrue_not (h.run s P _ _ fun s' k => hQ _ k)
theorem EvB.and {x y : Expr} {pos : Pos} {b c : Bool} (h : EvB p w A env l g x b) (h' : b = true → EvB p w A env l g y c) : EvB p w A env l g (.BoolOp .And [x, y] pos) (b && c) := .mk fun s P Q E hQ =>
  isTrue_and (h.run s P _ _ fun s' k => by
    cases b with
    | false => exact hQ _ k
    | true => exact isTrue_and ((h' rfl).run s' (P.gr k) _ _ fun s'' k' => by
        cases c with
        | false => exact hQ _ (k.trans k')
        | true => exact isTrue_and_nil (hQ _ (k.trans k'))))
theorem EvB.or {x y : Expr} {pos : Pos} {b c : Bool} (h : EvB p w A env l g x b) (h' : b = false → EvB p w A env l g y c) : EvB p w A env l g (.BoolOp .Or [x, y] pos) (b || c) := .mk fun s P Q E hQ =>
  isTrue_or (h.run s P _ _ fun s' k => by
    cases b with
    | true => exact hQ _ k
    | false => exact isTrue_or ((h' rfl).run s' (P.gr k) _ _ fun s'' k' => by
        cases c with
        | true => exact hQ _ (k.trans k')
        | false => exact isTrue_or_nil (hQ _ (k.trans k'))))
theorem EvB.conv {e : Expr} {b c : Bool} (h : EvB p w A env l g e b) (k : b = c) : EvB p w A env l g e c := k ▸ h
theorem Ev.ite {c x y : Expr} {pos : Pos} {b : Bool} {r : PV} (h : EvB p w A env l g c b) (h1 : b = true → Ev p w A env l g x r) (h2 : b = false → Ev p w A env l g y r) : Ev p w A env l g (.IfExp c x y pos) r := .mk fun s P Q E hQ =>
  wpAny_IfExp (h.run s P _ _ fun s' k => by
    cases b with
    | true => exact (h1 rfl).run s' (P.gr k) _ _ fun v s'' k' r => hQ _ _ (k.trans k') (nvl k r)
    | false => exact (h2 rfl).run s' (P.gr k) _ _ fun v s'' k' r => hQ _ _ (k.trans k') (nvl k r))

-- displays
theorem Evs.nil : Evs p w A env l g [] [] := .mk fun pos s P Q E hQ => wpAny_items_nil (hQ _ _ (Gr.refl s) Reps.nil)
theorem Evs.cons {e : Expr} {es : List Expr} {r : PV} {rs : List PV} (h : Ev p w A env l g e r) (h' : Evs p w A env l g es rs) (he : ∀ env, starEach (e :: es) env = (false, eval e env) :: starEach es env := by intro _; rfl) :
    Evs p w A env l g (e :: es) (r :: rs) := .mk fun pos s P Q E hQ =>
  wpAny_items_cons (h.run s P _ _ fun v s1 k1 r1 => h'.run pos s1 (P.gr k1) _ _ fun vs s2 k2 r2 => hQ _ _ (k1.trans k2) (Reps.cons (nvr k1 k2 r1) (nvls k1 r2))) (he env)
theorem Ev.tuple {es : List Expr} {rs : List PV} {k : Nat} {pos : Pos} (h : Evs p w A env l g es rs) (hs : rs.length ≤ 1000) : Ev p w A env l g (.Tuple es k pos) (.tup rs) := .mk fun s P Q E hQ =>
  wpAny_Tuple (h.run pos s P _ _ fun vs s1 k1 r1 => ⟨by rw [r1.length]; unfold sizeLine; omega,
    hQ _ _ (k1.trans gr_push) (rep_tup (nv_later k1.keep _ _ (nv_new (P.gr k1).sub rfl)) (nvrs k1 gr_push r1))⟩)
theorem Ev.list {es : List Expr} {rs : List PV} {pos : Pos} (h : Evs p w A env l g es rs) (hs : rs.length ≤ 1000) : Ev p w A env l g (.List es pos) (.lst rs) := .mk fun s P Q E hQ =>
  wpAny_List (h.run pos s P _ _ fun vs s1 k1 r1 => ⟨by rw [r1.length]; unfold sizeLine; omega,
    hQ _ _ (k1.trans gr_push) (rep_lst (nv_later k1.keep _ _ (nv_new (P.gr k1).sub rfl)) (nvrs k1 gr_push r1))⟩)

-- an item of a list
theorem Ev.item {a i : Expr} {pos : Pos} {ps : List PV} {k : Int} {r : PV} (ha : Ev p w A env l g a (.lst ps)) (hi : Ev p w A env l g i (.int k)) (h0 : 0 ≤ k) (hk : k < 2 ^ 63) (hr : ps[k.toNat]? = some r)
    (hs : ∀ o i', subscripted i false o i' = operate [o, i'] (getItem o i') := by intro _ _; rfl) : Ev p w A env l g (.Subscript a i pos) r := .mk fun s P Q E hQ =>
  Subscript_ (Ev.two P ha hi fun u v s2 k2 r1 r2 => by
    obtain ⟨b, vs, n, rfl, hb, hv⟩ := rep_lst_inv r1
    obtain ⟨t, rfl⟩ := rep_int_inv r2
    obtain ⟨v, hv1, hv2⟩ := hv.get hr
    have hl := isList_of (nv_sub P.sub k2.keep) hb
    exact tail_any hl.typeIs slot_list_getitem.lookup (wpAny_getItem_list hl h0 hk (by simpa using hv1) (hQ _ _ k2 hv2)) (hs _ _))
theorem Ev.itemNeg {a i : Expr} {pos : Pos} {ps : List PV} {k : Int} {r : PV} (ha : Ev p w A env l g a (.lst ps)) (hi : Ev p w A env l g i (.int k)) (h0 : k < 0) (hk : -(ps.length : Int) ≤ k) (hlen : ps.length ≤ 1000000) (hr : ps[(k + ps.length).toNat]? = some r)
    (hs : ∀ o i', subscripted i false o i' = operate [o, i'] (getItem o i') := by intro _ _; rfl) : Ev p w A env l g (.Subscript a i pos) r := .mk fun s P Q E hQ =>
  Subscript_ (Ev.two P ha hi fun u v s2 k2 r1 r2 => by
    obtain ⟨b, vs, n, rfl, hb, hv⟩ := rep_lst_inv r1
    obtain ⟨t, rfl⟩ := rep_int_inv r2
    obtain ⟨v, hv1, hv2⟩ := hv.get hr
    have hl := isList_of (nv_sub P.sub k2.keep) hb
    have hlen' := hv.length
    exact tail_any hl.typeIs slot_list_getitem.lookup (wpAny_getItem_list_neg hl h0 (by simp [hlen']; omega) (by omega) (by simp [hlen']; exact hv1) (hQ _ _ k2 hv2)) (hs _ _))
end
end Mine
end
section
set_option Elab.async false
set_option linter.unusedVariables false
set_option maxRecDepth 10000
namespace Mine
open PySem PySem.W PySem.Calls PyProof.Rows

/-- a thing that the running code owns: it may still change -/
inductive Own where
  | lst (a : Addr) (ps : List PV)
  | is (a : Addr) (φ : Obj → Prop)
  | gen (i : Nat) (φ : GenState → Prop)
noncomputable def Own.adr : Own → Option Addr
  | .lst a _ => some a
  | .is a _ => some a
  | .gen _ _ => none
noncomputable def Own.gix : Own → Option Nat
  | .gen i _ => some i
  | _ => none
noncomputable def Own.Holds (g : View) (s : Shared) : Own → Prop
  | .lst a ps => ∃ vs n, s.heap.get? a = some ⟨.type "list", none, .seq (List.toArray vs) n, #[]⟩ ∧ Reps g ps vs
  | .is a φ => ∃ o, s.heap.get? a = some o ∧ φ o
  | .gen i φ => ∃ x, s.gens[i]? = some x ∧ φ x
noncomputable def adrs (O : List Own) : List Addr := O.filterMap Own.adr
noncomputable def gixs (O : List Own) : List Nat := O.filterMap Own.gix
theorem adrs_app (a b : List Own) : adrs (a ++ b) = adrs a ++ adrs b := List.filterMap_append ..
theorem gixs_app (a b : List Own) : gixs (a ++ b) = gixs a ++ gixs b := List.filterMap_append ..

/-- a step that changes only some things -/
structure Chg (as : List Addr) (is : List Nat) (s s' : Shared) : Prop where
  keep : ∀ b o, b ∉ as → s.heap.get? b = some o → s'.heap.get? b = some o
  os : s'.os = s.os
  gens : ∀ (i : Nat) (x : GenState), i ∉ is → s.gens[i]? = some x → s'.gens[i]? = some x
  bare : AllBare s.gens → AllBare s'.gens
theorem Gr.chg {s s' : Shared} (k : Gr s s') (as : List Addr) (is : List Nat) : Chg as is s s' := ⟨fun b o _ e => k.keep b o e, k.os, fun i x _ e => k.gens i x e, k.bare⟩
theorem Chg.trans {as : List Addr} {is : List Nat} {s s' s'' : Shared} (a : Chg as is s s') (b : Chg as is s' s'') : Chg as is s s'' :=
  ⟨fun x o h e => b.keep x o h (a.keep x o h e), b.os.trans a.os, fun i x h e => b.gens i x h (a.gens i x h e), fun x => b.bare (a.bare x)⟩
theorem Chg.gr {as : List Addr} {is : List Nat} {s0 s s' : Shared} (k : Gr s0 s) (c : Chg as is s s') (h : ∀ a ∈ as, s0.heap.get? a = none) (h' : ∀ i ∈ is, s0.gens[i]? = none) : Gr s0 s' :=
  ⟨fun b o e => c.keep b o (fun q => by rw [h b q] at e; cases e) (k.keep b o e), c.os.trans k.os, fun i x e => c.gens i x (fun q => by rw [h' i q] at e; cases e) (k.gens i x e), fun x => c.bare (k.bare x)⟩

theorem Own.Holds.chg {o : Own} {g g' : View} {s s' : Shared} {as : List Addr} {is : List Nat} (h : o.Holds g s) (k : g.Le g') (c : Chg as is s s') (ha : ∀ a, o.adr = some a → a ∉ as) (hi : ∀ i, o.gix = some i → i ∉ is) : o.Holds g' s' := by
  cases o with
  | lst a ps => obtain ⟨vs, n, h1, h2⟩ := h; exact ⟨vs, n, c.keep _ _ (ha a rfl) h1, Reps.mono k _ _ h2⟩
  | is a φ => obtain ⟨o, h1, h2⟩ := h; exact ⟨o, c.keep _ _ (ha a rfl) h1, h2⟩
  | gen i φ => obtain ⟨o, h1, h2⟩ := h; exact ⟨o, c.gens _ _ (hi i rfl) h1, h2⟩
theorem Own.Holds.live {o : Own} {g : View} {s : Shared} {a : Addr} (h : o.Holds g s) (e : o.adr = some a) : ∃ x, s.heap.get? a = some x := by
  cases o with
  | lst b ps => cases e; obtain ⟨vs, n, h1, h2⟩ := h; exact ⟨_, h1⟩
  | is b φ => cases e; obtain ⟨o, h1, h2⟩ := h; exact ⟨_, h1⟩
  | gen i φ => cases e
theorem Own.Holds.liveG {o : Own} {g : View} {s : Shared} {i : Nat} (h : o.Holds g s) (e : o.gix = some i) : ∃ x, s.gens[i]? = some x := by
  cases o with
  | lst b ps => cases e
  | is b φ => cases e
  | gen i φ => cases e; obtain ⟨x, h1, h2⟩ := h; exact ⟨_, h1⟩

/-- things owned, apart from each other and from all that stood at s0 and from the view -/
structure Hold (s0 : Shared) (own : List Own) (g : View) (s : Shared) : Prop where
  holds : ∀ o ∈ own, o.Holds g s
  ownA : ∀ a ∈ adrs own, s0.heap.get? a = none ∧ g a = none
  ownG : ∀ i ∈ gixs own, s0.gens[i]? = none
  ndA : (adrs own).Nodup
  ndG : (gixs own).Nodup

structure Cx where
  w : World
  env : Env
  s0 : Shared
  g0 : View
  cs : List (Str × Addr)
structure CxOk (c : Cx) : Prop where
  ok : EnvOk c.env
  base : Keeps0 c.w.params c.s0.heap
  sub : c.g0.Sub c.s0.heap
  frL : c.s0.heap.get? c.env.locals = none
  frC : ∀ x a, (x, a) ∈ c.cs → c.s0.heap.get? a = none ∧ c.env.cells.lookup x = some a
  inj : ∀ x y a, c.env.cells.lookup x = some a → (y, a) ∈ c.cs → x = y
  cl : ∀ x a, c.env.cells.lookup x = some a → (x, a) ∈ c.cs ∨ ∃ o, c.s0.heap.get? a = some o

structure Fr (c : Cx) (own : List Own) (l : List (Str × PV)) (g : View) (s : Shared) : Prop where
  cx : CxOk c
  loc : ∀ x p, l.lookup x = some p → ∃ v, ReadsAs s.heap c.env x v ∧ Rep g p v
  gr : Gr c.s0 s
  le : g.Le (nv c.g0 c.s0.heap s.heap)
  ns : ∃ m, s.heap.Ns c.env.locals m
  cell : ∀ x a, (x, a) ∈ c.cs → ∃ v, s.heap.IsCell a v
  gL : g c.env.locals = none
  gC : ∀ x a, (x, a) ∈ c.cs → g a = none
  hold : Hold c.s0 own g s
  apart : ∀ a ∈ adrs own, a ≠ c.env.locals ∧ ∀ x b, (x, b) ∈ c.cs → b ≠ a

section
variable {c : Cx} {own : List Own} {l l' : List (Str × PV)} {g g' : View} {s s' : Shared}

theorem Fr.sub (F : Fr c own l g s) : g.Sub s.heap := fun b o e => nv_sub F.cx.sub F.gr.keep b o (F.le b o e)
theorem Fr.base (F : Fr c own l g s) : Keeps0 c.w.params s.heap := fun b o e => F.gr.keep b o (F.cx.base b o e)
theorem Fr.pre (F : Fr c own l g s) : Pre c.w.params c.env l g s := ⟨F.cx.ok, F.base, F.sub, F.loc⟩
theorem Fr.weaken (F : Fr c own l g s) (h : ∀ x p, l'.lookup x = some p → l.lookup x = some p) : Fr c own l' g s :=
  { F with loc := fun x p e => F.loc x p (h x p e) }

/-- all that is kept when owned things change, and new ones come -/
theorem nv_le_chg {s0 s s' : Shared} {g0 g : View} {as : List Addr} {is : List Nat} (sub : g0.Sub s0.heap) (k : Gr s0 s) (le : g.Le (nv g0 s0.heap s.heap)) (c : Chg as is s s') (h : ∀ a ∈ as, g a = none) :
    (nv g s.heap s'.heap).Le (nv g0 s0.heap s'.heap) := fun b o e => by
  unfold nv at e
  cases q : g b with
  | some x =>
    rw [q] at e
    cases e
    have hb : b ∉ as := fun hb => by rw [h b hb] at q; cases q
    have := le b o q
    unfold nv at this ⊢
    cases q0 : g0 b with
    | some y => rw [q0] at this; exact this
    | none =>
      rw [q0] at this
      cases q1 : s0.heap.get? b with
      | some y => rw [q1] at this; cases this
      | none => rw [q1] at this; exact c.keep _ _ hb this
  | none =>
    rw [q] at e
    cases q2 : s.heap.get? b with
    | some x => rw [q2] at e; cases e
    | none =>
      rw [q2] at e
      unfold nv
      cases q0 : g0 b with
      | some y => rw [k.keep _ _ (sub _ _ q0)] at q2; cases q2
      | none =>
        cases q1 : s0.heap.get? b with
        | some y => rw [k.keep _ _ q1] at q2; cases q2
        | none => exact e

theorem nv_none {g : View} {h h' : Heap} {a : Addr} {o : Obj} (e : g a = none) (k : h.get? a = some o) : nv g h h' a = none := by
  unfold nv; rw [e, k]

theorem ReadsAs.chg {env : Env} {as : List Addr} {is : List Nat} {x : Str} {v : Value} (h : ReadsAs s.heap env x v) (c : Chg as is s s') (hL : env.locals ∉ as) (hC : ∀ y a, env.cells.lookup y = some a → a ∉ as) : ReadsAs s'.heap env x v := by
  rcases h with ⟨a, m, hn, hm⟩ | ⟨a, b, cc, o, h1, h2, h3⟩
  · exact .inl ⟨a, m, hn.at' fun o e => c.keep _ _ hL e, hm⟩
  · exact .inr ⟨a, b, cc, o, h1, c.keep _ _ (hC _ _ h1) h2, h3⟩

/-- owned things change: none of them is a place of the frame, nor a cell that a name reads -/
theorem Fr.chg {O O' : List Own} (F : Fr c (own ++ O) l g s) (k : Chg (adrs O) (gixs O) s s') (hA : adrs O' = adrs O) (hG : gixs O' = gixs O) (hO : ∀ o ∈ O', o.Holds (nv g s.heap s'.heap) s') :
    Fr c (own ++ O') l (nv g s.heap s'.heap) s' := by
  have hin : ∀ a ∈ adrs O, a ∈ adrs (own ++ O) := fun a ha => by simp only [adrs_app, List.mem_append]; exact .inr ha
  have hinG : ∀ a ∈ gixs O, a ∈ gixs (own ++ O) := fun a ha => by simp only [gixs_app, List.mem_append]; exact .inr ha
  have eA : adrs (own ++ O') = adrs (own ++ O) := by simp only [adrs_app]; rw [hA]
  have eG : gixs (own ++ O') = gixs (own ++ O) := by simp only [gixs_app]; rw [hG]
  have hL : c.env.locals ∉ adrs O := fun q => (F.apart _ (hin _ q)).1 rfl
  have hC : ∀ x a, (x, a) ∈ c.cs → a ∉ adrs O := fun x a e q => (F.apart _ (hin _ q)).2 x a e rfl
  have hcl : ∀ y a, c.env.cells.lookup y = some a → a ∉ adrs O := fun y a e q => by
    rcases F.cx.cl y a e with h | ⟨o, h⟩
    · exact hC y a h q
    · rw [(F.hold.ownA a (hin a q)).1] at h; cases h
  refine { cx := F.cx, loc := fun x p e => ?_, gr := k.gr F.gr (fun a ha => (F.hold.ownA a (hin a ha)).1) fun i hi => F.hold.ownG i (hinG i hi), le := nv_le_chg F.cx.sub F.gr F.le k fun a ha => (F.hold.ownA a (hin a ha)).2, ns := ?_, cell := fun x a e => ?_, gL := ?_, gC := fun x a e => ?_, hold := ?_, apart := by rw [eA]; exact F.apart }
  · obtain ⟨v, h1, h2⟩ := F.loc x p e
    exact ⟨v, h1.chg k hL hcl, Rep.mono (nv_le _ _ _) _ _ h2⟩
  · obtain ⟨m, hn⟩ := F.ns
    exact ⟨m, hn.at' fun o e => k.keep _ _ hL e⟩
  · obtain ⟨v, o, h1, h2⟩ := F.cell x a e
    exact ⟨v, o, k.keep _ _ (hC x a e) h1, h2⟩
  · obtain ⟨m, o, _, _, ho, _⟩ := F.ns
    exact nv_none F.gL ho
  · obtain ⟨v, o, h1, h2⟩ := F.cell x a e
    exact nv_none (F.gC x a e) h1
  · refine ⟨fun o ho => ?_, fun a ha => ?_, by rw [eG]; exact F.hold.ownG, by rw [eA]; exact F.hold.ndA, by rw [eG]; exact F.hold.ndG⟩
    · rcases List.mem_append.mp ho with ho | ho
      · refine (F.hold.holds o (List.mem_append_left _ ho)).chg (nv_le _ _ _) k (fun a ea q => ?_) fun i ei q => ?_
        · have h1 : a ∈ adrs own := List.mem_filterMap.mpr ⟨o, ho, ea⟩
          have nd := F.hold.ndA
          simp only [adrs_app] at nd
          exact (List.nodup_append.mp nd).2.2 a h1 a q rfl
        · have h1 : i ∈ gixs own := List.mem_filterMap.mpr ⟨o, ho, ei⟩
          have nd := F.hold.ndG
          simp only [gixs_app] at nd
          exact (List.nodup_append.mp nd).2.2 i h1 i q rfl
      · exact hO o ho
    · rw [eA] at ha
      obtain ⟨o, ho, e⟩ := List.mem_filterMap.mp ha
      obtain ⟨x, hx⟩ := (F.hold.holds o ho).live e
      exact ⟨(F.hold.ownA a ha).1, nv_none (F.hold.ownA a ha).2 hx⟩

theorem Fr.step (F : Fr c own l g s) (k : Gr s s') : Fr c own l (nv g s.heap s'.heap) s' := by
  have := Fr.chg (O := []) (O' := []) (own := own) (by simpa using F) (k.chg _ _) rfl rfl (fun o q => by cases q)
  simpa using this
theorem Fr.keep (F : Fr c own l g s) (k : Gr s s') : Fr c own l g s' where
  cx := F.cx
  loc := fun x p e => let ⟨v, a, b⟩ := F.loc x p e; ⟨v, a.gr k, b⟩
  gr := F.gr.trans k
  le := F.le.trans (nv_mono k.keep)
  ns := let ⟨m, hn⟩ := F.ns; ⟨m, hn.keeps k.keep⟩
  cell := fun x a e => let ⟨v, h⟩ := F.cell x a e; ⟨v, h.keeps k.keep⟩
  gL := F.gL
  gC := F.gC
  hold := ⟨fun o ho => (F.hold.holds o ho).chg (View.Le.refl _) (k.chg [] []) (fun _ _ q => by cases q) (fun _ _ q => by cases q), F.hold.ownA, F.hold.ownG, F.hold.ndA, F.hold.ndG⟩
  apart := F.apart
/-- new things come to be owned -/
theorem Fr.gain {O : List Own} (F : Fr c own l g s) (k : Gr s s') (lg : g.Le g') (lg' : g'.Le (nv g s.heap s'.heap)) (H : Hold s O g' s') : Fr c (own ++ O) l g' s' := by
  have F' := F.step k
  have none_of : ∀ a o, s.heap.get? a = some o → a ∉ adrs O := fun a o e q => by rw [(H.ownA a q).1] at e; cases e
  have gN : ∀ a o, g a = none → s.heap.get? a = some o → g' a = none := fun a o e1 e2 => by
    cases q : g' a with
    | none => rfl
    | some x => have := lg' _ _ q; rw [nv_none e1 e2] at this; cases this
  have liveA : ∀ a ∈ adrs own, ∃ o, s.heap.get? a = some o := fun a ha => by
    obtain ⟨o, ho, e⟩ := List.mem_filterMap.mp ha
    exact (F.hold.holds o ho).live e
  have liveG : ∀ a ∈ gixs own, ∃ o, s.gens[a]? = some o := fun a ha => by
    obtain ⟨o, ho, e⟩ := List.mem_filterMap.mp ha
    exact (F.hold.holds o ho).liveG e
  have s0none : ∀ a, s.heap.get? a = none → c.s0.heap.get? a = none := fun a e => by
    cases q : c.s0.heap.get? a with
    | none => rfl
    | some x => rw [F.gr.keep _ _ q] at e; cases e
  have s0noneG : ∀ (a : Nat), s.gens[a]? = none → c.s0.gens[a]? = none := fun a e => by
    cases q : c.s0.gens[a]? with
    | none => rfl
    | some x => rw [F.gr.gens _ _ q] at e; cases e
  refine { cx := F.cx, loc := fun x p e => let ⟨v, a, b⟩ := F.loc x p e; ⟨v, a.gr k, Rep.mono lg _ _ b⟩, gr := F'.gr, le := lg'.trans F'.le, ns := F'.ns, cell := F'.cell, gL := ?_, gC := fun x a e => ?_, hold := ⟨fun o ho => ?_, fun a ha => ?_, fun i hi => ?_, ?_, ?_⟩, apart := fun a ha => ?_ }
  · obtain ⟨m, o, _, _, ho, _⟩ := F.ns
    exact gN _ _ F.gL ho
  · obtain ⟨v, o, h1, h2⟩ := F.cell x a e
    exact gN _ _ (F.gC x a e) h1
  · rcases List.mem_append.mp ho with ho | ho
    · exact (F.hold.holds o ho).chg lg (k.chg [] []) (by simp) (by simp)
    · exact H.holds o ho
  · simp only [adrs_app, List.mem_append] at ha
    rcases ha with ha | ha
    · obtain ⟨o, ho⟩ := liveA a ha
      exact ⟨(F.hold.ownA a ha).1, gN _ _ (F.hold.ownA a ha).2 ho⟩
    · exact ⟨s0none _ (H.ownA a ha).1, (H.ownA a ha).2⟩
  · simp only [gixs_app, List.mem_append] at hi
    rcases hi with ha | ha
    · exact F.hold.ownG i ha
    · exact s0noneG _ (H.ownG i ha)
  · simp only [adrs_app]
    refine List.nodup_append.mpr ⟨F.hold.ndA, H.ndA, fun a ha b hb e => ?_⟩
    subst e
    obtain ⟨o, ho⟩ := liveA a ha
    exact none_of _ _ ho hb
  · simp only [gixs_app]
    refine List.nodup_append.mpr ⟨F.hold.ndG, H.ndG, fun a ha b hb e => ?_⟩
    subst e
    obtain ⟨o, ho⟩ := liveG a ha
    rw [H.ownG a hb] at ho; cases ho
  · simp only [adrs_app, List.mem_append] at ha
    rcases ha with ha | ha
    · exact F.apart a ha
    · refine ⟨fun q => ?_, fun x b e q => ?_⟩
      · obtain ⟨m, o, _, _, ho, _⟩ := F.ns
        subst q
        exact none_of _ _ ho ha
      · obtain ⟨v, o, h1, h2⟩ := F.cell x b e
        subst q
        exact none_of _ _ h1 ha
theorem Fr.drop {O : List Own} (F : Fr c (own ++ O) l g s) : Fr c own l g s := by
  have sA : ∀ a ∈ adrs own, a ∈ adrs (own ++ O) := fun a ha => by simp only [adrs_app, List.mem_append]; exact .inl ha
  have sG : ∀ a ∈ gixs own, a ∈ gixs (own ++ O) := fun a ha => by simp only [gixs_app, List.mem_append]; exact .inl ha
  refine { F with hold := ⟨fun o ho => F.hold.holds o (List.mem_append_left _ ho), fun a ha => F.hold.ownA a (sA a ha), fun a ha => F.hold.ownG a (sG a ha), ?_, ?_⟩, apart := fun a ha => F.apart a (sA a ha) }
  · have nd := F.hold.ndA
    simp only [adrs_app] at nd
    exact (List.nodup_append.mp nd).1
  · have nd := F.hold.ndG
    simp only [gixs_app] at nd
    exact (List.nodup_append.mp nd).1

theorem Fr.swap {a b : List Own} (F : Fr c (a ++ b) l g s) : Fr c (b ++ a) l g s := by
  have p := List.perm_append_comm (l₁ := a) (l₂ := b)
  have pA : (adrs (a ++ b)).Perm (adrs (b ++ a)) := p.filterMap _
  have pG : (gixs (a ++ b)).Perm (gixs (b ++ a)) := p.filterMap _
  exact { F with
    hold := ⟨fun o ho => F.hold.holds o (p.mem_iff.mpr ho), fun x hx => F.hold.ownA x (pA.mem_iff.mpr hx), fun x hx => F.hold.ownG x (pG.mem_iff.mpr hx), pA.nodup_iff.mp F.hold.ndA, pG.nodup_iff.mp F.hold.ndG⟩
    apart := fun x hx => F.apart x (pA.mem_iff.mpr hx) }

/-- a name that the frame may store -/
noncomputable def Sto (c : Cx) (x : Str) : Prop := c.env.kindOf x = some .local ∨ (c.env.kindOf x = some .cell ∧ x ≠ ("__classdict__" : Str) ∧ ∃ a, (x, a) ∈ c.cs)

theorem Fr.store {p : Program} {A : Around} {x : Str} {r : PV} {v : Value} {Q : Unit → Shared → Prop} {E : Value → Shared → Prop} (F : Fr c own l g s) (hx : Sto c x) (hv : Rep g r v)
    (h : ∀ s', Fr c own ((x, r) :: l) g s' → Q () s') : wpAny (model p c.w) A (storeName c.env x v) Q E s := by
  have main : ∀ (a : Addr) (s' : Shared), c.s0.heap.get? a = none → g a = none → (∀ b ∈ adrs own, b ≠ a) → Chg [a] [] s s' → (∃ m, s'.heap.Ns c.env.locals m) → (∀ x a, (x, a) ∈ c.cs → ∃ v, s'.heap.IsCell a v) →
      ReadsAs s'.heap c.env x v → (∀ y u, y ≠ x → ReadsAs s.heap c.env y u → ReadsAs s'.heap c.env y u) → Fr c own ((x, r) :: l) g s' := by
    intro a s' h0 hg ha k hns hce hrx hry
    refine { cx := F.cx, loc := fun y p e => ?_, gr := k.gr F.gr (by simp [h0]) (by simp), le := ?_, ns := hns, cell := hce, gL := F.gL, gC := F.gC, hold := ⟨fun o ho => ?_, F.hold.ownA, F.hold.ownG, F.hold.ndA, F.hold.ndG⟩, apart := F.apart }
    · rw [List.lookup_cons] at e
      cases hyx : y == x with
      | true => rw [hyx] at e; simp only [Option.some.injEq] at e; subst e; rw [eq_of_beq hyx]; exact ⟨v, hrx, hv⟩
      | false =>
        rw [hyx] at e
        obtain ⟨u, h1, h2⟩ := F.loc y p e
        exact ⟨u, hry y u (fun q => by rw [q] at hyx; simp at hyx) h1, h2⟩
    · exact (nv_le g s.heap s'.heap).trans (nv_le_chg F.cx.sub F.gr F.le k (by simp [hg]))
    · refine (F.hold.holds o ho).chg (View.Le.refl _) k (fun b e q => ?_) (by simp)
      exact ha b (List.mem_filterMap.mpr ⟨o, ho, e⟩) (List.mem_singleton.mp q)
  rcases hx with hx | ⟨hx, hd, a, ha⟩
  · obtain ⟨m, hn⟩ := F.ns
    refine wpAny_storeName_local hx hn (fun h' hn' hs' => h _ (main c.env.locals _ F.cx.frL F.gL (fun b hb => (F.apart b hb).1) ⟨fun b o hb e => hs'.extBut b o (by simpa using hb) e, rfl, fun _ _ _ e => e, id⟩ ⟨_, hn'⟩ (fun y a e => ?_) ?_ fun y u hy hr => ?_)) (by rw [F.cx.ok.kind]; rfl)
    · obtain ⟨v, o, h1, h2⟩ := F.cell y a e
      refine ⟨v, o, hs'.extBut a o (fun q => ?_) h1, h2⟩
      obtain ⟨o', es, ep, ho', hd', _⟩ := hn
      rw [q, ho'] at h1; cases h1; rw [hd'] at h2; cases h2
    · exact .inl ⟨hx, _, hn', by simp⟩
    · rcases hr with ⟨k, m', hm', e⟩ | ⟨k, kd, a, o, h1, h2, h3⟩
      · refine .inl ⟨k, _, hn', ?_⟩
        rw [if_neg hy, Heap.Ns.agree hn hm' y]; exact e
      · refine .inr ⟨k, kd, a, o, h1, hs'.extBut a o (fun q => ?_) h2, h3⟩
        obtain ⟨o', es, ep, ho', hd', _⟩ := hn
        rw [q, ho'] at h2; cases h2; rw [hd'] at h3; cases h3
  · obtain ⟨v0, hc0⟩ := F.cell x a ha
    have hLa : c.env.locals ≠ a := fun q => by
      obtain ⟨m, o', es, ep, ho', hd', _⟩ := F.ns
      obtain ⟨o, h1, h2⟩ := hc0
      rw [q, h1] at ho'; cases ho'; rw [hd'] at h2; cases h2
    refine wpAny_storeName_cell F.cx.ok.kind hx (F.cx.frC x a ha).2 hc0 fun h' hv' hs' => h _ (main a _ (F.cx.frC x a ha).1 (F.gC x a ha) (fun b hb q => (F.apart b hb).2 x a ha q.symm) ⟨fun b o hb e => hs'.extBut b o (by simpa using hb) e, rfl, fun _ _ _ e => e, id⟩ ?_ (fun y b e => ?_) ?_ fun y u hy hr => ?_)
    · obtain ⟨m, hn⟩ := F.ns
      exact ⟨m, hn.sameBut hs' hLa⟩
    · by_cases q : b = a
      · exact ⟨_, q ▸ hv'⟩
      · obtain ⟨v, hv⟩ := F.cell y b e
        exact ⟨v, hv.sameBut hs' q⟩
    · obtain ⟨o, h1, h2⟩ := hv'
      exact .inr ⟨.inl hx, hd, a, o, (F.cx.frC x a ha).2, h1, h2⟩
    · rcases hr with ⟨k, m', hm', e⟩ | ⟨k, kd, b, o, h1, h2, h3⟩
      · exact .inl ⟨k, m', hm'.sameBut hs' hLa, e⟩
      · refine .inr ⟨k, kd, b, o, h1, hs'.extBut b o (fun q => ?_) h2, h3⟩
        subst q
        exact hy (F.cx.inj _ _ _ h1 ha)
end
end Mine
end
section
set_option Elab.async false
set_option linter.unusedVariables false
set_option maxRecDepth 10000
namespace Mine
open PySem PySem.W PySem.Calls PyProof.Rows

/-- the names of a target, with what they come to hold -/
inductive Binds (ok : Str → Prop) : Expr → PV → List (Str × PV) → Prop
  | name {x : Str} {px : Pos} {r : PV} (h : ok x) : Binds ok (.Name x px) r [(x, r)]
  | tup2 {x y : Str} {px py pos : Pos} {k : Nat} {r u : PV} (h : ok x) (h' : ok y) : Binds ok (.Tuple [.Name x px, .Name y py] k pos) (.tup [r, u]) [(y, u), (x, r)]
  | tup3 {x y z : Str} {px py pz pos : Pos} {k : Nat} {r u v : PV} (h : ok x) (h' : ok y) (h'' : ok z) : Binds ok (.Tuple [.Name x px, .Name y py, .Name z pz] k pos) (.tup [r, u, v]) [(z, v), (y, u), (x, r)]
theorem Binds.mono {ok ok' : Str → Prop} (k : ∀ x, ok x → ok' x) {e : Expr} {r : PV} {bs : List (Str × PV)} (h : Binds ok e r bs) : Binds ok' e r bs := by
  cases h with
  | name h => exact .name (k _ h)
  | tup2 h h' => exact .tup2 (k _ h) (k _ h')
  | tup3 h h' h'' => exact .tup3 (k _ h) (k _ h') (k _ h'')

section
variable {p : Program} {A : Around} {c : Cx} {own : List Own} {l l' : List (Str × PV)} {g g' : View} {s s' : Shared} {E : Value → Shared → Prop}

theorem Reps.nil_inv {g : View} {vs : List Value} (h : Reps g [] vs) : vs = [] := by unfold Reps at h; exact h
theorem Reps.cons_inv {g : View} {r : PV} {rs : List PV} {vs : List Value} (h : Reps g (r :: rs) vs) : ∃ v us, vs = v :: us ∧ Rep g r v ∧ Reps g rs us := by unfold Reps at h; exact h

theorem gr_extBut {h' : Heap} (he : Heap.ExtBut s.heap.objs.size s.heap h') : Gr s { s with heap := h' } := ⟨fun b o e => he b o (Nat.ne_of_lt (Heap.lt_size e)) e, rfl, fun _ _ e => e, id⟩

theorem Fr.asg {target : Expr} {r : PV} {bs : List (Str × PV)} {v : Value} {Q : Unit → Shared → Prop} (F : Fr c own l g s) (hh : A.handled = none) (b : Binds (Sto c) target r bs) (hv : Rep g r v)
    (h : ∀ s', Fr c own (bs ++ l) g s' → Q () s') : wpAny (model p c.w) A (assign target c.env v) Q E s := by
  cases b with
  | name hx => exact wpAny_assign_Name (F.store hx hv h)
  | @tup2 x y px py pos k r u hx hy =>
    obtain ⟨a, vs, n, rfl, ha, hr⟩ := rep_tup_inv hv
    obtain ⟨v1, us, rfl, h1, hr⟩ := hr.cons_inv
    obtain ⟨v2, us, rfl, h2, hr⟩ := hr.cons_inv
    cases hr.nil_inv
    refine wpAny_assign_Tuple (items := #[v1, v2]) hh ⟨_, F.sub _ _ ha, rfl, _, rfl⟩ rfl rfl fun h' he' => ?_
    show wpAny _ A (assignInOrder [assign (.Name x px) c.env, assign (.Name y py) c.env] [v1, v2]) _ _ _
    refine assignInOrder_cons (wpAny_assign_Name ((F.keep (gr_extBut he')).store hx h1 fun s1 F1 => ?_))
    refine assignInOrder_cons (wpAny_assign_Name (F1.store hy h2 fun s2 F2 => ?_))
    exact wpAny_pure (h _ F2)
  | @tup3 x y z px py pz pos k r u v hx hy hz =>
    obtain ⟨a, vs, n, rfl, ha, hr⟩ := rep_tup_inv hv
    obtain ⟨v1, us, rfl, h1, hr⟩ := hr.cons_inv
    obtain ⟨v2, us, rfl, h2, hr⟩ := hr.cons_inv
    obtain ⟨v3, us, rfl, h3, hr⟩ := hr.cons_inv
    cases hr.nil_inv
    refine wpAny_assign_Tuple (items := #[v1, v2, v3]) hh ⟨_, F.sub _ _ ha, rfl, _, rfl⟩ rfl rfl fun h' he' => ?_
    show wpAny _ A (assignInOrder [assign (.Name x px) c.env, assign (.Name y py) c.env, assign (.Name z pz) c.env] [v1, v2, v3]) _ _ _
    refine assignInOrder_cons (wpAny_assign_Name ((F.keep (gr_extBut he')).store hx h1 fun s1 F1 => ?_))
    refine assignInOrder_cons (wpAny_assign_Name (F1.store hy h2 fun s2 F2 => ?_))
    refine assignInOrder_cons (wpAny_assign_Name (F2.store hz h3 fun s3 F3 => ?_))
    exact wpAny_pure (h _ F3)
end

section
variable {l : List (Str × PV)} {g : View} {s : Shared}
/-- owned things go, and may have changed -/
theorem Fr.spoil {c : Cx} {own O : List Own} {s' : Shared} (F : Fr c (own ++ O) l g s) (k : Chg (adrs O) (gixs O) s s') : Fr c own l g s' := by
  have hin : ∀ a ∈ adrs O, a ∈ adrs (own ++ O) := fun a ha => by rw [adrs_app]; exact List.mem_append_right _ ha
  have hinG : ∀ a ∈ gixs O, a ∈ gixs (own ++ O) := fun a ha => by rw [gixs_app]; exact List.mem_append_right _ ha
  have hL : c.env.locals ∉ adrs O := fun q => (F.apart _ (hin _ q)).1 rfl
  have hC : ∀ x a, (x, a) ∈ c.cs → a ∉ adrs O := fun x a e q => (F.apart _ (hin _ q)).2 x a e rfl
  have hcl : ∀ y a, c.env.cells.lookup y = some a → a ∉ adrs O := fun y a e q => by
    rcases F.cx.cl y a e with h | ⟨o, h⟩
    · exact hC y a h q
    · rw [(F.hold.ownA a (hin a q)).1] at h; cases h
  have D := F.drop
  refine { cx := F.cx, loc := fun x p e => ?_, gr := k.gr F.gr (fun a ha => (F.hold.ownA a (hin a ha)).1) fun i hi => F.hold.ownG i (hinG i hi), le := (nv_le _ _ _).trans (nv_le_chg F.cx.sub F.gr F.le k fun a ha => (F.hold.ownA a (hin a ha)).2), ns := ?_, cell := fun x a e => ?_, gL := F.gL, gC := F.gC, hold := ⟨fun o ho => ?_, D.hold.ownA, D.hold.ownG, D.hold.ndA, D.hold.ndG⟩, apart := D.apart }
  · obtain ⟨v, h1, h2⟩ := F.loc x p e
    exact ⟨v, h1.chg k hL hcl, h2⟩
  · obtain ⟨m, hn⟩ := F.ns
    exact ⟨m, hn.at' fun o e => k.keep _ _ hL e⟩
  · obtain ⟨v, o, h1, h2⟩ := F.cell x a e
    exact ⟨v, o, k.keep _ _ (hC x a e) h1, h2⟩
  · refine (F.hold.holds o (List.mem_append_left _ ho)).chg (View.Le.refl _) k (fun a ea q => ?_) fun i ei q => ?_
    · have h1 : a ∈ adrs own := List.mem_filterMap.mpr ⟨o, ho, ea⟩
      have nd := F.hold.ndA
      rw [adrs_app] at nd
      exact (List.nodup_append.mp nd).2.2 a h1 a q rfl
    · have h1 : i ∈ gixs own := List.mem_filterMap.mpr ⟨o, ho, ei⟩
      have nd := F.hold.ndG
      rw [gixs_app] at nd
      exact (List.nodup_append.mp nd).2.2 i h1 i q rfl

end

/-- an iterator: what it owns behind i items, and what a turn takes from it -/
structure It (p : Program) (w : World) (n : Nat) (target : Expr) (it : Value) (as : List Addr) (is : List Nat) (items : List PV) (g : View) (O : Nat → List Own) : Prop where
  eA : ∀ i, adrs (O i) = as
  eG : ∀ i, gixs (O i) = is
  next : ∀ {A : Around} {i : Nat} {r : PV} {g' : View} {s : Shared} {Q E : Value → Shared → Prop}, AOk n A → Keeps0 w.params s.heap → g.Le g' → g'.Sub s.heap → (∀ o ∈ O i, o.Holds g' s) → (∀ a ∈ as, g' a = none) → items[i]? = some r →
    (∀ v s1, Chg as is s s1 → (∀ o ∈ O (i + 1), o.Holds (nv g' s.heap s1.heap) s1) → Rep (nv g' s.heap s1.heap) r v → Q v s1) →
    wpAny (model p w) A (pyNext it) (fun rv s1 => match rv with | none => False | some v => wpAny (model p w) A (letOwnedTupleGo target it v) (fun _ s2 => Q v s2) E s1) E s
  done : ∀ {A : Around} {g' : View} {s : Shared} {Q : Shared → Prop} {E : Value → Shared → Prop}, AOk n A → Keeps0 w.params s.heap → g.Le g' → g'.Sub s.heap → (∀ o ∈ O items.length, o.Holds g' s) → (∀ a ∈ as, g' a = none) →
    (∀ s1, Chg as is s s1 → Q s1) → wpAny (model p w) A (pyNext it) (fun rv s1 => match rv with | none => Q s1 | some _ => False) E s
  self : ∀ {A : Around} {g' : View} {s : Shared} {Q : Value → Shared → Prop} {E : Value → Shared → Prop}, (∀ o ∈ O 0, o.Holds g' s) → Q it s → wpAny (model p w) A (pyIter it) Q E s

/-- the source of a loop or a comprehension, laid open -/
structure SrcE (p : Program) (w : World) (A : Around) (n : Nat) (env : Env) (l : List (Str × PV)) (g : View) (iter target : Expr) (items : List PV) : Prop where
  run : ∀ s, Pre w.params env l g s → ∀ (Q E : Value → Shared → Prop), (∀ it as is O s' g', Gr s s' → g.Le g' → g'.Le (nv g s.heap s'.heap) → Hold s (O 0) g' s' → It p w n target it as is items g' O → Q it s') →
    wpAny (model p w) A (eval iter env) (fun x s1 => wpAny (model p w) A (pyIter x) Q E s1) E s
/-- tests of a clause -/
structure EvT (p : Program) (w : World) (A : Around) (env : Env) (l : List (Str × PV)) (g : View) (ifs : List Expr) (b : Bool) : Prop where
  run : ∀ s, Pre w.params env l g s → ∀ (Q : Bool → Shared → Prop) (E : Value → Shared → Prop), (∀ s', Gr s s' → Q b s') →
    wpAny (model p w) A (forIn ifs true fun c r => if r = true then do let ok ← isTrue c env (eval c env); pure (ForInStep.yield ok) else pure (ForInStep.yield r)) Q E s
theorem EvT.nil {p : Program} {w : World} {A : Around} {env : Env} {l : List (Str × PV)} {g : View} : EvT p w A env l g [] true := .mk fun s P Q E h => wpAny_tests_nil (h s (Gr.refl s))
theorem EvT.one {p : Program} {w : World} {A : Around} {env : Env} {l : List (Str × PV)} {g : View} {c : Expr} {b : Bool} (h : EvB p w A env l g c b) : EvT p w A env l g [c] b := .mk fun s P Q E hQ => wpAny_tests_one (h.run s P _ _ hQ)

section
variable {p : Program} {w : World} {A : Around} {E : Value → Shared → Prop} {s : Shared}
theorem my_loop {elt target iter : Expr} {ifs : List Expr} {scope : Scope} {pos : Pos} {it acc : Value} {env : Env} {R : Result → Shared → Prop} (I : Nat → Shared → Prop)
    (turn : ∀ n s, I n s → wpAny (model p w) A (pyNext it) (fun r s₁ => match r with
      | none => R (.ok .next) s₁
      | some v => wpAny (model p w) A (letOwnedTupleGo target it v) (fun _ s₀ => wpAny (model p w) A (assign target env v) (fun _ s₂ =>
          wpAny (model p w) A (forIn ifs true fun c r => if r = true then do let ok ← isTrue c env (eval c env); pure (ForInStep.yield ok) else pure (ForInStep.yield r)) (fun ok s₃ => if ok = true then wpAny (model p w) A (eval elt env) (fun x s₄ =>
            wpAny (model p w) A (call (.builtin "list.append") [acc, x]) (fun _ s₅ => ∃ m, m < n ∧ I m s₅) (notedBy (model p w) A env fun e s' => R (.error e) s') s₄) (notedBy (model p w) A env fun e s' => R (.error e) s') s₃
            else ∃ m, m < n ∧ I m s₃) (notedBy (model p w) A env fun e s' => R (.error e) s') s₂)
          (notedBy (model p w) A env fun e s' => R (.error e) s') s₀) (notedBy (model p w) A env fun e s' => R (.error e) s') s₁) (notedBy (model p w) A env fun e s' => R (.error e) s') s)
    (n : Nat) (h : I n s) : codeAny (model p w) A (.compLoop (.ListComp elt [⟨target, iter, ifs, 0⟩] scope pos) 0 it acc env) R s := by
  refine codeAny_loop rfl I (fun n s hI => ?_) n h
  show wpAny _ A ((compTurn (.ListComp elt [⟨target, iter, ifs, 0⟩] scope pos) 0 it acc env).onRaise (fun x => do noteFrame x env; theTreesLotGoes x)) _ _ s
  refine wpAny_noted ?_
  rw [compTurn_list]
  refine wpAny_bind (wpAny_standAt (wpAny_bind (wpAny_mono (turn n s hI) (fun r s₁ h₁ => ?_) fun _ _ h' => h')))
  cases r with
  | none => exact wpAny_pure h₁
  | some v =>
    refine wpAny_bind (wpAny_mono h₁ (fun _ s₀ h₀' => ?_) fun _ _ h' => h')
    refine wpAny_bind (wpAny_mono h₀' (fun _ s₂ h₂ => ?_) fun _ _ h' => h')
    refine wpAny_bind (wpAny_mono h₂ (fun okb s₃ h₃ => ?_) fun _ _ h' => h')
    cases okb with
    | false => exact wpAny_pure ⟨rfl, h₃⟩
    | true => exact wpAny_bind (wpAny_bind (wpAny_mono h₃ (fun x s₄ h₄ => wpAny_bind (wpAny_mono h₄ (fun _ s₅ h₅ => wpAny_pure (wpAny_pure ⟨rfl, h₅⟩)) fun _ _ h' => h')) fun _ _ h' => h'))
end

-- turns of an iterator inside a frame
section
variable {p : Program} {A : Around} {c : Cx} {n : Nat} {target : Expr} {it : Value} {as : List Addr} {is : List Nat} {items : List PV} {own : List Own} {l l' : List (Str × PV)} {g g' : View} {O : Nat → List Own} {s s' : Shared} {E : Value → Shared → Prop}
theorem It.takeF {i : Nat} {r : PV} {Q : Value → Shared → Prop} (I : It p c.w n target it as is items g O) (hA : AOk n A) (F : Fr c (own ++ O i) l g' s) (hg : g.Le g') (hr : items[i]? = some r)
    (h : ∀ v g2 s1, g'.Le g2 → Fr c (own ++ O (i + 1)) l g2 s1 → Rep g2 r v → Q v s1) :
    wpAny (model p c.w) A (pyNext it) (fun rv s1 => match rv with | none => False | some v => wpAny (model p c.w) A (letOwnedTupleGo target it v) (fun _ s2 => Q v s2) E s1) E s := by
  refine I.next hA F.base hg F.sub (fun o ho => F.hold.holds o (List.mem_append_right _ ho)) (fun a ha => (F.hold.ownA a ?_).2) hr fun v s1 k ho hv => ?_
  · rw [adrs_app, I.eA i]; exact List.mem_append_right _ ha
  · exact h v _ s1 (nv_le _ _ _) (F.chg (by rw [I.eA i, I.eG i]; exact k) (by rw [I.eA, I.eA]) (by rw [I.eG, I.eG]) ho) hv
theorem It.doneF {Q : Shared → Prop} (I : It p c.w n target it as is items g O) (hA : AOk n A) (F : Fr c (own ++ O items.length) l g' s) (hg : g.Le g')
    (h : ∀ g2 s1, g'.Le g2 → Fr c own l g2 s1 → Q s1) : wpAny (model p c.w) A (pyNext it) (fun rv s1 => match rv with | none => Q s1 | some _ => False) E s := by
  refine I.done hA F.base hg F.sub (fun o ho => F.hold.holds o (List.mem_append_right _ ho)) (fun a ha => (F.hold.ownA a ?_).2) fun s1 k => ?_
  · rw [adrs_app, I.eA]; exact List.mem_append_right _ ha
  · exact h g' s1 (View.Le.refl _) (F.spoil (by rw [I.eA, I.eG]; exact k))
end
end Mine
end
section
set_option Elab.async false
set_option linter.unusedVariables false
set_option maxRecDepth 10000
namespace Mine
open PySem PySem.W PySem.Calls PyProof.Rows

theorem lookup_keep (h : Str → NameKind → NameKind) : ∀ (names : List (Str × NameKind)) (x : Str), (names.map fun (n, k) => (n, h n k)).lookup x = (names.lookup x).map (h x)
  | [], x => rfl
  | (n, k) :: r, x => by
    show List.lookup x ((n, h n k) :: _) = _
    rw [List.lookup_cons, List.lookup_cons]
    cases e : x == n with
    | true => rw [eq_of_beq e]; rfl
    | false => exact lookup_keep h r x
theorem relabel_lookup (scope : Scope) (env : Env) (x : Str) : (relabel scope env).names.lookup x = (scope.names.lookup x).map fun k => if (k == .free && env.scope.kind == .function && env.kindOf x == some .cell) then .cell else k := by
  rw [← lookup_keep (fun x k => if (k == .free && env.scope.kind == .function && env.kindOf x == some .cell) then .cell else k)]
  unfold relabel
  congr 1
  refine List.map_congr_left fun y _ => ?_
  obtain ⟨n, k⟩ := y
  dsimp only
  split <;> rfl

theorem closure_of (env : Env) (f : Str → Addr) : ∀ (names : List (Str × NameKind)) (acc : List (Str × Addr)), (∀ x, (x, NameKind.free) ∈ names → env.cells.lookup x = some (f x)) →
    (forIn names acc fun (y : Str × NameKind) cs => (if (y.2 == NameKind.free) = true then (do let a ← cellOf env y.1; pure (ForInStep.yield ((y.1, a) :: cs))) else pure (ForInStep.yield cs) : Sem _)) =
      pure (((names.filter (·.2 == .free)).map fun y => (y.1, f y.1)).reverse ++ acc)
  | [], acc, _ => rfl
  | (n, k) :: r, acc, h => by
    rw [List.forIn_cons]
    have hr : ∀ x, (x, NameKind.free) ∈ r → env.cells.lookup x = some (f x) := fun x hx => h x (List.mem_cons_of_mem _ hx)
    cases e : k == NameKind.free with
    | false =>
      simp only [e, Bool.false_eq_true, if_false, pure_bind, List.filter_cons]
      exact closure_of env f r acc hr
    | true =>
      have hk : k = .free := eq_of_beq e
      subst hk
      have : cellOf env n = pure (f n) := by unfold cellOf; rw [h n List.mem_cons_self]
      simp only [e, if_true, this, pure_bind, List.filter_cons, List.map_cons, List.reverse_cons, List.append_assoc]
      exact closure_of env f r ((n, f n) :: acc) hr
theorem closureFor_of {scope : Scope} {env : Env} (f : Str → Addr) (h : ∀ x, (x, NameKind.free) ∈ scope.names → env.cells.lookup x = some (f x)) :
    closureFor scope env = pure ((scope.names.filter (·.2 == .free)).map fun y => (y.1, f y.1)).reverse := by
  have := closure_of env f scope.names [] h
  rw [List.append_nil] at this
  rw [← this]
  show (forIn scope.names [] (fun (y : Str × NameKind) cs => (if (y.2 == NameKind.free) = true then (do let a ← cellOf env y.1; pure (ForInStep.yield ((y.1, a) :: cs))) else pure (ForInStep.yield cs) : Sem _)) >>= fun cs => pure cs) = _
  rw [bind_pure]

theorem cellsFrom_app : ∀ (names : List (Str × NameKind)) (n : Nat) (acc : List (Str × Addr)), cellsFrom n names acc = cellsFrom n names [] ++ acc
  | [], n, acc => rfl
  | (x, k) :: r, n, acc => by
    unfold cellsFrom
    split
    · rw [cellsFrom_app r (n + 1) ((x, n) :: acc), cellsFrom_app r (n + 1) [(x, n)], List.append_assoc]; rfl
    · exact cellsFrom_app r n acc
theorem cellsFrom_mem : ∀ (names : List (Str × NameKind)) (n : Nat) (acc : List (Str × Addr)) (x : Str) (a : Addr), (x, a) ∈ cellsFrom n names acc → (x, NameKind.cell) ∈ names ∨ (x, a) ∈ acc
  | [], n, acc, x, a, h => .inr h
  | (y, k) :: r, n, acc, x, a, h => by
    unfold cellsFrom at h
    split at h
    · rename_i hk
      rcases cellsFrom_mem r _ _ x a h with h | h
      · exact .inl (List.mem_cons_of_mem _ h)
      · rcases List.mem_cons.mp h with h | h
        · cases h; left; rw [eq_of_beq hk]; exact List.mem_cons_self
        · exact .inr h
    · rcases cellsFrom_mem r _ _ x a h with h | h
      · exact .inl (List.mem_cons_of_mem _ h)
      · exact .inr h
theorem lookup_app {α : Type} (x : Str) : ∀ (a b : List (Str × α)), (a ++ b).lookup x = (a.lookup x).or (b.lookup x)
  | [], b => by simp
  | (y, v) :: r, b => by
    rw [List.cons_append, List.lookup_cons, List.lookup_cons]
    cases x == y with
    | true => rfl
    | false => exact lookup_app x r b

/-- the names that a comprehension takes from outside -/
noncomputable def capt (scope : Scope) (l : List (Str × PV)) : List (Str × PV) := l.filter fun y => scope.names.lookup y.1 == some .free
theorem lookup_filter {α : Type} (q : Str → Bool) (x : Str) : ∀ (l : List (Str × α)), (l.filter fun y => q y.1).lookup x = if q x then l.lookup x else none
  | [] => by simp
  | (y, v) :: r => by
    rw [List.filter_cons]
    cases hq : q y with
    | true =>
      rw [if_pos rfl, List.lookup_cons, List.lookup_cons]
      cases e : x == y with
      | true => rw [eq_of_beq e, hq]; simp
      | false => exact lookup_filter q x r
    | false =>
      rw [if_neg (by simp), lookup_filter q x r, List.lookup_cons]
      cases e : x == y with
      | true => rw [eq_of_beq e, hq]; simp
      | false => rfl
/-- a name that a comprehension may bind -/
noncomputable def own1 (scope : Scope) (x : Str) : Prop := scope.names.lookup x = some .local ∨ (scope.names.lookup x = some .cell ∧ x ≠ ("__classdict__" : Str))

structure CompOk (env : Env) (scope : Scope) (l : List (Str × PV)) : Prop where
  kind : scope.kind = .function
  nd : (scope.names.map (·.1)).Nodup
  free : ∀ x, (x, NameKind.free) ∈ scope.names → x ≠ ("__classdict__" : Str) ∧ (env.kindOf x = some .cell ∨ env.kindOf x = some .free) ∧ (l.lookup x).isSome = true

theorem lookup_of_nd : ∀ {l : List (Str × NameKind)} {x : Str} {k : NameKind}, (l.map (·.1)).Nodup → (x, k) ∈ l → l.lookup x = some k
  | (y, j) :: r, x, k, nd, h => by
    rw [List.map_cons, List.nodup_cons] at nd
    rw [List.lookup_cons]
    rcases List.mem_cons.mp h with h | h
    · cases h; simp
    · have : (x == y) = false := by
        cases e : x == y with
        | false => rfl
        | true => exact absurd (List.mem_map.mpr ⟨(x, k), h, eq_of_beq e⟩) nd.1
      rw [this]
      exact lookup_of_nd nd.2 h
theorem mem_of_lookup' {α : Type} : ∀ {l : List (Str × α)} {n : Str} {c : α}, l.lookup n = some c → (n, c) ∈ l := fun h => mem_of_lookup h

section
variable {p : Program} {w : World} {A : Around} {n : Nat} {env : Env} {l : List (Str × PV)} {g : View} {E : Value → Shared → Prop} {s : Shared}
theorem none_back {s s' : Shared} {a : Addr} (k : Gr s s') (h : s'.heap.get? a = none) : s.heap.get? a = none := by
  cases q : s.heap.get? a with
  | none => rfl
  | some o => rw [k.keep _ _ q] at h; cases h
theorem get_size {h : Heap} {a : Addr} (ha : h.objs.size ≤ a) : h.get? a = none := by
  cases q : h.get? a with
  | none => rfl
  | some o => exact absurd (Heap.lt_size q) (Nat.not_lt.mpr ha)

/-- the block of a comprehension, from its first clause's value on -/
theorem comp_core {α : Type} {elt target iter : Expr} {ifs : List Expr} {scope : Scope} {pos : Pos} (xs : List α) (emb : α → PV) (tst : α → Bool) (res : α → PV) {RR : Value → Addr → Result → Shared → Prop} {cl : List (Str × Addr)}
    (P : Pre w.params env l g s) (hA : AOk n A) (src : SrcE p w A n env l g iter target (xs.map emb)) (ok : CompOk env scope l) (hsz : xs.length ≤ 100000)
    (hcl : cl = ((scope.names.filter (·.2 == .free)).map fun y => (y.1, (env.cells.lookup y.1).getD 0)).reverse)
    (turn : ∀ C cells, ∀ g', g.Le g' → ∀ x, x ∈ xs → ∃ bs, Binds (own1 scope) target (emb x) bs ∧ EvT p w A (compEnvC scope cells C env) (bs ++ capt scope l) g' ifs (tst x) ∧
      (tst x = true → Ev p w A (compEnvC scope cells C env) (bs ++ capt scope l) g' elt (res x)))
    (hRR : ∀ C D g2 s', Gr s s' → s.heap.get? C = none → (∃ m, s'.heap.Ns C m) → g.Le g2 → g2.Le (nv g s.heap s'.heap) → g2 C = none → Rep g2 (.lst ((xs.filter tst).map res)) (.ref D) → RR (.ref D) C (.ok .next) s') :
    wpAny (model p w) A (eval iter env) (fun x s₁ => wpAny (model p w) A (pyIter x) (fun it s₂ => wpAny (model p w) A (newList []) (fun acc s₃ => wpAny (model p w) A (newFunctionEnv scope env.globals cl [] env.qual none .none (some env)) (fun cenv s₄ =>
      codeAny (model p w) A (.compStart (.ListComp elt [⟨target, iter, ifs, 0⟩] scope pos) 0 it acc { cenv with scope := relabel scope env }) (RR acc cenv.locals) s₄) E s₃) E s₂) E s₁) E s := by
  refine src.run s P _ _ fun it as is O s2 g1 k1 lg1 lg1' H I => ?_
  have sub1 : g1.Sub s2.heap := fun b o e => nv_sub P.sub k1.keep b o (lg1' b o e)
  refine wpAny_newObj_type (hd := by size_fits) ?_
  -- the frame of the comprehension
  unfold newFunctionEnv
  refine wpAny_bind (wpAny_alloc ?_)
  refine wpAny_bind (wpAny_layCells _ (fun name kind cells => by cases hkc : kind == NameKind.cell <;> simp [hkc]) _ _ _ _ ?_)
  refine wpAny_bind ?_
  rw [List.forIn_nil]
  refine wpAny_pure (wpAny_pure ?_)
  dsimp only
  generalize hD : s2.heap.objs.size = D
  generalize hh1 : s2.heap.push { cls := .type "list", dict := none, data := .seq ([] : List Value).toArray } = h1
  generalize hC : h1.objs.size = C
  generalize hh2' : h1.push { cls := .type (if (some env).isSome = true then "dict" else "frame"), data := .dict #[] } = h2
  have hh2 : h1.push { cls := .type "dict", data := .dict #[] } = h2 := hh2'
  have e2 : h2.objs.size = C + 1 := by rw [← hh2, Heap.size_push, hC]
  rw [e2, cellsFrom_app]
  generalize hcs : cellsFrom (C + 1) scope.names [] = cs
  generalize hh3 : pushCells h2 scope.names = h3
  have eC : C = D + 1 := by rw [← hC, ← hh1, Heap.size_push, hD]
  have cok := cellsFrom_ok scope.names h2 (C + 1) [] ⟨fun _ _ hm => (nomatch hm), List.Pairwise.nil⟩ (by rw [e2]; exact Nat.le_refl _)
  rw [e2, hcs, hh3] at cok
  -- what stands in h3
  have k21 : ∀ b o, s2.heap.get? b = some o → h1.get? b = some o := fun b o e => hh1 ▸ Heap.get?_push_of_some _ e
  have k12 : ∀ b o, h1.get? b = some o → h2.get? b = some o := fun b o e => hh2 ▸ Heap.get?_push_of_some _ e
  have k23 : ∀ b o, h2.get? b = some o → h3.get? b = some o := fun b o e => hh3 ▸ pushCells_keeps _ _ b o e
  have gD : h3.get? D = some ⟨.type "list", none, .seq (List.toArray ([] : List Value)) 0, #[]⟩ := k23 _ _ (k12 _ _ (by rw [← hh1, ← hD]; exact Heap.get?_push_size _ rfl))
  have nsC : h3.Ns C fun _ => none := by
    have := (Heap.Ns.new h1 (.type "dict")).keeps (h' := h3) (fun b o e => k23 b o (hh2 ▸ e))
    rwa [hC] at this
  have nD : s2.heap.get? D = none := get_size (Nat.le_of_eq hD)
  have nC : s2.heap.get? C = none := get_size (by rw [hD, eC]; exact Nat.le_succ _)
  have nCs : ∀ x a, (x, a) ∈ cs → s2.heap.get? a = none := fun x a e => get_size (by rw [hD]; have := (cok.empty x a e).2; rw [eC] at this; exact Nat.le_of_lt (Nat.lt_of_lt_of_le (Nat.lt_of_lt_of_le (Nat.lt_succ_self D) (Nat.le_succ _)) this))
  have g1n : ∀ a, s2.heap.get? a = none → g1 a = none := fun a e => by
    cases q : g1 a with
    | none => rfl
    | some o => rw [sub1 _ _ q] at e; cases e
  let c : Cx := ⟨w, compEnvC scope (cs ++ cl) C env, s, g, cs⟩
  -- cells that were there
  have clOf : ∀ x a, cl.lookup x = some a → env.cells.lookup x = some a ∧ (x, NameKind.free) ∈ scope.names ∧ ∃ r v o, l.lookup x = some r ∧ s.heap.get? a = some o ∧ o.data = .cell (some v) ∧ Rep g r v := fun x a e => by
    have hm := mem_of_lookup e
    rw [hcl, List.mem_reverse, List.mem_map] at hm
    obtain ⟨y, hy, hyx⟩ := hm
    obtain ⟨y1, y2⟩ := y
    obtain ⟨hy1, hy2⟩ := List.mem_filter.mp hy
    cases hyx
    have hfr : y2 = .free := eq_of_beq hy2
    subst hfr
    obtain ⟨f1, f2, f3⟩ := ok.free _ hy1
    obtain ⟨r, hr⟩ := Option.isSome_iff_exists.mp f3
    obtain ⟨v, hv, hrep⟩ := P.loc _ _ hr
    rcases hv with ⟨q, _⟩ | ⟨_, _, cc, o, q1, q2, q3⟩
    · rcases f2 with f2 | f2 <;> (rw [f2] at q; cases q)
    · refine ⟨by rw [q1]; rfl, hy1, r, v, o, hr, ?_, q3, hrep⟩
      show s.heap.get? ((env.cells.lookup y1).getD 0) = some o
      rw [q1]; exact q2
  have clIs : ∀ x, (x, NameKind.free) ∈ scope.names → ∀ a, env.cells.lookup x = some a → cl.lookup x = some a := fun x hx a ha => by
    have hm : (x, a) ∈ cl := by
      rw [hcl, List.mem_reverse, List.mem_map]
      exact ⟨(x, .free), List.mem_filter.mpr ⟨hx, rfl⟩, by rw [ha]; rfl⟩
    cases q : cl.lookup x with
    | some b => rw [(clOf x b q).1] at ha; exact ha
    | none => have := List.lookup_eq_none_iff.mp q (x, a) hm; simp at this
  have csNot : ∀ x, (x, NameKind.free) ∈ scope.names → cs.lookup x = none := fun x hx => by
    cases q : cs.lookup x with
    | none => rfl
    | some a =>
      have := cellsFrom_mem scope.names (C + 1) [] x a (by rw [hcs]; exact mem_of_lookup q)
      rcases this with h | h
      · have e1 := lookup_of_nd ok.nd hx
        rw [lookup_of_nd ok.nd h] at e1; cases e1
      · cases h
  have cells : ∀ x a, c.env.cells.lookup x = some a → ((x, a) ∈ cs ∨ cl.lookup x = some a) := fun x a e => by
    have e' : (cs ++ cl).lookup x = some a := e
    rw [lookup_app] at e'
    cases q : cs.lookup x with
    | some b => rw [q] at e'; cases e'; exact .inl (mem_of_lookup q)
    | none => rw [q] at e'; exact .inr e'
  have csLook : ∀ x a, (x, a) ∈ cs → cs.lookup x = some a := fun x a e => by
    have hc : (x, NameKind.cell) ∈ scope.names := by
      rcases cellsFrom_mem scope.names (C + 1) [] x a (by rw [hcs]; exact e) with h | h
      · exact h
      · cases h
    have := cellsFrom_some (x := x) scope.names (C + 1) [] (.inl (lookup_of_nd ok.nd hc))
    rw [hcs] at this
    obtain ⟨b, hb⟩ := Option.isSome_iff_exists.mp this
    have hbm := mem_of_lookup hb
    have : b = a := by
      -- the names of the cells are apart, as the scope's are
      have nd : (cs.map (·.1)).Nodup := by
        have key : ∀ (names : List (Str × NameKind)) (n : Nat) (acc : List (Str × Addr)), (names.map (·.1)).Nodup → (acc.map (·.1)).Nodup → (∀ y ∈ acc.map (·.1), y ∉ names.map (·.1)) → ((cellsFrom n names acc).map (·.1)).Nodup := by
          intro names
          induction names with
          | nil => intro n acc _ h _; exact h
          | cons y r ih =>
            intro n acc h1 h2 h3
            obtain ⟨y, k⟩ := y
            rw [List.map_cons, List.nodup_cons] at h1
            unfold cellsFrom
            split
            · refine ih _ _ h1.2 (by rw [List.map_cons, List.nodup_cons]; exact ⟨fun q => h3 _ q (by rw [List.map_cons]; exact List.mem_cons_self), h2⟩) fun z hz => ?_
              rw [List.map_cons] at hz
              rcases List.mem_cons.mp hz with rfl | hz
              · exact h1.1
              · exact fun q => h3 _ hz (by rw [List.map_cons]; exact List.mem_cons_of_mem _ q)
            · exact ih _ _ h1.2 h2 fun z hz q => h3 _ hz (by rw [List.map_cons]; exact List.mem_cons_of_mem _ q)
        have := key scope.names (C + 1) [] ok.nd List.nodup_nil (by simp)
        rwa [hcs] at this
      have inj : ∀ {l : List (Str × Addr)}, (l.map (·.1)).Nodup → ∀ {x a b}, (x, a) ∈ l → (x, b) ∈ l → a = b := by
        intro l
        induction l with
        | nil => intro _ x a b h; cases h
        | cons y r ih =>
          intro h x a b h1 h2
          rw [List.map_cons, List.nodup_cons] at h
          rcases List.mem_cons.mp h1 with q1 | q1 <;> rcases List.mem_cons.mp h2 with q2 | q2
          · rw [← q2] at q1; exact (Prod.mk.inj q1).2
          · subst q1; exact absurd (List.mem_map.mpr ⟨(x, b), q2, rfl⟩) h.1
          · subst q2; exact absurd (List.mem_map.mpr ⟨(x, a), q1, rfl⟩) h.1
          · exact ih h.2 q1 q2
      exact inj nd hbm e
    rw [hb, this]
  have cxok : CxOk c := by
    refine ⟨⟨?_, P.ok.glob, P.ok.bi⟩, P.base, P.sub, none_back k1 nC, fun x a e => ⟨none_back k1 (nCs x a e), ?_⟩, fun x y a e e' => ?_, fun x a e => ?_⟩
    · show (relabel scope env).kind = _
      exact ok.kind
    · show (cs ++ cl).lookup x = some a
      rw [lookup_app, csLook x a e]; rfl
    · rcases cells x a e with h | h
      · exact name_of_addr cok.apart h e'
      · obtain ⟨_, _, r, v, o, _, ho, _⟩ := clOf x a h
        rw [none_back k1 (nCs y a e')] at ho; cases ho
    · rcases cells x a e with h | h
      · exact .inl h
      · obtain ⟨_, _, r, v, o, _, ho, _⟩ := clOf x a h
        exact .inr ⟨o, ho⟩
  have sto : ∀ x, own1 scope x → Sto c x := fun x hx => by
    rcases hx with hx | ⟨hx, hd⟩
    · left
      show (relabel scope env).names.lookup x = _
      rw [relabel_lookup, hx]; rfl
    · right
      refine ⟨?_, hd, ?_⟩
      · show (relabel scope env).names.lookup x = _
        rw [relabel_lookup, hx]; rfl
      · have := cellsFrom_some (x := x) scope.names (C + 1) [] (.inl hx)
        rw [hcs] at this
        obtain ⟨b, hb⟩ := Option.isSome_iff_exists.mp this
        exact ⟨b, mem_of_lookup hb⟩
  have k3 : ∀ (tk : Nat), Gr s2 { s2 with heap := h3, toks := tk } := fun tk => ⟨fun b o e => k23 b o (k12 b o (k21 b o e)), rfl, fun _ _ e => e, id⟩
  have aO : ∀ a ∈ adrs (O 0), ∃ o, s2.heap.get? a = some o := fun a ha => by
    obtain ⟨o, ho, e⟩ := List.mem_filterMap.mp ha
    exact (H.holds o ho).live e
  have F0 : ∀ tk : Nat, Fr c ([Own.lst D []] ++ O 0) (capt scope l) g1 { s2 with heap := h3, toks := tk } := fun tk => by
    refine ⟨cxok, fun x r e => ?_, k1.trans (k3 tk), lg1'.trans (nv_mono (k3 tk).keep), ⟨_, nsC⟩, fun x a e => ⟨_, (cok.empty x a e).1⟩, g1n _ nC, fun x a e => g1n _ (nCs x a e), ⟨fun o ho => ?_, fun a ha => ?_, fun i hi => ?_, ?_, ?_⟩, fun a ha => ?_⟩
    · rw [capt, lookup_filter (fun y => scope.names.lookup y == some .free)] at e
      cases q : (scope.names.lookup x == some .free) with
      | false => rw [q] at e; cases e
      | true =>
        rw [q, if_pos rfl] at e
        have hfr : (x, NameKind.free) ∈ scope.names := mem_of_lookup (eq_of_beq q)
        obtain ⟨f1, f2, _⟩ := ok.free _ hfr
        obtain ⟨v, hv, hrep⟩ := P.loc _ _ e
        refine ⟨v, .inr ⟨?_, f1, ?_⟩, Rep.mono lg1 _ _ hrep⟩
        · show (relabel scope env).names.lookup x = _ ∨ (relabel scope env).names.lookup x = _
          rw [relabel_lookup, eq_of_beq q]
          simp only [Option.map_some]
          split
          · exact .inl rfl
          · exact .inr rfl
        · rcases hv with ⟨q, _⟩ | ⟨_, _, cc, o, q1, q2, q3⟩
          · rcases f2 with f2 | f2 <;> (rw [f2] at q; cases q)
          · refine ⟨cc, o, ?_, (k3 tk).keep _ _ (k1.keep _ _ q2), q3⟩
            show (cs ++ cl).lookup x = some cc
            rw [lookup_app, csNot x hfr, clIs x hfr cc q1]; rfl
    · rcases List.mem_append.mp ho with ho | ho
      · rw [List.mem_singleton.mp ho]
        exact ⟨[], 0, gD, Reps.nil⟩
      · exact (H.holds o ho).chg (View.Le.refl _) ((k3 tk).chg [] []) (fun _ _ q => by cases q) (fun _ _ q => by cases q)
    · rw [adrs_app] at ha
      rcases List.mem_append.mp ha with ha | ha
      · have : a = D := by simpa [adrs, Own.adr] using ha
        subst this
        exact ⟨none_back k1 nD, g1n _ nD⟩
      · exact H.ownA a ha
    · rw [gixs_app] at hi
      rcases List.mem_append.mp hi with hi | hi
      · simp [gixs, Own.gix] at hi
      · exact H.ownG i hi
    · rw [adrs_app]
      refine List.nodup_append.mpr ⟨by simp [adrs, Own.adr], H.ndA, fun a ha b hb e => ?_⟩
      have : a = D := by simpa [adrs, Own.adr] using ha
      subst this; subst e
      obtain ⟨o, ho⟩ := aO _ hb
      rw [nD] at ho; cases ho
    · rw [gixs_app]
      exact List.nodup_append.mpr ⟨List.nodup_nil, H.ndG, fun a ha => by cases ha⟩
    · rw [adrs_app] at ha
      rcases List.mem_append.mp ha with ha | ha
      · have : a = D := by simpa [adrs, Own.adr] using ha
        subst this
        refine ⟨?_, fun x b e q => ?_⟩
        · show a ≠ C
          rw [eC]; exact Nat.ne_of_lt (Nat.lt_succ_self _)
        · subst q
          have := (cok.empty x b e).2
          rw [eC] at this
          exact absurd (Nat.lt_of_lt_of_le (Nat.lt_of_lt_of_le (Nat.lt_succ_self b) (Nat.le_succ _)) this) (Nat.lt_irrefl _)
      · obtain ⟨o, ho⟩ := aO _ ha
        refine ⟨fun q => ?_, fun x b e q => ?_⟩
        · rw [q] at ho
          have : s2.heap.get? C = some o := ho
          rw [nC] at this; cases this
        · subst q
          rw [nCs x b e] at ho; cases ho
  have loop : ∀ tk : Nat, codeAny (model p w) A (.compLoop (.ListComp elt [⟨target, iter, ifs, 0⟩] scope pos) 0 it (.ref D) c.env) (RR (.ref D) C) { s2 with heap := h3, toks := tk } := by
    intro tk
    refine my_loop (fun m s' => ∃ i g', i ≤ xs.length ∧ g1.Le g' ∧ Fr c ([Own.lst D (((xs.take i).filter tst).map res)] ++ O i) (capt scope l) g' s' ∧ m = xs.length + 1 - i) ?_ (xs.length + 1) ⟨0, g1, Nat.zero_le _, View.Le.refl _, by simpa using F0 tk, rfl⟩
    rintro m s' ⟨i, g', hi, hg', F, rfl⟩
    by_cases hlt : i < xs.length
    · have hx : (xs.map emb)[i]? = some (emb xs[i]) := by simp [hlt]
      refine wpAny_mono (I.takeF (E := notedBy (model p w) A c.env fun e s' => RR (.ref D) C (.error e) s') (Q := fun v s2 => wpAny (model p w) A (assign target c.env v) (fun _ s₂ =>
          wpAny (model p w) A (forIn ifs true fun c' r => if r = true then do let ok ← isTrue c' c.env (eval c' c.env); pure (ForInStep.yield ok) else pure (ForInStep.yield r)) (fun ok s₃ => if ok = true then wpAny (model p w) A (eval elt c.env) (fun x s₄ =>
            wpAny (model p w) A (call (.builtin "list.append") [.ref D, x]) (fun _ s₅ => ∃ m, m < xs.length + 1 - i ∧ ∃ i g', i ≤ xs.length ∧ g1.Le g' ∧ Fr c ([Own.lst D (((xs.take i).filter tst).map res)] ++ O i) (capt scope l) g' s₅ ∧ m = xs.length + 1 - i) (notedBy (model p w) A c.env fun e s' => RR (.ref D) C (.error e) s') s₄) (notedBy (model p w) A c.env fun e s' => RR (.ref D) C (.error e) s') s₃
            else ∃ m, m < xs.length + 1 - i ∧ ∃ i g', i ≤ xs.length ∧ g1.Le g' ∧ Fr c ([Own.lst D (((xs.take i).filter tst).map res)] ++ O i) (capt scope l) g' s₃ ∧ m = xs.length + 1 - i) (notedBy (model p w) A c.env fun e s' => RR (.ref D) C (.error e) s') s₂)
          (notedBy (model p w) A c.env fun e s' => RR (.ref D) C (.error e) s') s2) hA F hg' hx fun v g3 s3 hg3 F3 hv => ?_) (fun rv s1 h => ?_) fun _ _ h => h
      · obtain ⟨bs, hb, ht, he⟩ := turn C (cs ++ cl) g3 (lg1.trans (hg'.trans hg3)) xs[i] (List.getElem_mem hlt)
        refine F3.asg hA.handled (hb.mono sto) hv fun s4 F4 => ?_
        refine ht.run s4 F4.pre _ _ fun s5 k5 => ?_
        have F5 := F4.keep k5
        have htk : xs.take (i + 1) = xs.take i ++ [xs[i]] := by rw [List.take_add_one]; simp [hlt]
        have hwk : ∀ {s : Shared} {own : List Own} {g : View}, Fr c own (bs ++ capt scope l) g s → Fr c own (capt scope l) g s := fun F => F.weaken fun x r e => by
          -- the names bound are the comprehension's own: none of them is taken from outside
          rw [lookup_app]
          have hnone : bs.lookup x = none := by
            have hfr : scope.names.lookup x = some .free := by
              rw [capt, lookup_filter (fun y => scope.names.lookup y == some .free)] at e
              cases q : (scope.names.lookup x == some .free) with
              | false => rw [q] at e; cases e
              | true => exact eq_of_beq q
            have neq : ∀ y, own1 scope y → (x == y) = false := fun y hy => by
              cases q : x == y with
              | false => rfl
              | true =>
                rw [← eq_of_beq q] at hy
                rcases hy with hy | ⟨hy, _⟩ <;> (rw [hfr] at hy; cases hy)
            revert hb
            generalize emb xs[i] = r0
            intro hb
            cases hb with
            | name h => simp [List.lookup_cons, neq _ h]
            | tup2 h h' => simp [List.lookup_cons, neq _ h, neq _ h']
            | tup3 h h' h'' => simp [List.lookup_cons, neq _ h, neq _ h', neq _ h'']
          rw [hnone]; exact e
        cases hts : tst xs[i] with
        | false =>
          rw [if_neg (by simp)]
          refine ⟨xs.length + 1 - (i + 1), by omega, i + 1, g3, hlt, hg'.trans hg3, ?_, rfl⟩
          have e3 : ((xs.take (i + 1)).filter tst).map res = ((xs.take i).filter tst).map res := by rw [htk, List.filter_append]; simp [hts]
          rw [e3]
          exact hwk F5
        | true =>
          rw [if_pos rfl]
          refine (he hts).run s5 F5.pre _ _ fun v6 s6 k6 hv6 => ?_
          have F6 := hwk (F5.step k6)
          obtain ⟨vs, nn, hD6, hvs⟩ := F6.hold.holds (Own.lst D _) List.mem_cons_self
          have hlen : vs.length ≤ sizeLine := by
            rw [hvs.length, List.length_map]
            have := List.length_filter_le tst (xs.take i)
            have := List.length_take_le i xs
            unfold sizeLine
            omega
          refine wpAny_list_append_plain (items := vs.toArray) ⟨nn, hD6⟩ (fun h7 hl7 hs7 => ?_) (by simpa using hlen)
          obtain ⟨n7, hg7⟩ := hl7
          have k7 : Chg [D] [] s6 { s6 with heap := h7 } := ⟨fun b o hb e => hs7.extBut b o (by simpa using hb) e, rfl, fun _ _ _ e => e, id⟩
          have F7 : Fr c (O (i + 1) ++ [Own.lst D (((xs.take (i + 1)).filter tst).map res)]) (capt scope l) (nv (nv g3 s5.heap s6.heap) s6.heap h7) { s6 with heap := h7 } := by
            refine Fr.chg (O := [Own.lst D (((xs.take i).filter tst).map res)]) (s := s6) ?_ k7 rfl rfl fun o ho => ?_
            · exact F6.swap
            · rw [List.mem_singleton.mp ho]
              refine ⟨vs ++ [v6], n7, ?_, ?_⟩
              · rw [hg7]; simp
              · rw [htk, List.filter_append, List.map_append]
                simp only [List.filter_cons, hts, if_true, List.filter_nil, List.map_cons, List.map_nil]
                exact Reps.mono (nv_le _ _ _) _ _ (Reps.append hvs (Reps.cons hv6 Reps.nil))
          exact ⟨xs.length + 1 - (i + 1), by omega, i + 1, _, hlt, ((hg'.trans hg3).trans (nv_le _ _ _)).trans (nv_le _ _ _), F7.swap, rfl⟩
      · cases rv with
        | none => exact h.elim
        | some v => exact h
    · have hie : i = (xs.map emb).length := by rw [List.length_map]; omega
      have F' : Fr c ([Own.lst D (((xs.take i).filter tst).map res)] ++ O (xs.map emb).length) (capt scope l) g' s' := by rw [← hie]; exact F
      refine wpAny_mono (I.doneF (own := [Own.lst D (((xs.take i).filter tst).map res)]) (Q := fun s1 => RR (.ref D) C (.ok .next) s1) hA F' hg' fun g3 s3 hg3 F3 => ?_) (fun rv s1 h => ?_) fun _ _ h => h
      · have htake : xs.take i = xs := List.take_of_length_le (by omega)
        rw [htake] at F3
        obtain ⟨vs, nn, hD6, hvs⟩ := F3.hold.holds (Own.lst D _) List.mem_cons_self
        have hDo := (F3.hold.ownA D (by simp [adrs, Own.adr]))
        refine hRR C D (fun b => if b = D then s3.heap.get? D else g3 b) s3 F3.gr (none_back k1 nC) F3.ns ?_ ?_ ?_ ?_
        · intro b o e
          have e3 := hg3 _ _ (hg' _ _ (lg1 _ _ e))
          by_cases q : b = D
          · rw [q, hDo.2] at e3; cases e3
          · show (if b = D then _ else _) = _
            rw [if_neg q]; exact e3
        · intro b o e
          dsimp only at e
          split at e
          · rename_i q
            subst q
            unfold nv
            have : g b = none := by
              cases q : g b with
              | none => rfl
              | some x => have := P.sub _ _ q; rw [hDo.1] at this; cases this
            rw [this, hDo.1]; exact e
          · exact F3.le _ _ e
        · show (if C = D then _ else _) = _
          rw [if_neg (by rw [eC]; exact Nat.succ_ne_self _)]; exact F3.gL
        · refine rep_lst (vs := vs) (n := nn) ?_ (Reps.mono (fun b o e => ?_) _ _ hvs)
          · show (if D = D then _ else _) = _
            rw [if_pos rfl]; exact hD6
          · show (if b = D then _ else _) = _
            by_cases q : b = D
            · rw [q, hDo.2] at e; cases e
            · rw [if_neg q]; exact e
      · cases rv with
        | none => exact h
        | some v => exact h.elim
  have e3 : ({ s2 with heap := pushCells h2 scope.names } : Shared) = { s2 with heap := h3, toks := s2.toks } := by rw [hh3]
  refine codeAny_compStart_list ?_ ?_
  · exact loop _
  · exact I.self (fun o ho => (F0 _).hold.holds o (List.mem_append_right _ ho)) (loop _)
end
end Mine
end
section
set_option Elab.async false
set_option linter.unusedVariables false
set_option maxRecDepth 10000
namespace Mine
open PySem PySem.W PySem.Calls PyProof.Rows

section
variable {p : Program} {w : World} {A : Around} {n : Nat} {env : Env} {l : List (Str × PV)} {g : View} {E : Value → Shared → Prop} {s : Shared}

noncomputable def TurnOk (p : Program) (w : World) (A : Around) (env : Env) (l : List (Str × PV)) (g : View) (scope : Scope) (target elt : Expr) (ifs : List Expr) (r : PV) (t : Bool) (u : PV) : Prop :=
  ∀ C cells, ∀ g', g.Le g' → ∃ bs, Binds (own1 scope) target r bs ∧ EvT p w A (compEnvC scope cells C env) (bs ++ capt scope l) g' ifs t ∧ (t = true → Ev p w A (compEnvC scope cells C env) (bs ++ capt scope l) g' elt u)

theorem closure_P {scope : Scope} (P : Pre w.params env l g s) (ok : CompOk env scope l) : closureFor scope env = pure ((scope.names.filter (·.2 == .free)).map fun y => (y.1, (env.cells.lookup y.1).getD 0)).reverse := by
  refine closureFor_of (fun x => (env.cells.lookup x).getD 0) fun x hx => ?_
  obtain ⟨f1, f2, f3⟩ := ok.free _ hx
  obtain ⟨r, hr⟩ := Option.isSome_iff_exists.mp f3
  obtain ⟨v, hv, hrep⟩ := P.loc _ _ hr
  rcases hv with ⟨q, _⟩ | ⟨_, _, cc, o, q1, q2, q3⟩
  · rcases f2 with f2 | f2 <;> (rw [f2] at q; cases q)
  · rw [q1]; rfl
theorem names_of {scope : Scope} (ok : CompOk env scope l) : ∀ x ∈ scope.names, x.2 = NameKind.local → scope.names.lookup x.1 = some .local := fun x hx hk => by
  obtain ⟨x, k⟩ := x
  cases hk
  exact lookup_of_nd ok.nd hx

/-- a list comprehension as an expression -/
theorem Ev.comp {α : Type} {elt target iter : Expr} {ifs : List Expr} {scope : Scope} {pos : Pos} (xs : List α) (emb : α → PV) (tst : α → Bool) (res : α → PV)
    (hA : AOk n A) (src : SrcE p w A n env l g iter target (xs.map emb)) (ok : CompOk env scope l) (hsz : xs.length ≤ 100000)
    (turn : ∀ x, x ∈ xs → TurnOk p w A env l g scope target elt ifs (emb x) (tst x) (res x)) (hs : ∀ x, foldedSetIterable iter env x = pure x := by intro _; rfl) :
    Ev p w A env l g (.ListComp elt [⟨target, iter, ifs, 0⟩] scope pos) (.lst ((xs.filter tst).map res)) := .mk fun s P Q E hQ => by
  rw [eval_ListComp]
  refine wpAny_comprehension_free (use := none) rfl hs (closure_P P ok) ok.kind (names_of ok) ?_
  refine comp_core (RR := fun acc C => compPost (model p w) A E none Q acc C) xs emb tst res P hA src ok hsz rfl (fun C cells g' hg x hx => turn x hx C cells g' hg) fun C D g2 s' k nC hm lg lg' gC r => ?_
  obtain ⟨m, hm⟩ := hm
  refine ⟨m, hm, fun h' hs' => hQ _ _ ?_ (Rep.mono (fun b o e => ?_) _ _ r)⟩
  · exact (k.trans (Gr.refl _)).trans ⟨fun b o e => e, rfl, fun _ _ e => e, id⟩ |> fun (_ : Gr s s') => ⟨fun b o e => hs'.extBut b o (fun q => by rw [q, nC] at e; cases e) (k.keep b o e), k.os, k.gens, k.bare⟩
  · have hb : b ≠ C := fun q => by rw [q, gC] at e; cases e
    have := lg' b o e
    unfold nv at this ⊢
    cases q0 : g b with
    | some y => rw [q0] at this; exact this
    | none =>
      rw [q0] at this
      cases q1 : s.heap.get? b with
      | some y => rw [q1] at this; cases this
      | none => rw [q1] at this; exact hs'.extBut b o hb this

end

section
variable {p : Program} {A : Around} {n : Nat} {c : Cx} {own : List Own} {l : List (Str × PV)} {g : View} {E : Value → Shared → Prop} {s : Shared}
/-- a name takes a list comprehension's value, on one line -/
theorem Fr.assignComp {α : Type} {elt target iter : Expr} {ifs : List Expr} {scope : Scope} {pos spos py : Pos} {y : Str} {Q : Flow → Shared → Prop} (F : Fr c own l g s) (xs : List α) (emb : α → PV) (tst : α → Bool) (res : α → PV)
    (hA : AOk n A) (src : SrcE p c.w A n c.env l g iter target (xs.map emb)) (ok : CompOk c.env scope l) (hsz : xs.length ≤ 100000) (hy : Sto c y)
    (turn : ∀ x, x ∈ xs → TurnOk p c.w A c.env l g scope target elt ifs (emb x) (tst x) (res x))
    (h : ∀ g' s', g.Le g' → Fr c own ((y, .lst ((xs.filter tst).map res)) :: l) g' s' → Q .next s')
    (hsw : swapsWith (.ListComp elt [⟨target, iter, ifs, 0⟩] scope pos) (some (.Name y py)) spos.line c.env = pure true) (hs : ∀ x, foldedSetIterable iter c.env x = pure x := by intro _; rfl) :
    wpAny (model p c.w) A (exec (.Assign [.Name y py] (.ListComp elt [⟨target, iter, ifs, 0⟩] scope pos) spos) c.env) Q E s := by
  rw [exec_Assign_Name_used _ _ _ _ hsw]
  refine wpAny_bind (wpAny_standAt (wpAny_bind ?_))
  show wpAny _ A (do let _ ← comprehension (.ListComp elt [⟨target, iter, ifs, 0⟩] scope pos) scope c.env _ (newList []) false (eval iter c.env) (some (assign (.Name y py) c.env))) _ _ s
  refine wpAny_bind (wpAny_mono (wpAny_comprehension_free (use := some (assign (.Name y py) c.env)) (Q := fun _ s' => Q .next s') rfl hs (closure_P F.pre ok) ok.kind (names_of ok) ?_) (fun _ s' hq => wpAny_pure (wpAny_pure hq)) fun _ _ e => e)
  refine comp_core (RR := fun acc C => compPost (model p c.w) A E (some (assign (.Name y py) c.env)) (fun _ s' => Q .next s') acc C) xs emb tst res F.pre hA src ok hsz rfl (fun C cells g' hg x hx => turn x hx C cells g' hg) fun C D g2 s' k nC hm lg lg' gC r => ?_
  have F2 : Fr c (own ++ [.is C fun o => ∃ es ep, o.data = .dict es ep ∧ StrKeys es]) l g2 s' := F.gain k lg lg' (by
    refine ⟨fun o ho => ?_, fun a ha => ?_, (fun i hi => by cases hi), by simp [adrs, Own.adr], List.nodup_nil⟩
    · rw [List.mem_singleton.mp ho]
      obtain ⟨m, o, es, ep, h1, h2, h3, _⟩ := hm
      exact ⟨o, h1, es, ep, h2, h3⟩
    · have : a = C := by simpa [adrs, Own.adr] using ha
      subst this
      exact ⟨nC, gC⟩)
  show wpAny _ A (assign (.Name y py) c.env (.ref D)) _ _ _
  refine wpAny_assign_Name (F2.store hy r fun s3 F3 => ?_)
  obtain ⟨o, h1, es, ep, h2, h3⟩ := F3.hold.holds (Own.is C _) (List.mem_append_right _ (List.mem_singleton.mpr rfl))
  refine ⟨_, ⟨o, es, ep, h1, h2, h3, fun _ => rfl⟩, fun h' hs' => ?_⟩
  have k4 : Chg [C] [] s3 { s3 with heap := h' } := ⟨fun b o hb e => hs'.extBut b o (by simpa using hb) e, rfl, fun _ _ _ e => e, id⟩
  exact h _ _ lg (Fr.spoil F3 k4)
end
end Mine
end
section
set_option Elab.async false
set_option linter.unusedVariables false
set_option maxRecDepth 10000
namespace Mine
open PySem PySem.W PySem.Calls PyProof.Rows

section
variable {p : Program} {w : World} {A : Around} {n : Nat} {env : Env} {l : List (Str × PV)} {g : View} {E : Value → Shared → Prop} {s : Shared}

noncomputable abbrev tupleOwners : List String := ["enumerate", "zip", "dict_itemiterator", "dict_reverseitemiterator", "odict_iterator", "itertools.zip_longest", "itertools.pairwise"]
theorem go_plain {target : Expr} {I : Addr} {v : Value} {o : Obj} {nm : String} {Q : Unit → Shared → Prop} (ho : s.heap.get? I = some o) (hc : o.cls = .type nm) (hn : tupleOwners.contains nm = false) (h : Q () s) :
    wpAny (model p w) A (letOwnedTupleGo target (.ref I) v) Q E s := by
  have main : wpAny (model p w) A (do
      let (.ref r, .ref a) := ((.ref I : Value), v) | return
      let o ← load r
      match o.cls, o.data with
      | .type n, .fields vs =>
        if ["enumerate", "zip", "dict_itemiterator", "dict_reverseitemiterator", "odict_iterator", "itertools.zip_longest", "itertools.pairwise"].contains n && vs[0]? == some (rawInt a) then
          rule "for.unpacks-the-owned-tuple"
          updateField r 0 .none
      | _, _ => pure ()) Q E s := by
    cases v with
    | ref a =>
      refine wpAny_bind (wpAny_load ho ?_)
      rw [hc]
      cases hd : o.data with
      | fields vs =>
        dsimp only
        rw [if_neg (by rw [show (["enumerate", "zip", "dict_itemiterator", "dict_reverseitemiterator", "odict_iterator", "itertools.zip_longest", "itertools.pairwise"].contains nm) = false from hn, Bool.false_and]; exact Bool.false_ne_true)]
        exact wpAny_pure h
      | _ => exact wpAny_pure h
    | _ => exact wpAny_pure h
  cases target <;> first | exact wpAny_pure h | exact main

theorem view_none {g : View} {h : Heap} (hg : g.Sub h) {a : Addr} (e : h.get? a = none) : g a = none := by
  cases q : g a with
  | none => rfl
  | some o => rw [hg _ _ q] at e; cases e
theorem Reps.none_of {g : View} : ∀ {ps : List PV} {vs : List Value} {i : Nat}, Reps g ps vs → ps.length ≤ i → vs[i]? = none := fun h hi => by
  rw [List.getElem?_eq_none_iff, h.length]; exact hi

noncomputable abbrev listItO (I a : Addr) (i : Nat) : List Own := [.is I fun o => o.cls = .type "list_iterator" ∧ o.data = .fields #[.ref a, .int i 0]]
theorem It.list {target : Expr} {I a : Addr} {vs : List Value} {k : Nat} {rs : List PV} (ha : g a = some ⟨.type "list", none, .seq (List.toArray vs) k, #[]⟩) (hr : Reps g rs vs) (hI : g I = none) :
    It p w n target (.ref I) [I] [] rs g (listItO I a) where
  eA := fun i => rfl
  eG := fun i => rfl
  next := fun {A i r g' s Q E} hA hb hg hs ho hn hi hQ => by
    obtain ⟨o, h1, h2, h3⟩ := ho _ List.mem_cons_self
    have ha' := hs _ _ (hg _ _ ha)
    obtain ⟨v, hv1, hv2⟩ := hr.get hi
    have haI : a ≠ I := fun q => by rw [q, hI] at ha; cases ha
    refine wpAny_pyNext_list_item (i := i) ⟨o, h1, h2, h3⟩ ⟨_, ha', rfl, _, rfl⟩ (x := v) (by simpa using hv1) fun h' hit' hs' => ?_
    obtain ⟨o', q1, q2, q3⟩ := hit'
    refine go_plain (nm := "list_iterator") q1 q2 (by decide) (hQ v _ ⟨fun b o hb e => hs'.extBut b o (by simpa using hb) e, rfl, fun _ _ _ e => e, id⟩ (fun x hx => ?_) (Rep.mono (hg.trans (nv_le _ _ _)) _ _ hv2))
    rw [List.mem_singleton.mp hx]
    exact ⟨o', q1, q2, q3⟩
  done := fun {A g' s Q E} hA hb hg hs ho hn hQ => by
    obtain ⟨o, h1, h2, h3⟩ := ho _ List.mem_cons_self
    have ha' := hs _ _ (hg _ _ ha)
    refine wpAny_pyNext_list_end hA.handled (i := rs.length) ⟨o, h1, h2, h3⟩ ⟨_, ha', rfl, _, rfl⟩ (by simpa using hr.none_of (Nat.le_refl _)) fun h' he => ?_
    exact hQ _ ⟨fun b o hb e => he b o (by simpa using hb) e, rfl, fun _ _ _ e => e, id⟩
  self := fun {A g' s Q E} ho hQ => by
    obtain ⟨o, h1, h2, h3⟩ := ho _ List.mem_cons_self
    exact wpAny_pyIter_listiter (l := a) (i := 0) ⟨o, h1, h2, h3⟩ hQ

theorem SrcE.list {iter target : Expr} {rs : List PV} (h : Ev p w A env l g iter (.lst rs)) : SrcE p w A n env l g iter target rs := .mk fun s P Q E hQ =>
  h.run s P _ _ fun v s1 k1 r1 => by
    obtain ⟨a, vs, m, rfl, ha, hr⟩ := rep_lst_inv r1
    have sub1 := nv_sub P.sub k1.keep
    refine wpAny_pyIter_list ⟨_, sub1 _ _ ha, rfl, _, rfl⟩ ?_
    have nI : s1.heap.get? s1.heap.objs.size = none := get_size (Nat.le_refl _)
    have gI : nv g s.heap s1.heap s1.heap.objs.size = none := view_none sub1 nI
    refine hQ (.ref s1.heap.objs.size) [s1.heap.objs.size] [] (listItO s1.heap.objs.size a) _ (nv g s.heap s1.heap) (k1.trans gr_push) (nv_le _ _ _) (nv_mono fun b o e => Heap.get?_push_of_some _ e) ⟨fun o ho => ?_, fun b hb => ?_, fun i hi => (by cases hi), by simp [adrs, Own.adr], List.nodup_nil⟩ (It.list ha hr gI)
    · rw [List.mem_singleton.mp ho]
      exact ⟨_, Heap.get?_push_size _ rfl, rfl, rfl⟩
    · have : b = s1.heap.objs.size := by simpa [adrs, Own.adr] using hb
      subst this
      exact ⟨none_back k1 nI, gI⟩

-- signs of a text
noncomputable abbrev strItO (I : Addr) (x : Str) (t : Tok) (i : Nat) : List Own := [.is I fun o => o.cls = .type (strIterType x) ∧ o.data = .fields #[.str x t, .int i 0]]
noncomputable def chs (x : Str) : List PV := x.cps.toList.map fun c => .str ⟨#[c]⟩
theorem It.str {target : Expr} {I : Addr} {x : Str} {t : Tok} : It p w n target (.ref I) [I] [] (chs x) g (strItO I x t) where
  eA := fun i => rfl
  eG := fun i => rfl
  next := fun {A i r g' s Q E} hA hb hg hs ho hn hi hQ => by
    obtain ⟨o, h1, h2, h3⟩ := ho _ List.mem_cons_self
    unfold chs at hi
    rw [List.getElem?_map] at hi
    obtain ⟨cc, hc1, hc2⟩ := Option.map_eq_some_iff.mp hi
    subst hc2
    have hx : x.cps[i]? = some cc := by simpa using hc1
    have fin : ∀ h', h'.IsStrIter I (strIterType x) x t (i + 1) → Heap.SameBut I s.heap h' → wpAny (model p w) A (letOwnedTupleGo target (.ref I) (.str ⟨#[cc]⟩ s.toks)) (fun _ s2 => Q (.str ⟨#[cc]⟩ s.toks) s2) E { s with heap := h', toks := s.toks + 1 } := by
      intro h' hit' hs'
      obtain ⟨o', q1, q2, q3⟩ := hit'
      refine go_plain (nm := strIterType x) q1 q2 (by unfold strIterType; split <;> decide) (hQ _ _ ⟨fun b o hb e => hs'.extBut b o (by simpa using hb) e, rfl, fun _ _ _ e => e, id⟩ (fun y hy => ?_) rep_str)
      rw [List.mem_singleton.mp hy]
      exact ⟨o', q1, q2, q3⟩
    cases hq : x.cps.all (· < 128) with
    | true =>
      have e : strIterType x = "str_ascii_iterator" := by unfold strIterType; rw [hq]; rfl
      rw [e] at h2 fin
      exact wpAny_pyNext_ascii_item (i := i) ⟨o, h1, h2, h3⟩ hx fin
    | false =>
      have e : strIterType x = "str_iterator" := by unfold strIterType; rw [hq]; rfl
      rw [e] at h2 fin
      exact wpAny_pyNext_wide_item (i := i) ⟨o, h1, h2, h3⟩ hx fin
  done := fun {A g' s Q E} hA hb hg hs ho hn hQ => by
    obtain ⟨o, h1, h2, h3⟩ := ho _ List.mem_cons_self
    have hx : x.cps[(chs x).length]? = none := by unfold chs; simp
    have fin : ∀ h', Heap.ExtBut I s.heap h' → Q { s with heap := h' } := fun h' he => hQ _ ⟨fun b o hb e => he b o (by simpa using hb) e, rfl, fun _ _ _ e => e, id⟩
    cases hq : x.cps.all (· < 128) with
    | true =>
      have e : strIterType x = "str_ascii_iterator" := by unfold strIterType; rw [hq]; rfl
      rw [e] at h2
      exact wpAny_pyNext_ascii_end hA.handled ⟨o, h1, h2, h3⟩ hx fin
    | false =>
      have e : strIterType x = "str_iterator" := by unfold strIterType; rw [hq]; rfl
      rw [e] at h2
      exact wpAny_pyNext_wide_end hA.handled ⟨o, h1, h2, h3⟩ hx fin
  self := fun {A g' s Q E} ho hQ => by
    obtain ⟨o, h1, h2, h3⟩ := ho _ List.mem_cons_self
    cases hq : x.cps.all (· < 128) with
    | true =>
      have e : strIterType x = "str_ascii_iterator" := by unfold strIterType; rw [hq]; rfl
      rw [e] at h2
      exact wpAny_pyIter_striter_ascii (i := 0) ⟨o, h1, h2, h3⟩ hQ
    | false =>
      have e : strIterType x = "str_iterator" := by unfold strIterType; rw [hq]; rfl
      rw [e] at h2
      exact wpAny_pyIter_striter_wide (i := 0) ⟨o, h1, h2, h3⟩ hQ
theorem SrcE.str {iter target : Expr} {x : Str} (h : Ev p w A env l g iter (.str x)) : SrcE p w A n env l g iter target (chs x) := .mk fun s P Q E hQ =>
  h.run s P _ _ fun v s1 k1 r1 => by
    obtain ⟨t, rfl⟩ := rep_str_inv r1
    have sub1 := nv_sub P.sub k1.keep
    refine wpAny_pyIter_strU ?_
    have nI : s1.heap.get? s1.heap.objs.size = none := get_size (Nat.le_refl _)
    have gI : nv g s.heap s1.heap s1.heap.objs.size = none := view_none sub1 nI
    refine hQ (.ref s1.heap.objs.size) [s1.heap.objs.size] [] (strItO s1.heap.objs.size x t) _ (nv g s.heap s1.heap) (k1.trans gr_push) (nv_le _ _ _) (nv_mono fun b o e => Heap.get?_push_of_some _ e) ⟨fun o ho => ?_, fun b hb => ?_, fun i hi => (by cases hi), by simp [adrs, Own.adr], List.nodup_nil⟩ It.str
    · rw [List.mem_singleton.mp ho]
      exact ⟨_, Heap.get?_push_size _ rfl, rfl, rfl⟩
    · have : b = s1.heap.objs.size := by simpa [adrs, Own.adr] using hb
      subst this
      exact ⟨none_back k1 nI, gI⟩
end
end Mine
end
section
set_option Elab.async false
set_option linter.unusedVariables false
set_option maxRecDepth 10000
namespace Mine
open PySem PySem.W PySem.Calls PyProof.Rows

section
variable {p : Program} {w : World} {A : Around} {n : Nat} {env : Env} {l : List (Str × PV)} {g : View} {E : Value → Shared → Prop} {s : Shared}

/-- arguments are read -/
theorem args_ {f : Value} {e : Expr} {es : List Expr} {rs : List PV} {pos : Pos} {R : Args → Shared → Prop} (P : Pre w.params env l g s) (h : Evs p w A env l g (e :: es) rs)
    (he : starEach (e :: es) env = (false, eval e env) :: starEach es env) (hR : ∀ vs s1, Gr s s1 → Reps (nv g s.heap s1.heap) rs vs → R ⟨vs, []⟩ s1) :
    wpAny (model p w) A (evalArgs f true (backTo pos (starEach (e :: es) env)) []) R E s := by
  have h' := h.run pos s P (fun vs s1 => R ⟨vs, []⟩ s1) E hR
  rw [he] at h' ⊢
  exact evalArgs_plain h'
theorem call_blt_ {fn : Expr} {x : Str} {px pos : Pos} {id : String} {e : Expr} {es : List Expr} {rs : List PV} {Q : Value → Shared → Prop} (P : Pre w.params env l g s) (hx : env.kindOf x = some .globalImplicit) (hb : BltIs w.params x (.builtin id))
    (h : Evs p w A env l g (e :: es) rs) (hQ : ∀ vs s1, Gr s s1 → Reps (nv g s.heap s1.heap) rs vs → wpAny (model p w) A (call (.builtin id) vs) Q E s1)
    (he : ∀ env, starEach (e :: es) env = (false, eval e env) :: starEach es env := by intro _; rfl) (hplain : ∀ env, (backTo pos (starEach es env)).any (·.1) = false := by intro _; rfl)
    (hd : (x == ("__debug__" : Str)) = false := by decide) : wpAny (model p w) A (eval (.Call (.Name x px) (e :: es) [] pos) env) Q E s := by
  refine wpAny_Call_NameR (builtin_name P hx hb (callWith_builtin (by rw [he]; show (false || (backTo pos (starEach es env)).any (·.1)) = false; rw [hplain]; rfl) (args_ P h (he env) fun vs s1 k r => ?_)) hd)
  exact hQ vs s1 k r
theorem call_typ_ {x : Str} {px pos : Pos} {T : String} {e : Expr} {es : List Expr} {rs : List PV} {Q : Value → Shared → Prop} (P : Pre w.params env l g s) (hx : env.kindOf x = some .globalImplicit) (hb : BltIs w.params x (.type T))
    (h : Evs p w A env l g (e :: es) rs) (hQ : ∀ vs s1, Gr s s1 → Reps (nv g s.heap s1.heap) rs vs → wpAny (model p w) A (call (.type T) vs) Q E s1)
    (he : ∀ env, starEach (e :: es) env = (false, eval e env) :: starEach es env := by intro _; rfl) (hplain : ∀ env, (backTo pos (starEach es env)).any (·.1) = false := by intro _; rfl)
    (hd : (x == ("__debug__" : Str)) = false := by decide) : wpAny (model p w) A (eval (.Call (.Name x px) (e :: es) [] pos) env) Q E s := by
  refine wpAny_Call_NameR (builtin_name P hx hb (PyProof.Rows.callWith_type (by rw [he]; show (false || (backTo pos (starEach es env)).any (·.1)) = false; rw [hplain]; rfl) (args_ P h (he env) fun vs s1 k r => ?_)) hd)
  exact hQ vs s1 k r

theorem one_inv {g : View} {r : PV} {vs : List Value} (h : Reps g [r] vs) : ∃ v, vs = [v] ∧ Rep g r v := by
  obtain ⟨v, us, rfl, h1, h2⟩ := h.cons_inv
  cases h2.nil_inv
  exact ⟨v, rfl, h1⟩
theorem two_inv {g : View} {r u : PV} {vs : List Value} (h : Reps g [r, u] vs) : ∃ v v', vs = [v, v'] ∧ Rep g r v ∧ Rep g u v' := by
  obtain ⟨v, us, rfl, h1, h2⟩ := h.cons_inv
  obtain ⟨v', rfl, h3⟩ := one_inv h2
  exact ⟨v, v', rfl, h1, h3⟩

theorem Ev.len {x : Str} {px pos : Pos} {e : Expr} {rs : List PV} (hx : env.kindOf x = some .globalImplicit) (hb : BltIs w.params x (.builtin "len")) (h : Ev p w A env l g e (.lst rs)) (hs : rs.length ≤ 1000000)
    (he : ∀ env, starEach [e] env = [(false, eval e env)] := by intro _; rfl) (hd : (x == ("__debug__" : Str)) = false := by decide) :
    Ev p w A env l g (.Call (.Name x px) [e] [] pos) (.int rs.length) := .mk fun s P Q E hQ =>
  call_blt_ (fn := e) P hx hb (Evs.cons h Evs.nil he) (fun vs s1 k r => by
    obtain ⟨v, rfl, hv⟩ := one_inv r
    obtain ⟨a, vs, m, rfl, ha, hr⟩ := rep_lst_inv hv
    have hl := isList_of (nv_sub P.sub k.keep) ha
    have hn := hr.length
    refine call_len_list hl (by simp [hn]; omega) ?_
    have := hQ (.int rs.length (s1.toks + 1)) { s1 with toks := s1.toks + 1 + 1 } (k.trans Gr.toks) rep_int
    simpa [hn] using this) he (fun _ => rfl) hd
theorem Ev.lenS {x : Str} {px pos : Pos} {e : Expr} {y : Str} (hx : env.kindOf x = some .globalImplicit) (hb : BltIs w.params x (.builtin "len")) (h : Ev p w A env l g e (.str y)) (hs : y.length ≤ 100000000)
    (he : ∀ env, starEach [e] env = [(false, eval e env)] := by intro _; rfl) (hd : (x == ("__debug__" : Str)) = false := by decide) :
    Ev p w A env l g (.Call (.Name x px) [e] [] pos) (.int y.length) := .mk fun s P Q E hQ =>
  call_blt_ (fn := e) P hx hb (Evs.cons h Evs.nil he) (fun vs s1 k r => by
    obtain ⟨v, rfl, hv⟩ := one_inv r
    obtain ⟨t, rfl⟩ := rep_str_inv hv
    exact PySem.P.len_str (by omega) (hQ _ _ (k.trans Gr.toks) rep_int)) he (fun _ => rfl) hd
theorem Ev.ord {x : Str} {px pos : Pos} {e : Expr} {y : Nat} (hx : env.kindOf x = some .globalImplicit) (hb : BltIs w.params x (.builtin "ord")) (h : Ev p w A env l g e (.str ⟨#[y]⟩))
    (he : ∀ env, starEach [e] env = [(false, eval e env)] := by intro _; rfl) (hd : (x == ("__debug__" : Str)) = false := by decide) :
    Ev p w A env l g (.Call (.Name x px) [e] [] pos) (.int y) := .mk fun s P Q E hQ =>
  call_blt_ (fn := e) P hx hb (Evs.cons h Evs.nil he) (fun vs s1 k r => by
    obtain ⟨v, rfl, hv⟩ := one_inv r
    obtain ⟨t, rfl⟩ := rep_str_inv hv
    exact PySem.P.ord_of_char (hQ _ _ (k.trans Gr.toks) rep_int)) he (fun _ => rfl) hd
theorem Ev.chr {x : Str} {px pos : Pos} {e : Expr} {y : Int} (hx : env.kindOf x = some .globalImplicit) (hb : BltIs w.params x (.builtin "chr")) (h : Ev p w A env l g e (.int y)) (h0 : 0 ≤ y) (h1 : y ≤ 1114111)
    (he : ∀ env, starEach [e] env = [(false, eval e env)] := by intro _; rfl) (hd : (x == ("__debug__" : Str)) = false := by decide) :
    Ev p w A env l g (.Call (.Name x px) [e] [] pos) (.str ⟨#[y.toNat]⟩) := .mk fun s P Q E hQ =>
  call_blt_ (fn := e) P hx hb (Evs.cons h Evs.nil he) (fun vs s1 k r => by
    obtain ⟨v, rfl, hv⟩ := one_inv r
    obtain ⟨t, rfl⟩ := rep_int_inv hv
    exact chr_of_range h0 h1 (hQ _ _ (k.trans Gr.toks) rep_str)) he (fun _ => rfl) hd

-- range
noncomputable abbrev rngItO (I : Addr) (m : Nat) (i : Nat) : List Own := [.is I fun o => o = { cls := .type "range_iterator", dict := none, data := .fields #[rawInt (i : Int), rawInt ((m : Int) - i), rawInt 1], slots := #[] }]
noncomputable def upto (m : Nat) : List PV := (List.range m).map fun (i : Nat) => .int (i : Int)
theorem It.range {target : Expr} {I : Addr} {m : Nat} : It p w n target (.ref I) [I] [] (upto m) g (rngItO I m) where
  eA := fun i => rfl
  eG := fun i => rfl
  next := fun {A i r g' s Q E} hA hb hg hs ho hn hi hQ => by
    obtain ⟨o, h1, rfl⟩ := ho _ List.mem_cons_self
    unfold upto at hi
    rw [List.getElem?_map] at hi
    obtain ⟨cc, hc1, hc2⟩ := Option.map_eq_some_iff.mp hi
    obtain ⟨hlt, e⟩ := List.getElem?_eq_some_iff.mp hc1
    rw [List.length_range] at hlt
    rw [List.getElem_range] at e
    subst e hc2
    refine wpAny_pyNext_range_item (x := (i : Int)) (left := (m : Int) - i) (step := 1) h1 (by omega) fun h' hit' hs' => ?_
    refine go_plain (nm := "range_iterator") hit' rfl (by decide) (hQ _ _ ⟨fun b o hb e => hs'.extBut b o (by simpa using hb) e, rfl, fun _ _ _ e => e, id⟩ (fun y hy => ?_) rep_int)
    rw [List.mem_singleton.mp hy]
    refine ⟨_, hit', ?_⟩
    have e2 : (m : Int) - ((i + 1 : Nat) : Int) = (m : Int) - (i : Int) - 1 := by push_cast; omega
    rw [e2]; rfl
  done := fun {A g' s Q E} hA hb hg hs ho hn hQ => by
    obtain ⟨o, h1, rfl⟩ := ho _ List.mem_cons_self
    exact wpAny_pyNext_range_end hA.handled h1 (by unfold upto; simp) fun h' he => hQ _ ⟨fun b o hb e => he b o (by simpa using hb) e, rfl, fun _ _ _ e => e, id⟩
  self := fun {A g' s Q E} ho hQ => by
    obtain ⟨o, h1, rfl⟩ := ho _ List.mem_cons_self
    exact wpAny_pyIter_rangeiter h1 hQ
theorem SrcE.range {x : Str} {px pos : Pos} {e target : Expr} {m : Nat} (hx : env.kindOf x = some .globalImplicit) (hb : BltIs w.params x (.type "range")) (h : Ev p w A env l g e (.int m)) (hm : m ≤ 1000000)
    (he : ∀ env, starEach [e] env = [(false, eval e env)] := by intro _; rfl) (hd : (x == ("__debug__" : Str)) = false := by decide) :
    SrcE p w A n env l g (.Call (.Name x px) [e] [] pos) target (upto m) := .mk fun s P Q E hQ =>
  call_typ_ P hx hb (Evs.cons h Evs.nil he) (fun vs s1 k1 r => by
    obtain ⟨v, rfl, hv⟩ := one_inv r
    obtain ⟨t, rfl⟩ := rep_int_inv hv
    refine call_range_1 ?_
    have sub1 := nv_sub P.sub k1.keep
    refine wpAny_pyIter_range (IsRange.new _ _ _ _ _ _ _) (small_one (by omega) (by omega) (by omega) (by omega)) ?_
    have e1 : Builtin.Range.rangeSize 0 (m : Int) 1 = (m : Int) := by rw [rangeSize_one]; split <;> omega
    rw [e1]
    generalize hh : s1.heap.push { cls := .type "range", data := .fields #[.int 0 s1.toks, .int (m : Int) t, .int 1 (s1.toks + 1)] } = h2
    have k2 : Gr s1 { s1 with heap := h2, toks := s1.toks + 1 + 1 } := by rw [← hh]; exact gr_push
    have nI : h2.get? h2.objs.size = none := get_size (Nat.le_refl _)
    have nI1 : s1.heap.get? h2.objs.size = none := none_back k2 nI
    have gI : nv g s.heap s1.heap h2.objs.size = none := view_none sub1 nI1
    refine hQ (.ref h2.objs.size) [h2.objs.size] [] (rngItO h2.objs.size m) _ (nv g s.heap s1.heap) (k1.trans (k2.trans gr_push)) (nv_le _ _ _) (nv_mono fun b o e => Heap.get?_push_of_some _ (k2.keep _ _ e)) ⟨fun o ho => ?_, fun b hb => ?_, fun i hi => (by cases hi), by simp [adrs, Own.adr], List.nodup_nil⟩ It.range
    · rw [List.mem_singleton.mp ho]
      refine ⟨_, Heap.get?_push_size _ rfl, ?_⟩
      simp
    · have : b = h2.objs.size := by simpa [adrs, Own.adr] using hb
      subst this
      exact ⟨none_back k1 nI1, gI⟩) he (fun _ => rfl) hd

-- enumerate over a list
noncomputable abbrev enumO (e it : Addr) (i : Nat) : Own := .is e fun o => ∃ old, o = { cls := .type "enumerate", dict := none, data := .fields #[.none, .bool false, .ref it, rawInt (i : Int), .none, old], slots := #[] }
noncomputable def enumP (rs : List PV) : List PV := rs.zipIdx.map fun y => .tup [.int y.2, y.1]
theorem enumP_get {rs : List PV} {i : Nat} {r : PV} (h : (enumP rs)[i]? = some r) : ∃ u, rs[i]? = some u ∧ r = .tup [.int i, u] := by
  unfold enumP at h
  rw [List.getElem?_map] at h
  obtain ⟨y, h1, h2⟩ := Option.map_eq_some_iff.mp h
  rw [List.getElem?_zipIdx] at h1
  obtain ⟨u, h3, h4⟩ := Option.map_eq_some_iff.mp h1
  subst h4 h2
  exact ⟨u, h3, by simp⟩
theorem enumP_len {rs : List PV} : (enumP rs).length = rs.length := by unfold enumP; simp
theorem ec_next {e it : Addr} {i : Nat} {r : PV} {x : Value} {g' : View} {elts : List Expr} {k : Nat} {pos : Pos} {h' : Heap} {tk : Nat} {Q : Value → Shared → Prop} {O' : List Own} (hei : e ≠ it)
    (hx : Rep g' r x) (he' : IsEnumOut h' e it ((i : Int) + 1) x s.heap.objs.size) (hT : h'.get? s.heap.objs.size = some { cls := .type "tuple", data := .seq #[.int i tk, x] })
    (hk : ∀ b o, b ≠ e → b ≠ it → s.heap.get? b = some o → h'.get? b = some o) (hs : g'.Sub s.heap) (hO : ∀ h2 : Heap, (∀ b o, b ≠ e → h'.get? b = some o → h2.get? b = some o) → ∀ o ∈ O', o.Holds (nv g' s.heap h2) { s with heap := h2, toks := tk + 1 })
    (hn : g' e = none ∧ g' it = none) (hels : e < s.heap.objs.size)
    (hQ : ∀ v s1, Chg [e, it] [] s s1 → (∀ o ∈ enumO e it (i + 1) :: O', o.Holds (nv g' s.heap s1.heap) s1) → Rep (nv g' s.heap s1.heap) (.tup [.int i, r]) v → Q v s1) :
    wpAny (model p w) A (letOwnedTupleGo (.Tuple elts k pos) (.ref e) (.ref s.heap.objs.size)) (fun _ s2 => Q (.ref s.heap.objs.size) s2) E { s with heap := h', toks := tk + 1 } := by
  refine wpAny_letOwnedTupleGo_enum he' fun h2 he2 hs2 => ?_
  have hTe : s.heap.objs.size ≠ e := Nat.ne_of_gt hels
  have hk2 : ∀ b o, b ≠ e → b ≠ it → s.heap.get? b = some o → h2.get? b = some o := fun b o h1 h3 e' => hs2.extBut b o h1 (hk b o h1 h3 e')
  refine hQ _ _ ⟨fun b o hb e' => hk2 b o (fun q => hb (by simp [q])) (fun q => hb (by simp [q])) e', rfl, fun _ _ _ e => e, id⟩ (fun o ho => ?_) (rep_tup (vs := [.int i tk, x]) (n := 0) ?_ (Reps.cons rep_int (Reps.cons (Rep.mono (nv_le _ _ _) _ _ hx) Reps.nil)))
  · rcases List.mem_cons.mp ho with rfl | ho
    · refine ⟨_, he2, x, ?_⟩
      push_cast; rfl
    · exact hO h2 (fun b o hb e' => hs2.extBut b o hb e') o ho
  · have nT : s.heap.get? s.heap.objs.size = none := get_size (Nat.le_refl _)
    unfold nv
    rw [view_none hs nT, nT]
    exact hs2.extBut _ _ hTe hT
theorem It.enumL {elts : List Expr} {k : Nat} {pos : Pos} {e it a : Addr} {vs : List Value} {m : Nat} {rs : List PV} (ha : g a = some ⟨.type "list", none, .seq (List.toArray vs) m, #[]⟩) (hr : Reps g rs vs) (hei : e ≠ it) (ge : g e = none) (gi : g it = none) :
    It p w n (.Tuple elts k pos) (.ref e) [e, it] [] (enumP rs) g (fun i => enumO e it i :: listItO it a i) where
  eA := fun i => rfl
  eG := fun i => rfl
  next := fun {A i r g' s Q E} hA hb hg hs ho hn hi hQ => by
    obtain ⟨o1, h1, old, rfl⟩ := ho _ List.mem_cons_self
    obtain ⟨o2, h2, h3, h4⟩ := ho _ (List.mem_cons_of_mem _ List.mem_cons_self)
    obtain ⟨u, hu, rfl⟩ := enumP_get hi
    obtain ⟨v, hv1, hv2⟩ := hr.get hu
    have ha' := hs _ _ (hg _ _ ha)
    refine wpAny_pyNext_enum_item (i := i) h1 ⟨o2, h2, h3, h4⟩ ⟨_, ha', rfl, _, rfl⟩ (x := v) (by simpa using hv1) hei fun h' he' hit' hT hsz hk => ?_
    refine ec_next (r := u) hei (Rep.mono hg _ _ hv2) he' hT hk hs (fun h2 hk2 o ho' => ?_) ⟨hn _ List.mem_cons_self, hn _ (List.mem_cons_of_mem _ List.mem_cons_self)⟩ (Heap.lt_size h1) hQ
    rw [List.mem_singleton.mp ho']
    obtain ⟨o', q1, q2, q3⟩ := hit'
    exact ⟨o', hk2 _ _ hei.symm q1, q2, q3⟩
  done := fun {A g' s Q E} hA hb hg hs ho hn hQ => by
    obtain ⟨o1, h1, old, rfl⟩ := ho _ List.mem_cons_self
    obtain ⟨o2, h2, h3, h4⟩ := ho _ (List.mem_cons_of_mem _ List.mem_cons_self)
    have ha' := hs _ _ (hg _ _ ha)
    refine wpAny_pyNext_enum_end (i := (enumP rs).length) hA.handled h1 ⟨o2, h2, h3, h4⟩ ⟨_, ha', rfl, _, rfl⟩ (by rw [enumP_len]; simpa using hr.none_of (Nat.le_refl _)) fun h' he => ?_
    exact hQ _ ⟨fun b o hb e => he b o (fun q => hb (by simp [q])) e, rfl, fun _ _ _ e => e, id⟩
  self := fun {A g' s Q E} ho hQ => by
    obtain ⟨o1, h1, old, rfl⟩ := ho _ List.mem_cons_self
    exact wpAny_pyIter_enum (i := (0 : Nat)) h1 hQ
theorem SrcE.enumL {x : Str} {px pos : Pos} {e : Expr} {elts : List Expr} {k : Nat} {tpos : Pos} {rs : List PV} (hx : env.kindOf x = some .globalImplicit) (hb : BltIs w.params x (.type "enumerate")) (h : Ev p w A env l g e (.lst rs))
    (he : ∀ env, starEach [e] env = [(false, eval e env)] := by intro _; rfl) (hd : (x == ("__debug__" : Str)) = false := by decide) :
    SrcE p w A n env l g (.Call (.Name x px) [e] [] pos) (.Tuple elts k tpos) (enumP rs) := .mk fun s P Q E hQ =>
  call_typ_ P hx hb (Evs.cons h Evs.nil he) (fun vs s1 k1 r => by
    obtain ⟨v, rfl, hv⟩ := one_inv r
    obtain ⟨a, vs, m, rfl, ha, hr⟩ := rep_lst_inv hv
    have sub1 := nv_sub P.sub k1.keep
    refine call_enumerate_list ⟨_, sub1 _ _ ha, rfl, _, rfl⟩ fun h' hE hI hz hk => ?_
    refine wpAny_pyIter_enum hE ?_
    have nI : s1.heap.get? s1.heap.objs.size = none := get_size (Nat.le_refl _)
    have nE : s1.heap.get? (s1.heap.objs.size + 1) = none := get_size (Nat.le_succ _)
    obtain ⟨o2, q1, q2, q3⟩ := hI
    refine hQ (.ref (s1.heap.objs.size + 1)) [s1.heap.objs.size + 1, s1.heap.objs.size] [] (fun i => enumO (s1.heap.objs.size + 1) s1.heap.objs.size i :: listItO s1.heap.objs.size a i) { s1 with heap := h' } (nv g s.heap s1.heap) (k1.trans ⟨hk, rfl, fun _ _ e => e, id⟩) (nv_le _ _ _) (nv_mono hk)
      ⟨fun o ho => ?_, fun b hb => ?_, fun i hi => (by cases hi), ?_, List.nodup_nil⟩ (It.enumL ha hr (Nat.succ_ne_self _) (view_none sub1 nE) (view_none sub1 nI))
    · rcases List.mem_cons.mp ho with rfl | ho
      · exact ⟨_, hE, _, rfl⟩
      · rw [List.mem_singleton.mp ho]; exact ⟨o2, q1, q2, q3⟩
    · have : b = s1.heap.objs.size + 1 ∨ b = s1.heap.objs.size := by simpa [adrs, Own.adr] using hb
      rcases this with rfl | rfl
      · exact ⟨none_back k1 nE, view_none sub1 nE⟩
      · exact ⟨none_back k1 nI, view_none sub1 nI⟩
    · show [s1.heap.objs.size + 1, s1.heap.objs.size].Nodup
      simp) he (fun _ => rfl) hd
end
end Mine
end
section
set_option Elab.async false
set_option linter.unusedVariables false
set_option maxRecDepth 10000
namespace Mine
open PySem PySem.W PySem.Calls PyProof.Rows

theorem Reps.getElem? {g : View} : ∀ {ps : List PV} {vs : List Value} (i : Nat), Reps g ps vs → (ps[i]? = none ∧ vs[i]? = none) ∨ ∃ r v, ps[i]? = some r ∧ vs[i]? = some v ∧ Rep g r v := fun {ps vs} i h => by
  cases q : ps[i]? with
  | none => exact .inl ⟨rfl, by rw [List.getElem?_eq_none_iff] at q ⊢; rw [h.length]; exact q⟩
  | some r => obtain ⟨v, h1, h2⟩ := h.get q; exact .inr ⟨r, v, rfl, h1, h2⟩
theorem Reps.pick {g : View} {ps : List PV} {vs : List Value} (h : Reps g ps vs) : ∀ ix : List Nat, Reps g (ix.filterMap (ps[·]?)) (ix.filterMap (vs[·]?))
  | [] => Reps.nil
  | i :: r => by
    rcases h.getElem? i with ⟨h1, h2⟩ | ⟨u, v, h1, h2, h3⟩
    · rw [List.filterMap_cons, List.filterMap_cons, h1, h2]; exact Reps.pick h r
    · rw [List.filterMap_cons, List.filterMap_cons, h1, h2]; exact Reps.cons h3 (Reps.pick h r)

noncomputable def pickP (ps : List PV) (lo hi st : Option Int) : List PV := (sliceRange (sliceBounds lo hi st ps.length).1 (sliceBounds lo hi st ps.length).2.1 (sliceBounds lo hi st ps.length).2.2).filterMap (ps[·]?)

section
variable {p : Program} {w : World} {A : Around} {n : Nat} {env : Env} {l : List (Str × PV)} {g : View} {E : Value → Shared → Prop} {s : Shared}

theorem plainList_of {g : View} {h : Heap} {a : Addr} {vs : List Value} {n : Nat} (k : g.Sub h) (e : g a = some ⟨.type "list", none, .seq (List.toArray vs) n, #[]⟩) : h.get? a = some { cls := .type "list", dict := none, data := .seq vs.toArray n, slots := #[] } := k _ _ e

theorem Ev.addL {a b : Expr} {pos : Pos} {xs ys : List PV} (ha : Ev p w A env l g a (.lst xs)) (hb : Ev p w A env l g b (.lst ys)) (hsz : xs.length + ys.length ≤ 1000000) : Ev p w A env l g (.BinOp a .Add b pos) (.lst (xs ++ ys)) := .mk fun s P Q E hQ =>
  wpAny_BinOp (Ev.two P ha hb fun u v s2 k r1 r2 => by
    obtain ⟨a1, vs, n1, rfl, h1, q1⟩ := rep_lst_inv r1
    obtain ⟨a2, us, n2, rfl, h2, q2⟩ := rep_lst_inv r2
    have sub2 := nv_sub P.sub k.keep
    have e : vs.toArray ++ us.toArray = (vs ++ us).toArray := by simp
    have hsz' : vs.length + us.length ≤ sizeLine := by rw [q1.length, q2.length]; unfold sizeLine; omega
    refine concat_meets ⟨_, sub2 _ _ h1, rfl⟩ ⟨_, sub2 _ _ h2, rfl⟩ noFill_list_add seq_list_add PySem.F.slot_list_add PySem.F.entry_list_add (PySem.F.args_list_add_2 _ _) (list_addW a1 a2 vs.toArray us.toArray n1 n2 none none #[] #[] (by simpa using hsz')) ⟨sub2 _ _ h1, sub2 _ _ h2, ?_⟩
    rw [e]
    exact hQ _ _ (k.trans gr_push) (rep_lst (nv_later k.keep _ _ (nv_new (P.gr k).sub rfl)) (nvrs k gr_push (q1.append q2))))

theorem fold_rep (items : Array Value) : ∀ (k : Nat) (acc : Array Value), List.foldl (fun x1 x2 => x1 ++ x2) acc (List.replicate k items) = acc ++ (List.replicate k items.toList).flatten.toArray
  | 0, acc => by simp
  | k + 1, acc => by
    rw [List.replicate_succ, List.foldl_cons, fold_rep items k, List.replicate_succ, List.flatten_cons]
    apply Array.ext'
    simp
theorem Reps.rep {g : View} {ps : List PV} {vs : List Value} (h : Reps g ps vs) : ∀ k : Nat, Reps g (List.replicate k ps).flatten (List.replicate k vs).flatten
  | 0 => Reps.nil
  | k + 1 => by rw [List.replicate_succ, List.replicate_succ, List.flatten_cons, List.flatten_cons]; exact h.append (Reps.rep h k)
theorem Ev.mulL {a b : Expr} {pos : Pos} {xs : List PV} {x : Int} (ha : Ev p w A env l g a (.lst xs)) (hb : Ev p w A env l g b (.int x)) (h0 : 0 ≤ x) (h1 : x ≤ 1000) (hsz : xs.length ≤ 1000) : Ev p w A env l g (.BinOp a .Mult b pos) (.lst (List.replicate x.toNat xs).flatten) := .mk fun s P Q E hQ =>
  wpAny_BinOp (Ev.two P ha hb fun u v s2 k r1 r2 => by
    obtain ⟨a1, vs, n1, rfl, h1', q1⟩ := rep_lst_inv r1
    obtain ⟨t, rfl⟩ := rep_int_inv r2
    have sub2 := nv_sub P.sub k.keep
    have hl := sub2 _ _ h1'
    have hlen := q1.length
    have hsz' : vs.toArray.size * x.toNat ≤ 2 ^ 24 := by
      have : vs.toArray.size ≤ 1000 := by simpa [hlen] using hsz
      have h2 : x.toNat ≤ 1000 := by omega
      calc vs.toArray.size * x.toNat ≤ 1000 * 1000 := Nat.mul_le_mul this h2
        _ ≤ 2 ^ 24 := by decide
    have key : List.foldl (fun x1 x2 => x1 ++ x2) #[] (List.replicate (if vs.toArray.isEmpty = true then 0 else x.toNat) vs.toArray) = ((List.replicate x.toNat vs).flatten).toArray := by
      rw [fold_rep]
      apply Array.ext'
      simp only [Array.empty_append]
      split
      · rename_i hh
        have : vs = [] := by simpa using hh
        subst this
        simp
      · rfl
    refine wpAny_binaryOp_repeat_ref (T := "list") (U := "int") (by decide) ⟨_, hl, rfl⟩ (fun s' => typeIs_int s' x t) noFill_list_mul PySem.F.fills_int_mul PySem.F.slot_int_rmul repeat_list PySem.F.slot_int_index.lookup
      (call_meets PySem.F.slot_int_rmul (typeIs_int s2 x t) PySem.F.entry_int_rmul (PySem.F.args_int_rmul_2 _ _) (int___rmul___int_list x t a1 vs.toArray n1)
        ⟨hl, rfl, ⟨_, hl, rfl⟩, call_meets PySem.F.slot_list_mul ⟨_, hl, rfl⟩ PySem.F.entry_list_mul (PySem.F.args_list_mul_2 _ _)
          (AutoListH.list___mul___list_int_3 a1 vs.toArray n1 x t (by simp [Builtin.List.listFitsIndex]; omega) (by omega) (by simp [Builtin.List.listTooLong, sizeLine]; simp at hsz'; omega))
          ⟨hl, ?_⟩⟩)
    rw [key]
    exact hQ _ _ (k.trans gr_push) (rep_lst (nv_later k.keep _ _ (nv_new (P.gr k).sub rfl)) (nvrs k gr_push (q1.rep x.toNat))))

/-- a part of a slice -/
inductive PartOk (p : Program) (w : World) (A : Around) (env : Env) (l : List (Str × PV)) (g : View) : Option Expr → Option Int → Prop
  | none : PartOk p w A env l g none none
  | int {e : Expr} {i : Int} (h : Ev p w A env l g e (.int i)) : PartOk p w A env l g (some e) (some i)
theorem PartOk.ev {e : Option Expr} {i : Option Int} (h : PartOk p w A env l g e i) {Q : Value → Shared → Prop} (P : Pre w.params env l g s) (hQ : ∀ v s1, Gr s s1 → IsPart v i → Q v s1) : wpAny (model p w) A (evalPart e env) Q E s := by
  cases h with
  | none => rw [evalPart_none]; exact wpAny_pure (hQ _ _ (Gr.refl s) .none)
  | int h => rw [evalPart_some]; exact h.run s P _ _ fun v s1 k r => by obtain ⟨t, rfl⟩ := rep_int_inv r; exact hQ _ _ k (.int _ t)
theorem Ev.sliceL {a : Expr} {lo hi st : Option Expr} {i j k : Option Int} {pos spos : Pos} {xs : List PV} (ha : Ev p w A env l g a (.lst xs)) (hlo : PartOk p w A env l g lo i) (hhi : PartOk p w A env l g hi j) (hst : PartOk p w A env l g st k) (h0 : k ≠ some 0) (hsz : xs.length ≤ 1000000)
    (hs : ∀ o i', subscripted (.Slice lo hi st spos) false o i' = operate [i', o] (getItem o i') := by intro _ _; rfl) : Ev p w A env l g (.Subscript a (.Slice lo hi st spos) pos) (.lst (pickP xs i j k)) := .mk fun s P Q E hQ =>
  Subscript_ (ha.run s P _ _ fun v s1 k1 r1 => by
    obtain ⟨b, vs, n, rfl, hb, hv⟩ := rep_lst_inv r1
    refine wpAny_Slice (hlo.ev (P.gr k1) fun v1 s2 k2 p1 => hhi.ev (P.gr (k1.trans k2)) fun v2 s3 k3 p2 => hst.ev (P.gr ((k1.trans k2).trans k3)) fun v3 s4 k4 p3 => ?_)
    have k14 : Gr s1 s4 := (k2.trans k3).trans k4
    have sub4 : (nv g s.heap s1.heap).Sub s4.heap := fun b o e => k14.keep _ _ (nv_sub P.sub k1.keep _ _ e)
    have hl := isList_of sub4 hb
    refine tail_any (Heap.IsList.typeIs (s := { s4 with heap := s4.heap.push { cls := .type "slice", data := .fields #[v1, v2, v3] } }) (hl.push _)) list_getitem_lookup
      (wpAny_getItem_list_slice (hl.push _) (Heap.IsSliceOf.new ..) p1 p2 p3 h0 ?_ (by simp [hv.length, sizeLine]; omega)) (hs _ _)
    generalize hh : s4.heap.push { cls := .type "slice", data := .fields #[v1, v2, v3] } = h5
    have k5 : Gr s4 { s4 with heap := h5 } := by rw [← hh]; exact gr_push
    have kk : Gr s { s4 with heap := h5 } := (k1.trans k14).trans k5
    have e : slicePick vs.toArray i j k = ((sliceRange (sliceBounds i j k xs.length).1 (sliceBounds i j k xs.length).2.1 (sliceBounds i j k xs.length).2.2).filterMap (vs[·]?)).toArray := by
      unfold slicePick
      rw [List.size_toArray, hv.length]
      simp
    rw [e]
    exact hQ _ _ (kk.trans gr_push) (rep_lst (nv_later kk.keep _ _ (nv_new (P.gr kk).sub rfl)) (nvrs k1 ((k14.trans k5).trans gr_push) (hv.pick _))))

noncomputable def Kp (h : Heap) (h' : Heap) : Prop := ∀ b o, h.get? b = some o → h'.get? b = some o
theorem kp_push (h : Heap) : KeptH (Kp h) := fun h' o k b ob e => Heap.get?_push_of_some _ (k b ob e)
theorem Ev.sliceS_ss {a lo hi : Expr} {i j : Int} {pos spos : Pos} {x : Str} (ha : Ev p w A env l g a (.str x)) (hlo : Ev p w A env l g lo (.int i)) (hhi : Ev p w A env l g hi (.int j)) (hsz : x.length ≤ 1000000)
    (hs : ∀ o i', subscripted (.Slice (some lo) (some hi) none spos) false o i' = operate [i', o] (getItem o i') := by intro _ _; rfl) : Ev p w A env l g (.Subscript a (.Slice (some lo) (some hi) none spos) pos) (.str (Txt.slice x (some i) (some j))) := .mk fun s P Q E hQ =>
  Subscript_ (ha.run s P _ _ fun v s1 k1 r1 => by
    obtain ⟨t, rfl⟩ := rep_str_inv r1
    refine wpAny_Slice ?_
    rw [evalPart_some, evalPart_some, evalPart_none]
    refine hlo.run s1 (P.gr k1) _ _ fun v1 s2 k2 p1 => hhi.run s2 (P.gr (k1.trans k2)) _ _ fun v2 s3 k3 p2 => wpAny_pure ?_
    obtain ⟨t1, rfl⟩ := rep_int_inv p1
    obtain ⟨t2, rfl⟩ := rep_int_inv p2
    obtain ⟨T, id, hl, hT, hg⟩ := SBH.sliceItem_ss (prog := p) (w := w) (A := A) (E := E) (x := x) (t := t) (ui := t1) (uj := t2) (i := i) (j := j) (Q := Q) (s := s3) (kp_push s3.heap) (fun b o e => e) (fun h' t' k hk => hQ _ _ (((k1.trans k2).trans k3).trans (Gr.heap hk)) rep_str) (by unfold sizeLine; omega)
    exact tail_any hT hl hg (hs _ _))
theorem Ev.sliceS_sn {a lo : Expr} {i : Int} {pos spos : Pos} {x : Str} (ha : Ev p w A env l g a (.str x)) (hlo : Ev p w A env l g lo (.int i)) (hsz : x.length ≤ 1000000)
    (hs : ∀ o i', subscripted (.Slice (some lo) none none spos) false o i' = operate [i', o] (getItem o i') := by intro _ _; rfl) : Ev p w A env l g (.Subscript a (.Slice (some lo) none none spos) pos) (.str (Txt.slice x (some i) none)) := .mk fun s P Q E hQ =>
  Subscript_ (ha.run s P _ _ fun v s1 k1 r1 => by
    obtain ⟨t, rfl⟩ := rep_str_inv r1
    refine wpAny_Slice ?_
    rw [evalPart_some, evalPart_none]
    refine hlo.run s1 (P.gr k1) _ _ fun v1 s2 k2 p1 => wpAny_pure (wpAny_pure ?_)
    obtain ⟨t1, rfl⟩ := rep_int_inv p1
    obtain ⟨T, id, hl, hT, hg⟩ := SBH.sliceItem_sn (prog := p) (w := w) (A := A) (E := E) (x := x) (t := t) (ui := t1) (i := i) (Q := Q) (s := s2) (kp_push s2.heap) (fun b o e => e) (fun h' t' k hk => hQ _ _ ((k1.trans k2).trans (Gr.heap hk)) rep_str) (by unfold sizeLine; omega)
    exact tail_any hT hl hg (hs _ _))
theorem Ev.sliceS_ns {a hi : Expr} {j : Int} {pos spos : Pos} {x : Str} (ha : Ev p w A env l g a (.str x)) (hhi : Ev p w A env l g hi (.int j)) (hsz : x.length ≤ 1000000)
    (hs : ∀ o i', subscripted (.Slice none (some hi) none spos) false o i' = operate [i', o] (getItem o i') := by intro _ _; rfl) : Ev p w A env l g (.Subscript a (.Slice none (some hi) none spos) pos) (.str (Txt.slice x none (some j))) := .mk fun s P Q E hQ =>
  Subscript_ (ha.run s P _ _ fun v s1 k1 r1 => by
    obtain ⟨t, rfl⟩ := rep_str_inv r1
    refine wpAny_Slice ?_
    rw [evalPart_some, evalPart_none]
    refine wpAny_pure (hhi.run s1 (P.gr k1) _ _ fun v1 s2 k2 p1 => wpAny_pure ?_)
    obtain ⟨t1, rfl⟩ := rep_int_inv p1
    obtain ⟨T, id, hl, hT, hg⟩ := SBH.sliceItem_ns (prog := p) (w := w) (A := A) (E := E) (x := x) (t := t) (uj := t1) (j := j) (Q := Q) (s := s2) (kp_push s2.heap) (fun b o e => e) (fun h' t' k hk => hQ _ _ ((k1.trans k2).trans (Gr.heap hk)) rep_str) (by unfold sizeLine; omega)
    exact tail_any hT hl hg (hs _ _))

-- sums and the greatest
theorem preSum_list (xs : List Int) : ∀ k, k ≤ xs.length → preSum (fun i => xs.getD i 0) k = (xs.take k).sum
  | 0, _ => by simp [preSum]
  | k + 1, h => by
    rw [preSum, preSum_list xs k (by omega), List.take_add_one, List.sum_append]
    have : xs[k]? = some xs[k] := by simp
    rw [this]
    simp [List.getD_eq_getElem?_getD, this]
theorem ints_at {g : View} {xs : List Int} {vs : List Value} (h : Reps g (xs.map .int) vs) (i : Nat) (v : Value) (hv : vs.toArray[i]? = some v) : ∃ t, v = .int (xs.getD i 0) t := by
  rw [List.getElem?_toArray] at hv
  rcases h.getElem? i with ⟨_, h2⟩ | ⟨r, u, h1, h2, h3⟩
  · rw [h2] at hv; cases hv
  · rw [h2] at hv; cases hv
    rw [List.getElem?_map] at h1
    obtain ⟨z, hz, rfl⟩ := Option.map_eq_some_iff.mp h1
    rw [List.getD_eq_getElem?_getD, hz]
    exact rep_int_inv h3
theorem gr_but {s : Shared} {I : Addr} (hI : s.heap.get? I = none) (o : Obj) (h' : Heap) (tk : Nat) (e : I = s.heap.objs.size) (k : ∀ b ob, b ∉ [I] → (s.heap.push o).get? b = some ob → h'.get? b = some ob) : Gr s { s with heap := h', toks := tk } :=
  Gr.heap fun b ob q => k b ob (fun m => by rw [List.mem_singleton.mp m, hI] at q; cases q) (Heap.get?_push_of_some _ q)
theorem Ev.sum {x : Str} {px pos : Pos} {e : Expr} {xs : List Int} (hA : A.handled = none) (hx : env.kindOf x = some .globalImplicit) (hb : BltIs w.params x (.builtin "sum")) (h : Ev p w A env l g e (.lst (xs.map .int)))
    (he : ∀ env, starEach [e] env = [(false, eval e env)] := by intro _; rfl) (hd : (x == ("__debug__" : Str)) = false := by decide) :
    Ev p w A env l g (.Call (.Name x px) [e] [] pos) (.int xs.sum) := .mk fun s P Q E hQ =>
  call_blt_ (fn := e) P hx hb (Evs.cons h Evs.nil he) (fun vs s1 k r => by
    obtain ⟨v, rfl, hv⟩ := one_inv r
    obtain ⟨a, vs, m, rfl, ha, hr⟩ := rep_lst_inv hv
    have sub1 := nv_sub P.sub k.keep
    have nI : s1.heap.get? s1.heap.objs.size = none := get_size (Nat.le_refl _)
    have hl : s1.heap.IsList a vs.toArray := isList_of sub1 ha
    have haI : a ≠ s1.heap.objs.size := fun q => by obtain ⟨o, ho, _⟩ := hl; rw [q, nI] at ho; cases ho
    refine call_sum_walkG (wpAny_pyIter_list hl ?_)
    refine ⟨_, _, _, _, _, _, fun i => xs.getD i 0, rfl, Walks.list (by exact hA) s1.heap.objs.size a haI vs.toArray, ⟨⟨_, Heap.get?_push_size _ rfl, rfl, rfl⟩, hl.push _⟩, ?_, fun i v hv => ints_at hr i v hv, fun h' tk t' hk => ?_⟩
    · intro b hb
      show b < (s1.heap.push _).objs.size
      rw [Heap.size_push]
      obtain ⟨o, ho, _⟩ := hl
      rcases List.mem_cons.mp hb with rfl | hb
      · exact Nat.lt_succ_self _
      · rw [List.mem_singleton.mp hb]; exact Nat.lt_succ_of_lt (Heap.lt_size ho)
    · have e1 : preSum (fun i => xs.getD i 0) vs.toArray.size = xs.sum := by
        have hn := hr.length
        rw [List.length_map] at hn
        rw [List.size_toArray, hn, preSum_list xs _ (Nat.le_refl _), List.take_length]
      rw [e1]
      exact hQ _ _ (k.trans (gr_but nI _ h' tk rfl hk)) rep_int) he (fun _ => rfl) hd
noncomputable def maxI (xs : List Int) : Int := xs.getD (argBest (fun i j => decide (xs.getD i 0 > xs.getD j 0)) (xs.length - 1)) 0
theorem Ev.max {x : Str} {px pos : Pos} {e : Expr} {xs : List Int} (hA : A.handled = none) (hx : env.kindOf x = some .globalImplicit) (hb : BltIs w.params x (.builtin "max")) (h : Ev p w A env l g e (.lst (xs.map .int))) (hne : xs ≠ [])
    (he : ∀ env, starEach [e] env = [(false, eval e env)] := by intro _; rfl) (hd : (x == ("__debug__" : Str)) = false := by decide) :
    Ev p w A env l g (.Call (.Name x px) [e] [] pos) (.int (maxI xs)) := .mk fun s P Q E hQ =>
  call_blt_ (fn := e) P hx hb (Evs.cons h Evs.nil he) (fun vs s1 k r => by
    obtain ⟨v, rfl, hv⟩ := one_inv r
    obtain ⟨a, vs, m, rfl, ha, hr⟩ := rep_lst_inv hv
    have sub1 := nv_sub P.sub k.keep
    have nI : s1.heap.get? s1.heap.objs.size = none := get_size (Nat.le_refl _)
    have hl : s1.heap.IsList a vs.toArray := isList_of sub1 ha
    have haI : a ≠ s1.heap.objs.size := fun q => by obtain ⟨o, ho, _⟩ := hl; rw [q, nI] at ho; cases ho
    have hn := hr.length
    rw [List.length_map] at hn
    refine call_max_walk (wpAny_pyIter_list hl ?_)
    refine ⟨_, _, _, _, _, _, fun i j => decide (xs.getD i 0 > xs.getD j 0), rfl, Walks.list (by exact hA) s1.heap.objs.size a haI vs.toArray, ⟨⟨_, Heap.get?_push_size _ rfl, rfl, rfl⟩, hl.push _⟩, ?_, ?_, CmpOf.ints_gt _ fun i v hv => ints_at hr i v hv, fun v h' tk hv' hk => ?_⟩
    · intro b hb
      show b < (s1.heap.push _).objs.size
      rw [Heap.size_push]
      obtain ⟨o, ho, _⟩ := hl
      rcases List.mem_cons.mp hb with rfl | hb
      · exact Nat.lt_succ_self _
      · rw [List.mem_singleton.mp hb]; exact Nat.lt_succ_of_lt (Heap.lt_size ho)
    · rw [List.size_toArray, hn]
      exact List.length_pos_iff.mpr hne
    · rw [List.size_toArray, hn] at hv'
      obtain ⟨t, rfl⟩ := ints_at hr _ v hv'
      exact hQ _ _ (k.trans (gr_but nI _ h' tk rfl hk)) rep_int) he (fun _ => rfl) hd

/-- a list beside the empty list -/
theorem EvB.neNil {a b : Expr} {pos : Pos} {xs : List PV} (hA : AOk 1 A) (ha : Ev p w A env l g a (.lst xs)) (hb : Ev p w A env l g b (.lst []))
    (hm : behindInMarks .NotEq b = false := by with_unfolding_all rfl) : EvB p w A env l g (.Compare a [.NotEq] [b] pos) (!xs.isEmpty) :=
  EvB.cmp ha hb (fun u v s s0 Q E P k r1 r2 h => by
    obtain ⟨a1, vs, n1, rfl, h1, q1⟩ := rep_lst_inv r1
    obtain ⟨a2, us, n2, rfl, h2, q2⟩ := rep_lst_inv r2
    cases q2.nil_inv
    have sub2 := nv_sub P.sub k.keep
    have hl := isList_of sub2 h1
    have hl2 := isList_of sub2 h2
    cases xs with
    | nil =>
      cases q1.nil_inv
      have := PySem.SeqAt.RcNeAt.lists (A := A) (s := s) (e := fun _ => true) hl hl2 rfl hA.line (fun j h1 => by simp at h1)
      exact cmp_ofNotEq (this p w E Q (h _ (Gr.refl _)))
    | cons y ys =>
      have := PySem.SeqAt.RcNeAt.lists_lengths (A := A) (s := s) hl hl2 (by rw [List.size_toArray, List.size_toArray, q1.length]; rfl) hA.line
      exact cmp_ofNotEq (this p w E Q (h _ (Gr.refl _)))) hm
end
end Mine
end
section
set_option Elab.async false
set_option linter.unusedVariables false
set_option maxRecDepth 10000
namespace Mine
open PySem PySem.W PySem.Calls PyProof.Rows

theorem stat_ns (P : Params) : (H12 P).isNs cStatics = true := by kernel_rfl!
theorem stat_none (P : Params) : (H12 P).nsMap cStatics "sys.recursionlimit" = none := by kernel_rfl!
theorem nolimit (P : Params) : (H12 P).NoLimit := ⟨_, Heap.Ns.of_isNs (stat_ns P), stat_none P⟩

theorem bindL_not (k : Str → Option NameKind) (x : Str) : ∀ (bs : List (Str × Value)) (m : Str → Option Value), x ∉ bs.map (·.1) → bindL k bs m x = m x
  | [], m, _ => rfl
  | (n, v) :: r, m, h => by
    rw [List.map_cons, List.mem_cons, not_or] at h
    unfold bindL
    rw [bindL_not k x r _ h.2]
    split
    · show (if x = n then some v else m x) = m x
      rw [if_neg h.1]
    · rfl
theorem bindL_get (k : Str → Option NameKind) {x : Str} {v : Value} (hk : k x = some .local) : ∀ (bs : List (Str × Value)) (m : Str → Option Value), (bs.map (·.1)).Nodup → (x, v) ∈ bs → bindL k bs m x = some v
  | (n, u) :: r, m, nd, h => by
    rw [List.map_cons, List.nodup_cons] at nd
    unfold bindL
    rcases List.mem_cons.mp h with h | h
    · cases h
      rw [bindL_not k x r _ nd.1, if_pos hk, if_pos rfl]
    · exact bindL_get k hk r _ nd.2 h
theorem bindC_not (k : Str → Option NameKind) (x : Str) : ∀ (bs : List (Str × Value)) (m : Str → Option Value), x ∉ bs.map (·.1) → bindC k bs m x = m x
  | [], m, _ => rfl
  | (n, v) :: r, m, h => by
    rw [List.map_cons, List.mem_cons, not_or] at h
    unfold bindC
    rw [bindC_not k x r _ h.2]
    split
    · rfl
    · show (if x = n then some v else m x) = m x
      rw [if_neg h.1]
theorem bindC_get (k : Str → Option NameKind) {x : Str} {v : Value} (hk : k x = some .cell) : ∀ (bs : List (Str × Value)) (m : Str → Option Value), (bs.map (·.1)).Nodup → (x, v) ∈ bs → bindC k bs m x = some v
  | (n, u) :: r, m, nd, h => by
    rw [List.map_cons, List.nodup_cons] at nd
    unfold bindC
    rcases List.mem_cons.mp h with h | h
    · cases h
      rw [bindC_not k x r _ nd.1, if_neg (by rw [hk]; simp), if_pos rfl]
    · exact bindC_get k hk r _ nd.2 h

noncomputable def bodyOf (fd : FuncData) : List Stmt := match fd.body with | .stmts b => b | _ => []
noncomputable abbrev fnCx (w : World) (fd : FuncData) (a : Addr) (s0 : Shared) (g0 : View) (L : Addr) : Cx := ⟨w, callEnvC fd L a, s0, g0, cellsFrom (L + 1) fd.scope.names []⟩

/-- a run of statements in a frame -/
structure Ex (p : Program) (A : Around) (c : Cx) (body : List Stmt) (Q : Flow → Shared → Prop) (E : Value → Shared → Prop) (s : Shared) : Prop where
  run : wpAny (model p c.w) A (execs body c.env) Q E s
/-- what a function's body does with its arguments -/
noncomputable def BodyOk (p : Program) (w : World) (n : Nat) (fd : FuncData) (a : Addr) (ns : List Str) (ps : List PV) (r : PV) : Prop :=
  ∀ A s0 g0 L s g, AOk n A → Fr (fnCx w fd a s0 g0 L) [] (ns.zip ps) g s → ∀ (Q : Flow → Shared → Prop) (E : Value → Shared → Prop), (∀ v s', Gr s0 s' → Rep (nv g0 s0.heap s'.heap) r v → Q (.ret v) s') →
    Ex p A (fnCx w fd a s0 g0 L) (bodyOf fd) Q E s

structure FnAt (P : Params) (fd : FuncData) (a : Addr) (ns : List Str) : Prop where
  at' : ∃ o, (H12 P).get? a = some o ∧ o.data = .func fd
  code : (H12 P).CodeRec fd.code fd.qualname
  body : fd.body = .stmts (bodyOf fd)
  glob : fd.globals = mainGlobals
  bi : fd.builtins = builtinsNs
  clo : fd.closure = []
  bind : ∀ vs : List Value, vs.length = ns.length → bindArgs fd ⟨vs, []⟩ = pure (ns.zip vs)
  nd : ns.Nodup
  kinds : ∀ x ∈ ns, fd.scope.names.lookup x = some .local ∨ (fd.scope.names.lookup x = some .cell ∧ x ≠ ("__classdict__" : Str))
  names : (fd.scope.names.map (·.1)).Nodup
  co : fd.scope.isCoroutine = false
  gen : fd.scope.isGenerator = false
  kind : fd.scope.kind = .function

theorem cells_nd : ∀ (names : List (Str × NameKind)) (n : Nat) (acc : List (Str × Addr)), (names.map (·.1)).Nodup → (acc.map (·.1)).Nodup → (∀ y ∈ acc.map (·.1), y ∉ names.map (·.1)) → ((cellsFrom n names acc).map (·.1)).Nodup
  | [], n, acc, _, h, _ => h
  | (y, k) :: r, n, acc, h1, h2, h3 => by
    rw [List.map_cons, List.nodup_cons] at h1
    unfold cellsFrom
    split
    · refine cells_nd r _ _ h1.2 (by rw [List.map_cons, List.nodup_cons]; exact ⟨fun q => h3 _ q (by rw [List.map_cons]; exact List.mem_cons_self), h2⟩) fun z hz => ?_
      rw [List.map_cons] at hz
      rcases List.mem_cons.mp hz with rfl | hz
      · exact h1.1
      · exact fun q => h3 _ hz (by rw [List.map_cons]; exact List.mem_cons_of_mem _ q)
    · exact cells_nd r _ _ h1.2 h2 fun z hz q => h3 _ hz (by rw [List.map_cons]; exact List.mem_cons_of_mem _ q)
theorem lookup_nd {α : Type} : ∀ {l : List (Str × α)} {x : Str} {a : α}, (l.map (·.1)).Nodup → (x, a) ∈ l → l.lookup x = some a
  | (y, j) :: r, x, k, nd, h => by
    rw [List.map_cons, List.nodup_cons] at nd
    rw [List.lookup_cons]
    rcases List.mem_cons.mp h with h | h
    · cases h; simp
    · have : (x == y) = false := by
        cases e : x == y with
        | false => rfl
        | true => exact absurd (List.mem_map.mpr ⟨(x, k), h, eq_of_beq e⟩) nd.1
      rw [this]
      exact lookup_nd nd.2 h

theorem zip_rep {g : View} : ∀ {ns : List Str} {ps : List PV} {vs : List Value} {x : Str} {r : PV}, Reps g ps vs → (ns.zip ps).lookup x = some r → ∃ v, (x, v) ∈ ns.zip vs ∧ Rep g r v
  | [], ps, vs, x, r, h, e => by simp at e
  | n :: ns, [], vs, x, r, h, e => by simp at e
  | n :: ns, p :: ps, vs, x, r, h, e => by
    obtain ⟨v, us, rfl, h1, h2⟩ := h.cons_inv
    rw [List.zip_cons_cons, List.lookup_cons] at e
    cases q : x == n with
    | true => rw [q] at e; simp only [Option.some.injEq] at e; subst e; rw [eq_of_beq q]; exact ⟨v, List.mem_cons_self, h1⟩
    | false => rw [q] at e; obtain ⟨u, h3, h4⟩ := zip_rep h2 e; exact ⟨u, List.mem_cons_of_mem _ h3, h4⟩

section
variable {p : Program} {w : World} {n : Nat}
theorem FnOk.of_body {fd : FuncData} {a : Addr} {ns : List Str} {ps : List PV} {r : PV} (H : FnAt w.params fd a ns) (hl : ps.length = ns.length) (hb : BodyOk p w n fd a ns ps r) : FnOk p w (n + 1) (.ref a) ps r := by
  intro A g s hA base sub vs hvs Q E hQ
  refine wpAny_call ?_
  obtain ⟨o, ho, hd⟩ := H.at'
  have hlen : vs.length = ns.length := by rw [hvs.length, hl]
  refine codeAny_call_cells (binds := ns.zip vs) hA.lim (base _ _ ho) hd ((nolimit w.params).keeps base) (H.code.keeps base) H.body (H.bind vs hlen) H.clo (fun x hx => ?_) (fun s1 x => ?_) H.co H.gen H.kind
  · have hm : x.1 ∈ ns := (List.of_mem_zip hx).1
    rcases H.kinds _ hm with h | ⟨h, _⟩
    · exact .inl h
    · exact .inr ⟨h, cellsFrom_some _ _ _ (.inl h)⟩
  · obtain ⟨h1, tk, e1, hk1⟩ := x.done
    have k : Gr s s1 := by rw [e1]; exact Gr.heap hk1
    have nL : s.heap.get? s.heap.objs.size = none := get_size (Nat.le_refl _)
    have csnd : ((cellsFrom (s.heap.objs.size + 1) fd.scope.names []).map (·.1)).Nodup := cells_nd _ _ _ H.names List.nodup_nil (by simp)
    have hns : ((ns.zip vs).map (·.1)) = ns := by rw [List.map_fst_zip]; omega
    have F : Fr (fnCx w fd a s g s.heap.objs.size) [] (ns.zip ps) g s1 := by
      refine ⟨⟨⟨H.kind, H.glob, H.bi⟩, base, sub, nL, fun y b e => ⟨get_size (Nat.le_of_lt (x.above y b e)), lookup_nd csnd e⟩, fun y z b e e' => name_of_addr x.apart (mem_of_lookup e) e', fun y b e => .inl (mem_of_lookup e)⟩, fun y r hy => ?_, k, fun b o e => nv_le _ _ _ _ _ e, ⟨_, x.toInCall.ns⟩, fun y b e => ⟨_, x.cell y b (lookup_nd csnd e)⟩, view_none sub nL, fun y b e => view_none sub (get_size (Nat.le_of_lt (x.above y b e))), ⟨(by simp), (fun _ q => by cases q), (fun _ q => by cases q), List.nodup_nil, List.nodup_nil⟩, (fun _ q => by cases q)⟩
      obtain ⟨v, hv, hr⟩ := zip_rep hvs hy
      refine ⟨v, ?_, hr⟩
      have hm : y ∈ ns := (List.of_mem_zip hv).1
      rcases H.kinds _ hm with h | ⟨h, hc⟩
      · exact .inl ⟨h, _, x.toInCall.ns, bindL_get _ h _ _ (by rw [hns]; exact H.nd) hv⟩
      · have hs := cellsFrom_some (x := y) fd.scope.names (s.heap.objs.size + 1) [] (.inl h)
        obtain ⟨b, hb⟩ := Option.isSome_iff_exists.mp hs
        obtain ⟨oc, q1, q2⟩ := x.cell y b hb
        refine .inr ⟨.inl h, hc, b, oc, hb, q1, ?_⟩
        rw [q2, bindC_get (callEnvC fd s.heap.objs.size a).kindOf h (ns.zip vs) (fun _ => none) (by rw [hns]; exact H.nd) hv]
    exact (hb _ s g s.heap.objs.size s1 g (hA.deeper _) F _ _ fun v s' k' r' => hQ v s' k' r').run

section
variable {A : Around} {env : Env} {l : List (Str × PV)} {g : View}
theorem Ev.callF {x : Str} {px pos : Pos} {e : Expr} {es : List Expr} {rs : List PV} {r : PV} {a : Addr} (hA : AOk n A) (hn : Ev p w A env l g (.Name x px) (.ref a)) (hf : FnOk p w n (.ref a) rs r) (hat : ∃ o fd, (H12 w.params).get? a = some o ∧ o.data = .func fd)
    (h : Evs p w A env l g (e :: es) rs) (he : ∀ env, starEach (e :: es) env = (false, eval e env) :: starEach es env := by intro _; rfl) :
    Ev p w A env l g (.Call (.Name x px) (e :: es) [] pos) r := .mk fun s P Q E hQ => by
  obtain ⟨o, fd, ho, hd⟩ := hat
  refine wpAny_Call_NameR (hn.run s P _ _ fun v s1 k1 r1 => ?_)
  cases rep_ref_inv r1
  refine callWith_function (o := o) (fd := fd) (args_ (P.gr k1) h (he env) fun vs s2 k2 r2 => ?_)
  have P2 := P.gr (k1.trans k2)
  refine ⟨⟨P2.base _ _ ho, hd⟩, ?_⟩
  have r2' : Reps (nv g s.heap s2.heap) rs vs := nvls k1 r2
  refine hf A (nv g s.heap s2.heap) s2 hA P2.base (nv_sub P.sub (k1.trans k2).keep) vs r2' Q E fun v s3 k3 r3 => ?_
  exact hQ v s3 ((k1.trans k2).trans k3) (Rep.mono (nv_nv (k1.trans k2).keep k3.keep) _ _ r3)
end
end

-- statements
section
variable {p : Program} {A : Around} {c : Cx} {own : List Own} {l l' : List (Str × PV)} {g g' : View} {s s' : Shared} {E : Value → Shared → Prop} {Q : Flow → Shared → Prop} {n : Nat}

/-- what is left to do behind a statement -/
noncomputable def Then (p : Program) (A : Around) (c : Cx) (rest : List Stmt) (Q : Flow → Shared → Prop) (E : Value → Shared → Prop) : Flow → Shared → Prop := fun f s' => match f with | .next => Ex p A c rest Q E s' | f => Q f s'
theorem Ex.cons_ {st : Stmt} {rest : List Stmt} (h : wpAny (model p c.w) A (exec st c.env) (Then p A c rest Q E) E s) : Ex p A c (st :: rest) Q E s := ⟨wpAny_execs_cons (wpAny_mono h (fun f s' hf => by
  cases f with
  | next => exact hf.run
  | cont => exact hf
  | brk => exact hf
  | ret v => exact hf) fun _ _ e => e)⟩
theorem Ex.nil_ (h : Q .next s) : Ex p A c [] Q E s := ⟨wpAny_execs_nil h⟩
theorem Fr.assign {x : Str} {px pos : Pos} {e : Expr} {rest : List Stmt} {r : PV} (F : Fr c own l g s) (he : Ev p c.w A c.env l g e r) (hx : Sto c x)
    (h : ∀ g' s', g.Le g' → Fr c own ((x, r) :: l) g' s' → Ex p A c rest Q E s') (hs : swapsWith e (some (.Name x px)) pos.line c.env = pure false := by rfl) :
    Ex p A c (.Assign [.Name x px] e pos :: rest) Q E s :=
  .cons_ (wpAny_Assign_Name (he.run s F.pre _ _ fun v s1 k r1 => (F.step k).store hx r1 fun s2 F2 => h _ _ (nv_le _ _ _) F2) hs)
theorem Fr.ret {e : Expr} {pos : Pos} {rest : List Stmt} {r : PV} (F : Fr c own l g s) (he : Ev p c.w A c.env l g e r) (h : ∀ v s', Gr c.s0 s' → Rep (nv c.g0 c.s0.heap s'.heap) r v → Q (.ret v) s') :
    Ex p A c (.Return (some e) pos :: rest) Q E s :=
  .cons_ (wpAny_Return_some (he.run s F.pre _ _ fun v s1 k r1 => by have F1 := F.step k; exact h v s1 F1.gr (Rep.mono F1.le _ _ r1)))
theorem Fr.if_ {t : Expr} {body orelse rest : List Stmt} {pos : Pos} {b : Bool} (F : Fr c own l g s) (ht : EvB p c.w A c.env l g t b)
    (h1 : b = true → ∀ s', Fr c own l g s' → Ex p A c body (Then p A c rest Q E) E s') (h2 : b = false → ∀ s', Fr c own l g s' → Ex p A c orelse (Then p A c rest Q E) E s') :
    Ex p A c (.If t body orelse pos :: rest) Q E s :=
  .cons_ (wpAny_If (ht.run s F.pre _ _ fun s1 k => by
    cases b with
    | true => exact (h1 rfl s1 (F.keep k)).run
    | false => exact (h2 rfl s1 (F.keep k)).run))
theorem Fr.assignC {α : Type} {elt target iter : Expr} {ifs : List Expr} {scope : Scope} {pos spos py : Pos} {y : Str} {rest : List Stmt} (F : Fr c own l g s) (xs : List α) (emb : α → PV) (tst : α → Bool) (res : α → PV)
    (hA : AOk n A) (src : SrcE p c.w A n c.env l g iter target (xs.map emb)) (ok : CompOk c.env scope l) (hsz : xs.length ≤ 100000) (hy : Sto c y)
    (turn : ∀ x, x ∈ xs → TurnOk p c.w A c.env l g scope target elt ifs (emb x) (tst x) (res x))
    (h : ∀ g' s', g.Le g' → Fr c own ((y, .lst ((xs.filter tst).map res)) :: l) g' s' → Ex p A c rest Q E s')
    (hsw : swapsWith (.ListComp elt [⟨target, iter, ifs, 0⟩] scope pos) (some (.Name y py)) spos.line c.env = pure true := by rfl) (hs : ∀ x, foldedSetIterable iter c.env x = pure x := by intro _; rfl) :
    Ex p A c (.Assign [.Name y py] (.ListComp elt [⟨target, iter, ifs, 0⟩] scope pos) spos :: rest) Q E s :=
  .cons_ (F.assignComp (Q := Then p A c rest Q E) xs emb tst res hA src ok hsz hy turn (fun g' s' hg F' => h g' s' hg F') hsw hs)

/-- a loop over a source; what it does to the frame is told turn by turn -/
theorem Fr.for_ {α : Type} {target iter : Expr} {body rest : List Stmt} {pos : Pos} (F : Fr c own l g s) (xs : List α) (emb : α → PV) (bs : α → List (Str × PV)) (inv : Nat → List (Str × PV)) (io : Nat → List Own) (ok : Nat → Prop)
    (hA : AOk n A) (src : SrcE p c.w A n c.env l g iter target (xs.map emb)) (e0 : own = io 0) (l0 : ∀ x r, (inv 0).lookup x = some r → l.lookup x = some r) (k0 : ok 0)
    (hb : ∀ x ∈ xs, Binds (Sto c) target (emb x) (bs x))
    (turn : ∀ i (hi : i < xs.length) oth g' s' (E : Value → Shared → Prop), g.Le g' → ok i → Fr c (io i ++ oth) (bs xs[i] ++ inv i) g' s' → Ex p A c body
      (fun f s'' => (f = .next ∧ ok (i + 1) ∧ ∃ g'', g'.Le g'' ∧ Fr c (io (i + 1) ++ oth) (inv (i + 1)) g'' s'') ∨ ∃ v, f = .ret v ∧ Q (.ret v) s'') E s')
    (h : ∀ g' s', g.Le g' → ok xs.length → Fr c (io xs.length) (inv xs.length) g' s' → Ex p A c rest Q E s')
    (hs : ∀ x, foldedSetIterable iter c.env x = pure x := by intro _; rfl) :
    Ex p A c (.For target iter body [] pos :: rest) Q E s := by
  refine .cons_ (wpAny_For (src.run s F.pre _ _ fun it as is O s2 g1 k1 lg1 lg1' H I => ?_) hs)
  have F0 : Fr c (io 0 ++ O 0) (inv 0) g1 s2 := by
    rw [← e0]
    exact (F.gain k1 lg1 lg1' H).weaken l0
  refine codeAny_forLoop_any (fun m s' => ∃ i g', i ≤ xs.length ∧ g1.Le g' ∧ ok i ∧ Fr c (io i ++ O i) (inv i) g' s' ∧ m = xs.length + 1 - i) ?_ (xs.length + 1) ⟨0, g1, Nat.zero_le _, View.Le.refl _, k0, F0, rfl⟩
  rintro m s' ⟨i, g', hi, hg', hok, F, rfl⟩
  by_cases hlt : i < xs.length
  · have hx : (xs.map emb)[i]? = some (emb xs[i]) := by simp [hlt]
    refine wpAny_mono (I.takeF (Q := fun v s2 => wpAny (model p c.w) A (PySem.assign target c.env v) (fun _ s₂ => wpAny (model p c.w) A (execs body c.env) (fun f s₃ => match f with
            | .next | .cont => ∃ m, m < xs.length + 1 - i ∧ ∃ i g', i ≤ xs.length ∧ g1.Le g' ∧ ok i ∧ Fr c (io i ++ O i) (inv i) g' s₃ ∧ m = xs.length + 1 - i
            | .brk => Then p A c rest Q E .next s₃
            | .ret v => Q (.ret v) s₃) (notedBy (model p c.w) A c.env fun e s' => cameBackBy (model p c.w) A c.env E e s') s₂) (notedBy (model p c.w) A c.env fun e s' => cameBackBy (model p c.w) A c.env E e s') s2) hA F hg' hx fun v g3 s3 hg3 F3 hv => ?_) (fun rv s1 h => ?_) fun _ _ h => h
    · refine F3.asg hA.handled (hb _ (List.getElem_mem hlt)) hv fun s4 F4 => ?_
      refine wpAny_mono (turn i hlt (O (i + 1)) g3 s4 _ (lg1.trans (hg'.trans hg3)) hok F4).run (fun f s5 h5 => ?_) fun _ _ e => e
      rcases h5 with ⟨rfl, hok5, g5, hg5, F5⟩ | ⟨v, rfl, hq⟩
      · exact ⟨xs.length + 1 - (i + 1), by omega, i + 1, g5, hlt, (hg'.trans hg3).trans hg5, hok5, F5, rfl⟩
      · exact hq
    · cases rv with
      | none => exact h.elim
      | some v => exact h
  · have hie : i = (xs.map emb).length := by rw [List.length_map]; omega
    have hie' : i = xs.length := by omega
    have F' : Fr c (io i ++ O (xs.map emb).length) (inv i) g' s' := by rw [← hie]; exact F
    refine wpAny_mono (I.doneF (own := io i) (Q := fun s1 => Ex p A c rest Q E s1) hA F' hg' fun g3 s3 hg3 F3 => ?_) (fun rv s1 h => ?_) fun _ _ h => h
    · subst hie'
      exact h g3 s3 (lg1.trans (hg'.trans hg3)) hok F3
    · cases rv with
      | none => exact wpAny_execs_nil h
      | some v => exact h.elim
end
end Mine
end
section
set_option Elab.async false
set_option linter.unusedVariables false
set_option maxRecDepth 10000
namespace Mine
open PySem PySem.W PySem.Calls PyProof.Rows
noncomputable def ndB : List Str → Bool
  | [] => true
  | x :: r => !r.contains x && ndB r
theorem nd_of : ∀ {l : List Str}, ndB l = true → l.Nodup
  | [], _ => List.nodup_nil
  | x :: r, h => by
    unfold ndB at h
    rw [Bool.and_eq_true] at h
    rw [List.nodup_cons]
    exact ⟨fun q => by simp [q] at h, nd_of h.2⟩
/-- a comprehension's scope, looked through at once -/
noncomputable def compChk (env : Env) (scope : Scope) (l : List (Str × PV)) : Bool :=
  scope.kind == .function && ndB (scope.names.map (·.1)) && scope.names.all fun y => y.2 != .free || (y.1 != ("__classdict__" : Str) && (env.kindOf y.1 == some .cell || env.kindOf y.1 == some .free) && (l.lookup y.1).isSome)
theorem CompOk.of {env : Env} {scope : Scope} {l : List (Str × PV)} (h : compChk env scope l = true) : CompOk env scope l := by
  unfold compChk at h
  rw [Bool.and_eq_true, Bool.and_eq_true] at h
  obtain ⟨⟨h1, h2⟩, h3⟩ := h
  refine ⟨eq_of_beq h1, nd_of h2, fun x hx => ?_⟩
  have := List.all_eq_true.mp h3 _ hx
  simp only [Bool.or_eq_true, Bool.and_eq_true, bne_iff_ne, beq_iff_eq] at this
  rcases this with h | ⟨⟨h4, h5⟩, h6⟩
  · exact absurd rfl h
  · exact ⟨h4, h5, h6⟩
/-- names kept, one by one -/
inductive Sub (l : List (Str × PV)) : List (Str × PV) → Prop
  | nil : Sub l []
  | cons {x : Str} {r : PV} {l' : List (Str × PV)} (h : l.lookup x = some r) (h' : Sub l l') : Sub l ((x, r) :: l')
theorem Sub.all {l l' : List (Str × PV)} (h : Sub l l') : ∀ x r, l'.lookup x = some r → l.lookup x = some r := by
  induction h with
  | nil => intro x r e; cases e
  | @cons y u l' h h' ih =>
    intro x r e
    rw [List.lookup_cons] at e
    cases q : x == y with
    | true => rw [q] at e; cases e; rw [eq_of_beq q]; exact h
    | false => rw [q] at e; exact ih x r e
theorem filt_true {α : Type} (xs : List α) : xs.filter (fun _ => true) = xs := List.filter_eq_self.mpr fun _ _ => rfl
section
variable {p : Program} {w : World} {A : Around} {n : Nat} {env : Env} {l : List (Str × PV)} {g : View}
theorem Ev.notB {a : Expr} {pos : Pos} {b : Bool} (ha : Ev p w A env l g a (.bool b)) : Ev p w A env l g (.UnaryOp .Not a pos) (.bool (!b)) := .mk fun s P Q E hQ =>
  wpAny_UnaryOp (ha.run s P _ _ fun v s1 k r => by
    rw [rep_bool_inv r]
    exact not_of (wpAny_truthy_bool (hQ _ _ k rep_bool)))
/-- a comprehension without tests -/
theorem Ev.compA {α : Type} {elt target iter : Expr} {scope : Scope} {pos : Pos} (xs : List α) (emb : α → PV) (res : α → PV)
    (hA : AOk n A) (src : SrcE p w A n env l g iter target (xs.map emb)) (ok : CompOk env scope l) (hsz : xs.length ≤ 100000)
    (turn : ∀ x, x ∈ xs → ∀ C cells, ∀ g', g.Le g' → ∃ bs, Binds (own1 scope) target (emb x) bs ∧ Ev p w A (compEnvC scope cells C env) (bs ++ capt scope l) g' elt (res x))
    (hs : ∀ x, foldedSetIterable iter env x = pure x := by intro _; rfl) :
    Ev p w A env l g (.ListComp elt [⟨target, iter, [], 0⟩] scope pos) (.lst (xs.map res)) := by
  have h := Ev.comp (elt := elt) (pos := pos) (ifs := []) xs emb (fun _ => true) res hA src ok hsz (fun x hx C cells g' hg => by
    obtain ⟨bs, h1, h2⟩ := turn x hx C cells g' hg
    exact ⟨bs, h1, EvT.nil, fun _ => h2⟩) hs
  rw [filt_true] at h
  exact h
end
section
variable {p : Program} {A : Around} {c : Cx} {own : List Own} {l : List (Str × PV)} {g : View} {s : Shared} {E : Value → Shared → Prop} {Q : Flow → Shared → Prop} {n : Nat}
theorem Fr.assignA {α : Type} {elt target iter : Expr} {scope : Scope} {pos spos py : Pos} {y : Str} {rest : List Stmt} (F : Fr c own l g s) (xs : List α) (emb : α → PV) (res : α → PV)
    (hA : AOk n A) (src : SrcE p c.w A n c.env l g iter target (xs.map emb)) (ok : CompOk c.env scope l) (hsz : xs.length ≤ 100000) (hy : Sto c y)
    (turn : ∀ x, x ∈ xs → ∀ C cells, ∀ g', g.Le g' → ∃ bs, Binds (own1 scope) target (emb x) bs ∧ Ev p c.w A (compEnvC scope cells C c.env) (bs ++ capt scope l) g' elt (res x))
    (h : ∀ g' s', g.Le g' → Fr c own ((y, .lst (xs.map res)) :: l) g' s' → Ex p A c rest Q E s')
    (hsw : swapsWith (.ListComp elt [⟨target, iter, [], 0⟩] scope pos) (some (.Name y py)) spos.line c.env = pure true := by rfl) (hs : ∀ x, foldedSetIterable iter c.env x = pure x := by intro _; rfl) :
    Ex p A c (.Assign [.Name y py] (.ListComp elt [⟨target, iter, [], 0⟩] scope pos) spos :: rest) Q E s :=
  F.assignC xs emb (fun _ => true) res hA src ok hsz hy (fun x hx C cells g' hg => by
    obtain ⟨bs, h1, h2⟩ := turn x hx C cells g' hg
    exact ⟨bs, h1, EvT.nil, fun _ => h2⟩) (fun g' s' hg F' => h g' s' hg (by rw [filt_true] at F'; exact F')) hsw hs
end
end Mine
end
section
set_option Elab.async false
set_option linter.unusedVariables false
set_option maxRecDepth 100000
namespace Mine
open PySem PySem.W PySem.Calls PyProof.Rows
noncomputable def fdIter : FuncData := fnD (stm 2) 3 (.str (Str.ofString "cpy313.email.utils") 282) (.ref 37) 0
theorem glIter (P : Params) : GlobIs P "_iter_escaped_chars" (.ref 38) := ⟨.ref 38, by kernel_rfl!, fun _ => rep_ref⟩
theorem isIter (P : Params) : ∃ o fd, (H12 P).get? 38 = some o ∧ o.data = .func fd := ⟨o38 P, fdIter, by kernel_rfl!, rfl⟩
noncomputable def fdStrip : FuncData := fnD (stm 3) 3 (.str (Str.ofString "cpy313.email.utils") 282) (.ref 44) 0
theorem atStrip (P : Params) : FnAt P fdStrip 45 ["addr"] where
  at' := ⟨o45 P, by kernel_rfl!, rfl⟩
  code := ⟨44, o44 P, _, 295, rfl, by kernel_rfl!, rfl, by kernel_rfl!⟩
  body := by kernel_rfl!
  glob := rfl
  bi := rfl
  clo := rfl
  bind := fun vs h => by
    match vs, h with
    | [a0], _ => kernel_rfl!
  nd := by decide
  kinds := by
    intro x hx
    simp only [List.mem_cons, List.not_mem_nil, or_false] at hx
    rcases hx with rfl
    all_goals first | (left; rfl) | (right; exact ⟨rfl, by decide⟩)
  names := by decide +kernel
  co := by kernel_rfl!
  gen := by kernel_rfl!
  kind := by kernel_rfl!
theorem glStrip (P : Params) : GlobIs P "_strip_quoted_realnames" (.ref 45) := ⟨.ref 45, by kernel_rfl!, fun _ => rep_ref⟩
theorem isStrip (P : Params) : ∃ o fd, (H12 P).get? 45 = some o ∧ o.data = .func fd := ⟨o45 P, fdStrip, by kernel_rfl!, rfl⟩
noncomputable def fdQuote : FuncData := fnD (stm 8) 3 (.str (Str.ofString "cpy313.smtplib") 306) (.ref 61) 0
theorem atQuote (P : Params) : FnAt P fdQuote 62 ["data"] where
  at' := ⟨o62 P, by kernel_rfl!, rfl⟩
  code := ⟨61, o61 P, _, 369, rfl, by kernel_rfl!, rfl, by kernel_rfl!⟩
  body := by kernel_rfl!
  glob := rfl
  bi := rfl
  clo := rfl
  bind := fun vs h => by
    match vs, h with
    | [a0], _ => kernel_rfl!
  nd := by decide
  kinds := by
    intro x hx
    simp only [List.mem_cons, List.not_mem_nil, or_false] at hx
    rcases hx with rfl
    all_goals first | (left; rfl) | (right; exact ⟨rfl, by decide⟩)
  names := by decide +kernel
  co := by kernel_rfl!
  gen := by kernel_rfl!
  kind := by kernel_rfl!
theorem glQuote (P : Params) : GlobIs P "quotedata" (.ref 62) := ⟨.ref 62, by kernel_rfl!, fun _ => rep_ref⟩
theorem isQuote (P : Params) : ∃ o fd, (H12 P).get? 62 = some o ∧ o.data = .func fd := ⟨o62 P, fdQuote, by kernel_rfl!, rfl⟩
noncomputable def fdB1 : FuncData := fnD (stm 11) 3 (.str (Str.ofString "cpy313.stringprep") 375) (.ref 79) 0
theorem atB1 (P : Params) : FnAt P fdB1 80 ["code"] where
  at' := ⟨o80 P, by kernel_rfl!, rfl⟩
  code := ⟨79, o79 P, _, 438, rfl, by kernel_rfl!, rfl, by kernel_rfl!⟩
  body := by kernel_rfl!
  glob := rfl
  bi := rfl
  clo := rfl
  bind := fun vs h => by
    match vs, h with
    | [a0], _ => kernel_rfl!
  nd := by decide
  kinds := by
    intro x hx
    simp only [List.mem_cons, List.not_mem_nil, or_false] at hx
    rcases hx with rfl
    all_goals first | (left; rfl) | (right; exact ⟨rfl, by decide⟩)
  names := by decide +kernel
  co := by kernel_rfl!
  gen := by kernel_rfl!
  kind := by kernel_rfl!
theorem glB1 (P : Params) : GlobIs P "in_table_b1" (.ref 80) := ⟨.ref 80, by kernel_rfl!, fun _ => rep_ref⟩
theorem isB1 (P : Params) : ∃ o fd, (H12 P).get? 80 = some o ∧ o.data = .func fd := ⟨o80 P, fdB1, by kernel_rfl!, rfl⟩
noncomputable def fdC4 : FuncData := fnD (stm 12) 3 (.str (Str.ofString "cpy313.stringprep") 375) (.ref 86) 0
theorem atC4 (P : Params) : FnAt P fdC4 87 ["code"] where
  at' := ⟨o87 P, by kernel_rfl!, rfl⟩
  code := ⟨86, o86 P, _, 445, rfl, by kernel_rfl!, rfl, by kernel_rfl!⟩
  body := by kernel_rfl!
  glob := rfl
  bi := rfl
  clo := rfl
  bind := fun vs h => by
    match vs, h with
    | [a0], _ => kernel_rfl!
  nd := by decide
  kinds := by
    intro x hx
    simp only [List.mem_cons, List.not_mem_nil, or_false] at hx
    rcases hx with rfl
    all_goals first | (left; rfl) | (right; exact ⟨rfl, by decide⟩)
  names := by decide +kernel
  co := by kernel_rfl!
  gen := by kernel_rfl!
  kind := by kernel_rfl!
theorem glC4 (P : Params) : GlobIs P "in_table_c4" (.ref 87) := ⟨.ref 87, by kernel_rfl!, fun _ => rep_ref⟩
theorem isC4 (P : Params) : ∃ o fd, (H12 P).get? 87 = some o ∧ o.data = .func fd := ⟨o87 P, fdC4, by kernel_rfl!, rfl⟩
noncomputable def fdC6 : FuncData := fnD (stm 14) 3 (.str (Str.ofString "cpy313.stringprep") 375) (.ref 98) 0
theorem atC6 (P : Params) : FnAt P fdC6 99 ["code"] where
  at' := ⟨o99 P, by kernel_rfl!, rfl⟩
  code := ⟨98, o98 P, _, 467, rfl, by kernel_rfl!, rfl, by kernel_rfl!⟩
  body := by kernel_rfl!
  glob := rfl
  bi := rfl
  clo := rfl
  bind := fun vs h => by
    match vs, h with
    | [a0], _ => kernel_rfl!
  nd := by decide
  kinds := by
    intro x hx
    simp only [List.mem_cons, List.not_mem_nil, or_false] at hx
    rcases hx with rfl
    all_goals first | (left; rfl) | (right; exact ⟨rfl, by decide⟩)
  names := by decide +kernel
  co := by kernel_rfl!
  gen := by kernel_rfl!
  kind := by kernel_rfl!
theorem glC6 (P : Params) : GlobIs P "in_table_c6" (.ref 99) := ⟨.ref 99, by kernel_rfl!, fun _ => rep_ref⟩
theorem isC6 (P : Params) : ∃ o fd, (H12 P).get? 99 = some o ∧ o.data = .func fd := ⟨o99 P, fdC6, by kernel_rfl!, rfl⟩
noncomputable def fdC7 : FuncData := fnD (stm 16) 3 (.str (Str.ofString "cpy313.stringprep") 375) (.ref 110) 0
theorem atC7 (P : Params) : FnAt P fdC7 111 ["code"] where
  at' := ⟨o111 P, by kernel_rfl!, rfl⟩
  code := ⟨110, o110 P, _, 502, rfl, by kernel_rfl!, rfl, by kernel_rfl!⟩
  body := by kernel_rfl!
  glob := rfl
  bi := rfl
  clo := rfl
  bind := fun vs h => by
    match vs, h with
    | [a0], _ => kernel_rfl!
  nd := by decide
  kinds := by
    intro x hx
    simp only [List.mem_cons, List.not_mem_nil, or_false] at hx
    rcases hx with rfl
    all_goals first | (left; rfl) | (right; exact ⟨rfl, by decide⟩)
  names := by decide +kernel
  co := by kernel_rfl!
  gen := by kernel_rfl!
  kind := by kernel_rfl!
theorem glC7 (P : Params) : GlobIs P "in_table_c7" (.ref 111) := ⟨.ref 111, by kernel_rfl!, fun _ => rep_ref⟩
theorem isC7 (P : Params) : ∃ o fd, (H12 P).get? 111 = some o ∧ o.data = .func fd := ⟨o111 P, fdC7, by kernel_rfl!, rfl⟩
noncomputable def fdC8 : FuncData := fnD (stm 18) 3 (.str (Str.ofString "cpy313.stringprep") 375) (.ref 134) 0
theorem atC8 (P : Params) : FnAt P fdC8 135 ["code"] where
  at' := ⟨o135 P, by kernel_rfl!, rfl⟩
  code := ⟨134, o134 P, _, 550, rfl, by kernel_rfl!, rfl, by kernel_rfl!⟩
  body := by kernel_rfl!
  glob := rfl
  bi := rfl
  clo := rfl
  bind := fun vs h => by
    match vs, h with
    | [a0], _ => kernel_rfl!
  nd := by decide
  kinds := by
    intro x hx
    simp only [List.mem_cons, List.not_mem_nil, or_false] at hx
    rcases hx with rfl
    all_goals first | (left; rfl) | (right; exact ⟨rfl, by decide⟩)
  names := by decide +kernel
  co := by kernel_rfl!
  gen := by kernel_rfl!
  kind := by kernel_rfl!
theorem glC8 (P : Params) : GlobIs P "in_table_c8" (.ref 135) := ⟨.ref 135, by kernel_rfl!, fun _ => rep_ref⟩
theorem isC8 (P : Params) : ∃ o fd, (H12 P).get? 135 = some o ∧ o.data = .func fd := ⟨o135 P, fdC8, by kernel_rfl!, rfl⟩
noncomputable def fdC9 : FuncData := fnD (stm 20) 3 (.str (Str.ofString "cpy313.stringprep") 375) (.ref 152) 0
theorem atC9 (P : Params) : FnAt P fdC9 153 ["code"] where
  at' := ⟨o153 P, by kernel_rfl!, rfl⟩
  code := ⟨152, o152 P, _, 757, rfl, by kernel_rfl!, rfl, by kernel_rfl!⟩
  body := by kernel_rfl!
  glob := rfl
  bi := rfl
  clo := rfl
  bind := fun vs h => by
    match vs, h with
    | [a0], _ => kernel_rfl!
  nd := by decide
  kinds := by
    intro x hx
    simp only [List.mem_cons, List.not_mem_nil, or_false] at hx
    rcases hx with rfl
    all_goals first | (left; rfl) | (right; exact ⟨rfl, by decide⟩)
  names := by decide +kernel
  co := by kernel_rfl!
  gen := by kernel_rfl!
  kind := by kernel_rfl!
theorem glC9 (P : Params) : GlobIs P "in_table_c9" (.ref 153) := ⟨.ref 153, by kernel_rfl!, fun _ => rep_ref⟩
theorem isC9 (P : Params) : ∃ o fd, (H12 P).get? 153 = some o ∧ o.data = .func fd := ⟨o153 P, fdC9, by kernel_rfl!, rfl⟩
noncomputable def fdSign : FuncData := fnD (stm 22) 3 (.str (Str.ofString "law_to0003_01") 763) (.ref 157) 0
theorem atSign (P : Params) : FnAt P fdSign 158 ["kind", "number"] where
  at' := ⟨o158 P, by kernel_rfl!, rfl⟩
  code := ⟨157, o157 P, _, 766, rfl, by kernel_rfl!, rfl, by kernel_rfl!⟩
  body := by kernel_rfl!
  glob := rfl
  bi := rfl
  clo := rfl
  bind := fun vs h => by
    match vs, h with
    | [a0, a1], _ => kernel_rfl!
  nd := by decide
  kinds := by
    intro x hx
    simp only [List.mem_cons, List.not_mem_nil, or_false] at hx
    rcases hx with rfl | rfl
    all_goals first | (left; rfl) | (right; exact ⟨rfl, by decide⟩)
  names := by decide +kernel
  co := by kernel_rfl!
  gen := by kernel_rfl!
  kind := by kernel_rfl!
theorem glSign (P : Params) : GlobIs P "_law_sign" (.ref 158) := ⟨.ref 158, by kernel_rfl!, fun _ => rep_ref⟩
theorem isSign (P : Params) : ∃ o fd, (H12 P).get? 158 = some o ∧ o.data = .func fd := ⟨o158 P, fdSign, by kernel_rfl!, rfl⟩
noncomputable def fdBeside : FuncData := fnD (stm 23) 3 (.str (Str.ofString "law_to0003_01") 763) (.ref 164) 0
theorem atBeside (P : Params) : FnAt P fdBeside 165 ["number"] where
  at' := ⟨o165 P, by kernel_rfl!, rfl⟩
  code := ⟨164, o164 P, _, 772, rfl, by kernel_rfl!, rfl, by kernel_rfl!⟩
  body := by kernel_rfl!
  glob := rfl
  bi := rfl
  clo := rfl
  bind := fun vs h => by
    match vs, h with
    | [a0], _ => kernel_rfl!
  nd := by decide
  kinds := by
    intro x hx
    simp only [List.mem_cons, List.not_mem_nil, or_false] at hx
    rcases hx with rfl
    all_goals first | (left; rfl) | (right; exact ⟨rfl, by decide⟩)
  names := by decide +kernel
  co := by kernel_rfl!
  gen := by kernel_rfl!
  kind := by kernel_rfl!
theorem glBeside (P : Params) : GlobIs P "_law_beside" (.ref 165) := ⟨.ref 165, by kernel_rfl!, fun _ => rep_ref⟩
theorem isBeside (P : Params) : ∃ o fd, (H12 P).get? 165 = some o ∧ o.data = .func fd := ⟨o165 P, fdBeside, by kernel_rfl!, rfl⟩
noncomputable def fdLast : FuncData := fnD (stm 24) 3 (.str (Str.ofString "law_to0003_01") 763) (.ref 171) 0
theorem atLast (P : Params) : FnAt P fdLast 172 ["opened"] where
  at' := ⟨o172 P, by kernel_rfl!, rfl⟩
  code := ⟨171, o171 P, _, 781, rfl, by kernel_rfl!, rfl, by kernel_rfl!⟩
  body := by kernel_rfl!
  glob := rfl
  bi := rfl
  clo := rfl
  bind := fun vs h => by
    match vs, h with
    | [a0], _ => kernel_rfl!
  nd := by decide
  kinds := by
    intro x hx
    simp only [List.mem_cons, List.not_mem_nil, or_false] at hx
    rcases hx with rfl
    all_goals first | (left; rfl) | (right; exact ⟨rfl, by decide⟩)
  names := by decide +kernel
  co := by kernel_rfl!
  gen := by kernel_rfl!
  kind := by kernel_rfl!
theorem glLast (P : Params) : GlobIs P "_law_last" (.ref 172) := ⟨.ref 172, by kernel_rfl!, fun _ => rep_ref⟩
theorem isLast (P : Params) : ∃ o fd, (H12 P).get? 172 = some o ∧ o.data = .func fd := ⟨o172 P, fdLast, by kernel_rfl!, rfl⟩
noncomputable def fdNets : FuncData := fnD (stm 25) 3 (.str (Str.ofString "law_to0003_01") 763) (.ref 178) 0
theorem atNets (P : Params) : FnAt P fdNets 179 ["numbers"] where
  at' := ⟨o179 P, by kernel_rfl!, rfl⟩
  code := ⟨178, o178 P, _, 788, rfl, by kernel_rfl!, rfl, by kernel_rfl!⟩
  body := by kernel_rfl!
  glob := rfl
  bi := rfl
  clo := rfl
  bind := fun vs h => by
    match vs, h with
    | [a0], _ => kernel_rfl!
  nd := by decide
  kinds := by
    intro x hx
    simp only [List.mem_cons, List.not_mem_nil, or_false] at hx
    rcases hx with rfl
    all_goals first | (left; rfl) | (right; exact ⟨rfl, by decide⟩)
  names := by decide +kernel
  co := by kernel_rfl!
  gen := by kernel_rfl!
  kind := by kernel_rfl!
theorem glNets (P : Params) : GlobIs P "_law_nets" (.ref 179) := ⟨.ref 179, by kernel_rfl!, fun _ => rep_ref⟩
theorem isNets (P : Params) : ∃ o fd, (H12 P).get? 179 = some o ∧ o.data = .func fd := ⟨o179 P, fdNets, by kernel_rfl!, rfl⟩
noncomputable def fdPieces : FuncData := fnD (stm 26) 3 (.str (Str.ofString "law_to0003_01") 763) (.ref 185) 0
theorem atPieces (P : Params) : FnAt P fdPieces 186 ["net", "start", "number"] where
  at' := ⟨o186 P, by kernel_rfl!, rfl⟩
  code := ⟨185, o185 P, _, 805, rfl, by kernel_rfl!, rfl, by kernel_rfl!⟩
  body := by kernel_rfl!
  glob := rfl
  bi := rfl
  clo := rfl
  bind := fun vs h => by
    match vs, h with
    | [a0, a1, a2], _ => kernel_rfl!
  nd := by decide
  kinds := by
    intro x hx
    simp only [List.mem_cons, List.not_mem_nil, or_false] at hx
    rcases hx with rfl | rfl | rfl
    all_goals first | (left; rfl) | (right; exact ⟨rfl, by decide⟩)
  names := by decide +kernel
  co := by kernel_rfl!
  gen := by kernel_rfl!
  kind := by kernel_rfl!
theorem glPieces (P : Params) : GlobIs P "_law_pieces" (.ref 186) := ⟨.ref 186, by kernel_rfl!, fun _ => rep_ref⟩
theorem isPieces (P : Params) : ∃ o fd, (H12 P).get? 186 = some o ∧ o.data = .func fd := ⟨o186 P, fdPieces, by kernel_rfl!, rfl⟩
noncomputable def fdTold : FuncData := fnD (stm 27) 3 (.str (Str.ofString "law_to0003_01") 763) (.ref 190) 0
theorem atTold (P : Params) : FnAt P fdTold 191 ["judge", "pairs", "relay"] where
  at' := ⟨o191 P, by kernel_rfl!, rfl⟩
  code := ⟨190, o190 P, _, 820, rfl, by kernel_rfl!, rfl, by kernel_rfl!⟩
  body := by kernel_rfl!
  glob := rfl
  bi := rfl
  clo := rfl
  bind := fun vs h => by
    match vs, h with
    | [a0, a1, a2], _ => kernel_rfl!
  nd := by decide
  kinds := by
    intro x hx
    simp only [List.mem_cons, List.not_mem_nil, or_false] at hx
    rcases hx with rfl | rfl | rfl
    all_goals first | (left; rfl) | (right; exact ⟨rfl, by decide⟩)
  names := by decide +kernel
  co := by kernel_rfl!
  gen := by kernel_rfl!
  kind := by kernel_rfl!
theorem glTold (P : Params) : GlobIs P "_law_told" (.ref 191) := ⟨.ref 191, by kernel_rfl!, fun _ => rep_ref⟩
theorem isTold (P : Params) : ∃ o fd, (H12 P).get? 191 = some o ∧ o.data = .func fd := ⟨o191 P, fdTold, by kernel_rfl!, rfl⟩
noncomputable def fdDue : FuncData := fnD (stm 28) 3 (.str (Str.ofString "law_to0003_01") 763) (.ref 197) 0
theorem atDue (P : Params) : FnAt P fdDue 198 ["pieces", "nodes"] where
  at' := ⟨o198 P, by kernel_rfl!, rfl⟩
  code := ⟨197, o197 P, _, 826, rfl, by kernel_rfl!, rfl, by kernel_rfl!⟩
  body := by kernel_rfl!
  glob := rfl
  bi := rfl
  clo := rfl
  bind := fun vs h => by
    match vs, h with
    | [a0, a1], _ => kernel_rfl!
  nd := by decide
  kinds := by
    intro x hx
    simp only [List.mem_cons, List.not_mem_nil, or_false] at hx
    rcases hx with rfl | rfl
    all_goals first | (left; rfl) | (right; exact ⟨rfl, by decide⟩)
  names := by decide +kernel
  co := by kernel_rfl!
  gen := by kernel_rfl!
  kind := by kernel_rfl!
theorem glDue (P : Params) : GlobIs P "_law_due" (.ref 198) := ⟨.ref 198, by kernel_rfl!, fun _ => rep_ref⟩
theorem isDue (P : Params) : ∃ o fd, (H12 P).get? 198 = some o ∧ o.data = .func fd := ⟨o198 P, fdDue, by kernel_rfl!, rfl⟩
noncomputable def fdLaw : FuncData := fnD (stm 29) 3 (.str (Str.ofString "law_to0003_01") 763) (.ref 202) 0
theorem atLaw (P : Params) : FnAt P fdLaw 203 ["script"] where
  at' := ⟨o203 P, by kernel_rfl!, rfl⟩
  code := ⟨202, o202 P, _, 840, rfl, by kernel_rfl!, rfl, by kernel_rfl!⟩
  body := by kernel_rfl!
  glob := rfl
  bi := rfl
  clo := rfl
  bind := fun vs h => by
    match vs, h with
    | [a0], _ => kernel_rfl!
  nd := by decide
  kinds := by
    intro x hx
    simp only [List.mem_cons, List.not_mem_nil, or_false] at hx
    rcases hx with rfl
    all_goals first | (left; rfl) | (right; exact ⟨rfl, by decide⟩)
  names := by decide +kernel
  co := by kernel_rfl!
  gen := by kernel_rfl!
  kind := by kernel_rfl!
theorem glLaw (P : Params) : GlobIs P "law" (.ref 203) := ⟨.ref 203, by kernel_rfl!, fun _ => rep_ref⟩
theorem isLaw (P : Params) : ∃ o fd, (H12 P).get? 203 = some o ∧ o.data = .func fd := ⟨o203 P, fdLaw, by kernel_rfl!, rfl⟩
theorem b_len (P : Params) : BltIs P "len" (.builtin "len") := ⟨by kernel_rfl!, by kernel_rfl!⟩
theorem b_ord (P : Params) : BltIs P "ord" (.builtin "ord") := ⟨by kernel_rfl!, by kernel_rfl!⟩
theorem b_chr (P : Params) : BltIs P "chr" (.builtin "chr") := ⟨by kernel_rfl!, by kernel_rfl!⟩
theorem b_sum (P : Params) : BltIs P "sum" (.builtin "sum") := ⟨by kernel_rfl!, by kernel_rfl!⟩
theorem b_max (P : Params) : BltIs P "max" (.builtin "max") := ⟨by kernel_rfl!, by kernel_rfl!⟩
theorem b_range (P : Params) : BltIs P "range" (.type "range") := ⟨by kernel_rfl!, by kernel_rfl!⟩
theorem b_enumerate (P : Params) : BltIs P "enumerate" (.type "enumerate") := ⟨by kernel_rfl!, by kernel_rfl!⟩
theorem gl_twin_re_1 (P : Params) : GlobIs P "_twin_re_1" (.ref 50) := ⟨.ref 50, by kernel_rfl!, fun _ => rep_ref⟩
theorem gl_twin_re_2 (P : Params) : GlobIs P "_twin_re_2" (.ref 55) := ⟨.ref 55, by kernel_rfl!, fun _ => rep_ref⟩
theorem gl_b1_set (P : Params) : GlobIs P "b1_set" (.ref 70) := ⟨.ref 70, by kernel_rfl!, fun _ => rep_ref⟩
theorem gl_c6_set (P : Params) : GlobIs P "c6_set" (.ref 89) := ⟨.ref 89, by kernel_rfl!, fun _ => rep_ref⟩
theorem gl_c7_set (P : Params) : GlobIs P "c7_set" (.ref 101) := ⟨.ref 101, by kernel_rfl!, fun _ => rep_ref⟩
theorem gl_c8_set (P : Params) : GlobIs P "c8_set" (.ref 125) := ⟨.ref 125, by kernel_rfl!, fun _ => rep_ref⟩
theorem gl_c9_set (P : Params) : GlobIs P "c9_set" (.ref 143) := ⟨.ref 143, by kernel_rfl!, fun _ => rep_ref⟩
theorem gl_CRLF (P : Params) : GlobIs P "CRLF" (.str ⟨#[13, 10]⟩) := ⟨.str ⟨#[13, 10]⟩ 366, by kernel_rfl!, fun _ => rep_str⟩
end Mine
end
section
set_option Elab.async false
set_option linter.unusedVariables false
set_option maxRecDepth 100000
namespace Mine
open PySem PySem.W PySem.Calls PyProof.Rows
local macro_rules | `(tactic| walk_at "ev") => `(tactic| first
  | exact Ev.int
  | exact Ev.str
  | exact Ev.bool
  | exact Ev.none_
  | (refine Ev.name ?_; rfl)
  | (refine Ev.mod ?_ ?_ ?_ <;> first | walk_at "ev" | skip)
  | (refine Ev.add ?_ ?_ <;> first | walk_at "ev" | skip)
  | (refine Ev.sub ?_ ?_ <;> first | walk_at "ev" | skip)
  | (refine Ev.list ?_ ?_ <;> first | walk_at "ev" | decide | skip)
  | (refine Ev.tuple ?_ ?_ <;> first | walk_at "ev" | decide | skip)
  | exact Evs.nil
  | (refine Evs.cons ?_ ?_ <;> first | walk_at "ev" | skip)
  )
noncomputable def besideL : List Int := [172, 174, 846, 848, 6149, 6151, 6154, 6158, 8202, 8208, 8233, 8239, 8287, 8289, 8297, 8304, 831, 834, 12271, 12284, 64975, 65008, 65023, 65040, 65278, 65280, 65528, 65536, 131069, 917504, 917506, 917535, 917632]
noncomputable def besideC (x : Int) : Int := besideL.getD (x.fmod 33).toNat 0
theorem getD_get {xs : List Int} {k : Nat} (h : k < xs.length) : (xs.map PV.int)[k]? = some (.int (xs.getD k 0)) := by
  rw [List.getElem?_map, List.getD_eq_getElem?_getD]
  simp [h]
theorem beside_le : ∀ y ∈ besideL, 0 ≤ y ∧ y ≤ 1114111 := by decide
theorem besideC_le (x : Int) : 0 ≤ besideC x ∧ besideC x ≤ 1114111 := by
  have h0 := Int.fmod_nonneg_of_pos x (by decide : (0 : Int) < 33)
  have h1 := Int.fmod_lt_of_pos x (by decide : (0 : Int) < 33)
  have hk : (x.fmod 33).toNat < besideL.length := by
    have : besideL.length = 33 := rfl
    omega
  unfold besideC
  rw [List.getD_eq_getElem?_getD, List.getElem?_eq_getElem hk]
  exact beside_le _ (List.getElem_mem hk)
theorem body_beside {p : Program} {w : World} {n : Nat} (x : Int) : BodyOk p w n fdBeside 165 ["number"] [.int x] (.str ⟨#[(besideC x).toNat]⟩) := by
  intro A s0 g0 L s g hA F Q E hQ
  refine F.assign (r := .lst ((besideL.take 18).map .int)) ?_ (.inl ?_) ?_
  rotate_left
  · rfl
  rotate_left
  · walk_at "ev"
  intro g1 s1 l1 F1
  refine F1.assign (r := .lst ((besideL.drop 18).map .int)) ?_ (.inl ?_) ?_
  rotate_left
  · rfl
  rotate_left
  · walk_at "ev"
  intro g2 s2 l2 F2
  have h0 := Int.fmod_nonneg_of_pos x (by decide : (0 : Int) < 33)
  have h1 := Int.fmod_lt_of_pos x (by decide : (0 : Int) < 33)
  refine F2.ret (r := .str ⟨#[(besideC x).toNat]⟩) ?_ hQ
  refine Ev.chr ?_ (b_chr _) ?_ (besideC_le x).1 (besideC_le x).2
  · rfl
  · refine Ev.item (ps := besideL.map .int) (k := x.fmod 33) ?_ ?_ h0 (by omega) (getD_get (by have : besideL.length = 33 := rfl; omega))
    · refine Ev.conv (Ev.addL (xs := (besideL.take 18).map .int) (ys := (besideL.drop 18).map .int) ?_ ?_ ?_) ?_
      · walk_at "ev"
      · walk_at "ev"
      · decide
      · rfl
    · refine Ev.mod (x := x) (y := 33) ?_ ?_ (by decide)
      · walk_at "ev"
      · walk_at "ev"
theorem fn_beside {p : Program} {w : World} {n : Nat} (x : Int) : FnOk p w (n + 1) (.ref 165) [.int x] (.str ⟨#[(besideC x).toNat]⟩) := FnOk.of_body (atBeside _) rfl (body_beside x)

noncomputable def lastP (xs : List Int) : Int := if xs = [] then 0 else 2 ^ (xs.getLastD 0).toNat
theorem body_last {p : Program} {w : World} {n : Nat} (xs : List Int) (hx : ∀ x ∈ xs, 0 ≤ x ∧ x ≤ 1000) (hl : xs.length ≤ 1000) : BodyOk p w (n + 1) fdLast 172 ["opened"] [.lst (xs.map .int)] (.int (lastP xs)) := by
  intro A s0 g0 L s g hA F Q E hQ
  refine F.ret (r := .int (lastP xs)) ?_ hQ
  refine Ev.ite (b := !(xs.map PV.int).isEmpty) ?_ ?_ ?_
  · refine EvB.neNil ⟨hA.handled, by have := hA.depth; omega, by have := hA.units; omega⟩ ?_ ?_
    · walk_at "ev"
    · walk_at "ev"
  · intro hb
    have hne : xs ≠ [] := by rintro rfl; simp at hb
    have hlen : 0 < xs.length := List.length_pos_iff.mpr hne
    have hlast : xs[xs.length - 1]? = some (xs.getLastD 0) := by
      rw [List.getLastD_eq_getLast?, List.getLast?_eq_getElem?]
      have e : xs[xs.length - 1]? = some xs[xs.length - 1] := List.getElem?_eq_getElem (by omega)
      rw [e]; rfl
    have hmem : xs.getLastD 0 ∈ xs := List.mem_of_getElem? hlast
    refine Ev.conv (Ev.pow (x := 2) (y := xs.getLastD 0) ?_ ?_ (hx _ hmem).1 (by have := (hx _ hmem).2; omega) (by decide)) ?_
    · walk_at "ev"
    · refine Ev.itemNeg (ps := xs.map .int) (k := -1) ?_ ?_ (by decide) (by simp; omega) (by simp; omega) ?_
      · walk_at "ev"
      · refine Ev.conv (Ev.neg (x := 1) ?_) rfl
        walk_at "ev"
      · have e : ((-1 : Int) + ((xs.map PV.int).length : Int)).toNat = xs.length - 1 := by simp; omega
        rw [e, List.getElem?_map, hlast]
        rfl
    · unfold lastP
      rw [if_neg hne]
  · intro hb
    have hne : xs = [] := by
      cases xs with
      | nil => rfl
      | cons a b => simp at hb
    subst hne
    walk_at "ev"
theorem fn_last {p : Program} {w : World} {n : Nat} (xs : List Int) (hx : ∀ x ∈ xs, 0 ≤ x ∧ x ≤ 1000) (hl : xs.length ≤ 1000) : FnOk p w (n + 2) (.ref 172) [.lst (xs.map .int)] (.int (lastP xs)) := FnOk.of_body (atLast _) rfl (body_last xs hx hl)
end Mine
end
section
set_option Elab.async false
set_option linter.unusedVariables false
set_option maxRecDepth 100000
set_option maxHeartbeats 2000000
namespace Mine
open PySem PySem.W PySem.Calls PyProof.Rows
local macro_rules | `(tactic| walk_at "ev") => `(tactic| first
  | exact Ev.int
  | exact Ev.str
  | exact Ev.bool
  | exact Ev.none_
  | (refine Ev.name ?_; rfl)
  | (refine Ev.mod ?_ ?_ ?_ <;> first | walk_at "ev" | skip)
  | (refine Ev.add ?_ ?_ <;> first | walk_at "ev" | skip)
  | (refine Ev.sub ?_ ?_ <;> first | walk_at "ev" | skip)
  | (refine Ev.list ?_ ?_ <;> first | walk_at "ev" | decide | skip)
  | (refine Ev.tuple ?_ ?_ <;> first | walk_at "ev" | decide | skip)
  | exact Evs.nil
  | (refine Evs.cons ?_ ?_ <;> first | walk_at "ev" | skip)
  )
noncomputable def runsOf (k : Nat) : List (Int × Int) :=
  [[(173, 1), (847, 1), (6150, 1), (6155, 3), (8203, 3), (8288, 1), (65024, 16), (65279, 1)], [], [(65529, 5)], [(12272, 12)], [(832, 2), (8206, 2), (8234, 5), (8298, 6)], [(917505, 1), (917536, 96)]].getD k []
noncomputable def rp (xs : List (Int × Int)) : PV := .lst (xs.map fun y => .tup [.int y.1, .int y.2])
noncomputable def pickR : List (Int × Int) → Int → Int
  | [], _ => 0
  | (f, z) :: r, x => if x < z then f + x else pickR r (x - z)
noncomputable def totalR (xs : List (Int × Int)) : Int := (xs.map (·.2)).sum
noncomputable def c4C (x : Int) : Int := let y := x.fmod 66; if y < 32 then 64976 + y else 65536 * (y.fdiv 2 - 16) + 65534 + y.fmod 2
noncomputable def signC (k : Nat) (x : Int) : Int := if k = 1 then c4C x else pickR (runsOf k) (x.fmod (totalR (runsOf k)))
theorem c4C_le (x : Int) : 0 ≤ c4C x ∧ c4C x ≤ 1114111 := by
  have h0 := Int.fmod_nonneg_of_pos x (by decide : (0 : Int) < 66)
  have h1 := Int.fmod_lt_of_pos x (by decide : (0 : Int) < 66)
  unfold c4C
  generalize x.fmod 66 = y at *
  have a0 := Int.fmod_nonneg_of_pos y (by decide : (0 : Int) < 2)
  have a1 := Int.fmod_lt_of_pos y (by decide : (0 : Int) < 2)
  have a2 : y.fdiv 2 * 2 + y.fmod 2 = y := by have := Int.mul_fdiv_add_fmod y 2; omega
  dsimp only
  split <;> omega
theorem runs_get : ∀ k : Nat, k < 6 → [rp (runsOf 0), rp (runsOf 1), rp (runsOf 2), rp (runsOf 3), rp (runsOf 4), rp (runsOf 5)][((k : Int)).toNat]? = some (rp (runsOf k))
  | 0, _ => rfl
  | 1, _ => rfl
  | 2, _ => rfl
  | 3, _ => rfl
  | 4, _ => rfl
  | 5, _ => rfl
theorem runs_len : ∀ k : Nat, k < 6 → (runsOf k).length ≤ 100000
  | 0, _ => by decide
  | 1, _ => by decide
  | 2, _ => by decide
  | 3, _ => by decide
  | 4, _ => by decide
  | 5, _ => by decide
theorem runs_bd : ∀ k : Nat, k < 6 → ∀ r ∈ runsOf k, 0 ≤ r.1 ∧ r.1 + r.2 ≤ 1114112
  | 0, _ => by decide
  | 1, _ => by decide
  | 2, _ => by decide
  | 3, _ => by decide
  | 4, _ => by decide
  | 5, _ => by decide
theorem runs_total : ∀ k : Nat, k < 6 → k ≠ 1 → 0 < totalR (runsOf k)
  | 0, _, _ => by decide
  | 1, _, h => absurd rfl h
  | 2, _, _ => by decide
  | 3, _, _ => by decide
  | 4, _, _ => by decide
  | 5, _, _ => by decide
theorem body_sign {p : Program} {w : World} {n : Nat} (k : Nat) (hk : k < 6) (x : Int) : BodyOk p w (n + 1) fdSign 158 ["kind", "number"] [.int k, .int x] (.str ⟨#[(signC k x).toNat]⟩) := by
  intro A s0 g0 L s g hA F Q E hQ
  refine F.if_ (b := ((k : Int) == 1)) ?_ ?_ ?_
  · refine EvB.cmpI CmpI.eq (x := k) (y := 1) ?_ ?_
    · walk_at "ev"
    · walk_at "ev"
  · intro hb s1 F1
    have hk1 : (k : Int) = 1 := by simpa using hb
    have hk1' : k = 1 := by omega
    subst hk1'
    refine F1.assign (r := .int (x.fmod 66)) ?_ (.inl ?_) ?_
    rotate_left
    · rfl
    rotate_left
    · refine Ev.mod ?_ ?_ (by decide)
      · walk_at "ev"
      · walk_at "ev"
    intro g2 s2 l2 F2
    have e : signC 1 x = c4C x := rfl
    refine F2.ret (r := .str ⟨#[(signC 1 x).toNat]⟩) ?_ hQ
    rw [e]
    refine Ev.chr ?_ (b_chr _) ?_ (c4C_le x).1 (c4C_le x).2
    · rfl
    · have h0 := Int.fmod_nonneg_of_pos x (by decide : (0 : Int) < 66)
      have h1 := Int.fmod_lt_of_pos x (by decide : (0 : Int) < 66)
      refine Ev.ite (b := decide (x.fmod 66 < 32)) ?_ ?_ ?_
      · refine EvB.cmpI CmpI.lt ?_ ?_
        · walk_at "ev"
        · walk_at "ev"
      · intro hc
        refine Ev.conv (Ev.add (x := 64976) (y := x.fmod 66) ?_ ?_) ?_
        · walk_at "ev"
        · walk_at "ev"
        · unfold c4C
          dsimp only
          rw [if_pos (by simpa using hc)]
      · intro hc
        refine Ev.conv (Ev.add (x := 65536 * ((x.fmod 66).fdiv 2 - 16) + 65534) (y := (x.fmod 66).fmod 2) (Ev.add (Ev.mul (x := 65536) (y := (x.fmod 66).fdiv 2 - 16) ?_ (Ev.sub (Ev.floordiv (x := x.fmod 66) (y := 2) ?_ ?_ (by decide) (by decide)) ?_) ?_) ?_) (Ev.mod (x := x.fmod 66) (y := 2) ?_ ?_ (by decide))) ?_
        · walk_at "ev"
        · walk_at "ev"
        · walk_at "ev"
        · walk_at "ev"
        · exact IntMulOk.of_left (by decide)
        · walk_at "ev"
        · walk_at "ev"
        · walk_at "ev"
        · unfold c4C
          dsimp only
          rw [if_neg (by simpa using hc)]
  · intro hb s1 F1
    refine Ex.nil_ ?_
    show Ex p A _ _ Q E s1
    refine F1.assign (r := rp (runsOf 0)) ?_ (.inl ?_) ?_
    rotate_left
    · rfl
    rotate_left
    · walk_at "ev"
    intro g2 s2 l2 F2
    refine F2.assign (r := .lst [rp (runsOf 4), rp (runsOf 5)]) ?_ (.inl ?_) ?_
    rotate_left
    · rfl
    rotate_left
    · walk_at "ev"
    intro g3 s3 l3 F3
    refine F3.assign (r := rp (runsOf k)) ?_ (.inl ?_) ?_
    rotate_left
    · rfl
    rotate_left
    · refine Ev.item (ps := [rp (runsOf 0), rp (runsOf 1), rp (runsOf 2), rp (runsOf 3), rp (runsOf 4), rp (runsOf 5)]) (k := (k : Int)) ?_ ?_ (by omega) (by omega) ?_
      · refine Ev.addL (xs := [rp (runsOf 0), rp (runsOf 1), rp (runsOf 2), rp (runsOf 3)]) (ys := [rp (runsOf 4), rp (runsOf 5)]) ?_ ?_ (by decide)
        · walk_at "ev"
        · walk_at "ev"
      · walk_at "ev"
      · exact runs_get k hk
    intro g4 s4 l4 F4
    refine F4.assign (r := .int (x.fmod (totalR (runsOf k)))) ?_ (.inl ?_) ?_
    rotate_left
    · rfl
    rotate_left
    · refine Ev.mod ?_ ?_ ?_
      · walk_at "ev"
      · refine Ev.conv (r := .int ((runsOf k).map (·.2)).sum) ?_ rfl
        refine Ev.sum hA.handled ?_ (b_sum _) ?_
        · rfl
        · refine Ev.conv (Ev.compA (n := n) (runsOf k) (fun y => .tup [.int y.1, .int y.2]) (fun y => .int y.2) ?_ ?_ ?_ ?_ ?_) ?_
          · exact hA.mono (Nat.le_succ _)
          · refine SrcE.list ?_
            refine Ev.conv (r := rp (runsOf k)) ?_ rfl
            walk_at "ev"
          · exact CompOk.of (by kernel_rfl!)
          · exact runs_len k hk
          · intro y hy C cells g' hg
            refine ⟨_, Binds.tup2 (.inl ?_) (.inl ?_), ?_⟩
            · rfl
            · rfl
            · walk_at "ev"
          · rw [List.map_map]; rfl
      · have hne : k ≠ 1 := fun q => by subst q; simp at hb
        exact Int.ne_of_gt (runs_total k hk hne)
    intro g5 s5 l5 F5
    have hne : k ≠ 1 := fun q => by subst q; simp at hb
    have hsg : signC k x = pickR (runsOf k) (x.fmod (totalR (runsOf k))) := by unfold signC; rw [if_neg hne]
    have h0 := Int.fmod_nonneg_of_pos x (runs_total k hk hne)
    have h1 := Int.fmod_lt_of_pos x (runs_total k hk hne)
    rw [hsg] at hQ
    generalize x.fmod (totalR (runsOf k)) = y at *
    let pre : Nat → Int := fun i => (((runsOf k).take i).map (·.2)).sum
    refine Fr.for_ (n := n) F5 (runsOf k) (fun y => .tup [.int y.1, .int y.2]) (fun y => [("size", .int y.2), ("first", .int y.1)]) (fun i => [("place", .int (y - pre i))]) (fun _ => [])
      (fun i => pickR ((runsOf k).drop i) (y - pre i) = pickR (runsOf k) y ∧ 0 ≤ y - pre i) ?_ ?_ ?_ ?_ ?_ ?_ ?_ ?_
    · exact hA.mono (Nat.le_succ _)
    · refine SrcE.list ?_
      refine Ev.conv (r := rp (runsOf k)) ?_ rfl
      walk_at "ev"
    · rfl
    · have e : y - pre 0 = y := by simp [pre]
      rw [e]
      exact (Sub.cons rfl .nil).all
    · exact ⟨by simp [pre], by simpa [pre] using h0⟩
    · intro z hz
      refine Binds.tup2 (.inl ?_) (.inl ?_)
      · rfl
      · rfl
    · intro i hi oth g' s' E' hg hok F6
      obtain ⟨ok1, ok2⟩ := hok
      have hd : (runsOf k).drop i = (runsOf k)[i] :: (runsOf k).drop (i + 1) := List.drop_eq_getElem_cons hi
      rw [hd] at ok1
      have hbd := runs_bd k hk _ (List.getElem_mem hi)
      generalize hri : (runsOf k)[i] = ri at *
      obtain ⟨fi, zi⟩ := ri
      dsimp only at hbd
      have hpre : pre (i + 1) = pre i + zi := by
        show (((runsOf k).take (i + 1)).map (·.2)).sum = (((runsOf k).take i).map (·.2)).sum + zi
        rw [List.take_add_one, List.getElem?_eq_getElem hi, hri]
        simp
      refine F6.if_ (b := decide (y - pre i < zi)) ?_ ?_ ?_
      · refine EvB.cmpI CmpI.lt ?_ ?_
        · walk_at "ev"
        · walk_at "ev"
      · intro hc s7 F7
        have hc' : y - pre i < zi := by simpa using hc
        have hp : pickR (runsOf k) y = fi + (y - pre i) := by
          rw [← ok1]
          show (if y - pre i < zi then _ else _) = _
          rw [if_pos hc']
        refine F7.ret (r := .str ⟨#[(pickR (runsOf k) y).toNat]⟩) ?_ ?_
        · rw [hp]
          refine Ev.chr ?_ (b_chr _) (Ev.add (x := fi) (y := y - pre i) ?_ ?_) ?_ ?_
          · rfl
          · walk_at "ev"
          · walk_at "ev"
          · omega
          · omega
        · intro v s8 k8 r8
          exact .inr ⟨v, rfl, hQ v s8 k8 r8⟩
      · intro hc s7 F7
        have hc' : ¬ y - pre i < zi := by simpa using hc
        refine Ex.nil_ ?_
        show Ex p A _ _ _ E' s7
        refine F7.assign (r := .int (y - pre i - zi)) ?_ (.inl ?_) ?_
        rotate_left
        · rfl
        rotate_left
        · walk_at "ev"
        intro g8 s8 l8 F8
        refine Ex.nil_ (.inl ⟨rfl, ⟨?_, ?_⟩, g8, l8, ?_⟩)
        · rw [hpre, ← ok1]
          show _ = if y - pre i < zi then _ else _
          rw [if_neg hc']
          congr 1; omega
        · rw [hpre]; omega
        · have e : y - pre (i + 1) = y - pre i - zi := by rw [hpre]; omega
          rw [e]
          exact F8.weaken (Sub.cons rfl .nil).all
    · intro g6 s6 l6 hok F6
      exfalso
      have : pre (runsOf k).length = totalR (runsOf k) := by
        show (((runsOf k).take _).map (·.2)).sum = _
        rw [List.take_length]; rfl
      rw [this] at hok
      omega
theorem fn_sign {p : Program} {w : World} {n : Nat} (k : Nat) (hk : k < 6) (x : Int) : FnOk p w (n + 2) (.ref 158) [.int k, .int x] (.str ⟨#[(signC k x).toNat]⟩) := FnOk.of_body (atSign _) rfl (body_sign k hk x)
end Mine
end
section
set_option Elab.async false
set_option linter.unusedVariables false
set_option maxRecDepth 100000
set_option maxHeartbeats 2000000
namespace Mine
open PySem PySem.W PySem.Calls PyProof.Rows
local macro_rules | `(tactic| walk_at "ev") => `(tactic| first
  | exact Ev.int
  | exact Ev.str
  | exact Ev.bool
  | exact Ev.none_
  | (refine Ev.name ?_; rfl)
  | (refine Ev.mod ?_ ?_ ?_ <;> first | walk_at "ev" | skip)
  | (refine Ev.add ?_ ?_ <;> first | walk_at "ev" | skip)
  | (refine Ev.sub ?_ ?_ <;> first | walk_at "ev" | skip)
  | (refine Ev.list ?_ ?_ <;> first | walk_at "ev" | decide | skip)
  | (refine Ev.tuple ?_ ?_ <;> first | walk_at "ev" | decide | skip)
  | exact Evs.nil
  | (refine Evs.cons ?_ ?_ <;> first | walk_at "ev" | skip)
  )
noncomputable def ch (c : Nat) : PV := .str ⟨#[c]⟩
noncomputable def mk2 (y : Nat × Int) : PV := .tup [ch y.1, .int y.2]
noncomputable def toldP (jd : Nat → Bool) (relay : Int) (xs : List (Nat × Int)) : List (Nat × Int) := xs.map fun y => (y.1, y.2 + if jd y.1 then relay else 0)
theorem body_told {p : Program} {w : World} {n : Nat} (ja : Addr) (jd : Nat → Bool) (relay : Int) (xs : List (Nat × Int)) (hx : xs.length ≤ 100000) (hat : ∃ o fd, (H12 w.params).get? ja = some o ∧ o.data = .func fd)
    (hj : ∀ c ∈ xs.map (·.1), FnOk p w n (.ref ja) [ch c] (.bool (jd c))) : BodyOk p w n fdTold 191 ["judge", "pairs", "relay"] [.ref ja, .lst (xs.map mk2), .int relay] (.lst ((toldP jd relay xs).map mk2)) := by
  intro A s0 g0 L s g hA F Q E hQ
  refine F.assignA (n := n) xs mk2 (fun y => .tup [ch y.1, .int y.2, .bool (jd y.1)]) hA ?_ (CompOk.of ?_) hx (.inl ?_) ?_ ?_
  · refine SrcE.list ?_
    walk_at "ev"
  · kernel_rfl!
  · rfl
  · intro y hy C cells g' hg
    refine ⟨_, Binds.tup2 (.inl ?_) (.inl ?_), ?_⟩
    · rfl
    · rfl
    · refine Ev.tuple (Evs.cons ?_ (Evs.cons ?_ (Evs.cons ?_ Evs.nil))) ?_
      · walk_at "ev"
      · walk_at "ev"
      · refine Ev.callF hA ?_ (hj y.1 (List.mem_map_of_mem hy)) hat ?_
        · walk_at "ev"
        · walk_at "ev"
      · simp
  intro g1 s1 l1 F1
  refine F1.ret (r := .lst ((toldP jd relay xs).map mk2)) ?_ hQ
  refine Ev.conv (Ev.compA (n := n) xs (fun y => .tup [ch y.1, .int y.2, .bool (jd y.1)]) (fun y => mk2 (y.1, y.2 + if jd y.1 then relay else 0)) hA ?_ (CompOk.of ?_) hx ?_) ?_
  · refine SrcE.list ?_
    walk_at "ev"
  · kernel_rfl!
  · intro y hy C cells g' hg
    refine ⟨_, Binds.tup3 (.inl ?_) (.inl ?_) (.inl ?_), ?_⟩
    · rfl
    · rfl
    · rfl
    · refine Ev.tuple (Evs.cons ?_ (Evs.cons ?_ Evs.nil)) ?_
      · walk_at "ev"
      · refine Ev.add ?_ ?_
        · walk_at "ev"
        · refine Ev.ite (b := jd y.1 == true) ?_ ?_ ?_
          · refine EvB.isBool ?_
            walk_at "ev"
          · intro hb
            have hb' : jd y.1 = true := by simpa using hb
            rw [hb']
            refine Ev.conv (r := .int relay) ?_ rfl
            walk_at "ev"
          · intro hb
            have hb' : jd y.1 = false := by simpa using hb
            rw [hb']
            refine Ev.conv (r := .int 0) ?_ rfl
            refine Ev.ite (b := false == false) ?_ ?_ ?_
            · refine EvB.isBool ?_
              walk_at "ev"
            · intro _
              walk_at "ev"
            · intro q
              cases q
      · simp
  · rw [toldP, List.map_map]; rfl
theorem fn_told {p : Program} {w : World} {n : Nat} (ja : Addr) (jd : Nat → Bool) (relay : Int) (xs : List (Nat × Int)) (hx : xs.length ≤ 100000) (hat : ∃ o fd, (H12 w.params).get? ja = some o ∧ o.data = .func fd)
    (hj : ∀ c ∈ xs.map (·.1), FnOk p w n (.ref ja) [ch c] (.bool (jd c))) : FnOk p w (n + 1) (.ref 191) [.ref ja, .lst (xs.map mk2), .int relay] (.lst ((toldP jd relay xs).map mk2)) := FnOk.of_body (atTold _) rfl (body_told ja jd relay xs hx hat hj)
end Mine
end
section
set_option Elab.async false
set_option linter.unusedVariables false
set_option maxRecDepth 100000
set_option maxHeartbeats 2000000
namespace Mine
open PySem PySem.W PySem.Calls PyProof.Rows
local macro_rules | `(tactic| walk_at "ev") => `(tactic| first
  | exact Ev.int
  | exact Ev.str
  | exact Ev.bool
  | exact Ev.none_
  | (refine Ev.name ?_; rfl)
  | (refine Ev.mod ?_ ?_ ?_ <;> first | walk_at "ev" | skip)
  | (refine Ev.add ?_ ?_ <;> first | walk_at "ev" | skip)
  | (refine Ev.sub ?_ ?_ <;> first | walk_at "ev" | skip)
  | (refine Ev.list ?_ ?_ <;> first | walk_at "ev" | decide | skip)
  | (refine Ev.tuple ?_ ?_ <;> first | walk_at "ev" | decide | skip)
  | exact Evs.nil
  | (refine Evs.cons ?_ ?_ <;> first | walk_at "ev" | skip)
  )
/-- a piece: its node, its text, what is sent for it -/
noncomputable abbrev Piece := Nat × Str × Str
noncomputable def mk3 (y : Piece) : PV := .tup [.int y.1, .str y.2.1, .str y.2.2]
noncomputable def liveB (nodes : Int) (node : Nat) : Bool := (nodes.fdiv (2 ^ node)).fmod 2 == 1
noncomputable def dueStep (nodes : Int) (st : Str × Bool) (y : Piece) : Str × Bool :=
  (if st.2 then st.1 ++ (if liveB nodes y.1 || (y.1 : Int) == 4 then y.2.2 else y.2.1) else st.1, if liveB nodes y.1 then !st.2 else st.2)
noncomputable def dueP (nodes : Int) (xs : List Piece) : Str := (xs.foldl (dueStep nodes) (⟨#[]⟩, true)).1
noncomputable def szP (xs : List Piece) : Nat := (xs.map fun y => y.2.1.length + y.2.2.length).sum
theorem due_le (nodes : Int) : ∀ (xs : List Piece) (st : Str × Bool), (xs.foldl (dueStep nodes) st).1.length ≤ st.1.length + szP xs
  | [], st => by simp [szP]
  | y :: r, st => by
    rw [List.foldl_cons]
    refine Nat.le_trans (due_le nodes r _) ?_
    have e : szP (y :: r) = (y.2.1.length + y.2.2.length) + szP r := by simp [szP]
    rw [e]
    have : (dueStep nodes st y).1.length ≤ st.1.length + (y.2.1.length + y.2.2.length) := by
      unfold dueStep
      dsimp only
      split
      · rw [Str.length_append]
        split <;> omega
      · omega
    omega
theorem fold_take {α β : Type} (f : β → α → β) (b : β) (xs : List α) (i : Nat) (h : i < xs.length) : (xs.take (i + 1)).foldl f b = f ((xs.take i).foldl f b) xs[i] := by
  rw [List.take_add_one, List.getElem?_eq_getElem h, List.foldl_append]; rfl
theorem szP_take (xs : List Piece) (i : Nat) (h : i < xs.length) : szP (xs.take i) + (xs[i].2.1.length + xs[i].2.2.length) ≤ szP xs := by
  have e : xs = xs.take i ++ xs[i] :: xs.drop (i + 1) := by
    rw [← List.drop_eq_getElem_cons h, List.take_append_drop]
  have e2 : szP xs = szP (xs.take i) + ((xs[i].2.1.length + xs[i].2.2.length) + szP (xs.drop (i + 1))) := by
    conv => lhs; rw [e]
    unfold szP
    rw [List.map_append, List.sum_append, List.map_cons, List.sum_cons]
  omega
theorem pow_small : ∀ node : Nat, node ≤ 4 → ((2 : Int) ^ node).natAbs < 1073741824
  | 0, _ => by decide
  | 1, _ => by decide
  | 2, _ => by decide
  | 3, _ => by decide
  | 4, _ => by decide
  | n + 5, h => by omega
theorem body_due {p : Program} {w : World} {n : Nat} (nodes : Int) (xs : List Piece) (hx : xs.length ≤ 100000) (hn : ∀ y ∈ xs, y.1 ≤ 4) (hz : szP xs ≤ 100000) : BodyOk p w n fdDue 198 ["pieces", "nodes"] [.lst (xs.map mk3), .int nodes] (.str (dueP nodes xs)) := by
  intro A s0 g0 L s g hA F Q E hQ
  refine F.assign (r := .str ⟨#[]⟩) ?_ (.inl ?_) ?_
  rotate_left
  · rfl
  rotate_left
  · exact Ev.str
  intro g1 s1 l1 F1
  refine F1.assign (r := .bool true) ?_ (.inl ?_) ?_
  rotate_left
  · rfl
  rotate_left
  · exact Ev.bool
  intro g2 s2 l2 F2
  let st : Nat → Str × Bool := fun i => (xs.take i).foldl (dueStep nodes) (⟨#[]⟩, true)
  refine Fr.for_ (n := n) F2 xs mk3 (fun y => [("sent", .str y.2.2), ("text", .str y.2.1), ("node", .int y.1)]) (fun i => [("due", .str (st i).1), ("seen", .bool (st i).2), ("nodes", .int nodes)]) (fun _ => []) (fun _ => True) hA ?_ rfl ?_ trivial ?_ ?_ ?_
  · refine SrcE.list ?_
    walk_at "ev"
  · exact (Sub.cons rfl (.cons rfl (.cons rfl .nil))).all
  · intro z hz
    refine Binds.tup3 (.inl ?_) (.inl ?_) (.inl ?_)
    · rfl
    · rfl
    · rfl
  · intro i hi oth g' s' E' hg _ F6
    have hst : st (i + 1) = dueStep nodes (st i) xs[i] := fold_take _ _ xs i hi
    have hlen : (st i).1.length ≤ szP (xs.take i) := by
      have := due_le nodes (xs.take i) (⟨#[]⟩, true)
      simpa [Str.length] using this
    have hsz := szP_take xs i hi
    have hni := hn _ (List.getElem_mem hi)
    rw [hst]
    generalize hxi : xs[i] = y at *
    generalize st i = d at *
    obtain ⟨node, text, sent⟩ := y
    obtain ⟨due, seen⟩ := d
    dsimp only at hlen hsz hni F6
    refine F6.assign (r := .bool (liveB nodes node)) ?_ (.inl ?_) ?_
    rotate_left
    · rfl
    rotate_left
    · refine Ev.cmpI CmpI.eq (x := (nodes.fdiv (2 ^ node)).fmod 2) (y := 1) ?_ ?_
      · refine Ev.mod (Ev.floordiv (x := nodes) (y := 2 ^ node) ?_ (Ev.conv (Ev.pow (x := 2) (y := (node : Int)) ?_ ?_ (by omega) (by omega) (by decide)) ?_) ?_ ?_) ?_ (by decide)
        · walk_at "ev"
        · walk_at "ev"
        · walk_at "ev"
        · rfl
        · exact Int.ne_of_gt (Int.pow_pos (by decide))
        · exact pow_small node hni
        · walk_at "ev"
      · walk_at "ev"
    intro g7 s7 l7 F7
    generalize hlv : liveB nodes node = lv at *
    have key : dueStep nodes (due, seen) (node, text, sent) = (if seen then due ++ (if lv || (node : Int) == 4 then sent else text) else due, if lv then !seen else seen) := by
      unfold dueStep; dsimp only; rw [hlv]
    rw [key]
    refine F7.if_ (b := seen) ?_ ?_ ?_
    · refine EvB.name ?_
      rfl
    · intro hs s8 F8
      subst hs
      refine F8.assign (r := .str (due ++ (if lv || (node : Int) == 4 then sent else text))) ?_ (.inl ?_) ?_
      rotate_left
      · rfl
      rotate_left
      · refine Ev.addS ?_ ?_ ?_
        · walk_at "ev"
        · refine Ev.ite (b := lv || (node : Int) == 4) ?_ ?_ ?_
          · refine EvB.or ?_ ?_
            · refine EvB.name ?_
              rfl
            · intro _
              refine EvB.cmpI CmpI.eq ?_ ?_
              · walk_at "ev"
              · walk_at "ev"
          · intro h
            rw [if_pos h]
            walk_at "ev"
          · intro h
            rw [if_neg (by rw [h]; exact Bool.false_ne_true)]
            walk_at "ev"
        · unfold sizeLine
          split <;> omega
      intro g9 s9 l9 F9
      refine Ex.nil_ ?_
      show Ex p A _ _ _ E' s9
      refine F9.if_ (b := lv) ?_ ?_ ?_
      · refine EvB.name ?_
        rfl
      · intro hl s10 F10
        subst hl
        refine F10.assign (r := .bool false) ?_ (.inl ?_) ?_
        rotate_left
        · rfl
        rotate_left
        · refine Ev.conv (Ev.notB (b := true) ?_) rfl
          walk_at "ev"
        intro g11 s11 l11 F11
        refine Ex.nil_ (Ex.nil_ (.inl ⟨rfl, trivial, g11, l7.trans (l9.trans l11), F11.weaken ?_⟩))
        exact (Sub.cons rfl (.cons rfl (.cons rfl .nil))).all
      · intro hl s10 F10
        subst hl
        refine Ex.nil_ (Ex.nil_ (.inl ⟨rfl, trivial, g9, l7.trans l9, F10.weaken ?_⟩))
        exact (Sub.cons rfl (.cons rfl (.cons rfl .nil))).all
    · intro hs s8 F8
      subst hs
      refine Ex.nil_ ?_
      show Ex p A _ _ _ E' s8
      refine F8.if_ (b := lv) ?_ ?_ ?_
      · refine EvB.name ?_
        rfl
      · intro hl s10 F10
        subst hl
        refine F10.assign (r := .bool true) ?_ (.inl ?_) ?_
        rotate_left
        · rfl
        rotate_left
        · refine Ev.conv (Ev.notB (b := false) ?_) rfl
          walk_at "ev"
        intro g11 s11 l11 F11
        refine Ex.nil_ (Ex.nil_ (.inl ⟨rfl, trivial, g11, l7.trans l11, F11.weaken ?_⟩))
        exact (Sub.cons rfl (.cons rfl (.cons rfl .nil))).all
      · intro hl s10 F10
        subst hl
        refine Ex.nil_ (Ex.nil_ (.inl ⟨rfl, trivial, g7, l7, F10.weaken ?_⟩))
        exact (Sub.cons rfl (.cons rfl (.cons rfl .nil))).all
  · intro g6 s6 l6 _ F6
    refine F6.ret (r := .str (dueP nodes xs)) ?_ hQ
    have e : st xs.length = xs.foldl (dueStep nodes) (⟨#[]⟩, true) := by
      show (xs.take _).foldl _ _ = _
      rw [List.take_length]
    refine Ev.conv (r := .str (st xs.length).1) ?_ (by rw [e]; rfl)
    walk_at "ev"
end Mine
end
section
set_option Elab.async false
set_option linter.unusedVariables false
set_option maxRecDepth 10000
namespace Mine
open PySem PySem.W PySem.Calls PyProof.Rows

theorem adrs_perm {a b : List Own} (p : a.Perm b) : (adrs a).Perm (adrs b) := p.filterMap _
theorem gixs_perm {a b : List Own} (p : a.Perm b) : (gixs a).Perm (gixs b) := p.filterMap _
theorem Fr.perm {c : Cx} {a b : List Own} {l : List (Str × PV)} {g : View} {s : Shared} (F : Fr c a l g s) (p : a.Perm b) : Fr c b l g s :=
  { F with
    hold := ⟨fun o ho => F.hold.holds o (p.mem_iff.mpr ho), fun x hx => F.hold.ownA x ((adrs_perm p).mem_iff.mpr hx), fun x hx => F.hold.ownG x ((gixs_perm p).mem_iff.mpr hx), (adrs_perm p).nodup_iff.mp F.hold.ndA, (gixs_perm p).nodup_iff.mp F.hold.ndG⟩
    apart := fun x hx => F.apart x ((adrs_perm p).mem_iff.mpr hx) }
theorem mid_perm {α : Type} (a b : List α) (x : α) : (a ++ x :: b).Perm ((a ++ b) ++ [x]) := by
  rw [List.append_assoc]
  exact List.Perm.append_left a (List.perm_append_singleton x b).symm

section
variable {p : Program} {A : Around} {c : Cx} {own own1 own2 : List Own} {l l' : List (Str × PV)} {g g' : View} {s s' : Shared} {E : Value → Shared → Prop} {n : Nat}
/-- one owned thing changes -/
theorem Fr.chg1 {X Y : Own} (F : Fr c (own1 ++ X :: own2) l g s) (k : Chg (adrs [X]) (gixs [X]) s s') (hA : adrs [Y] = adrs [X]) (hG : gixs [Y] = gixs [X]) (hY : Y.Holds (nv g s.heap s'.heap) s') :
    Fr c (own1 ++ Y :: own2) l (nv g s.heap s'.heap) s' :=
  ((F.perm (mid_perm own1 own2 X)).chg k hA hG fun o ho => by rw [List.mem_singleton.mp ho]; exact hY).perm (mid_perm own1 own2 Y).symm
theorem Fr.own_lst {a : Addr} {ps : List PV} (F : Fr c (own1 ++ .lst a ps :: own2) l g s) : ∃ vs n, s.heap.get? a = some ⟨.type "list", none, .seq (List.toArray vs) n, #[]⟩ ∧ Reps g ps vs :=
  F.hold.holds (.lst a ps) (List.mem_append_right _ List.mem_cons_self)
theorem Fr.own_lst_put {a : Addr} {ps qs : List PV} {us : List Value} {m : Nat} {h' : Heap} {tk : Nat} (F : Fr c (own1 ++ .lst a ps :: own2) l g s) (k : Heap.SameBut a s.heap h') (e : h'.get? a = some ⟨.type "list", none, .seq (List.toArray us) m, #[]⟩) (r : Reps g qs us) :
    Fr c (own1 ++ .lst a qs :: own2) l (nv g s.heap h') { s with heap := h', toks := tk } :=
  F.chg1 (s' := { s with heap := h', toks := tk }) ⟨fun b o hb q => k.extBut b o (fun e => hb (by simp [adrs, Own.adr, e])) q, rfl, fun _ _ _ e => e, id⟩ rfl rfl ⟨us, m, e, Reps.mono (nv_le _ _ _) _ _ r⟩

theorem list_size {vs : List Value} {ps : List PV} (h : Reps g ps vs) (hz : ps.length ≤ 1000000) : vs.toArray.size ≤ sizeLine := by
  rw [List.size_toArray, h.length]; unfold sizeLine; omega

/-- x.append(e) -/
theorem Fr.append {o e : Expr} {apos cpos pos : Pos} {a : Addr} {ps : List PV} {r : PV} {rest : List Stmt} {Q : Flow → Shared → Prop} (own1 own2 : List Own) (F : Fr c (own1 ++ .lst a ps :: own2) l g s) (ho : Ev p c.w A c.env l g o (.ref a)) (he : Ev p c.w A c.env l g e r) (hz : ps.length ≤ 1000000)
    (h : ∀ g' s', g.Le g' → Fr c (own1 ++ .lst a (ps ++ [r]) :: own2) l g' s' → Ex p A c rest Q E s')
    (hline : (apos.endLine == cpos.line) = true := by rfl) (hbase : attributeBase o "append" c.env (eval o c.env) = eval o c.env := by rfl)
    (hst : ∀ env, starEach [e] env = [(false, eval e env)] := by intro _; rfl) (hi : interactive c.env = false := by rfl) (hs : swapsWith (.Call (.Attribute o "append" apos) [e] [] cpos) none pos.line c.env = pure false := by rfl) :
    Ex p A c (.Expr (.Call (.Attribute o "append" apos) [e] [] cpos) pos :: rest) Q E s := by
  refine .cons_ (wpAny_Expr (wpAny_Call_method (pa := PySem.F.plainAttrs_list) (slot := PySem.F.slot_list_append) (hty := PySem.F.type_list_append) hbase ?_ hline ?_) hi hs)
  · rw [hst]; rfl
  · refine ho.run s F.pre _ _ fun v s1 k1 r1 => ?_
    cases rep_ref_inv r1
    have F1 := F.step k1
    obtain ⟨vs, m, q1, q2⟩ := F1.own_lst
    refine ⟨⟨_, q1, rfl⟩, fun b eb => ?_, ?_⟩
    · cases eb; exact ⟨_, q1, rfl⟩
    · have P1 := F.pre.gr k1
      have he1 : Evs p c.w A c.env l g [e] [r] := Evs.cons he Evs.nil hst
      refine callWith_builtin (by rw [hst]; rfl) (args_ P1 he1 (hst _) fun vs2 s2 k2 r2 => ?_)
      obtain ⟨v, rfl, hv⟩ := one_inv r2
      have F2 := F.step (k1.trans k2)
      obtain ⟨us, m2, q3, q4⟩ := F2.own_lst
      refine append_at (its := us.toArray) (n := m2) q3 (fun h' hs' hg' => ?_) (list_size q4 hz)
      refine h _ _ ((nv_le g s.heap s2.heap).trans (nv_le _ _ _)) (F2.own_lst_put (tk := s2.toks) (us := us ++ [v]) (m := m2 + 1) hs' ?_ ?_)
      · rw [hg']; simp
      · exact q4.append (Reps.cons (nvl k1 hv) Reps.nil)
end
end Mine
end
section
set_option Elab.async false
set_option linter.unusedVariables false
set_option maxRecDepth 100000
namespace Mine
open PySem PySem.W PySem.Calls PyProof.Rows

section
variable {p : Program} {w : World} {A : Around} {E : Value → Shared → Prop} {s : Shared}
/-- an item of a plain list is set -/
theorem setItem_at {a : Addr} {us : List Value} {m : Nat} {k : Int} {t : Tok} {v : Value} {Q : Unit → Shared → Prop} (ho : s.heap.get? a = some ⟨.type "list", none, .seq us.toArray m, #[]⟩) (h0 : 0 ≤ k) (hk : k < us.length) (hz : us.length ≤ 1000000)
    (hQ : ∀ h', Heap.SameBut a s.heap h' → h'.get? a = some ⟨.type "list", none, .seq (us.set k.toNat v).toArray m, #[]⟩ → Q () { s with heap := h' }) : wpAny (model p w) A (setItem (.ref a) (.int k t) v) Q E s := by
  have hT : s.TypeIs (.ref a) "list" := ⟨_, ho, rfl⟩
  unfold setItem
  with_reducible refine wpAny_holding ?_
  first | refine wpAny_bind (wpAny_pure ?_) | skip
  refine wpAny_bind (wpAny_sequenceKey hT (by decide) ?_)
  refine wpAny_bind (wpAny_callSpecial?_slot (name := Str.ofString "__setitem__") hT PySem.slot_list_setitem (wpAny_call_entry PySem.slot_list_setitem hT PySem.entry_list_setitem ?_ (PySem.args_list_setitem _ _ _)))
  show wpAny _ _ (Builtin.List.listSubscript? (.int k t) >>= _) _ _ s
  refine wpAny_bind (wpAny_listSubscript_int (fitsIndex_of h0 (by omega)) ?_)
  obtain ⟨j, rfl⟩ := Int.eq_ofNat_of_zero_le h0
  have hj : j < us.length := by omega
  show wpAny _ _ ((seqItemAt a j >>= fun r => pure (r.map (j, ·))) >>= _) _ _ s
  refine wpAny_bind (wpAny_bind (wpAny_seqItemAt ho rfl (wpAny_pure ?_)))
  have hx : us.toArray[j]? = some us[j] := by simp [hj]
  rw [hx]
  show wpAny _ _ (setSeqItemAt a j v >>= _) _ _ s
  refine wpAny_bind (wpAny_setSeqItemAt ho rfl ?_)
  have fin : Q () { s with heap := s.heap.update a (Obj.mapSeq (·.setIfInBounds j v)) } := by
    refine hQ _ (Heap.SameBut.update ..) ?_
    have e : Obj.mapSeq (·.setIfInBounds j v) ⟨.type "list", none, .seq us.toArray m, #[]⟩ = ⟨.type "list", none, .seq (us.set j v).toArray m, #[]⟩ := by
      simp [Obj.mapSeq]
    rw [Heap.get?_update_self _ ho (by rw [e]; rfl), e]
    rfl
  first
    | exact wpAny_bind (wpAny_pure (wpAny_pure ⟨.none, rfl, wpAny_pure fin⟩))
    | exact wpAny_pure ⟨.none, rfl, wpAny_pure fin⟩
end

theorem Reps.set {g : View} : ∀ {ps : List PV} {vs : List Value} {i : Nat} {r : PV} {v : Value}, Reps g ps vs → Rep g r v → Reps g (ps.set i r) (vs.set i v)
  | [], vs, i, r, v, h, h' => by cases h.nil_inv; exact Reps.nil
  | q :: ps, vs, i, r, v, h, h' => by
    obtain ⟨u, us, rfl, h1, h2⟩ := h.cons_inv
    cases i with
    | zero => exact Reps.cons h' h2
    | succ i => exact Reps.cons h1 (Reps.set h2 h')
theorem Reps.dropLast {g : View} : ∀ {ps : List PV} {vs : List Value} {r : PV}, Reps g (ps ++ [r]) vs → ∃ us v, vs = us ++ [v] ∧ Reps g ps us ∧ Rep g r v
  | [], vs, r, h => by obtain ⟨v, rfl, h1⟩ := one_inv h; exact ⟨[], v, rfl, Reps.nil, h1⟩
  | q :: ps, vs, r, h => by
    obtain ⟨u, us, rfl, h1, h2⟩ := Reps.cons_inv (show Reps g (q :: (ps ++ [r])) vs from h)
    obtain ⟨us', v, rfl, h3, h4⟩ := Reps.dropLast h2
    exact ⟨u :: us', v, rfl, Reps.cons h1 h3, h4⟩

/-- what is independent of the view -/
noncomputable def Flat (r : PV) : Prop := ∀ g g' v, Rep g r v → Rep g' r v
theorem Flat.int {i : Int} : Flat (.int i) := fun g g' v h => by obtain ⟨t, rfl⟩ := rep_int_inv h; exact rep_int
theorem Flat.str {i : Str} : Flat (.str i) := fun g g' v h => by obtain ⟨t, rfl⟩ := rep_str_inv h; exact rep_str
theorem Flat.bool {i : Bool} : Flat (.bool i) := fun g g' v h => by rw [rep_bool_inv h]; exact rep_bool

/-- the view, and all that is owned as it stands -/
noncomputable def seen (own : List Own) (g : View) (h : Heap) : View := fun b => match g b with | some o => some o | none => if b ∈ adrs own then h.get? b else none
theorem seen_le {own : List Own} {g : View} {h : Heap} : g.Le (seen own g h) := fun b o e => by unfold seen; rw [e]
theorem seen_sub {own : List Own} {g : View} {h : Heap} (k : g.Sub h) : (seen own g h).Sub h := fun b o e => by
  unfold seen at e
  cases q : g b with
  | some x => rw [q] at e; cases e; exact k _ _ q
  | none =>
    rw [q] at e
    dsimp only at e
    split at e
    · exact e
    · cases e
/-- a thing may also be read so -/
noncomputable def Up (own : List Own) (p q : PV) : Prop := ∀ g s v, (∀ o ∈ own, o.Holds g s) → (∀ a ∈ adrs own, g a = none) → Rep (seen own g s.heap) p v → Rep (seen own g s.heap) q v
theorem Up.same {own : List Own} {r : PV} : Up own r r := fun _ _ _ _ _ h => h
theorem mem_adrs {own : List Own} {a : Addr} {ps : List PV} (h : Own.lst a ps ∈ own) : a ∈ adrs own := List.mem_filterMap.mpr ⟨_, h, rfl⟩
theorem Up.own {own : List Own} {a : Addr} {ps : List PV} (h : Own.lst a ps ∈ own) : Up own (.ref a) (.lst ps) := fun g s v H N e => by
  cases rep_ref_inv e
  obtain ⟨vs, n, q1, q2⟩ := H _ h
  refine rep_lst (vs := vs) (n := n) ?_ (Reps.mono seen_le _ _ q2)
  unfold seen
  rw [N _ (mem_adrs h)]
  dsimp only
  rw [if_pos (mem_adrs h), q1]
theorem Up.pair {own : List Own} {p q p' q' : PV} (h : Up own p p') (h' : Up own q q') : Up own (.lst [p, q]) (.lst [p', q']) := fun g s v H N e => by
  obtain ⟨a, vs, n, rfl, h1, h2⟩ := rep_lst_inv e
  obtain ⟨u, u', rfl, h3, h4⟩ := two_inv h2
  exact rep_lst h1 (Reps.cons (h g s u H N h3) (Reps.cons (h' g s u' H N h4) Reps.nil))
inductive SubU (own : List Own) (l : List (Str × PV)) : List (Str × PV) → Prop
  | nil : SubU own l []
  | cons {x : Str} {r q : PV} {l' : List (Str × PV)} (h : l.lookup x = some r) (u : Up own r q) (h' : SubU own l l') : SubU own l ((x, q) :: l')
theorem SubU.all {own : List Own} {l l' : List (Str × PV)} (h : SubU own l l') : ∀ x r, l'.lookup x = some r → ∃ r', l.lookup x = some r' ∧ Up own r' r := by
  induction h with
  | nil => intro x r e; cases e
  | @cons y u q l' h hu h' ih =>
    intro x r e
    rw [List.lookup_cons] at e
    cases z : x == y with
    | true => rw [z] at e; cases e; rw [eq_of_beq z]; exact ⟨_, h, hu⟩
    | false => rw [z] at e; exact ih x r e

section
variable {p : Program} {A : Around} {c : Cx} {own own1 own2 : List Own} {l l' : List (Str × PV)} {g g' : View} {s s' : Shared} {E : Value → Shared → Prop} {Q : Flow → Shared → Prop} {n : Nat}

theorem Fr.peek (F : Fr c own l g s) (u : SubU own l l') : Pre c.w.params c.env l' (seen own g s.heap) s where
  ok := F.cx.ok
  base := F.base
  sub := seen_sub F.sub
  loc := fun x r e => by
    obtain ⟨r', h1, h2⟩ := u.all x r e
    obtain ⟨v, h3, h4⟩ := F.loc x r' h1
    exact ⟨v, h3, h2 g s v F.hold.holds (fun a ha => (F.hold.ownA a ha).2) (Rep.mono seen_le _ _ h4)⟩
/-- x = e, where e looks at what is owned -/
theorem Fr.assignP {x : Str} {px pos : Pos} {e : Expr} {rest : List Stmt} {r : PV} (F : Fr c own l g s) (u : SubU own l l') (fl : Flat r) (he : ∀ g, Ev p c.w A c.env l' g e r) (hx : Sto c x)
    (h : ∀ g' s', g.Le g' → Fr c own ((x, r) :: l) g' s' → Ex p A c rest Q E s') (hs : swapsWith e (some (.Name x px)) pos.line c.env = pure false := by rfl) :
    Ex p A c (.Assign [.Name x px] e pos :: rest) Q E s :=
  .cons_ (wpAny_Assign_Name ((he _).run s (F.peek u) _ _ fun v s1 k r1 => (F.step k).store hx (fl _ _ _ r1) fun s2 F2 => h _ _ (nv_le _ _ _) F2) hs)
theorem Fr.ifP {t : Expr} {body orelse rest : List Stmt} {pos : Pos} {b : Bool} (F : Fr c own l g s) (u : SubU own l l') (ht : ∀ g, EvB p c.w A c.env l' g t b)
    (h1 : b = true → ∀ s', Fr c own l g s' → Ex p A c body (Then p A c rest Q E) E s') (h2 : b = false → ∀ s', Fr c own l g s' → Ex p A c orelse (Then p A c rest Q E) E s') :
    Ex p A c (.If t body orelse pos :: rest) Q E s :=
  .cons_ (wpAny_If ((ht _).run s (F.peek u) _ _ fun s1 k => by
    cases b with
    | true => exact (h1 rfl s1 (F.keep k)).run
    | false => exact (h2 rfl s1 (F.keep k)).run))
/-- an owned list's item takes a value that was read with what is owned -/
theorem Fr.setP {o i value : Expr} {pos' pos : Pos} {a : Addr} {ps : List PV} {r : PV} {k : Int} {rest : List Stmt} (own1 own2 : List Own) (F : Fr c (own1 ++ .lst a ps :: own2) l g s) (u : SubU (own1 ++ .lst a ps :: own2) l l') (fl : Flat r) (hv : ∀ g, Ev p c.w A c.env l' g value r)
    (ho : ∀ g, Ev p c.w A c.env l g o (.ref a)) (hi : ∀ g, Ev p c.w A c.env l g i (.int k)) (h0 : 0 ≤ k) (hk : k < ps.length) (hz : ps.length ≤ 1000000)
    (h : ∀ g' s', g.Le g' → Fr c (own1 ++ .lst a (ps.set k.toNat r) :: own2) l g' s' → Ex p A c rest Q E s') (hs : swapsWith value (some (.Subscript o i pos')) pos.line c.env = pure false := by rfl) :
    Ex p A c (.Assign [.Subscript o i pos'] value pos :: rest) Q E s := by
  refine .cons_ (wpAny_Assign_Subscript ((hv _).run s (F.peek u) _ _ fun v s1 k1 r1 => ?_) hs)
  have F1 := F.step k1
  refine (ho _).run s1 F1.pre _ _ fun ov s2 k2 r2 => ?_
  cases rep_ref_inv r2
  have F2 := F1.step k2
  refine (hi _).run s2 F2.pre _ _ fun iv s3 k3 r3 => ?_
  obtain ⟨t, rfl⟩ := rep_int_inv r3
  have F3 := F2.step k3
  obtain ⟨us, m, q1, q2⟩ := F3.own_lst
  refine setItem_at q1 h0 (by rw [q2.length]; exact hk) (by rw [q2.length]; exact hz) fun h' hs' hg' => ?_
  exact h _ _ (((nv_le _ _ _).trans (nv_le _ _ _)).trans ((nv_le _ _ _).trans (nv_le _ _ _))) (F3.own_lst_put (tk := s3.toks) hs' hg' (q2.set (fl _ _ _ r1)))
/-- y = x.pop() -/
theorem Fr.popA {o : Expr} {apos cpos pos py : Pos} {y : Str} {a : Addr} {ps : List PV} {r : PV} {rest : List Stmt} (own1 own2 : List Own) (F : Fr c (own1 ++ .lst a (ps ++ [r]) :: own2) l g s) (ho : Ev p c.w A c.env l g o (.ref a)) (hy : Sto c y) (hz : ps.length ≤ 100000)
    (h : ∀ g' s', g.Le g' → Fr c (own1 ++ .lst a ps :: own2) ((y, r) :: l) g' s' → Ex p A c rest Q E s')
    (hline : (apos.endLine == cpos.line) = true := by rfl) (hbase : attributeBase o "pop" c.env (eval o c.env) = eval o c.env := by rfl)
    (hs : swapsWith (.Call (.Attribute o "pop" apos) [] [] cpos) (some (.Name y py)) pos.line c.env = pure false := by rfl) :
    Ex p A c (.Assign [.Name y py] (.Call (.Attribute o "pop" apos) [] [] cpos) pos :: rest) Q E s := by
  refine .cons_ (wpAny_Assign_Name (wpAny_Call_method (pa := PySem.F.plainAttrs_list) (slot := PySem.F.slot_list_pop) (hty := PySem.F.type_list_pop) hbase rfl hline ?_) hs)
  refine ho.run s F.pre _ _ fun v s1 k1 r1 => ?_
  cases rep_ref_inv r1
  have F1 := F.step k1
  obtain ⟨vs, m, q1, q2⟩ := F1.own_lst
  refine ⟨⟨_, q1, rfl⟩, fun b eb => ?_, ?_⟩
  · cases eb; exact ⟨_, q1, rfl⟩
  · refine callWith_builtin rfl (PySem.evalArgs_none ?_)
    obtain ⟨us, u, rfl, q3, q4⟩ := q2.dropLast
    have hsz : (us ++ [u]).toArray.size ≤ sizeLine := by rw [List.size_toArray, List.length_append, q3.length]; show ps.length + 1 ≤ sizeLine; unfold sizeLine; omega
    have hkz : (us ++ [u]).toArray.size - 1 = us.length := by simp
    refine call_meets PySem.F.slot_list_pop ⟨_, q1, rfl⟩ PySem.F.entry_list_pop (PySem.F.args_list_pop_1 _) (PySem.MeetsSeq.list_pop_last a _ m u (by rw [hkz]; simp) hsz) ⟨q1, ?_⟩
    have e : Obj.mapSeq (fun xs => xs.eraseIdxIfInBounds ((us ++ [u]).toArray.size - 1)) ⟨.type "list", none, .seq (us ++ [u]).toArray m, #[]⟩ = ⟨.type "list", none, .seq us.toArray (m + 1), #[]⟩ := by
      rw [hkz]
      have := kl_erase us [] u
      rw [List.append_nil] at this
      simp only [Obj.mapSeq, this]
      have hne : (us.toArray.size == (us ++ [u]).toArray.size) = false := by simp
      rw [hne]
      rfl
    have hg' : (s1.heap.update a (Obj.mapSeq (fun xs => xs.eraseIdxIfInBounds ((us ++ [u]).toArray.size - 1)))).get? a = some ⟨.type "list", none, .seq us.toArray (m + 1), #[]⟩ := by
      rw [Heap.get?_update_self _ q1 (by rw [e]; rfl), e]
    have F2 := F1.own_lst_put (tk := s1.toks) (Heap.SameBut.update ..) hg' q3
    exact F2.store hy (Rep.mono (nv_le _ _ _) _ _ q4) fun s3 F3 => h _ _ ((nv_le _ _ _).trans (nv_le _ _ _)) F3
noncomputable def fzV (a : Addr) (x : Option Obj) (g : View) : View := fun b => if b = a then x else g b
theorem fz_self {a : Addr} {x : Option Obj} {g : View} : fzV a x g a = x := if_pos rfl
theorem fz_ne {a b : Addr} {x : Option Obj} {g : View} (h : b ≠ a) : fzV a x g b = g b := if_neg h
/-- an owned list is now read alone -/
theorem Fr.freeze {a : Addr} {ps : List PV} (own1 own2 : List Own) (F : Fr c (own1 ++ .lst a ps :: own2) l g s) : ∃ g', g.Le g' ∧ Fr c (own1 ++ own2) l g' s ∧ Rep g' (.lst ps) (.ref a) := by
  have F' := F.perm (mid_perm own1 own2 _)
  obtain ⟨vs, m, q1, q2⟩ := F.own_lst
  have haA : a ∈ adrs ((own1 ++ own2) ++ [Own.lst a ps]) := mem_adrs (List.mem_append_right _ List.mem_cons_self)
  have hga := (F'.hold.ownA a haA).2
  have hs0 := (F'.hold.ownA a haA).1
  have lg : g.Le (fzV a (s.heap.get? a) g) := fun b o e => by
    have : b ≠ a := fun q => by rw [q, hga] at e; cases e
    rw [fz_ne this]; exact e
  have D := F'.drop
  have nd := F'.hold.ndA
  rw [adrs_app] at nd
  have hna : ∀ b ∈ adrs (own1 ++ own2), b ≠ a := fun b hb q => (List.nodup_append.mp nd).2.2 b hb a (by simp [adrs, Own.adr]) q
  refine ⟨fzV a (s.heap.get? a) g, lg, ?_, rep_lst (vs := vs) (n := m) (by rw [fz_self]; exact q1) (Reps.mono lg _ _ q2)⟩
  refine { cx := D.cx, loc := fun x r e => let ⟨v, h1, h2⟩ := D.loc x r e; ⟨v, h1, Rep.mono lg _ _ h2⟩, gr := D.gr, le := fun b o e => ?_, ns := D.ns, cell := D.cell, gL := ?_, gC := fun x b e => ?_, hold := ⟨fun o ho => ?_, fun b hb => ?_, D.hold.ownG, D.hold.ndA, D.hold.ndG⟩, apart := D.apart }
  · by_cases q : b = a
    · subst q
      rw [fz_self] at e
      unfold nv
      have : c.g0 b = none := by
        cases z : c.g0 b with
        | none => rfl
        | some y => rw [F.cx.sub _ _ z] at hs0; cases hs0
      rw [this, hs0]
      exact e
    · rw [fz_ne q] at e
      exact D.le b o e
  · rw [fz_ne (F'.apart a haA).1.symm]
    exact D.gL
  · rw [fz_ne ((F'.apart a haA).2 x b e)]
    exact D.gC x b e
  · exact (D.hold.holds o ho).chg lg ((Gr.refl s).chg [] []) (by simp) (by simp)
  · refine ⟨(D.hold.ownA b hb).1, ?_⟩
    rw [fz_ne (hna b hb)]
    exact (D.hold.ownA b hb).2
theorem Fr.up (F : Fr c own l g s) (h : ∀ x q, l'.lookup x = some q → ∃ r, l.lookup x = some r ∧ ∀ v, Rep g r v → Rep g q v) : Fr c own l' g s :=
  have hl : ∀ x q, l'.lookup x = some q → ∃ v, ReadsAs s.heap c.env x v ∧ Rep g q v := fun x q e =>
    let ⟨r, h1, h2⟩ := h x q e
    let ⟨v, h3, h4⟩ := F.loc x r h1
    ⟨v, h3, h2 v h4⟩
  { F with loc := hl }
end

/-- an expression that makes a list that no one else has -/
structure EvO (p : Program) (w : World) (A : Around) (env : Env) (l : List (Str × PV)) (g : View) (e : Expr) (ps : List PV) : Prop where
  run : ∀ s, Pre w.params env l g s → ∀ (Q : Value → Shared → Prop) (E : Value → Shared → Prop), (∀ a s1 s' vs m, Gr s s1 → Gr s1 s' → s1.heap.get? a = none → s'.heap.get? a = some ⟨.type "list", none, .seq (List.toArray vs) m, #[]⟩ → Reps (nv g s.heap s1.heap) ps vs → Q (.ref a) s') → wpAny (model p w) A (eval e env) Q E s
section
variable {p : Program} {w : World} {A : Around} {env : Env} {l : List (Str × PV)} {g : View} {E : Value → Shared → Prop} {s : Shared}
theorem EvO.list {es : List Expr} {rs : List PV} {pos : Pos} (h : Evs p w A env l g es rs) (hs : rs.length ≤ 1000) : EvO p w A env l g (.List es pos) rs := .mk fun s P Q E hQ =>
  wpAny_List (h.run pos s P _ _ fun vs s1 k1 r1 => ⟨by rw [r1.length]; unfold sizeLine; omega,
    hQ _ s1 _ vs 0 k1 gr_push (get_size (Nat.le_refl _)) (Heap.get?_push_size _ rfl) r1⟩)
theorem EvO.mulL {a b : Expr} {pos : Pos} {xs : List PV} {x : Int} (ha : Ev p w A env l g a (.lst xs)) (hb : Ev p w A env l g b (.int x)) (h0 : 0 ≤ x) (h1 : x ≤ 1000) (hsz : xs.length ≤ 1000) : EvO p w A env l g (.BinOp a .Mult b pos) (List.replicate x.toNat xs).flatten := .mk fun s P Q E hQ =>
  wpAny_BinOp (Ev.two P ha hb fun u v s2 k r1 r2 => by
    obtain ⟨a1, vs, n1, rfl, h1', q1⟩ := rep_lst_inv r1
    obtain ⟨t, rfl⟩ := rep_int_inv r2
    have sub2 := nv_sub P.sub k.keep
    have hl := sub2 _ _ h1'
    have hlen := q1.length
    have hsz' : vs.toArray.size * x.toNat ≤ 2 ^ 24 := by
      have : vs.toArray.size ≤ 1000 := by simpa [hlen] using hsz
      have h2 : x.toNat ≤ 1000 := by omega
      calc vs.toArray.size * x.toNat ≤ 1000 * 1000 := Nat.mul_le_mul this h2
        _ ≤ 2 ^ 24 := by decide
    have key : List.foldl (fun x1 x2 => x1 ++ x2) #[] (List.replicate (if vs.toArray.isEmpty = true then 0 else x.toNat) vs.toArray) = ((List.replicate x.toNat vs).flatten).toArray := by
      rw [fold_rep]
      apply Array.ext'
      simp only [Array.empty_append]
      split
      · rename_i hh
        have : vs = [] := by simpa using hh
        subst this
        simp
      · rfl
    refine wpAny_binaryOp_repeat_ref (T := "list") (U := "int") (by decide) ⟨_, hl, rfl⟩ (fun s' => typeIs_int s' x t) noFill_list_mul PySem.F.fills_int_mul PySem.F.slot_int_rmul repeat_list PySem.F.slot_int_index.lookup
      (call_meets PySem.F.slot_int_rmul (typeIs_int s2 x t) PySem.F.entry_int_rmul (PySem.F.args_int_rmul_2 _ _) (int___rmul___int_list x t a1 vs.toArray n1)
        ⟨hl, rfl, ⟨_, hl, rfl⟩, call_meets PySem.F.slot_list_mul ⟨_, hl, rfl⟩ PySem.F.entry_list_mul (PySem.F.args_list_mul_2 _ _)
          (AutoListH.list___mul___list_int_3 a1 vs.toArray n1 x t (by simp [Builtin.List.listFitsIndex]; omega) (by omega) (by simp [Builtin.List.listTooLong, sizeLine]; simp at hsz'; omega))
          ⟨hl, ?_⟩⟩)
    rw [key]
    exact hQ _ s2 _ _ 0 k gr_push (get_size (Nat.le_refl _)) (Heap.get?_push_size _ rfl) (q1.rep x.toNat))
end
/-- a view without some places -/
noncomputable def cutV (as : List Addr) (g : View) : View := fun b => if b ∈ as then none else g b
theorem cut_le {as : List Addr} {g : View} : (cutV as g).Le g := fun b o e => by
  unfold cutV at e
  split at e
  · cases e
  · exact e
theorem le_cut {as : List Addr} {G g : View} (h : G.Le g) (k : ∀ a ∈ as, G a = none) : G.Le (cutV as g) := fun b o e => by
  unfold cutV
  rw [if_neg (fun q => by rw [k b q] at e; cases e)]
  exact h b o e
section
variable {p : Program} {A : Around} {c : Cx} {own : List Own} {l l' : List (Str × PV)} {g g' : View} {s s' : Shared} {E : Value → Shared → Prop} {Q : Flow → Shared → Prop}
theorem Fr.newL {x : Str} {px pos : Pos} {e : Expr} {rest : List Stmt} {ps : List PV} (F : Fr c own l g s) (he : EvO p c.w A c.env l g e ps) (hx : Sto c x)
    (h : ∀ a g' s', g.Le g' → Fr c (own ++ [.lst a ps]) ((x, .ref a) :: l) g' s' → Ex p A c rest Q E s') (hs : swapsWith e (some (.Name x px)) pos.line c.env = pure false := by rfl) :
    Ex p A c (.Assign [.Name x px] e pos :: rest) Q E s := by
  refine .cons_ (wpAny_Assign_Name (he.run s F.pre _ _ fun a s1 s' vs m k1 k2 n1 q1 r1 => ?_) hs)
  have sub1 := nv_sub F.sub k1.keep
  have gn : nv g s.heap s1.heap a = none := view_none sub1 n1
  have F1 : Fr c (own ++ [.lst a ps]) l (nv g s.heap s1.heap) s' := F.gain (k1.trans k2) (nv_le _ _ _) (nv_mono k2.keep) ⟨fun o ho => by rw [List.mem_singleton.mp ho]; exact ⟨vs, m, q1, r1⟩, fun b hb => by
    have : b = a := by simpa [adrs, Own.adr] using hb
    subst this
    exact ⟨none_back k1 n1, gn⟩, (fun i hi => by cases hi), by simp [adrs, Own.adr], List.nodup_nil⟩
  exact F1.store hx rep_ref fun s3 F3 => h a _ _ (nv_le _ _ _) F3
theorem Fr.newL2 {x : Str} {px pos lpos : Pos} {e1 e2 : Expr} {rest : List Stmt} {ps qs : List PV} (F : Fr c own l g s) (h1 : ∀ g, EvO p c.w A c.env l g e1 ps) (h2 : ∀ g, EvO p c.w A c.env l g e2 qs) (hx : Sto c x)
    (h : ∀ a b g' s', g.Le g' → Fr c (own ++ [.lst a ps, .lst b qs]) ((x, .lst [.ref a, .ref b]) :: l) g' s' → Ex p A c rest Q E s') (hs : swapsWith (.List [e1, e2] lpos) (some (.Name x px)) pos.line c.env = pure false := by rfl)
    (he : ∀ env, starEach [e1, e2] env = (false, eval e1 env) :: starEach [e2] env := by intro _; rfl) (he2 : ∀ env, starEach [e2] env = (false, eval e2 env) :: starEach [] env := by intro _; rfl) :
    Ex p A c (.Assign [.Name x px] (.List [e1, e2] lpos) pos :: rest) Q E s := by
  refine .cons_ (wpAny_Assign_Name (wpAny_List ?_) hs)
  refine wpAny_items_cons (rest := [e2]) ((h1 _).run s F.pre _ _ fun a s1 s1' vs m k1 k1' n1 q1 r1 => wpAny_items_cons (rest := []) ((h2 _).run s1' (F.keep (k1.trans k1')).pre _ _ fun b s2 s2' us m2 k2 k2' n2 q2 r2 => ?_) (he2 _)) (he _)
  refine wpAny_items_nil ⟨by unfold sizeLine; simp, ?_⟩
  have K1 : Gr s s1' := k1.trans k1'
  have K2 : Gr s1' s2' := k2.trans k2'
  have K : Gr s s2' := K1.trans K2
  generalize hh : s2'.heap.push { cls := .type "list", data := .seq [Value.ref a, Value.ref b].toArray } = h3
  have k3 : Gr s2' { s2' with heap := h3 } := by rw [← hh]; exact gr_push
  have na : s.heap.get? a = none := none_back k1 n1
  have nb1 : s1'.heap.get? b = none := none_back k2 n2
  have nb : s.heap.get? b = none := none_back K1 nb1
  have hab : a ≠ b := fun q => by rw [q] at q1; rw [q1] at nb1; cases nb1
  have sub1 := nv_sub F.sub k1.keep
  have ho : h3.get? s2'.heap.objs.size = some { cls := .type "list", data := .seq [Value.ref a, Value.ref b].toArray } := by rw [← hh]; exact Heap.get?_push_size _ rfl
  have noo : s2'.heap.get? s2'.heap.objs.size = none := get_size (Nat.le_refl _)
  have hao : s2'.heap.objs.size ≠ a := fun q => by rw [q, K2.keep _ _ q1] at noo; cases noo
  have hbo : s2'.heap.objs.size ≠ b := fun q => by rw [q, q2] at noo; cases noo
  have gab : ∀ y ∈ [a, b], g y = none := fun y hy => by
    simp only [List.mem_cons, List.not_mem_nil, or_false] at hy
    rcases hy with rfl | rfl
    · exact view_none F.sub na
    · exact view_none F.sub nb
  have lg : g.Le (cutV [a, b] (nv g s.heap h3)) := le_cut (nv_le _ _ _) gab
  have k13 : Gr s1 { s2' with heap := h3 } := (k1'.trans K2).trans k3
  have k23 : Gr s2 { s2' with heap := h3 } := k2'.trans k3
  have l1 : (nv g s.heap s1.heap).Le (cutV [a, b] (nv g s.heap h3)) := le_cut (nv_mono k13.keep) fun y hy => by
    simp only [List.mem_cons, List.not_mem_nil, or_false] at hy
    rcases hy with rfl | rfl
    · exact view_none sub1 n1
    · exact view_none sub1 (none_back k1' nb1)
  have l2 : (nv g s1'.heap s2.heap).Le (cutV [a, b] (nv g s.heap h3)) := le_cut ((nv_later K1.keep).trans (nv_mono k23.keep)) fun y hy => by
    simp only [List.mem_cons, List.not_mem_nil, or_false] at hy
    rcases hy with rfl | rfl
    · exact nv_none (gab _ List.mem_cons_self) q1
    · exact view_none (nv_sub (F.keep K1).sub k2.keep) n2
  have F1 : Fr c (own ++ [.lst a ps, .lst b qs]) l (cutV [a, b] (nv g s.heap h3)) { s2' with heap := h3 } := F.gain (K.trans k3) lg cut_le ⟨fun o ho => ?_, fun y hy => ?_, (fun i hi => by cases hi), ?_, List.nodup_nil⟩
  · refine F1.store hx (rep_lst (vs := [.ref a, .ref b]) (n := 0) ?_ (Reps.cons rep_ref (Reps.cons rep_ref Reps.nil))) fun s3 F3 => h a b _ _ lg F3
    unfold cutV
    rw [if_neg (by simp [hao, hbo])]
    unfold nv
    rw [view_none F.sub (none_back K noo), none_back K noo]
    exact ho
  · simp only [List.mem_cons, List.not_mem_nil, or_false] at ho
    rcases ho with rfl | rfl
    · exact ⟨vs, m, k3.keep _ _ (K2.keep _ _ q1), Reps.mono l1 _ _ r1⟩
    · exact ⟨us, m2, k3.keep _ _ q2, Reps.mono l2 _ _ r2⟩
  · have hy' : y = a ∨ y = b := by simpa [adrs, Own.adr] using hy
    refine ⟨?_, ?_⟩
    · rcases hy' with rfl | rfl
      · exact na
      · exact nb
    · unfold cutV
      rw [if_pos (by simpa using hy')]
  · show [a, b].Nodup
    simp [hab]
end
end Mine
end
section
set_option Elab.async false
set_option linter.unusedVariables false
set_option maxRecDepth 100000
namespace Mine
open PySem PySem.W PySem.Calls PyProof.Rows PySem.Builtin PySem.Builtin.Str

theorem reps_strs {g : View} : ∀ l : List (Str × Tok), Reps g ((l.map (·.1)).map PV.str) (strValues l)
  | [] => Reps.nil
  | (x, t) :: r => Reps.cons rep_str (reps_strs r)
theorem strs_of_reps {g : View} : ∀ {ys : List Str} {vs : List Value}, Reps g (ys.map PV.str) vs → StrsAre vs ys
  | [], vs, h => by cases h.nil_inv; exact .nil
  | y :: ys, vs, h => by
    obtain ⟨v, us, rfl, h1, h2⟩ := Reps.cons_inv (show Reps g (.str y :: ys.map PV.str) vs from h)
    obtain ⟨t, rfl⟩ := rep_str_inv h1
    exact .cons y t (strs_of_reps h2)
theorem ints_of_reps {g : View} : ∀ {ys : List Int} {vs : List Value}, Reps g (ys.map PV.int) vs → IntsAre vs ys
  | [], vs, h => by cases h.nil_inv; exact .nil
  | y :: ys, vs, h => by
    obtain ⟨v, us, rfl, h1, h2⟩ := Reps.cons_inv (show Reps g (.int y :: ys.map PV.int) vs from h)
    obtain ⟨t, rfl⟩ := rep_int_inv h1
    exact .cons y t (ints_of_reps h2)

section
variable {p : Program} {w : World} {A : Around} {env : Env} {l : List (Str × PV)} {g : View} {E : Value → Shared → Prop} {s : Shared}

/-- a method of one argument -/
theorem meth1_ {o e : Expr} {name : Str} {apos pos : Pos} {T id : String} {x y : PV} {Q : Value → Shared → Prop} (P : Pre w.params env l g s) (ho : Ev p w A env l g o x) (he : Ev p w A env l g e y)
    (pa : PlainAttrs T) (slot : Slot T name id) (hty : typeOf (.builtin id) = pure (.type "method_descriptor")) (hx : ∀ (g : View) (v : Value) (s : Shared), g.Sub s.heap → Rep g x v → s.TypeIs v T ∧ (∀ a, v = .ref a → ∃ ob : Obj, s.heap.get? a = some ob ∧ ob.dict = none))
    (hc : ∀ u v s2, Gr s s2 → Rep (nv g s.heap s2.heap) x u → Rep (nv g s.heap s2.heap) y v → wpAny (model p w) A (call (.builtin id) [u, v]) Q E s2)
    (hline : (apos.endLine == pos.line) = true) (hbase : attributeBase o name env (eval o env) = eval o env) (hst : ∀ env, starEach [e] env = [(false, eval e env)]) :
    wpAny (model p w) A (eval (.Call (.Attribute o name apos) [e] [] pos) env) Q E s := by
  refine wpAny_Call_method (pa := pa) (slot := slot) (hty := hty) hbase (by rw [hst]; rfl) hline ?_
  refine ho.run s P _ _ fun v s1 k1 r1 => ?_
  have P1 := P.gr k1
  obtain ⟨h1, h2⟩ := hx _ _ _ (nv_sub P.sub k1.keep) r1
  refine ⟨h1, h2, ?_⟩
  refine callWith_builtin (by rw [hst]; rfl) (args_ P1 (Evs.cons he Evs.nil hst) (hst _) fun vs2 s2 k2 r2 => ?_)
  obtain ⟨u, rfl, hu⟩ := one_inv r2
  exact hc v u s2 (k1.trans k2) (nvr k1 k2 r1) (nvl k1 hu)

theorem str_recv (y : Str) : ∀ (g : View) (v : Value) (s : Shared), g.Sub s.heap → Rep g (.str y) v → s.TypeIs v "str" ∧ (∀ a, v = .ref a → ∃ ob : Obj, s.heap.get? a = some ob ∧ ob.dict = none) := fun g v s _ h => by
  obtain ⟨t, rfl⟩ := rep_str_inv h
  exact ⟨typeIs_str _ _ _, fun a e => by cases e⟩

theorem Ev.join {o e : Expr} {apos pos : Pos} {x : Str} {ys : List Str} (ho : Ev p w A env l g o (.str x)) (he : Ev p w A env l g e (.lst (ys.map .str))) (hz : (ys.map (·.length)).sum + ys.length * x.length ≤ 16777216)
    (hline : (apos.endLine == pos.line) = true := by rfl) (hbase : attributeBase o "join" env (eval o env) = eval o env := by rfl) (hst : ∀ env, starEach [e] env = [(false, eval e env)] := by intro _; rfl) :
    Ev p w A env l g (.Call (.Attribute o "join" apos) [e] [] pos) (.str (Txt.join x ys)) := .mk fun s P Q E hQ =>
  meth1_ P ho he PySem.F.plainAttrs_str PySem.F.slot_str_join PySem.F.type_str_join (str_recv x) (fun u v s2 k r1 r2 => by
    obtain ⟨t, rfl⟩ := rep_str_inv r1
    obtain ⟨a, vs, m, rfl, ha, hr⟩ := rep_lst_inv r2
    exact join_list (isList_of (nv_sub P.sub k.keep) ha) (strs_of_reps hr) hz fun t' tk => hQ _ _ (k.trans Gr.toks) rep_str) hline hbase hst

theorem Ev.split {o e : Expr} {apos pos : Pos} {x y : Str} (ho : Ev p w A env l g o (.str x)) (he : Ev p w A env l g e (.str y)) (hy : (y.length == 0) = false) (hz : x.length ≤ 1000000) (hz2 : (partsBetween x (occurrences x y 0 x.length (x.length + 1)) y.length).length ≤ 1000000)
    (hline : (apos.endLine == pos.line) = true := by rfl) (hbase : attributeBase o "split" env (eval o env) = eval o env := by rfl) (hst : ∀ env, starEach [e] env = [(false, eval e env)] := by intro _; rfl) :
    Ev p w A env l g (.Call (.Attribute o "split" apos) [e] [] pos) (.lst ((Txt.split x y).map .str)) := .mk fun s P Q E hQ =>
  meth1_ P ho he PySem.F.plainAttrs_str PySem.F.slot_str_split PySem.F.type_str_split (str_recv x) (fun u v s2 k r1 r2 => by
    obtain ⟨t, rfl⟩ := rep_str_inv r1
    obtain ⟨t', rfl⟩ := rep_str_inv r2
    have fin : ∀ (li : List (Str × Tok)) tk, li.map (·.1) = Txt.split x y → Q (.ref s2.heap.objs.size) { s2 with heap := s2.heap.push { cls := .type "list", data := .seq (strValues li).toArray }, toks := tk } := fun li tk e => by
      refine hQ _ _ (k.trans gr_push) (rep_lst (nv_later k.keep _ _ (nv_new (P.gr k).sub rfl)) ?_)
      rw [← e]
      exact reps_strs li
    cases h1 : (decide (x.length < y.length) || decide (strKind x < strKind y))
    · cases hf : (occurrences x y 0 x.length (x.length + 1)).isEmpty
      · refine call_meets PySem.F.slot_str_split (typeIs_str _ _ _) PySem.F.entry_str_split (PySem.F.args_str_split_2 _ _) (meets_str_split_sep x y t t' h1 hy hf (by unfold sizeLine; omega) (by unfold sizeLine; omega)) ?_
        show wants Q E _ { s2 with toks := _, heap := s2.heap.push { cls := .type "list", data := .seq (strsFrom s2.toks (partsBetween x (occurrences x y 0 x.length (x.length + 1)) y.length)).toArray } }
        rw [strsFrom_eq]
        exact fin (numbered s2.toks _) _ ((numbered_texts _ _).trans ((if_neg (ne_true_of_eq_false h1)).trans (if_neg (ne_true_of_eq_false hf))).symm)
      · exact call_meets PySem.F.slot_str_split (typeIs_str _ _ _) PySem.F.entry_str_split (PySem.F.args_str_split_2 _ _) (meets_str_split_not_found x y t t' h1 hy hf)
          (fin [(x, t)] s2.toks ((if_neg (ne_true_of_eq_false h1)).trans (if_pos hf)).symm)
    · exact call_meets PySem.F.slot_str_split (typeIs_str _ _ _) PySem.F.entry_str_split (PySem.F.args_str_split_2 _ _) (meets_str_split_cannot_occur x y t t' h1)
        (fin [(x, t)] s2.toks (if_pos h1).symm)) hline hbase hst

/-- a number in a tuple of numbers -/
theorem Ev.inTup {a b : Expr} {pos : Pos} {x : Int} {ys : List Int} (ha : Ev p w A env l g a (.int x)) (hb : Ev p w A env l g b (.tup (ys.map .int)))
    (hm : behindInMarks .In b = false := by with_unfolding_all rfl) : Ev p w A env l g (.Compare a [.In] [b] pos) (.bool (ys.any (· == x))) :=
  Ev.cmp ha hb (fun u v s s0 Q E P k r1 r2 h => by
    obtain ⟨t, rfl⟩ := rep_int_inv r1
    obtain ⟨a, vs, m, rfl, hg, hr⟩ := rep_tup_inv r2
    exact in_tuple_ints ⟨_, nv_sub P.sub k.keep _ _ hg, rfl, _, rfl⟩ (ints_of_reps hr) (h _ _ (Gr.refl s) rep_bool)) hm
end
/-- a set of the top -/
noncomputable def SetIs (P : Params) (a : Addr) (S : Int → Bool) : Prop := ∀ (prog : Program) (w : World), w.params = P → ∀ h : Heap, Keeps0 P h → ∃ n, h.SetOf (intKind prog w) a S n
theorem Ev.inSet {p : Program} {w : World} {A : Around} {env : Env} {l : List (Str × PV)} {g : View} {a b : Expr} {pos : Pos} {x : Int} {adr : Addr} {S : Int → Bool} (hS : SetIs w.params adr S) (ha : Ev p w A env l g a (.int x)) (hb : Ev p w A env l g b (.ref adr))
    (hm : behindInMarks .In b = false := by with_unfolding_all rfl) : Ev p w A env l g (.Compare a [.In] [b] pos) (.bool (S x)) :=
  Ev.cmp ha hb (fun u v s s0 Q E P k r1 r2 h => by
    obtain ⟨t, rfl⟩ := rep_int_inv r1
    cases rep_ref_inv r2
    obtain ⟨n, hn⟩ := hS p w rfl s.heap (P.gr k).base
    exact wpAny_inSet_of (intKind_is p w x t) rfl hn (h _ _ Gr.toks rep_bool)) hm
end Mine
end
section
set_option Elab.async false
set_option linter.unusedVariables false
set_option maxRecDepth 100000
set_option maxHeartbeats 2000000
namespace Mine
open PySem PySem.W PySem.Calls PyProof.Rows

/-- the numbers of a set's entries, each looked through -/
noncomputable def elB (es : List (Int × Value)) : Bool := es.all fun e => match e.2 with | .int k _ => e.1 == hashInt k | _ => false
noncomputable def elI (es : List (Int × Value)) : List Int := es.filterMap fun e => match e.2 with | .int k _ => some k | _ => none
theorem elB_ok {prog : Program} {w : World} : ∀ {es : List (Int × Value)}, elB es = true → ElemsOf (intKind prog w) es := fun {es} h e he => by
  have := List.all_eq_true.mp h e he
  obtain ⟨a, v⟩ := e
  cases v with
  | int k t => exact ⟨⟨k, intKind_is _ _ _ _, by rw [eq_of_beq this]; rfl⟩, rfl⟩
  | _ => cases this
theorem elI_ok {prog : Program} {w : World} {es : List (Int × Value)} (k : Int) : (elI es).contains k = true ↔ ∃ e ∈ es, (intKind prog w).is k e.2 = true := by
  rw [List.contains_iff_mem]
  unfold elI
  rw [List.mem_filterMap]
  constructor
  · rintro ⟨⟨a, v⟩, h1, h2⟩
    cases v with
    | int j t => simp only [Option.some.injEq] at h2; subst h2; exact ⟨_, h1, intKind_is _ _ _ _⟩
    | _ => cases h2
  · rintro ⟨⟨a, v⟩, h1, h2⟩
    obtain ⟨t, rfl⟩ := Value.isInt_shape h2
    exact ⟨_, h1, rfl⟩
theorem SetIs.of {P : Params} {a : Addr} {o : Obj} {es : Array (Int × Value)} {ep : Nat} {t : SetTable} {vals : List Int} (h : (H12 P).get? a = some o) (h1 : o.ExactSet) (h2 : o.data = .set es ep t) (hb : elB es.toList = true) (hi : elI es.toList = vals) (hs : es.size < 4096) (hf : t.fits es.size = true) : SetIs P a fun x => vals.contains x := by
  subst hi
  intro prog w hw H hk
  exact ⟨es.size, _, es, ep, t, hk _ _ h, h1, h2, elB_ok hb, fun k => elI_ok k, hs, hf, rfl⟩
noncomputable def b1L : List Int := [65024, 65025, 65026, 65027, 65028, 65029, 6150, 65030, 65031, 65032, 65033, 6155, 6156, 6157, 8203, 8204, 8205, 65034, 65035, 65036, 65037, 65038, 65039, 173, 847, 8288, 65279]
theorem set_b1 (P : Params) : SetIs P 70 fun x => b1L.contains x := SetIs.of (o := o70 P) (by kernel_rfl!) ⟨rfl, rfl, rfl⟩ rfl (by kernel_rfl!) (by kernel_rfl!) (Nat.le_of_ble_eq_true (by kernel_rfl!)) (by kernel_rfl!)
noncomputable def c6L : List Int := [65529, 65530, 65531, 65532, 65533]
theorem set_c6 (P : Params) : SetIs P 89 fun x => c6L.contains x := SetIs.of (o := o89 P) (by kernel_rfl!) ⟨rfl, rfl, rfl⟩ rfl (by kernel_rfl!) (by kernel_rfl!) (Nat.le_of_ble_eq_true (by kernel_rfl!)) (by kernel_rfl!)
noncomputable def c7L : List Int := [12272, 12273, 12274, 12275, 12276, 12277, 12278, 12279, 12280, 12281, 12282, 12283]
theorem set_c7 (P : Params) : SetIs P 101 fun x => c7L.contains x := SetIs.of (o := o101 P) (by kernel_rfl!) ⟨rfl, rfl, rfl⟩ rfl (by kernel_rfl!) (by kernel_rfl!) (Nat.le_of_ble_eq_true (by kernel_rfl!)) (by kernel_rfl!)
noncomputable def c8L : List Int := [832, 833, 8234, 8235, 8236, 8237, 8206, 8207, 8238, 8298, 8299, 8300, 8301, 8302, 8303]
theorem set_c8 (P : Params) : SetIs P 125 fun x => c8L.contains x := SetIs.of (o := o125 P) (by kernel_rfl!) ⟨rfl, rfl, rfl⟩ rfl (by kernel_rfl!) (by kernel_rfl!) (Nat.le_of_ble_eq_true (by kernel_rfl!)) (by kernel_rfl!)
noncomputable def c9L : List Int := vals9.map (·.1)
theorem fold_inv : ∀ (l : List (Int × Tok)) (Q : Array (Int × Value) × Nat × SetTable), SetInv Q.1 Q.2.2 → SetInv (l.foldl addX Q).1 (l.foldl addX Q).2.2 ∧ (l.foldl addX Q).1.size = Q.1.size + l.length
  | [], Q, I => ⟨I, rfl⟩
  | x :: l, Q, I => by
    have h1 : SetInv (addX Q x).1 (addX Q x).2.2 := addF_inv _ _ _ _ _ I rfl
    have h2 : (addX Q x).1.size = Q.1.size + 1 := addF_size _ _ _ _ _ I.fits
    obtain ⟨h3, h4⟩ := fold_inv l (addX Q x) h1
    exact ⟨h3, by rw [List.foldl_cons, h4, h2, List.length_cons]; omega⟩
theorem hash_small (x : Int × Tok) (h : x ∈ vals9) : hashInt x.1 = x.1 := by
  have : vals9.all (fun x => hashInt x.1 == x.1) = true := by decide +kernel
  exact eq_of_beq (List.all_eq_true.mp this x h)
theorem set_c9 (P : Params) : SetIs P 143 fun x => c9L.contains x := by
  intro prog w hw H hk
  have ho : (H12 P).get? 143 = some (setO (vals9.foldl addX (q0 P))) := by kernel_rfl!
  obtain ⟨I, hz⟩ := fold_inv vals9 (q0 P) ⟨rfl, Nat.zero_le _, fun e he => absurd he (by simp [q0])⟩
  have hm := fold_mem vals9 (q0 P)
  have e0 : ∀ e, e ∉ (q0 P).1 := fun e he => absurd he (by simp [q0])
  generalize hQ : vals9.foldl addX (q0 P) = QQ at *
  have hz' : QQ.1.size = 97 := by rw [hz, vals9_len]; rfl
  refine ⟨QQ.1.size, _, QQ.1, QQ.2.1, QQ.2.2, hk _ _ ho, ⟨rfl, rfl, rfl⟩, rfl, fun e he => ?_, fun k => ?_, ?_, ?_, rfl⟩
  · rcases (hm e).mp (by simpa using he) with h | ⟨x, h1, rfl⟩
    · exact absurd h (e0 e)
    · exact ⟨⟨x.1, intKind_is _ _ _ _, (hash_small x h1).symm⟩, rfl⟩
  · rw [List.contains_iff_mem]
    unfold c9L
    rw [List.mem_map]
    constructor
    · rintro ⟨x, h1, rfl⟩
      exact ⟨_, by simpa using (hm (x.1, .int x.1 x.2)).mpr (.inr ⟨x, h1, rfl⟩), intKind_is _ _ _ _⟩
    · rintro ⟨e, h1, h2⟩
      rcases (hm e).mp (by simpa using h1) with h | ⟨x, h3, rfl⟩
      · exact absurd h (e0 e)
      · have h4 : (x.1 == k) = true := h2
        exact ⟨x, h3, eq_of_beq h4⟩
  · rw [hz']; decide
  · unfold SetTable.fits
    rw [Bool.and_eq_true]
    exact ⟨beq_iff_eq.mpr I.fits, decide_eq_true I.fill⟩
local macro_rules | `(tactic| walk_at "ev") => `(tactic| first
  | exact Ev.int
  | exact Ev.str
  | exact Ev.bool
  | exact Ev.none_
  | (refine Ev.name ?_; rfl)
  | (refine Ev.mod ?_ ?_ ?_ <;> first | walk_at "ev" | skip)
  | (refine Ev.add ?_ ?_ <;> first | walk_at "ev" | skip)
  | (refine Ev.sub ?_ ?_ <;> first | walk_at "ev" | skip)
  | (refine Ev.list ?_ ?_ <;> first | walk_at "ev" | decide | skip)
  | (refine Ev.tuple ?_ ?_ <;> first | walk_at "ev" | decide | skip)
  | exact Evs.nil
  | (refine Evs.cons ?_ ?_ <;> first | walk_at "ev" | skip)
  )
theorem fn_b1 {p : Program} {w : World} {n : Nat} (c : Nat) : FnOk p w (n + 1) (.ref 80) [ch c] (.bool (b1L.contains (c : Int))) := FnOk.of_body (atB1 _) rfl (by
  intro A s0 g0 L s g hA F Q E hQ
  refine F.ret (r := .bool (b1L.contains (c : Int))) ?_ hQ
  refine Ev.inSet (set_b1 _) (Ev.ord (y := c) ?_ (b_ord _) ?_) (Ev.global ?_ (gl_b1_set _))
  · rfl
  · refine Ev.conv (r := ch c) ?_ rfl
    walk_at "ev"
  · rfl)
theorem fn_c6 {p : Program} {w : World} {n : Nat} (c : Nat) : FnOk p w (n + 1) (.ref 99) [ch c] (.bool (c6L.contains (c : Int))) := FnOk.of_body (atC6 _) rfl (by
  intro A s0 g0 L s g hA F Q E hQ
  refine F.ret (r := .bool (c6L.contains (c : Int))) ?_ hQ
  refine Ev.inSet (set_c6 _) (Ev.ord (y := c) ?_ (b_ord _) ?_) (Ev.global ?_ (gl_c6_set _))
  · rfl
  · refine Ev.conv (r := ch c) ?_ rfl
    walk_at "ev"
  · rfl)
theorem fn_c7 {p : Program} {w : World} {n : Nat} (c : Nat) : FnOk p w (n + 1) (.ref 111) [ch c] (.bool (c7L.contains (c : Int))) := FnOk.of_body (atC7 _) rfl (by
  intro A s0 g0 L s g hA F Q E hQ
  refine F.ret (r := .bool (c7L.contains (c : Int))) ?_ hQ
  refine Ev.inSet (set_c7 _) (Ev.ord (y := c) ?_ (b_ord _) ?_) (Ev.global ?_ (gl_c7_set _))
  · rfl
  · refine Ev.conv (r := ch c) ?_ rfl
    walk_at "ev"
  · rfl)
theorem fn_c8 {p : Program} {w : World} {n : Nat} (c : Nat) : FnOk p w (n + 1) (.ref 135) [ch c] (.bool (c8L.contains (c : Int))) := FnOk.of_body (atC8 _) rfl (by
  intro A s0 g0 L s g hA F Q E hQ
  refine F.ret (r := .bool (c8L.contains (c : Int))) ?_ hQ
  refine Ev.inSet (set_c8 _) (Ev.ord (y := c) ?_ (b_ord _) ?_) (Ev.global ?_ (gl_c8_set _))
  · rfl
  · refine Ev.conv (r := ch c) ?_ rfl
    walk_at "ev"
  · rfl)
theorem fn_c9 {p : Program} {w : World} {n : Nat} (c : Nat) : FnOk p w (n + 1) (.ref 153) [ch c] (.bool (c9L.contains (c : Int))) := FnOk.of_body (atC9 _) rfl (by
  intro A s0 g0 L s g hA F Q E hQ
  refine F.ret (r := .bool (c9L.contains (c : Int))) ?_ hQ
  refine Ev.inSet (set_c9 _) (Ev.ord (y := c) ?_ (b_ord _) ?_) (Ev.global ?_ (gl_c9_set _))
  · rfl
  · refine Ev.conv (r := ch c) ?_ rfl
    walk_at "ev"
  · rfl)
noncomputable def c4B (c : Nat) : Bool := if (c : Int) < 64976 then false else if (c : Int) < 65008 then true else ([65534, 65535] : List Int).any (· == Builtin.bitAnd c 65535)
theorem fn_c4 {p : Program} {w : World} {n : Nat} (c : Nat) : FnOk p w (n + 1) (.ref 87) [ch c] (.bool (c4B c)) := FnOk.of_body (atC4 _) rfl (by
  intro A s0 g0 L s g hA F Q E hQ
  refine F.assign (r := .int c) ?_ (.inl ?_) ?_
  rotate_left
  · rfl
  rotate_left
  · refine Ev.ord (y := c) ?_ (b_ord _) ?_
    · rfl
    · refine Ev.conv (r := ch c) ?_ rfl
      walk_at "ev"
  intro g1 s1 l1 F1
  refine F1.if_ (b := decide ((c : Int) < 64976)) ?_ ?_ ?_
  · refine EvB.cmpI CmpI.lt ?_ ?_
    · walk_at "ev"
    · walk_at "ev"
  · intro hc s2 F2
    refine F2.ret (r := .bool (c4B c)) ?_ hQ
    refine Ev.conv Ev.bool ?_
    unfold c4B
    rw [if_pos (by simpa using hc)]
  · intro hc s2 F2
    have hc' : ¬ (c : Int) < 64976 := by simpa using hc
    refine Ex.nil_ ?_
    show Ex p A _ _ _ E s2
    refine F2.if_ (b := decide ((c : Int) < 65008)) ?_ ?_ ?_
    · refine EvB.cmpI CmpI.lt ?_ ?_
      · walk_at "ev"
      · walk_at "ev"
    · intro hd s3 F3
      refine F3.ret (r := .bool (c4B c)) ?_ hQ
      refine Ev.conv Ev.bool ?_
      unfold c4B
      rw [if_neg hc', if_pos (by simpa using hd)]
    · intro hd s3 F3
      refine Ex.nil_ ?_
      show Ex p A _ _ _ E s3
      refine F3.ret (r := .bool (c4B c)) ?_ hQ
      refine Ev.conv (Ev.inTup (x := Builtin.bitAnd c 65535) (ys := [65534, 65535]) (Ev.band (x := c) (y := 65535) (Ev.ord (y := c) ?_ (b_ord _) ?_) ?_) ?_) ?_
      · rfl
      · refine Ev.conv (r := ch c) ?_ rfl
        walk_at "ev"
      · walk_at "ev"
      · refine Ev.conv (r := .tup [.int 65534, .int 65535]) ?_ rfl
        walk_at "ev"
      · unfold c4B
        rw [if_neg hc', if_neg (by simpa using hd)])
end Mine
end
section
set_option Elab.async false
set_option linter.unusedVariables false
set_option maxRecDepth 100000
set_option maxHeartbeats 2000000
namespace Mine
open PySem PySem.W PySem.Calls PyProof.Rows
local macro_rules | `(tactic| walk_at "ev") => `(tactic| first
  | exact Ev.int
  | exact Ev.str
  | exact Ev.bool
  | exact Ev.none_
  | (refine Ev.name ?_; rfl)
  | (refine Ev.mod ?_ ?_ ?_ <;> first | walk_at "ev" | skip)
  | (refine Ev.add ?_ ?_ <;> first | walk_at "ev" | skip)
  | (refine Ev.sub ?_ ?_ <;> first | walk_at "ev" | skip)
  | (refine Ev.list ?_ ?_ <;> first | walk_at "ev" | decide | skip)
  | (refine Ev.tuple ?_ ?_ <;> first | walk_at "ev" | decide | skip)
  | exact Evs.nil
  | (refine Evs.cons ?_ ?_ <;> first | walk_at "ev" | skip)
  )
noncomputable def bitI (v : Int) (node : Nat) : Int := (v.fdiv (2 ^ node)).fmod 2
noncomputable def signS (start : Nat) (number : Int) (k node : Nat) : Str := (⟨#[92]⟩ : Str) ++ ⟨#[(signC ((start + node) % 6) (number + 5 * k)).toNat]⟩ ++ ⟨#[92, 34]⟩
noncomputable def nodeP (start : Nat) (number : Int) (k : Nat) (left right : Int) (node : Nat) : List Piece :=
  if (bitI left node != bitI right node) = true then [(node, signS start number k node, ⟨#[92, 92]⟩)] else []
noncomputable def dotsP (number : Int) (k : Nat) : Str := Txt.mul ⟨#[46]⟩ (1 + ((number + k).fdiv 3).fmod 2) ++ ⟨#[(besideC (number.fdiv 6 + 7 * k)).toNat]⟩
noncomputable def nlS (x : Int) : Str := ([⟨#[10]⟩, ⟨#[13]⟩, ⟨#[13, 10]⟩] : List Str).getD (x.fmod 3).toNat ⟨#[]⟩
noncomputable def rowP (number : Int) (k : Nat) : Piece := (4, nlS (number + k) ++ dotsP number k, (⟨#[13, 10, 46]⟩ : Str) ++ dotsP number k)
noncomputable def leftI (net : List Int) (k : Nat) : Int := ((0 : Int) :: net).getD k 0
noncomputable def rightI (net : List Int) (k : Nat) : Int := (net ++ [0]).getD k 0
noncomputable def nodesP (net : List Int) (start : Nat) (number : Int) (k m : Nat) : List Piece := (List.range m).flatMap (nodeP start number k (leftI net k) (rightI net k))
noncomputable def turnP (net : List Int) (start : Nat) (number : Int) (k : Nat) : List Piece := nodesP net start number k 4 ++ if k < 4 then [rowP number k] else []
noncomputable def preP (net : List Int) (start : Nat) (number : Int) (m : Nat) : List Piece := (List.range m).flatMap (turnP net start number)
noncomputable def piecesP (net : List Int) (start : Nat) (number : Int) : List Piece := preP net start number 5
theorem flat_len {α : Type} (f : Nat → List α) (b : Nat) (h : ∀ i, (f i).length ≤ b) : ∀ m, ((List.range m).flatMap f).length ≤ b * m
  | 0 => by simp
  | m + 1 => by
    rw [List.range_succ, List.flatMap_append, List.length_append, List.flatMap_singleton]
    have := flat_len f b h m
    have := h m
    rw [Nat.mul_succ]
    omega
theorem flat_succ {α : Type} (f : Nat → List α) (m : Nat) : (List.range (m + 1)).flatMap f = (List.range m).flatMap f ++ f m := by
  rw [List.range_succ, List.flatMap_append, List.flatMap_singleton]
theorem nodeP_len (start : Nat) (number : Int) (k : Nat) (left right : Int) (node : Nat) : (nodeP start number k left right node).length ≤ 1 := by unfold nodeP; split <;> simp
theorem turnP_len (net : List Int) (start : Nat) (number : Int) (k : Nat) : (turnP net start number k).length ≤ 5 := by
  unfold turnP nodesP
  have := flat_len (nodeP start number k (leftI net k) (rightI net k)) 1 (nodeP_len _ _ _ _ _) 4
  rw [List.length_append]
  split
  · show _ + 1 ≤ 5
    omega
  · show _ + 0 ≤ 5
    omega
theorem mul_len (x : Str) (n : Int) (h : n ≤ 2) : (Txt.mul x n).length ≤ 2 * x.length := by
  unfold Txt.mul
  split
  · simp [Str.empty, Str.length]
  · split
    · omega
    · have : n = 2 := by
        rename_i h1 h2
        have : n ≠ 1 := fun q => h2 (by simp [q])
        omega
      subst this
      simp [Str.length]
      omega
theorem dots_len (number : Int) (k : Nat) : (dotsP number k).length ≤ 3 := by
  unfold dotsP
  have h1 := Int.fmod_lt_of_pos ((number + k).fdiv 3) (by decide : (0 : Int) < 2)
  have := mul_len ⟨#[46]⟩ (1 + ((number + k).fdiv 3).fmod 2) (by omega)
  rw [Str.length_append]
  simp only [Str.length, List.size_toArray, List.length_cons, List.length_nil] at this ⊢
  omega
theorem nl_len (x : Int) : (nlS x).length ≤ 2 := by
  have h0 := Int.fmod_nonneg_of_pos x (by decide : (0 : Int) < 3)
  have h1 := Int.fmod_lt_of_pos x (by decide : (0 : Int) < 3)
  unfold nlS
  have : x.fmod 3 = 0 ∨ x.fmod 3 = 1 ∨ x.fmod 3 = 2 := by omega
  rcases this with h | h | h <;> rw [h] <;> decide
theorem mk3_app (xs : List Piece) (y : Piece) : (xs.map mk3) ++ [mk3 y] = (xs ++ [y]).map mk3 := by simp
theorem body_pieces {p : Program} {w : World} {n : Nat} (net : List Int) (hnet : net.length = 4) (start : Nat) (number : Int) : BodyOk p w (n + 2) fdPieces 186 ["net", "start", "number"] [.lst (net.map .int), .int start, .int number] (.lst ((piecesP net start number).map mk3)) := by
  intro A s0 g0 L s g hA F Q E hQ
  refine F.newL (ps := []) ?_ (.inl ?_) ?_
  · exact EvO.list Evs.nil (by decide)
  · rfl
  intro a g1 s1 l1 F1
  let inv : List (Str × PV) := [("pieces", .ref a), ("net", .lst (net.map .int)), ("start", .int start), ("number", .int number)]
  refine Fr.for_ (n := n) F1 (List.range 5) (fun i => .int (i : Int)) (fun i => [("k", .int (i : Int))]) (fun _ => inv) (fun i => [.lst a ((preP net start number i).map mk3)]) (fun _ => True) ?_ ?_ rfl ?_ trivial ?_ ?_ ?_
  · exact hA.mono (by omega)
  · refine SrcE.range (m := 5) ?_ (b_range _) ?_ (by decide)
    · rfl
    · walk_at "ev"
  · exact (Sub.cons rfl (.cons rfl (.cons rfl (.cons rfl .nil)))).all
  · intro i hi
    refine Binds.name (.inl ?_)
    rfl
  · intro k hk oth g' s' E' hg _ F2
    have hk5 : k < 5 := by simpa using hk
    have e1 : (List.range 5)[k]'hk = k := List.getElem_range hk
    rw [e1] at F2
    have hL : ∀ v : Int, (((0 : Int) :: net).map PV.int)[k]? = some (.int (leftI net k)) := fun _ => by
      unfold leftI
      exact getD_get (by simp [hnet]; omega)
    have hR : ((net ++ [0]).map PV.int)[k]? = some (.int (rightI net k)) := by
      unfold rightI
      exact getD_get (by simp [hnet]; omega)
    refine F2.assign (r := .int (leftI net k)) ?_ (.inl ?_) ?_
    rotate_left
    · rfl
    rotate_left
    · refine Ev.item (ps := ((0 : Int) :: net).map .int) (k := (k : Int)) ?_ ?_ (by omega) (by omega) (hL 0)
      · refine Ev.conv (Ev.addL (xs := [.int 0]) (ys := net.map .int) ?_ ?_ ?_) ?_
        · walk_at "ev"
        · walk_at "ev"
        · simp [hnet]
        · rfl
      · walk_at "ev"
    intro g3 s3 l3 F3
    refine F3.assign (r := .int (rightI net k)) ?_ (.inl ?_) ?_
    rotate_left
    · rfl
    rotate_left
    · refine Ev.item (ps := (net ++ [0]).map .int) (k := (k : Int)) ?_ ?_ (by omega) (by omega) hR
      · refine Ev.conv (Ev.addL (xs := net.map .int) (ys := [.int 0]) ?_ ?_ ?_) ?_
        · walk_at "ev"
        · walk_at "ev"
        · simp [hnet]
        · rw [List.map_append]; rfl
      · walk_at "ev"
    intro g4 s4 l4 F4
    let inv2 : List (Str × PV) := ("right", .int (rightI net k)) :: ("left", .int (leftI net k)) :: ("k", .int (k : Int)) :: inv
    refine Fr.for_ (n := n) F4 (List.range 4) (fun i => .int (i : Int)) (fun i => [("node", .int (i : Int))]) (fun _ => inv2) (fun m => [.lst a ((preP net start number k ++ nodesP net start number k m).map mk3)] ++ oth) (fun _ => True) ?_ ?_ ?_ ?_ trivial ?_ ?_ ?_
    · exact hA.mono (by omega)
    · refine SrcE.range (m := 4) ?_ (b_range _) ?_ (by decide)
      · rfl
      · walk_at "ev"
    · show _ = [Own.lst a _] ++ oth
      rw [show nodesP net start number k 0 = [] from rfl, List.append_nil]
    · exact (Sub.cons rfl (.cons rfl (.cons rfl (.cons rfl (.cons rfl (.cons rfl (.cons rfl .nil))))))).all
    · intro i hi
      refine Binds.name (.inl ?_)
      rfl
    · intro m hm oth2 g5 s5 E5 hg5 _ F5
      have hm4 : m < 4 := by simpa using hm
      have e2 : (List.range 4)[m]'hm = m := List.getElem_range hm
      rw [e2] at F5
      refine F5.if_ (b := (bitI (leftI net k) m != bitI (rightI net k) m)) ?_ ?_ ?_
      · refine EvB.cmpI CmpI.ne ?_ ?_
        · refine Ev.mod (Ev.floordiv (x := leftI net k) (y := 2 ^ m) ?_ (Ev.conv (Ev.pow (x := 2) (y := (m : Int)) ?_ ?_ (by omega) (by omega) (by decide)) ?_) ?_ ?_) ?_ (by decide)
          · walk_at "ev"
          · walk_at "ev"
          · walk_at "ev"
          · rfl
          · exact Int.ne_of_gt (Int.pow_pos (by decide))
          · exact pow_small m (by omega)
          · walk_at "ev"
        · refine Ev.mod (Ev.floordiv (x := rightI net k) (y := 2 ^ m) ?_ (Ev.conv (Ev.pow (x := 2) (y := (m : Int)) ?_ ?_ (by omega) (by omega) (by decide)) ?_) ?_ ?_) ?_ (by decide)
          · walk_at "ev"
          · walk_at "ev"
          · walk_at "ev"
          · rfl
          · exact Int.ne_of_gt (Int.pow_pos (by decide))
          · exact pow_small m (by omega)
          · walk_at "ev"
      · intro hb s6 F6
        have en : nodesP net start number k (m + 1) = nodesP net start number k m ++ [(m, signS start number k m, ⟨#[92, 92]⟩)] := by
          unfold nodesP
          rw [flat_succ]
          congr 1
          unfold nodeP
          rw [if_pos hb]
        have lz : (preP net start number k ++ nodesP net start number k m).length ≤ 1000 := by
          have h1 := flat_len (turnP net start number) 5 (turnP_len _ _ _) k
          have h2 := flat_len (nodeP start number k (leftI net k) (rightI net k)) 1 (nodeP_len _ _ _ _ _) m
          rw [List.length_append]
          unfold preP nodesP
          omega
        refine Fr.append (r := mk3 (m, signS start number k m, ⟨#[92, 92]⟩)) [] (oth ++ oth2) F6 ?_ ?_ ?_ ?_
        · walk_at "ev"
        · refine Ev.tuple (Evs.cons ?_ (Evs.cons ?_ (Evs.cons ?_ Evs.nil))) (by simp)
          · walk_at "ev"
          · unfold signS
            refine Ev.addS (Ev.addS ?_ ?_ (by unfold sizeLine; simp [Str.length])) ?_ ?_
            · walk_at "ev"
            · refine Ev.callF (n := n + 2) hA (Ev.global ?_ (glSign _)) (fn_sign ((start + m) % 6) (Nat.mod_lt _ (by decide)) (number + 5 * k)) (isSign _) ?_
              · rfl
              · refine Evs.cons ?_ (Evs.cons ?_ Evs.nil)
                · refine Ev.conv (Ev.mod (Ev.add (x := start) (y := m) ?_ ?_) (y := 6) ?_ (by decide)) ?_
                  · walk_at "ev"
                  · walk_at "ev"
                  · walk_at "ev"
                  · congr 1
                    rw [Int.fmod_eq_emod_of_nonneg _ (by decide)]
                    norm_cast
                · refine Ev.add ?_ (Ev.mul ?_ ?_ ?_)
                  · walk_at "ev"
                  · walk_at "ev"
                  · walk_at "ev"
                  · exact IntMulOk.of_left (by decide)
            · walk_at "ev"
            · rw [Str.length_append]; unfold sizeLine; simp [Str.length]
          · walk_at "ev"
        · rw [List.length_map]; omega
        · intro g7 s7 l7 F7
          refine Ex.nil_ (Ex.nil_ (.inl ⟨rfl, trivial, g7, l7, ?_⟩))
          rw [en, ← List.append_assoc, ← mk3_app]
          exact F7.weaken (Sub.cons rfl (.cons rfl (.cons rfl (.cons rfl (.cons rfl (.cons rfl (.cons rfl .nil))))))).all
      · intro hb s6 F6
        have en : nodesP net start number k (m + 1) = nodesP net start number k m := by
          unfold nodesP
          rw [flat_succ]
          unfold nodeP
          rw [if_neg (by rw [hb]; exact Bool.false_ne_true), List.append_nil]
        refine Ex.nil_ (Ex.nil_ (.inl ⟨rfl, trivial, g5, View.Le.refl _, ?_⟩))
        rw [en]
        exact F6.weaken (Sub.cons rfl (.cons rfl (.cons rfl (.cons rfl (.cons rfl (.cons rfl (.cons rfl .nil))))))).all
    · intro g8 s8 l8 _ F8
      rw [List.length_range] at F8
      refine F8.if_ (b := decide ((k : Int) < 4)) ?_ ?_ ?_
      · refine EvB.cmpI CmpI.lt ?_ ?_
        · walk_at "ev"
        · walk_at "ev"
      · intro hb s9 F9
        have hk4 : k < 4 := by have := of_decide_eq_true hb; omega
        have en : preP net start number (k + 1) = preP net start number k ++ nodesP net start number k 4 ++ [rowP number k] := by
          unfold preP
          rw [flat_succ, List.append_assoc]
          unfold turnP
          rw [if_pos hk4]
        have m0 := Int.fmod_nonneg_of_pos ((number + k).fdiv 3) (by decide : (0 : Int) < 2)
        have m1 := Int.fmod_lt_of_pos ((number + k).fdiv 3) (by decide : (0 : Int) < 2)
        refine F9.assign (r := .str (dotsP number k)) ?_ (.inl ?_) ?_
        rotate_left
        · rfl
        rotate_left
        · unfold dotsP
          refine Ev.addS (Ev.mulS (n := 1 + ((number + k).fdiv 3).fmod 2) ?_ ?_ (by omega) (by omega) (by decide)) ?_ ?_
          · walk_at "ev"
          · refine Ev.add ?_ (Ev.mod (Ev.floordiv (x := number + k) (y := 3) ?_ ?_ (by decide) (by decide)) ?_ (by decide))
            · walk_at "ev"
            · walk_at "ev"
            · walk_at "ev"
            · walk_at "ev"
          · refine Ev.callF (n := n + 1) (hA.mono (by omega)) (Ev.global ?_ (glBeside _)) (fn_beside (number.fdiv 6 + 7 * k)) (isBeside _) ?_
            · rfl
            · refine Evs.cons ?_ Evs.nil
              refine Ev.add (Ev.floordiv (x := number) (y := 6) ?_ ?_ (by decide) (by decide)) (Ev.mul (x := 7) (y := (k : Int)) ?_ ?_ (IntMulOk.of_left (by decide)))
              · walk_at "ev"
              · walk_at "ev"
              · walk_at "ev"
              · walk_at "ev"
          · have := mul_len ⟨#[46]⟩ (1 + ((number + k).fdiv 3).fmod 2) (by omega)
            simp only [Str.length, List.size_toArray, List.length_cons, List.length_nil] at this ⊢
            unfold sizeLine
            omega
        intro g10 s10 l10 F10
        have lz : (preP net start number k ++ nodesP net start number k 4).length ≤ 1000 := by
          have h1 := flat_len (turnP net start number) 5 (turnP_len _ _ _) k
          have h2 := flat_len (nodeP start number k (leftI net k) (rightI net k)) 1 (nodeP_len _ _ _ _ _) 4
          rw [List.length_append]
          unfold preP nodesP
          omega
        have hd := dots_len number k
        refine Fr.append (r := mk3 (rowP number k)) [] oth F10 ?_ ?_ ?_ ?_
        · walk_at "ev"
        · refine Ev.tuple (Evs.cons ?_ (Evs.cons ?_ (Evs.cons ?_ Evs.nil))) (by simp)
          · refine Ev.conv Ev.int ?_
            rfl
          · refine Ev.addS (x := nlS (number + k)) (y := dotsP number k) ?_ ?_ ?_
            · have i0 := Int.fmod_nonneg_of_pos (number + k) (by decide : (0 : Int) < 3)
              have i1 := Int.fmod_lt_of_pos (number + k) (by decide : (0 : Int) < 3)
              refine Ev.item (ps := [.str ⟨#[10]⟩, .str ⟨#[13]⟩, .str ⟨#[13, 10]⟩]) (k := (number + k).fmod 3) ?_ ?_ i0 (by omega) ?_
              · walk_at "ev"
              · refine Ev.mod ?_ ?_ (by decide)
                · walk_at "ev"
                · walk_at "ev"
              · unfold nlS
                have : (number + k).fmod 3 = 0 ∨ (number + k).fmod 3 = 1 ∨ (number + k).fmod 3 = 2 := by omega
                rcases this with h | h | h <;> rw [h] <;> rfl
            · walk_at "ev"
            · have := nl_len (number + k)
              unfold sizeLine
              omega
          · refine Ev.addS (x := ⟨#[13, 10, 46]⟩) (y := dotsP number k) ?_ ?_ ?_
            · walk_at "ev"
            · walk_at "ev"
            · have : (⟨#[13, 10, 46]⟩ : Str).length = 3 := rfl
              unfold sizeLine
              omega
        · rw [List.length_map]; omega
        · intro g7 s7 l7 F7
          refine Ex.nil_ (Ex.nil_ (.inl ⟨rfl, trivial, g7, (l3.trans (l4.trans (l8.trans (l10.trans l7)))), ?_⟩))
          rw [en, ← mk3_app]
          exact F7.weaken (Sub.cons rfl (.cons rfl (.cons rfl (.cons rfl .nil)))).all
      · intro hb s9 F9
        have hk4 : ¬ k < 4 := by have := of_decide_eq_false hb; omega
        have en : preP net start number (k + 1) = preP net start number k ++ nodesP net start number k 4 := by
          unfold preP
          rw [flat_succ]
          unfold turnP
          rw [if_neg hk4, List.append_nil]
        refine Ex.nil_ (Ex.nil_ (.inl ⟨rfl, trivial, g8, (l3.trans (l4.trans l8)), ?_⟩))
        rw [en]
        exact F9.weaken (Sub.cons rfl (.cons rfl (.cons rfl (.cons rfl .nil)))).all
  · intro g9 s9 l9 _ F9
    rw [List.length_range] at F9
    obtain ⟨g10, l10, F10, r10⟩ := Fr.freeze [] [] F9
    have F11 : Fr (fnCx w fdPieces 186 s0 g0 L) [] [("pieces", .lst ((piecesP net start number).map mk3))] g10 s9 := F10.up fun x q e => by
      rw [List.lookup_cons] at e
      cases z : x == "pieces" with
      | true =>
        rw [z] at e
        cases e
        rw [eq_of_beq z]
        exact ⟨.ref a, rfl, fun v hv => by cases rep_ref_inv hv; exact r10⟩
      | false => rw [z] at e; cases e
    refine F11.ret (r := .lst ((piecesP net start number).map mk3)) ?_ hQ
    walk_at "ev"
theorem fn_pieces {p : Program} {w : World} {n : Nat} (net : List Int) (hnet : net.length = 4) (start : Nat) (number : Int) : FnOk p w (n + 3) (.ref 186) [.lst (net.map .int), .int start, .int number] (.lst ((piecesP net start number).map mk3)) := FnOk.of_body (atPieces _) rfl (body_pieces net hnet start number)
end Mine
end
section
set_option Elab.async false
set_option linter.unusedVariables false
set_option maxRecDepth 100000
set_option maxHeartbeats 2000000
namespace Mine
open PySem PySem.W PySem.Calls PyProof.Rows
local macro_rules | `(tactic| walk_at "ev") => `(tactic| first
  | exact Ev.int
  | exact Ev.str
  | exact Ev.bool
  | exact Ev.none_
  | (refine Ev.name ?_; rfl)
  | (refine Ev.mod ?_ ?_ ?_ <;> first | walk_at "ev" | skip)
  | (refine Ev.add ?_ ?_ <;> first | walk_at "ev" | skip)
  | (refine Ev.sub ?_ ?_ <;> first | walk_at "ev" | skip)
  | (refine Ev.list ?_ ?_ <;> first | walk_at "ev" | decide | skip)
  | (refine Ev.tuple ?_ ?_ <;> first | walk_at "ev" | decide | skip)
  | exact Evs.nil
  | (refine Evs.cons ?_ ?_ <;> first | walk_at "ev" | skip)
  )
/-- the two nets, and the lines that stand open in each -/
structure NS where
  n0 : List Int
  n1 : List Int
  o0 : List Int
  o1 : List Int
noncomputable def stepOwn (own : Bool) (k : Nat) (st : NS) : NS := match own with
  | false => ⟨st.n0.set k (2 ^ k + lastP st.o0), st.n1.set k (lastP st.o1), st.o0 ++ [(k : Int)], st.o1⟩
  | true => ⟨st.n0.set k (lastP st.o0), st.n1.set k (2 ^ k + lastP st.o1), st.o0, st.o1 ++ [(k : Int)]⟩
noncomputable def joinI (x y : Int) : Int := if (x != y) = true then x + y else 0
noncomputable def deed1 (st : NS) : NS := match st.o0.getLast? with
  | none => st
  | some x => ⟨st.n0, st.n1.set x.toNat (joinI (st.n1.getD x.toNat 0) (lastP st.o1)), st.o0.dropLast, st.o1⟩
noncomputable def deed2 (st : NS) : NS := match st.o1.getLast? with
  | none => st
  | some x => ⟨st.n0.set x.toNat (joinI (st.n0.getD x.toNat 0) (lastP st.o0)), st.n1, st.o0, st.o1.dropLast⟩
noncomputable def deedP (st : NS) (d : Int) : NS := if d = 1 then deed1 st else if d = 2 then deed2 st else st
noncomputable def deedsP (half : Int) (k : Nat) : List Int := [half.fmod 3, (half.fdiv 3).fmod 3, (half.fdiv 9).fmod 3] ++ (List.replicate (k / 3) [1, 1, 1, 1, 2, 2, 2, 2]).flatten
structure GoodN (m : Nat) (st : NS) : Prop where
  l0 : st.n0.length = 4
  l1 : st.n1.length = 4
  b0 : ∀ x ∈ st.o0, 0 ≤ x ∧ x < 4
  b1 : ∀ x ∈ st.o1, 0 ≤ x ∧ x < 4
  z0 : st.o0.length ≤ m
  z1 : st.o1.length ≤ m
theorem concat_of {o : List Int} {x : Int} (h : o.getLast? = some x) : o = o.dropLast ++ [x] := by
  rcases List.eq_nil_or_concat o with rfl | ⟨q, y, rfl⟩
  · cases h
  · simp at h ⊢
    exact h
theorem GoodN.own {m : Nat} {st : NS} (G : GoodN m st) (own : Bool) (k : Nat) (hk : k < 4) : GoodN (m + 1) (stepOwn own k st) := by
  have e : ∀ {o : List Int}, (∀ x ∈ o, 0 ≤ x ∧ x < 4) → ∀ x ∈ o ++ [(k : Int)], 0 ≤ x ∧ x < 4 := fun h x hx => by
    rcases List.mem_append.mp hx with hx | hx
    · exact h x hx
    · rw [List.mem_singleton.mp hx]; omega
  have := G.z0
  have := G.z1
  cases own
  · exact ⟨by simp [stepOwn, G.l0], by simp [stepOwn, G.l1], e G.b0, G.b1, by simp [stepOwn]; omega, by simp [stepOwn]; omega⟩
  · exact ⟨by simp [stepOwn, G.l0], by simp [stepOwn, G.l1], G.b0, e G.b1, by simp [stepOwn]; omega, by simp [stepOwn]; omega⟩
theorem GoodN.deed {m : Nat} {st : NS} (G : GoodN m st) (d : Int) : GoodN m (deedP st d) := by
  have z0 := G.z0
  have z1 := G.z1
  unfold deedP
  split
  · unfold deed1
    split
    · exact G
    · exact ⟨G.l0, by simp [G.l1], fun x hx => G.b0 x (List.dropLast_subset _ hx), G.b1, by simp; omega, z1⟩
  · split
    · unfold deed2
      split
      · exact G
      · exact ⟨by simp [G.l0], G.l1, G.b0, fun x hx => G.b1 x (List.dropLast_subset _ hx), z0, by simp; omega⟩
    · exact G
theorem GoodN.deeds {m : Nat} : ∀ {ds : List Int} {st : NS}, GoodN m st → GoodN m (ds.foldl deedP st)
  | [], st, G => G
  | d :: r, st, G => GoodN.deeds (ds := r) (st := deedP st d) (G.deed d)
theorem deeds_bd (half : Int) (k : Nat) : ∀ d ∈ deedsP half k, d = 0 ∨ d = 1 ∨ d = 2 := by
  intro d hd
  have f : ∀ x : Int, x.fmod 3 = 0 ∨ x.fmod 3 = 1 ∨ x.fmod 3 = 2 := fun x => by
    have h0 := Int.fmod_nonneg_of_pos x (by decide : (0 : Int) < 3)
    have h1 := Int.fmod_lt_of_pos x (by decide : (0 : Int) < 3)
    omega
  unfold deedsP at hd
  rcases List.mem_append.mp hd with h | h
  · simp only [List.mem_cons, List.not_mem_nil, or_false] at h
    rcases h with rfl | rfl | rfl <;> exact f _
  · rw [List.mem_flatten] at h
    obtain ⟨l, h1, h2⟩ := h
    rw [(List.mem_replicate.mp h1).2] at h2
    simp only [List.mem_cons, List.not_mem_nil, or_false] at h2
    omega
noncomputable def kindB (numbers : List Int) (k : Nat) : Bool := match k with | 0 => false | 1 => true | k => (numbers.getD k 0).fmod 2 == 1
noncomputable def kindI (numbers : List Int) (k : Nat) : Int := match k with | 0 => 0 | 1 => 1 | k => (numbers.getD k 0).fmod 2
theorem kind_BI (numbers : List Int) (k : Nat) : kindI numbers k = if kindB numbers k then 1 else 0 := by
  match k with
  | 0 => rfl
  | 1 => rfl
  | k + 2 =>
    show (numbers.getD (k + 2) 0).fmod 2 = if (numbers.getD (k + 2) 0).fmod 2 == 1 then 1 else 0
    have h0 := Int.fmod_nonneg_of_pos (numbers.getD (k + 2) 0) (by decide : (0 : Int) < 2)
    have h1 := Int.fmod_lt_of_pos (numbers.getD (k + 2) 0) (by decide : (0 : Int) < 2)
    split
    · rename_i h; exact eq_of_beq h
    · rename_i h
      have : (numbers.getD (k + 2) 0).fmod 2 ≠ 1 := fun q => h (beq_iff_eq.mpr q)
      omega
noncomputable def kindsP (numbers : List Int) : List Int := [kindI numbers 0, kindI numbers 1, kindI numbers 2, kindI numbers 3]
noncomputable def netStep (numbers : List Int) (st : NS) (k : Nat) : NS := (deedsP ((numbers.getD k 0).fdiv 2) k).foldl deedP (stepOwn (kindB numbers k) k st)
noncomputable def ns0 : NS := ⟨[0, 0, 0, 0], [0, 0, 0, 0], [], []⟩
noncomputable def netsAt (numbers : List Int) (k : Nat) : NS := (List.range k).foldl (netStep numbers) ns0
noncomputable def netsP (numbers : List Int) : NS := netsAt numbers 4
theorem nets_succ (numbers : List Int) (k : Nat) : netsAt numbers (k + 1) = netStep numbers (netsAt numbers k) k := by
  unfold netsAt
  rw [List.range_succ, List.foldl_append]
  rfl
theorem nets_good (numbers : List Int) : ∀ k, k ≤ 4 → GoodN k (netsAt numbers k)
  | 0, _ => ⟨rfl, rfl, (fun x hx => by cases hx), (fun x hx => by cases hx), Nat.le_refl _, Nat.le_refl _⟩
  | k + 1, h => by
    rw [nets_succ]
    exact GoodN.deeds ((nets_good numbers k (by omega)).own _ k (by omega))
noncomputable abbrev ownN (a0 a1 b0 b1 : Addr) (st : NS) : List Own := [.lst a0 (st.n0.map .int), .lst a1 (st.n1.map .int), .lst b0 (st.o0.map .int), .lst b1 (st.o1.map .int)]
theorem map_set_int (n : List Int) (k : Nat) (v : Int) : (n.map PV.int).set k (.int v) = (n.set k v).map .int := (List.map_set ..).symm
theorem map_app_int (n : List Int) (v : Int) : (n.map PV.int) ++ [.int v] = (n ++ [v]).map .int := by simp
noncomputable def forBody : Stmt → List Stmt
  | .For _ _ b _ _ => b
  | _ => []
noncomputable def deedBody : List Stmt := forBody ((forBody ((bodyOf fdNets).getD 3 (.Pass zp))).getD 5 (.Pass zp))
theorem Fr.reloc {c : Cx} {own : List Own} {l l' : List (Str × PV)} {g : View} {s : Shared} (F : Fr c own l g s) (h : Sub l l') : Fr c own l' g s := F.weaken h.all
theorem last_ok {m : Nat} {st : NS} {o : List Int} (h : ∀ x ∈ o, 0 ≤ x ∧ x < 4) : ∀ x ∈ o, 0 ≤ x ∧ x ≤ 1000 := fun x hx => by
  have := h x hx
  omega
theorem deed_1 {p : Program} {w : World} {n m : Nat} {A : Around} {s0 s : Shared} {g0 g : View} {L : Addr} {E : Value → Shared → Prop} {Q : Flow → Shared → Prop} {a0 a1 b0 b1 : Addr} {oth : List Own} {st : NS} {K N : PV} (hA : AOk (n + 2) A) (G : GoodN m st) (hm : m ≤ 8)
    (F : Fr (fnCx w fdNets 179 s0 g0 L) (ownN a0 a1 b0 b1 st ++ oth) (("deed", .int 1) :: [("nets", .lst [.ref a0, .ref a1]), ("opened", .lst [.ref b0, .ref b1]), ("kinds", K), ("numbers", N)]) g s)
    (h : ∀ g' s', g.Le g' → Fr (fnCx w fdNets 179 s0 g0 L) (ownN a0 a1 b0 b1 (deed1 st) ++ oth) [("nets", .lst [.ref a0, .ref a1]), ("opened", .lst [.ref b0, .ref b1]), ("kinds", K), ("numbers", N)] g' s' → Q .next s') :
    Ex p A (fnCx w fdNets 179 s0 g0 L) deedBody Q E s := by
  refine F.ifP (l' := [("deed", .int 1), ("opened", .lst [.lst (st.o0.map .int), .lst (st.o1.map .int)])]) (b := !(st.o0.map PV.int).isEmpty) ?_ ?_ ?_ ?_
  · exact .cons rfl Up.same (.cons rfl (Up.pair (Up.own (by simp)) (Up.own (by simp))) .nil)
  · intro g
    refine EvB.conv (EvB.and (b := true) (c := !(st.o0.map PV.int).isEmpty) ?_ fun _ => ?_) (Bool.true_and _)
    · refine EvB.conv (EvB.cmpI CmpI.gt (x := 1) (y := 0) ?_ ?_) rfl
      · walk_at "ev"
      · walk_at "ev"
    · refine EvB.neNil (hA.mono (by omega)) ?_ ?_
      · refine Ev.item (k := 0) (ps := [.lst (st.o0.map .int), .lst (st.o1.map .int)]) ?_ ?_ (by decide) (by decide) rfl
        · walk_at "ev"
        · refine Ev.conv (Ev.sub (x := 1) (y := 1) ?_ ?_) rfl
          · walk_at "ev"
          · walk_at "ev"
      · exact Ev.list Evs.nil (by decide)
  · intro hb s1 F1
    rcases List.eq_nil_or_concat st.o0 with hq | ⟨q, x, hq⟩
    · rw [hq] at hb; cases hb
    have hx := G.b0 x (by rw [hq]; simp)
    have hst : deed1 st = { st with n1 := st.n1.set x.toNat (joinI (st.n1.getD x.toNat 0) (lastP st.o1)), o0 := q } := by
      unfold deed1
      have h1 : st.o0.getLast? = some x := by rw [hq]; simp
      have h2 : st.o0.dropLast = q := by rw [hq]; simp
      rw [h1, h2]
    have eo : st.o0.map PV.int = (q.map .int) ++ [.int x] := by rw [hq]; simp
    have hxk : x.toNat < st.n1.length := by rw [G.l1]; omega
    have hlen := G.z0
    have hlen' : q.length ≤ 8 := by rw [hq] at hlen; simp at hlen; omega
    have F1' : Fr (fnCx w fdNets 179 s0 g0 L) ([Own.lst a0 (st.n0.map PV.int), Own.lst a1 (st.n1.map PV.int)] ++ Own.lst b0 ((q.map .int) ++ [.int x]) :: ([Own.lst b1 (st.o1.map PV.int)] ++ oth)) (("deed", .int 1) :: [("nets", .lst [.ref a0, .ref a1]), ("opened", .lst [.ref b0, .ref b1]), ("kinds", K), ("numbers", N)]) g s1 := by
      rw [← eo]; exact F1
    refine Fr.popA [Own.lst a0 (st.n0.map PV.int), Own.lst a1 (st.n1.map PV.int)] ([Own.lst b1 (st.o1.map PV.int)] ++ oth) F1' ?_ (.inl ?_) ?_ ?_
    · refine Ev.item (k := 0) (ps := [.ref b0, .ref b1]) ?_ ?_ (by decide) (by decide) rfl
      · walk_at "ev"
      · refine Ev.conv (Ev.sub (x := 1) (y := 1) ?_ ?_) rfl
        · walk_at "ev"
        · walk_at "ev"
    · rfl
    · rw [List.length_map]; omega
    intro g2 s2 l2 F2
    refine F2.assignP (l' := [("line", .int x), ("deed", .int 1), ("nets", .lst [.lst (st.n0.map .int), .lst (st.n1.map .int)])]) (r := .int (st.n1.getD x.toNat 0)) ?_ Flat.int ?_ (.inl ?_) ?_
    · exact .cons rfl Up.same (.cons rfl Up.same (.cons rfl (Up.pair (Up.own (by simp)) (Up.own (by simp))) .nil))
    · intro g
      refine Ev.item (k := x) (ps := st.n1.map .int) ?_ ?_ hx.1 (by omega) (getD_get hxk)
      · refine Ev.item (k := 1) (ps := [.lst (st.n0.map .int), .lst (st.n1.map .int)]) ?_ ?_ (by decide) (by decide) rfl
        · walk_at "ev"
        · refine Ev.conv (Ev.sub (x := 2) (y := 1) ?_ ?_) rfl
          · walk_at "ev"
          · walk_at "ev"
      · walk_at "ev"
    · rfl
    intro g3 s3 l3 F3
    refine F3.assignP (l' := [("deed", .int 1), ("opened", .lst [.lst (q.map .int), .lst (st.o1.map .int)])]) (r := .int (lastP st.o1)) ?_ Flat.int ?_ (.inl ?_) ?_
    · exact .cons rfl Up.same (.cons rfl (Up.pair (Up.own (by simp)) (Up.own (by simp))) .nil)
    · intro g
      have hlj := G.z1
      refine Ev.callF (n := n + 2) hA (Ev.global ?_ (glLast _)) (fn_last st.o1 (last_ok (m := m) (st := st) G.b1) (by omega)) (isLast _) (Evs.cons ?_ Evs.nil)
      · rfl
      · refine Ev.item (k := 1) (ps := [.lst (q.map .int), .lst (st.o1.map .int)]) ?_ ?_ (by decide) (by decide) rfl
        · walk_at "ev"
        · refine Ev.conv (Ev.sub (x := 2) (y := 1) ?_ ?_) rfl
          · walk_at "ev"
          · walk_at "ev"
    · rfl
    intro g4 s4 l4 F4
    refine Fr.setP [Own.lst a0 (st.n0.map PV.int)] ([Own.lst b0 (q.map PV.int), Own.lst b1 (st.o1.map PV.int)] ++ oth) (a := a1) (ps := st.n1.map .int) (k := x) (r := .int (joinI (st.n1.getD x.toNat 0) (lastP st.o1))) (l' := [("then", .int (st.n1.getD x.toNat 0)), ("now", .int (lastP st.o1))]) F4 ?_ Flat.int ?_ ?_ ?_ hx.1 ?_ ?_ ?_
    · exact .cons rfl Up.same (.cons rfl Up.same .nil)
    · intro g
      unfold joinI
      refine Ev.ite (b := (st.n1.getD x.toNat 0 != lastP st.o1)) ?_ ?_ ?_
      · refine EvB.cmpI CmpI.ne ?_ ?_
        · walk_at "ev"
        · walk_at "ev"
      · intro hc
        rw [if_pos hc]
        walk_at "ev"
      · intro hc
        rw [if_neg (by rw [hc]; exact Bool.false_ne_true)]
        walk_at "ev"
    · intro g
      refine Ev.item (k := 1) (ps := [.ref a0, .ref a1]) ?_ ?_ (by decide) (by decide) rfl
      · walk_at "ev"
      · refine Ev.conv (Ev.sub (x := 2) (y := 1) ?_ ?_) rfl
        · walk_at "ev"
        · walk_at "ev"
    · intro g
      walk_at "ev"
    · rw [List.length_map, G.l1]; omega
    · rw [List.length_map, G.l1]; decide
    · intro g5 s5 l5 F5
      refine Ex.nil_ (Ex.nil_ (h g5 s5 (l2.trans (l3.trans (l4.trans l5))) ?_))
      rw [hst]
      rw [map_set_int] at F5
      exact F5.weaken (Sub.cons rfl (.cons rfl (.cons rfl (.cons rfl .nil)))).all
  · intro hb s1 F1
    have hq : st.o0 = [] := by
      cases z : st.o0 with
      | nil => rfl
      | cons a b => rw [z] at hb; cases hb
    have hst : deed1 st = st := by
      unfold deed1
      rw [hq]; rfl
    refine Ex.nil_ (Ex.nil_ (h g s1 (View.Le.refl _) ?_))
    rw [hst]
    exact F1.weaken (Sub.cons rfl (.cons rfl (.cons rfl (.cons rfl .nil)))).all
theorem deed_2 {p : Program} {w : World} {n m : Nat} {A : Around} {s0 s : Shared} {g0 g : View} {L : Addr} {E : Value → Shared → Prop} {Q : Flow → Shared → Prop} {a0 a1 b0 b1 : Addr} {oth : List Own} {st : NS} {K N : PV} (hA : AOk (n + 2) A) (G : GoodN m st) (hm : m ≤ 8)
    (F : Fr (fnCx w fdNets 179 s0 g0 L) (ownN a0 a1 b0 b1 st ++ oth) (("deed", .int 2) :: [("nets", .lst [.ref a0, .ref a1]), ("opened", .lst [.ref b0, .ref b1]), ("kinds", K), ("numbers", N)]) g s)
    (h : ∀ g' s', g.Le g' → Fr (fnCx w fdNets 179 s0 g0 L) (ownN a0 a1 b0 b1 (deed2 st) ++ oth) [("nets", .lst [.ref a0, .ref a1]), ("opened", .lst [.ref b0, .ref b1]), ("kinds", K), ("numbers", N)] g' s' → Q .next s') :
    Ex p A (fnCx w fdNets 179 s0 g0 L) deedBody Q E s := by
  refine F.ifP (l' := [("deed", .int 2), ("opened", .lst [.lst (st.o0.map .int), .lst (st.o1.map .int)])]) (b := !(st.o1.map PV.int).isEmpty) ?_ ?_ ?_ ?_
  · exact .cons rfl Up.same (.cons rfl (Up.pair (Up.own (by simp)) (Up.own (by simp))) .nil)
  · intro g
    refine EvB.conv (EvB.and (b := true) (c := !(st.o1.map PV.int).isEmpty) ?_ fun _ => ?_) (Bool.true_and _)
    · refine EvB.conv (EvB.cmpI CmpI.gt (x := 2) (y := 0) ?_ ?_) rfl
      · walk_at "ev"
      · walk_at "ev"
    · refine EvB.neNil (hA.mono (by omega)) ?_ ?_
      · refine Ev.item (k := 1) (ps := [.lst (st.o0.map .int), .lst (st.o1.map .int)]) ?_ ?_ (by decide) (by decide) rfl
        · walk_at "ev"
        · refine Ev.conv (Ev.sub (x := 2) (y := 1) ?_ ?_) rfl
          · walk_at "ev"
          · walk_at "ev"
      · exact Ev.list Evs.nil (by decide)
  · intro hb s1 F1
    rcases List.eq_nil_or_concat st.o1 with hq | ⟨q, x, hq⟩
    · rw [hq] at hb; cases hb
    have hx := G.b1 x (by rw [hq]; simp)
    have hst : deed2 st = { st with n0 := st.n0.set x.toNat (joinI (st.n0.getD x.toNat 0) (lastP st.o0)), o1 := q } := by
      unfold deed2
      have h1 : st.o1.getLast? = some x := by rw [hq]; simp
      have h2 : st.o1.dropLast = q := by rw [hq]; simp
      rw [h1, h2]
    have eo : st.o1.map PV.int = (q.map .int) ++ [.int x] := by rw [hq]; simp
    have hxk : x.toNat < st.n0.length := by rw [G.l0]; omega
    have hlen := G.z1
    have hlen' : q.length ≤ 8 := by rw [hq] at hlen; simp at hlen; omega
    have F1' : Fr (fnCx w fdNets 179 s0 g0 L) ([Own.lst a0 (st.n0.map PV.int), Own.lst a1 (st.n1.map PV.int), Own.lst b0 (st.o0.map PV.int)] ++ Own.lst b1 ((q.map .int) ++ [.int x]) :: ([] ++ oth)) (("deed", .int 2) :: [("nets", .lst [.ref a0, .ref a1]), ("opened", .lst [.ref b0, .ref b1]), ("kinds", K), ("numbers", N)]) g s1 := by
      rw [← eo]; exact F1
    refine Fr.popA [Own.lst a0 (st.n0.map PV.int), Own.lst a1 (st.n1.map PV.int), Own.lst b0 (st.o0.map PV.int)] ([] ++ oth) F1' ?_ (.inl ?_) ?_ ?_
    · refine Ev.item (k := 1) (ps := [.ref b0, .ref b1]) ?_ ?_ (by decide) (by decide) rfl
      · walk_at "ev"
      · refine Ev.conv (Ev.sub (x := 2) (y := 1) ?_ ?_) rfl
        · walk_at "ev"
        · walk_at "ev"
    · rfl
    · rw [List.length_map]; omega
    intro g2 s2 l2 F2
    refine F2.assignP (l' := [("line", .int x), ("deed", .int 2), ("nets", .lst [.lst (st.n0.map .int), .lst (st.n1.map .int)])]) (r := .int (st.n0.getD x.toNat 0)) ?_ Flat.int ?_ (.inl ?_) ?_
    · exact .cons rfl Up.same (.cons rfl Up.same (.cons rfl (Up.pair (Up.own (by simp)) (Up.own (by simp))) .nil))
    · intro g
      refine Ev.item (k := x) (ps := st.n0.map .int) ?_ ?_ hx.1 (by omega) (getD_get hxk)
      · refine Ev.item (k := 0) (ps := [.lst (st.n0.map .int), .lst (st.n1.map .int)]) ?_ ?_ (by decide) (by decide) rfl
        · walk_at "ev"
        · refine Ev.conv (Ev.sub (x := 2) (y := 2) ?_ ?_) rfl
          · walk_at "ev"
          · walk_at "ev"
      · walk_at "ev"
    · rfl
    intro g3 s3 l3 F3
    refine F3.assignP (l' := [("deed", .int 2), ("opened", .lst [.lst (st.o0.map .int), .lst (q.map .int)])]) (r := .int (lastP st.o0)) ?_ Flat.int ?_ (.inl ?_) ?_
    · exact .cons rfl Up.same (.cons rfl (Up.pair (Up.own (by simp)) (Up.own (by simp))) .nil)
    · intro g
      have hlj := G.z0
      refine Ev.callF (n := n + 2) hA (Ev.global ?_ (glLast _)) (fn_last st.o0 (last_ok (m := m) (st := st) G.b0) (by omega)) (isLast _) (Evs.cons ?_ Evs.nil)
      · rfl
      · refine Ev.item (k := 0) (ps := [.lst (st.o0.map .int), .lst (q.map .int)]) ?_ ?_ (by decide) (by decide) rfl
        · walk_at "ev"
        · refine Ev.conv (Ev.sub (x := 2) (y := 2) ?_ ?_) rfl
          · walk_at "ev"
          · walk_at "ev"
    · rfl
    intro g4 s4 l4 F4
    refine Fr.setP [] ([Own.lst a1 (st.n1.map PV.int), Own.lst b0 (st.o0.map PV.int), Own.lst b1 (q.map PV.int)] ++ oth) (a := a0) (ps := st.n0.map .int) (k := x) (r := .int (joinI (st.n0.getD x.toNat 0) (lastP st.o0))) (l' := [("then", .int (st.n0.getD x.toNat 0)), ("now", .int (lastP st.o0))]) F4 ?_ Flat.int ?_ ?_ ?_ hx.1 ?_ ?_ ?_
    · exact .cons rfl Up.same (.cons rfl Up.same .nil)
    · intro g
      unfold joinI
      refine Ev.ite (b := (st.n0.getD x.toNat 0 != lastP st.o0)) ?_ ?_ ?_
      · refine EvB.cmpI CmpI.ne ?_ ?_
        · walk_at "ev"
        · walk_at "ev"
      · intro hc
        rw [if_pos hc]
        walk_at "ev"
      · intro hc
        rw [if_neg (by rw [hc]; exact Bool.false_ne_true)]
        walk_at "ev"
    · intro g
      refine Ev.item (k := 0) (ps := [.ref a0, .ref a1]) ?_ ?_ (by decide) (by decide) rfl
      · walk_at "ev"
      · refine Ev.conv (Ev.sub (x := 2) (y := 2) ?_ ?_) rfl
        · walk_at "ev"
        · walk_at "ev"
    · intro g
      walk_at "ev"
    · rw [List.length_map, G.l0]; omega
    · rw [List.length_map, G.l0]; decide
    · intro g5 s5 l5 F5
      refine Ex.nil_ (Ex.nil_ (h g5 s5 (l2.trans (l3.trans (l4.trans l5))) ?_))
      rw [hst]
      rw [map_set_int] at F5
      exact F5.weaken (Sub.cons rfl (.cons rfl (.cons rfl (.cons rfl .nil)))).all
  · intro hb s1 F1
    have hq : st.o1 = [] := by
      cases z : st.o1 with
      | nil => rfl
      | cons a b => rw [z] at hb; cases hb
    have hst : deed2 st = st := by
      unfold deed2
      rw [hq]; rfl
    refine Ex.nil_ (Ex.nil_ (h g s1 (View.Le.refl _) ?_))
    rw [hst]
    exact F1.weaken (Sub.cons rfl (.cons rfl (.cons rfl (.cons rfl .nil)))).all
theorem div3 (k : Nat) : (k : Int).fdiv 3 = ((k / 3 : Nat) : Int) := by
  rw [Int.fdiv_eq_ediv_of_nonneg _ (by decide)]
  norm_cast
theorem kinds_get (numbers : List Int) (k : Nat) (hk : k < 4) : ((kindsP numbers).map PV.int)[k]? = some (.int (kindI numbers k)) := by
  match k, hk with
  | 0, _ => rfl
  | 1, _ => rfl
  | 2, _ => rfl
  | 3, _ => rfl
noncomputable def turnBody : List Stmt := forBody ((bodyOf fdNets).getD 3 (.Pass zp))
theorem turn_0 {p : Program} {w : World} {n : Nat} {A : Around} {s0 s : Shared} {g0 g : View} {L : Addr} {E : Value → Shared → Prop} {Q : Flow → Shared → Prop} {a0 a1 b0 b1 : Addr} {oth : List Own} {st : NS} {numbers : List Int} (hnum : numbers.length = 4) {k : Nat} (hk : k < 4) (hA : AOk (n + 2) A) (G : GoodN k st)
    (hown : kindB numbers k = false) (F : Fr (fnCx w fdNets 179 s0 g0 L) (ownN a0 a1 b0 b1 st ++ oth) (("k", .int (k : Int)) :: [("kinds", .lst ((kindsP numbers).map .int)), ("nets", .lst [.ref a0, .ref a1]), ("opened", .lst [.ref b0, .ref b1]), ("numbers", .lst (numbers.map .int))]) g s)
    (h : ∀ g' s', g.Le g' → Fr (fnCx w fdNets 179 s0 g0 L) (ownN a0 a1 b0 b1 (netStep numbers st k) ++ oth) [("kinds", .lst ((kindsP numbers).map .int)), ("nets", .lst [.ref a0, .ref a1]), ("opened", .lst [.ref b0, .ref b1]), ("numbers", .lst (numbers.map .int))] g' s' → Q .next s') :
    Ex p A (fnCx w fdNets 179 s0 g0 L) turnBody Q E s := by
  have hkI : kindI numbers k = 0 := by rw [kind_BI, hown]; rfl
  have z0 := G.z0
  have z1 := G.z1
  refine F.assign (r := .int 0) ?_ (.inl ?_) ?_
  rotate_left
  · rfl
  rotate_left
  · refine Ev.item (k := (k : Int)) (ps := (kindsP numbers).map .int) ?_ ?_ (by omega) (by omega) (by rw [← hkI]; exact kinds_get numbers k hk)
    · walk_at "ev"
    · walk_at "ev"
  intro g1 s1 l1 F1
  refine Fr.setP [] ([Own.lst a1 (st.n1.map PV.int), Own.lst b0 (st.o0.map PV.int), Own.lst b1 (st.o1.map PV.int)] ++ oth) (a := a0) (ps := st.n0.map .int) (k := (k : Int)) (r := .int (2 ^ k + lastP st.o0)) (l' := [("k", .int (k : Int)), ("own", .int 0), ("opened", .lst [.lst (st.o0.map .int), .lst (st.o1.map .int)])]) F1 ?_ Flat.int ?_ ?_ ?_ (by omega) ?_ ?_ ?_
  · exact .cons rfl Up.same (.cons rfl Up.same (.cons rfl (Up.pair (Up.own (by simp)) (Up.own (by simp))) .nil))
  · intro g
    refine Ev.add (Ev.conv (Ev.pow (x := 2) (y := (k : Int)) ?_ ?_ (by omega) (by omega) (by decide)) ?_) ?_
    · walk_at "ev"
    · walk_at "ev"
    · rfl
    · refine Ev.callF (n := n + 2) hA (Ev.global ?_ (glLast _)) (fn_last st.o0 (last_ok (m := k) (st := st) G.b0) (by omega)) (isLast _) (Evs.cons ?_ Evs.nil)
      · rfl
      · refine Ev.item (k := 0) (ps := [.lst (st.o0.map .int), .lst (st.o1.map .int)]) ?_ ?_ (by decide) (by decide) rfl
        · walk_at "ev"
        · walk_at "ev"
  · intro g
    refine Ev.item (k := 0) (ps := [.ref a0, .ref a1]) ?_ ?_ (by decide) (by decide) rfl
    · walk_at "ev"
    · walk_at "ev"
  · intro g
    walk_at "ev"
  · rw [List.length_map, G.l0]; omega
  · rw [List.length_map, G.l0]; decide
  intro g2 s2 l2 F2
  rw [map_set_int] at F2
  have F2' : Fr (fnCx w fdNets 179 s0 g0 L) ([Own.lst a0 ((st.n0.set k (2 ^ k + lastP st.o0)).map PV.int)] ++ Own.lst a1 (st.n1.map PV.int) :: ([Own.lst b0 (st.o0.map PV.int), Own.lst b1 (st.o1.map PV.int)] ++ oth)) (("own", .int 0) :: ("k", .int (k : Int)) :: [("kinds", .lst ((kindsP numbers).map .int)), ("nets", .lst [.ref a0, .ref a1]), ("opened", .lst [.ref b0, .ref b1]), ("numbers", .lst (numbers.map .int))]) g2 s2 := F2
  refine Fr.setP [Own.lst a0 ((st.n0.set k (2 ^ k + lastP st.o0)).map PV.int)] ([Own.lst b0 (st.o0.map PV.int), Own.lst b1 (st.o1.map PV.int)] ++ oth) (a := a1) (ps := st.n1.map .int) (k := (k : Int)) (r := .int (lastP st.o1)) (l' := [("k", .int (k : Int)), ("own", .int 0), ("opened", .lst [.lst (st.o0.map .int), .lst (st.o1.map .int)])]) F2' ?_ Flat.int ?_ ?_ ?_ (by omega) ?_ ?_ ?_
  · exact .cons rfl Up.same (.cons rfl Up.same (.cons rfl (Up.pair (Up.own (by simp)) (Up.own (by simp))) .nil))
  · intro g
    refine Ev.callF (n := n + 2) hA (Ev.global ?_ (glLast _)) (fn_last st.o1 (last_ok (m := k) (st := st) G.b1) (by omega)) (isLast _) (Evs.cons ?_ Evs.nil)
    · rfl
    · refine Ev.item (k := 1) (ps := [.lst (st.o0.map .int), .lst (st.o1.map .int)]) ?_ ?_ (by decide) (by decide) rfl
      · walk_at "ev"
      · refine Ev.conv (Ev.sub (x := 1) (y := 0) ?_ ?_) rfl
        · walk_at "ev"
        · walk_at "ev"
  · intro g
    refine Ev.item (k := 1) (ps := [.ref a0, .ref a1]) ?_ ?_ (by decide) (by decide) rfl
    · walk_at "ev"
    · refine Ev.conv (Ev.sub (x := 1) (y := 0) ?_ ?_) rfl
      · walk_at "ev"
      · walk_at "ev"
  · intro g
    walk_at "ev"
  · rw [List.length_map, G.l1]; omega
  · rw [List.length_map, G.l1]; decide
  intro g3 s3 l3 F3
  rw [map_set_int] at F3
  have F3' : Fr (fnCx w fdNets 179 s0 g0 L) ([Own.lst a0 ((st.n0.set k (2 ^ k + lastP st.o0)).map PV.int), Own.lst a1 ((st.n1.set k (lastP st.o1)).map PV.int)] ++ Own.lst b0 (st.o0.map PV.int) :: ([Own.lst b1 (st.o1.map PV.int)] ++ oth)) (("own", .int 0) :: ("k", .int (k : Int)) :: [("kinds", .lst ((kindsP numbers).map .int)), ("nets", .lst [.ref a0, .ref a1]), ("opened", .lst [.ref b0, .ref b1]), ("numbers", .lst (numbers.map .int))]) g3 s3 := F3
  refine Fr.append [Own.lst a0 ((st.n0.set k (2 ^ k + lastP st.o0)).map PV.int), Own.lst a1 ((st.n1.set k (lastP st.o1)).map PV.int)] ([Own.lst b1 (st.o1.map PV.int)] ++ oth) (r := .int (k : Int)) F3' ?_ ?_ ?_ ?_
  · refine Ev.item (k := 0) (ps := [.ref b0, .ref b1]) ?_ ?_ (by decide) (by decide) rfl
    · walk_at "ev"
    · walk_at "ev"
  · walk_at "ev"
  · rw [List.length_map]; omega
  intro g4 s4 l4 F4
  rw [map_app_int] at F4
  have F4' : Fr (fnCx w fdNets 179 s0 g0 L) (ownN a0 a1 b0 b1 (stepOwn false k st) ++ oth) (("own", .int 0) :: ("k", .int (k : Int)) :: [("kinds", .lst ((kindsP numbers).map .int)), ("nets", .lst [.ref a0, .ref a1]), ("opened", .lst [.ref b0, .ref b1]), ("numbers", .lst (numbers.map .int))]) g4 s4 := F4
  have G1 : GoodN (k + 1) (stepOwn false k st) := G.own false k hk
  have hst : netStep numbers st k = (deedsP ((numbers.getD k 0).fdiv 2) k).foldl deedP (stepOwn false k st) := by unfold netStep; rw [hown]
  rw [hst] at h
  generalize hS : stepOwn false k st = S1 at *
  refine F4'.assign (r := .int ((numbers.getD k 0).fdiv 2)) ?_ (.inl ?_) ?_
  rotate_left
  · rfl
  rotate_left
  · refine Ev.floordiv (Ev.item (k := (k : Int)) (ps := numbers.map .int) ?_ ?_ (by omega) (by omega) (getD_get (by rw [hnum]; exact hk))) ?_ (by decide) (by decide)
    · walk_at "ev"
    · walk_at "ev"
    · walk_at "ev"
  intro g5 s5 l5 F5
  generalize (numbers.getD k 0).fdiv 2 = half at *
  have k3 : k / 3 ≤ 1 := by omega
  have hdl : (deedsP half k).length ≤ 100 := by
    unfold deedsP
    rw [List.length_append, List.length_flatten, List.map_replicate, List.sum_replicate_nat]
    simp
    omega
  refine Fr.for_ (n := n) F5 (deedsP half k) (fun d => .int d) (fun d => [("deed", .int d)]) (fun _ => [("nets", .lst [.ref a0, .ref a1]), ("opened", .lst [.ref b0, .ref b1]), ("kinds", .lst ((kindsP numbers).map .int)), ("numbers", .lst (numbers.map .int))]) (fun j => ownN a0 a1 b0 b1 (((deedsP half k).take j).foldl deedP S1) ++ oth) (fun _ => True) ?_ ?_ rfl ?_ trivial ?_ ?_ ?_
  · exact hA.mono (by omega)
  · refine SrcE.list ?_
    refine Ev.conv (Ev.addL (xs := [.int (half.fmod 3), .int ((half.fdiv 3).fmod 3), .int ((half.fdiv 9).fmod 3)]) (ys := (List.replicate (k / 3 : Nat) [PV.int 1, .int 1, .int 1, .int 1, .int 2, .int 2, .int 2, .int 2]).flatten) ?_ ?_ ?_) ?_
    · refine Ev.list (Evs.cons ?_ (Evs.cons ?_ (Evs.cons ?_ Evs.nil))) (by simp)
      · walk_at "ev"
        decide
      · refine Ev.mod (Ev.floordiv (x := half) (y := 3) ?_ ?_ (by decide) (by decide)) ?_ (by decide)
        · walk_at "ev"
        · walk_at "ev"
        · walk_at "ev"
      · refine Ev.mod (Ev.floordiv (x := half) (y := 9) ?_ ?_ (by decide) (by decide)) ?_ (by decide)
        · walk_at "ev"
        · walk_at "ev"
        · walk_at "ev"
    · refine Ev.conv (Ev.mulL (xs := [.int 1, .int 1, .int 1, .int 1, .int 2, .int 2, .int 2, .int 2]) (x := ((k / 3 : Nat) : Int)) ?_ (Ev.conv (Ev.floordiv (x := (k : Int)) (y := 3) ?_ ?_ (by decide) (by decide)) ?_) (by omega) (by omega) (by decide)) ?_
      · walk_at "ev"
      · walk_at "ev"
      · walk_at "ev"
      · rw [div3]
      · rfl
    · rw [List.length_flatten, List.map_replicate, List.sum_replicate_nat]
      simp
      omega
    · unfold deedsP
      rw [List.map_append, List.map_flatten, List.map_replicate]
      rfl
  · exact (Sub.cons rfl (.cons rfl (.cons rfl (.cons rfl .nil)))).all
  · intro i hi
    refine Binds.name (.inl ?_)
    rfl
  · intro j hj oth2 g6 s6 E6 hg6 _ F6
    have Gj : GoodN (k + 1) (((deedsP half k).take j).foldl deedP S1) := GoodN.deeds G1
    have hf := fold_take deedP S1 (deedsP half k) j hj
    have hd := deeds_bd half k _ (List.getElem_mem hj)
    generalize hdj : (deedsP half k)[j] = d at *
    generalize ((deedsP half k).take j).foldl deedP S1 = S2 at *
    rw [hf]
    have asso : ∀ x : NS, ownN a0 a1 b0 b1 x ++ oth ++ oth2 = ownN a0 a1 b0 b1 x ++ (oth ++ oth2) := fun x => List.append_assoc ..
    rw [asso] at F6
    rcases hd with rfl | rfl | rfl
    · refine F6.if_ (b := false) ?_ ?_ ?_
      · refine EvB.conv (EvB.and (b := false) (c := true) ?_ fun h => ?_) rfl
        · refine EvB.conv (EvB.cmpI CmpI.gt (x := 0) (y := 0) ?_ ?_) rfl
          · walk_at "ev"
          · walk_at "ev"
        · cases h
      · intro h; cases h
      · intro _ s7 F7
        refine Ex.nil_ (Ex.nil_ (.inl ⟨rfl, trivial, g6, View.Le.refl _, ?_⟩))
        have e : deedP S2 0 = S2 := rfl
        rw [e, asso]
        exact F7.weaken (Sub.cons rfl (.cons rfl (.cons rfl (.cons rfl .nil)))).all
    · refine deed_1 hA Gj (by omega) (oth := oth ++ oth2) F6 fun g7 s7 l7 F7 => .inl ⟨rfl, trivial, g7, l7, ?_⟩
      have e : deedP S2 1 = deed1 S2 := rfl
      rw [e, asso]
      exact F7
    · refine deed_2 hA Gj (by omega) (oth := oth ++ oth2) F6 fun g7 s7 l7 F7 => .inl ⟨rfl, trivial, g7, l7, ?_⟩
      have e : deedP S2 2 = deed2 S2 := rfl
      rw [e, asso]
      exact F7
  · intro g8 s8 l8 _ F8
    rw [List.take_length] at F8
    refine Ex.nil_ (h g8 s8 (l1.trans (l2.trans (l3.trans (l4.trans (l5.trans l8))))) ?_)
    exact F8.weaken (Sub.cons rfl (.cons rfl (.cons rfl (.cons rfl .nil)))).all
theorem turn_1 {p : Program} {w : World} {n : Nat} {A : Around} {s0 s : Shared} {g0 g : View} {L : Addr} {E : Value → Shared → Prop} {Q : Flow → Shared → Prop} {a0 a1 b0 b1 : Addr} {oth : List Own} {st : NS} {numbers : List Int} (hnum : numbers.length = 4) {k : Nat} (hk : k < 4) (hA : AOk (n + 2) A) (G : GoodN k st)
    (hown : kindB numbers k = true) (F : Fr (fnCx w fdNets 179 s0 g0 L) (ownN a0 a1 b0 b1 st ++ oth) (("k", .int (k : Int)) :: [("kinds", .lst ((kindsP numbers).map .int)), ("nets", .lst [.ref a0, .ref a1]), ("opened", .lst [.ref b0, .ref b1]), ("numbers", .lst (numbers.map .int))]) g s)
    (h : ∀ g' s', g.Le g' → Fr (fnCx w fdNets 179 s0 g0 L) (ownN a0 a1 b0 b1 (netStep numbers st k) ++ oth) [("kinds", .lst ((kindsP numbers).map .int)), ("nets", .lst [.ref a0, .ref a1]), ("opened", .lst [.ref b0, .ref b1]), ("numbers", .lst (numbers.map .int))] g' s' → Q .next s') :
    Ex p A (fnCx w fdNets 179 s0 g0 L) turnBody Q E s := by
  have hkI : kindI numbers k = 1 := by rw [kind_BI, hown]; rfl
  have z0 := G.z0
  have z1 := G.z1
  refine F.assign (r := .int 1) ?_ (.inl ?_) ?_
  rotate_left
  · rfl
  rotate_left
  · refine Ev.item (k := (k : Int)) (ps := (kindsP numbers).map .int) ?_ ?_ (by omega) (by omega) (by rw [← hkI]; exact kinds_get numbers k hk)
    · walk_at "ev"
    · walk_at "ev"
  intro g1 s1 l1 F1
  refine Fr.setP [Own.lst a0 (st.n0.map PV.int)] ([Own.lst b0 (st.o0.map PV.int), Own.lst b1 (st.o1.map PV.int)] ++ oth) (a := a1) (ps := st.n1.map .int) (k := (k : Int)) (r := .int (2 ^ k + lastP st.o1)) (l' := [("k", .int (k : Int)), ("own", .int 1), ("opened", .lst [.lst (st.o0.map .int), .lst (st.o1.map .int)])]) F1 ?_ Flat.int ?_ ?_ ?_ (by omega) ?_ ?_ ?_
  · exact .cons rfl Up.same (.cons rfl Up.same (.cons rfl (Up.pair (Up.own (by simp)) (Up.own (by simp))) .nil))
  · intro g
    refine Ev.add (Ev.conv (Ev.pow (x := 2) (y := (k : Int)) ?_ ?_ (by omega) (by omega) (by decide)) ?_) ?_
    · walk_at "ev"
    · walk_at "ev"
    · rfl
    · refine Ev.callF (n := n + 2) hA (Ev.global ?_ (glLast _)) (fn_last st.o1 (last_ok (m := k) (st := st) G.b1) (by omega)) (isLast _) (Evs.cons ?_ Evs.nil)
      · rfl
      · refine Ev.item (k := 1) (ps := [.lst (st.o0.map .int), .lst (st.o1.map .int)]) ?_ ?_ (by decide) (by decide) rfl
        · walk_at "ev"
        · walk_at "ev"
  · intro g
    refine Ev.item (k := 1) (ps := [.ref a0, .ref a1]) ?_ ?_ (by decide) (by decide) rfl
    · walk_at "ev"
    · walk_at "ev"
  · intro g
    walk_at "ev"
  · rw [List.length_map, G.l1]; omega
  · rw [List.length_map, G.l1]; decide
  intro g2 s2 l2 F2
  rw [map_set_int] at F2
  have F2' : Fr (fnCx w fdNets 179 s0 g0 L) ([] ++ Own.lst a0 (st.n0.map PV.int) :: ([Own.lst a1 ((st.n1.set k (2 ^ k + lastP st.o1)).map PV.int), Own.lst b0 (st.o0.map PV.int), Own.lst b1 (st.o1.map PV.int)] ++ oth)) (("own", .int 1) :: ("k", .int (k : Int)) :: [("kinds", .lst ((kindsP numbers).map .int)), ("nets", .lst [.ref a0, .ref a1]), ("opened", .lst [.ref b0, .ref b1]), ("numbers", .lst (numbers.map .int))]) g2 s2 := F2
  refine Fr.setP [] ([Own.lst a1 ((st.n1.set k (2 ^ k + lastP st.o1)).map PV.int), Own.lst b0 (st.o0.map PV.int), Own.lst b1 (st.o1.map PV.int)] ++ oth) (a := a0) (ps := st.n0.map .int) (k := (k : Int)) (r := .int (lastP st.o0)) (l' := [("k", .int (k : Int)), ("own", .int 1), ("opened", .lst [.lst (st.o0.map .int), .lst (st.o1.map .int)])]) F2' ?_ Flat.int ?_ ?_ ?_ (by omega) ?_ ?_ ?_
  · exact .cons rfl Up.same (.cons rfl Up.same (.cons rfl (Up.pair (Up.own (by simp)) (Up.own (by simp))) .nil))
  · intro g
    refine Ev.callF (n := n + 2) hA (Ev.global ?_ (glLast _)) (fn_last st.o0 (last_ok (m := k) (st := st) G.b0) (by omega)) (isLast _) (Evs.cons ?_ Evs.nil)
    · rfl
    · refine Ev.item (k := 0) (ps := [.lst (st.o0.map .int), .lst (st.o1.map .int)]) ?_ ?_ (by decide) (by decide) rfl
      · walk_at "ev"
      · refine Ev.conv (Ev.sub (x := 1) (y := 1) ?_ ?_) rfl
        · walk_at "ev"
        · walk_at "ev"
  · intro g
    refine Ev.item (k := 0) (ps := [.ref a0, .ref a1]) ?_ ?_ (by decide) (by decide) rfl
    · walk_at "ev"
    · refine Ev.conv (Ev.sub (x := 1) (y := 1) ?_ ?_) rfl
      · walk_at "ev"
      · walk_at "ev"
  · intro g
    walk_at "ev"
  · rw [List.length_map, G.l0]; omega
  · rw [List.length_map, G.l0]; decide
  intro g3 s3 l3 F3
  rw [map_set_int] at F3
  have F3' : Fr (fnCx w fdNets 179 s0 g0 L) ([Own.lst a0 ((st.n0.set k (lastP st.o0)).map PV.int), Own.lst a1 ((st.n1.set k (2 ^ k + lastP st.o1)).map PV.int), Own.lst b0 (st.o0.map PV.int)] ++ Own.lst b1 (st.o1.map PV.int) :: ([] ++ oth)) (("own", .int 1) :: ("k", .int (k : Int)) :: [("kinds", .lst ((kindsP numbers).map .int)), ("nets", .lst [.ref a0, .ref a1]), ("opened", .lst [.ref b0, .ref b1]), ("numbers", .lst (numbers.map .int))]) g3 s3 := F3
  refine Fr.append [Own.lst a0 ((st.n0.set k (lastP st.o0)).map PV.int), Own.lst a1 ((st.n1.set k (2 ^ k + lastP st.o1)).map PV.int), Own.lst b0 (st.o0.map PV.int)] ([] ++ oth) (r := .int (k : Int)) F3' ?_ ?_ ?_ ?_
  · refine Ev.item (k := 1) (ps := [.ref b0, .ref b1]) ?_ ?_ (by decide) (by decide) rfl
    · walk_at "ev"
    · walk_at "ev"
  · walk_at "ev"
  · rw [List.length_map]; omega
  intro g4 s4 l4 F4
  rw [map_app_int] at F4
  have F4' : Fr (fnCx w fdNets 179 s0 g0 L) (ownN a0 a1 b0 b1 (stepOwn true k st) ++ oth) (("own", .int 1) :: ("k", .int (k : Int)) :: [("kinds", .lst ((kindsP numbers).map .int)), ("nets", .lst [.ref a0, .ref a1]), ("opened", .lst [.ref b0, .ref b1]), ("numbers", .lst (numbers.map .int))]) g4 s4 := F4
  have G1 : GoodN (k + 1) (stepOwn true k st) := G.own true k hk
  have hst : netStep numbers st k = (deedsP ((numbers.getD k 0).fdiv 2) k).foldl deedP (stepOwn true k st) := by unfold netStep; rw [hown]
  rw [hst] at h
  generalize hS : stepOwn true k st = S1 at *
  refine F4'.assign (r := .int ((numbers.getD k 0).fdiv 2)) ?_ (.inl ?_) ?_
  rotate_left
  · rfl
  rotate_left
  · refine Ev.floordiv (Ev.item (k := (k : Int)) (ps := numbers.map .int) ?_ ?_ (by omega) (by omega) (getD_get (by rw [hnum]; exact hk))) ?_ (by decide) (by decide)
    · walk_at "ev"
    · walk_at "ev"
    · walk_at "ev"
  intro g5 s5 l5 F5
  generalize (numbers.getD k 0).fdiv 2 = half at *
  have k3 : k / 3 ≤ 1 := by omega
  have hdl : (deedsP half k).length ≤ 100 := by
    unfold deedsP
    rw [List.length_append, List.length_flatten, List.map_replicate, List.sum_replicate_nat]
    simp
    omega
  refine Fr.for_ (n := n) F5 (deedsP half k) (fun d => .int d) (fun d => [("deed", .int d)]) (fun _ => [("nets", .lst [.ref a0, .ref a1]), ("opened", .lst [.ref b0, .ref b1]), ("kinds", .lst ((kindsP numbers).map .int)), ("numbers", .lst (numbers.map .int))]) (fun j => ownN a0 a1 b0 b1 (((deedsP half k).take j).foldl deedP S1) ++ oth) (fun _ => True) ?_ ?_ rfl ?_ trivial ?_ ?_ ?_
  · exact hA.mono (by omega)
  · refine SrcE.list ?_
    refine Ev.conv (Ev.addL (xs := [.int (half.fmod 3), .int ((half.fdiv 3).fmod 3), .int ((half.fdiv 9).fmod 3)]) (ys := (List.replicate (k / 3 : Nat) [PV.int 1, .int 1, .int 1, .int 1, .int 2, .int 2, .int 2, .int 2]).flatten) ?_ ?_ ?_) ?_
    · refine Ev.list (Evs.cons ?_ (Evs.cons ?_ (Evs.cons ?_ Evs.nil))) (by simp)
      · walk_at "ev"
        decide
      · refine Ev.mod (Ev.floordiv (x := half) (y := 3) ?_ ?_ (by decide) (by decide)) ?_ (by decide)
        · walk_at "ev"
        · walk_at "ev"
        · walk_at "ev"
      · refine Ev.mod (Ev.floordiv (x := half) (y := 9) ?_ ?_ (by decide) (by decide)) ?_ (by decide)
        · walk_at "ev"
        · walk_at "ev"
        · walk_at "ev"
    · refine Ev.conv (Ev.mulL (xs := [.int 1, .int 1, .int 1, .int 1, .int 2, .int 2, .int 2, .int 2]) (x := ((k / 3 : Nat) : Int)) ?_ (Ev.conv (Ev.floordiv (x := (k : Int)) (y := 3) ?_ ?_ (by decide) (by decide)) ?_) (by omega) (by omega) (by decide)) ?_
      · walk_at "ev"
      · walk_at "ev"
      · walk_at "ev"
      · rw [div3]
      · rfl
    · rw [List.length_flatten, List.map_replicate, List.sum_replicate_nat]
      simp
      omega
    · unfold deedsP
      rw [List.map_append, List.map_flatten, List.map_replicate]
      rfl
  · exact (Sub.cons rfl (.cons rfl (.cons rfl (.cons rfl .nil)))).all
  · intro i hi
    refine Binds.name (.inl ?_)
    rfl
  · intro j hj oth2 g6 s6 E6 hg6 _ F6
    have Gj : GoodN (k + 1) (((deedsP half k).take j).foldl deedP S1) := GoodN.deeds G1
    have hf := fold_take deedP S1 (deedsP half k) j hj
    have hd := deeds_bd half k _ (List.getElem_mem hj)
    generalize hdj : (deedsP half k)[j] = d at *
    generalize ((deedsP half k).take j).foldl deedP S1 = S2 at *
    rw [hf]
    have asso : ∀ x : NS, ownN a0 a1 b0 b1 x ++ oth ++ oth2 = ownN a0 a1 b0 b1 x ++ (oth ++ oth2) := fun x => List.append_assoc ..
    rw [asso] at F6
    rcases hd with rfl | rfl | rfl
    · refine F6.if_ (b := false) ?_ ?_ ?_
      · refine EvB.conv (EvB.and (b := false) (c := true) ?_ fun h => ?_) rfl
        · refine EvB.conv (EvB.cmpI CmpI.gt (x := 0) (y := 0) ?_ ?_) rfl
          · walk_at "ev"
          · walk_at "ev"
        · cases h
      · intro h; cases h
      · intro _ s7 F7
        refine Ex.nil_ (Ex.nil_ (.inl ⟨rfl, trivial, g6, View.Le.refl _, ?_⟩))
        have e : deedP S2 0 = S2 := rfl
        rw [e, asso]
        exact F7.weaken (Sub.cons rfl (.cons rfl (.cons rfl (.cons rfl .nil)))).all
    · refine deed_1 hA Gj (by omega) (oth := oth ++ oth2) F6 fun g7 s7 l7 F7 => .inl ⟨rfl, trivial, g7, l7, ?_⟩
      have e : deedP S2 1 = deed1 S2 := rfl
      rw [e, asso]
      exact F7
    · refine deed_2 hA Gj (by omega) (oth := oth ++ oth2) F6 fun g7 s7 l7 F7 => .inl ⟨rfl, trivial, g7, l7, ?_⟩
      have e : deedP S2 2 = deed2 S2 := rfl
      rw [e, asso]
      exact F7
  · intro g8 s8 l8 _ F8
    rw [List.take_length] at F8
    refine Ex.nil_ (h g8 s8 (l1.trans (l2.trans (l3.trans (l4.trans (l5.trans l8))))) ?_)
    exact F8.weaken (Sub.cons rfl (.cons rfl (.cons rfl (.cons rfl .nil)))).all
theorem body_nets {p : Program} {w : World} {n : Nat} (numbers : List Int) (hnum : numbers.length = 4) : BodyOk p w (n + 2) fdNets 179 ["numbers"] [.lst (numbers.map .int)] (.tup [.lst ((kindsP numbers).map .int), .lst [.lst ((netsP numbers).n0.map .int), .lst ((netsP numbers).n1.map .int)]]) := by
  intro A s0 g0 L s g hA F Q E hQ
  refine F.assign (r := .lst ((kindsP numbers).map .int)) ?_ (.inl ?_) ?_
  rotate_left
  · rfl
  rotate_left
  · refine Ev.list (Evs.cons ?_ (Evs.cons ?_ (Evs.cons ?_ (Evs.cons ?_ Evs.nil)))) (Nat.le_of_ble_eq_true rfl)
    · exact Ev.int
    · exact Ev.int
    · refine Ev.mod (Ev.item (k := 2) (ps := numbers.map .int) ?_ ?_ (by decide) (by decide) (getD_get (by rw [hnum]; decide))) ?_ (by decide)
      · walk_at "ev"
      · walk_at "ev"
      · walk_at "ev"
    · refine Ev.mod (Ev.item (k := 3) (ps := numbers.map .int) ?_ ?_ (by decide) (by decide) (getD_get (by rw [hnum]; decide))) ?_ (by decide)
      · walk_at "ev"
      · walk_at "ev"
      · walk_at "ev"
  intro g1 s1 l1 F1
  refine Fr.newL2 F1 (ps := [.int 0, .int 0, .int 0, .int 0]) (qs := [.int 0, .int 0, .int 0, .int 0]) ?_ ?_ (.inl ?_) ?_
  · intro g
    refine EvO.mulL (xs := [.int 0]) (x := 4) ?_ ?_ (by decide) (by decide) (by decide)
    · walk_at "ev"
    · walk_at "ev"
  · intro g
    refine EvO.mulL (xs := [.int 0]) (x := 4) ?_ ?_ (by decide) (by decide) (by decide)
    · walk_at "ev"
    · walk_at "ev"
  · rfl
  intro a0 a1 g2 s2 l2 F2
  refine Fr.newL2 F2 (ps := []) (qs := []) ?_ ?_ (.inl ?_) ?_
  · intro g
    exact EvO.list Evs.nil (by decide)
  · intro g
    exact EvO.list Evs.nil (by decide)
  · rfl
  intro b0 b1 g3 s3 l3 F3
  refine Fr.for_ (n := n) F3 (List.range 4) (fun i => .int (i : Int)) (fun i => [("k", .int (i : Int))]) (fun _ => [("kinds", .lst ((kindsP numbers).map .int)), ("nets", .lst [.ref a0, .ref a1]), ("opened", .lst [.ref b0, .ref b1]), ("numbers", .lst (numbers.map .int))]) (fun i => ownN a0 a1 b0 b1 (netsAt numbers i)) (fun _ => True) ?_ ?_ rfl ?_ trivial ?_ ?_ ?_
  · exact hA.mono (by omega)
  · refine SrcE.range (m := 4) ?_ (b_range _) ?_ (by decide)
    · rfl
    · walk_at "ev"
  · exact (Sub.cons rfl (.cons rfl (.cons rfl (.cons rfl .nil)))).all
  · intro i hi
    refine Binds.name (.inl ?_)
    rfl
  · intro k hk oth g4 s4 E4 hg4 _ F4
    have hk4 : k < 4 := by simpa using hk
    have e1 : (List.range 4)[k]'hk = k := List.getElem_range hk
    rw [e1] at F4
    have G := nets_good numbers k (by omega)
    rw [nets_succ]
    generalize netsAt numbers k = st at *
    cases hown : kindB numbers k with
    | false => exact turn_0 hnum hk4 hA G hown F4 fun g5 s5 l5 F5 => .inl ⟨rfl, trivial, g5, l5, F5⟩
    | true => exact turn_1 hnum hk4 hA G hown F4 fun g5 s5 l5 F5 => .inl ⟨rfl, trivial, g5, l5, F5⟩
  · intro g6 s6 l6 _ F6
    rw [List.length_range] at F6
    have e : netsAt numbers 4 = netsP numbers := rfl
    rw [e] at F6
    generalize netsP numbers = st at *
    obtain ⟨g7, l7, F7, r7⟩ := Fr.freeze (a := a0) (ps := st.n0.map .int) [] [Own.lst a1 (st.n1.map PV.int), Own.lst b0 (st.o0.map PV.int), Own.lst b1 (st.o1.map PV.int)] F6
    obtain ⟨g8, l8, F8, r8⟩ := Fr.freeze (a := a1) (ps := st.n1.map .int) [] [Own.lst b0 (st.o0.map PV.int), Own.lst b1 (st.o1.map PV.int)] F7
    have r7' := Rep.mono l8 _ _ r7
    have F9 : Fr (fnCx w fdNets 179 s0 g0 L) [Own.lst b0 (st.o0.map PV.int), Own.lst b1 (st.o1.map PV.int)] [("kinds", .lst ((kindsP numbers).map .int)), ("nets", .lst [.lst (st.n0.map .int), .lst (st.n1.map .int)])] g8 s6 := F8.up fun x q e => by
      rw [List.lookup_cons] at e
      cases z : x == "kinds" with
      | true =>
        rw [z] at e
        cases e
        rw [eq_of_beq z]
        exact ⟨_, rfl, fun v hv => hv⟩
      | false =>
        rw [z] at e
        rw [List.lookup_cons] at e
        cases z2 : x == "nets" with
        | true =>
          rw [z2] at e
          cases e
          rw [eq_of_beq z2]
          refine ⟨.lst [.ref a0, .ref a1], rfl, fun v hv => ?_⟩
          obtain ⟨b, vs, m, rfl, q1, q2⟩ := rep_lst_inv hv
          obtain ⟨u, u', rfl, q3, q4⟩ := two_inv q2
          cases rep_ref_inv q3
          cases rep_ref_inv q4
          exact rep_lst q1 (Reps.cons r7' (Reps.cons r8 Reps.nil))
        | false => rw [z2] at e; cases e
    refine F9.ret (r := .tup [.lst ((kindsP numbers).map .int), .lst [.lst (st.n0.map .int), .lst (st.n1.map .int)]]) ?_ hQ
    refine Ev.tuple (Evs.cons ?_ (Evs.cons ?_ Evs.nil)) (by simp)
    · walk_at "ev"
    · walk_at "ev"
theorem fn_nets {p : Program} {w : World} {n : Nat} (numbers : List Int) (hnum : numbers.length = 4) : FnOk p w (n + 3) (.ref 179) [.lst (numbers.map .int)] (.tup [.lst ((kindsP numbers).map .int), .lst [.lst ((netsP numbers).n0.map .int), .lst ((netsP numbers).n1.map .int)]]) := FnOk.of_body (atNets _) rfl (body_nets numbers hnum)
end Mine
end
section
set_option Elab.async false
set_option linter.unusedVariables false
set_option maxRecDepth 100000
set_option maxHeartbeats 2000000
namespace Mine
open PySem PySem.W PySem.Calls PyProof.Rows

theorem runFor_done : ∀ (n : Nat) (m : Sre.M), m.outcome.isSome = true → Sre.M.runFor n m = m
  | 0, m, h => rfl
  | n + 1, m, h => by unfold Sre.M.runFor; rw [if_pos h]
theorem runFor_succ (n : Nat) (m : Sre.M) (h : m.outcome = none) : Sre.M.runFor (n + 1) m = Sre.M.runFor n m.step := by
  conv => lhs; unfold Sre.M.runFor
  rw [if_neg (by rw [h]; exact Bool.false_ne_true)]
theorem runFor_add : ∀ (a b : Nat) (m : Sre.M), Sre.M.runFor (a + b) m = Sre.M.runFor b (Sre.M.runFor a m)
  | 0, b, m => by rw [Nat.zero_add]; rfl
  | a + 1, b, m => by
    cases h : m.outcome with
    | some o =>
      rw [runFor_done (a + 1) m (by rw [h]; rfl), runFor_done _ m (by rw [h]; rfl), runFor_done b m (by rw [h]; rfl)]
    | none =>
      rw [show a + 1 + b = (a + b) + 1 by omega, runFor_succ _ _ h, runFor_succ _ _ h]
      exact runFor_add a b _

/-- the machine comes to an end within n steps, as Q says -/
noncomputable def Ends (n : Nat) (m : Sre.M) (Q : Sre.M → Prop) : Prop := ∃ k, k ≤ n ∧ (Sre.M.runFor k m).outcome.isSome = true ∧ Q (Sre.M.runFor k m)
theorem Ends.here {n : Nat} {m : Sre.M} {Q : Sre.M → Prop} (h : m.outcome.isSome = true) (q : Q m) : Ends n m Q := ⟨0, Nat.zero_le _, h, q⟩
theorem Ends.step {n : Nat} {m m' : Sre.M} {Q : Sre.M → Prop} (h0 : m.outcome = none) (e : m.step = m') (h : Ends n m' Q) : Ends (n + 1) m Q := by
  obtain ⟨k, hk, h1, h2⟩ := h
  subst e
  exact ⟨k + 1, by omega, by rw [runFor_succ _ _ h0]; exact h1, by rw [runFor_succ _ _ h0]; exact h2⟩
theorem Ends.mono {n n' : Nat} {m : Sre.M} {Q : Sre.M → Prop} (h : Ends n m Q) (hn : n ≤ n') : Ends n' m Q := let ⟨k, a, b⟩ := h; ⟨k, Nat.le_trans a hn, b⟩

noncomputable def code1 : Array Nat := #[14, 4, 0, 1, 1, 6, 1, 16, 46, 1]
noncomputable def code2 : Array Nat := #[14, 9, 4, 1, 2, 16, 10, 16, 13, 0, 7, 7, 16, 13, 16, 10, 15, 18, 5, 16, 10, 15, 13, 11, 16, 13, 5, 5, 0, 16, 10, 1, 15, 2, 0, 1]
noncomputable def mk (code T : Array Nat) (must om : Bool) (pc pos s handed : Nat) (fr : List Sre.Frame) (wt : Nat) (ans : Option Bool) (seen : Sre.Seen) (out : Option Sre.Outcome) : Sre.M :=
  { code := code, text := T, lim := T.size, start := s, lastStart := T.size, mustAdvance := must, pc := pc, pos := pos, handed := handed, outermost := om, marks := #[], frames := fr, weight := wt, answer := ans, seen := seen, outcome := out }
noncomputable def fr0 (pc s : Nat) (first : Bool) : Sre.Frame := { wait := .nextStart, pc := pc, pos := s, outermost := first }

/-- where the first pattern is met -/
noncomputable def at1 (T : Array Nat) (s : Nat) : Bool := (s == 0 || T.getD (s - 1) 0 == 10) && (decide (s < T.size) && T.getD s 0 == 46)

theorem st1a (T : Array Nat) (first : Bool) (s : Nat) (seen : Sre.Seen) : (mk code1 T false first 5 s s s [fr0 5 s first] 1 none seen none).step =
    if (s == 0 || T.getD (s - 1) 0 == 10) = true then mk code1 T false first 7 s s s [fr0 5 s first] 1 none ((seen.add 6).add 44) none else mk code1 T false first 5 s s s [fr0 5 s first] 1 (some false) ((seen.add 6).add 44) none := by
  rfl
noncomputable def litF (m0 : Sre.M) (r : Except String (Bool × Sre.Seen)) : Sre.M :=
  match r with
  | .error why => m0.stick why
  | .ok (false, seen) => { m0 with seen := seen }.say false
  | .ok (true, seen) => { m0 with seen := seen, pc := m0.pc + Sre.itemWidth m0.code m0.pc, pos := m0.pos + 1 }
theorem st1b (T : Array Nat) (first : Bool) (s : Nat) (seen : Sre.Seen) : (mk code1 T false first 7 s s s [fr0 5 s first] 1 none seen none).step =
    if s ≥ T.size then mk code1 T false first 7 s s s [fr0 5 s first] 1 (some false) (seen.add 16) none else cond (T.getD s 0 == 46) (mk code1 T false first 9 (s + 1) s s [fr0 5 s first] 1 none (seen.add 16) none)
      (mk code1 T false first 7 s s s [fr0 5 s first] 1 (some false) (seen.add 16) none) := by
  have e : (mk code1 T false first 7 s s s [fr0 5 s first] 1 none seen none).step = if s ≥ T.size then mk code1 T false first 7 s s s [fr0 5 s first] 1 (some false) (seen.add 16) none else
      litF (mk code1 T false first 7 s s s [fr0 5 s first] 1 none (seen.add 16) none) (Sre.accepts code1 7 (T.getD s 0) (seen.add 16)) := rfl
  rw [e]
  have e2 : Sre.accepts code1 7 (T.getD s 0) (seen.add 16) = .ok (T.getD s 0 == 46, seen.add 16) := rfl
  rw [e2]
  cases T.getD s 0 == 46
  · rfl
  · rfl
theorem st1c (T : Array Nat) (first : Bool) (s : Nat) (seen : Sre.Seen) : (mk code1 T false first 9 (s + 1) s s [fr0 5 s first] 1 none seen none).step =
    mk code1 T false first 9 (s + 1) s (s + 1) [fr0 5 s first] 1 (some true) (seen.add 1) none := by
  cases first
  · rfl
  · rfl
theorem st1d (T : Array Nat) (first : Bool) (s p h pc : Nat) (seen : Sre.Seen) : (mk code1 T false first pc p s h [fr0 5 s first] 1 (some true) seen none).step =
    mk code1 T false first 5 s s h [] 0 (some true) seen none := by
  rfl
theorem st1e (T : Array Nat) (first : Bool) (s p h pc : Nat) (seen : Sre.Seen) : (mk code1 T false first pc p s h [] 0 (some true) seen none).step =
    mk code1 T false first pc p s h [] 0 (some true) seen (some .matched) := by
  rfl
theorem st1f (T : Array Nat) (first : Bool) (s p h pc : Nat) (seen : Sre.Seen) : (mk code1 T false first pc p s h [fr0 5 s first] 1 (some false) seen none).step =
    if s < T.size then mk code1 T false false 5 (s + 1) (s + 1) (s + 1) [fr0 5 (s + 1) false] 1 none seen none else mk code1 T false first 5 s s h [] 0 (some false) seen none := by
  rfl
theorem st1g (T : Array Nat) (first : Bool) (s p h pc : Nat) (seen : Sre.Seen) : (mk code1 T false first pc p s h [] 0 (some false) seen none).step =
    mk code1 T false first pc p s h [] 0 (some false) seen (some .failed) := by
  rfl
theorem at1_hi {T : Array Nat} {s : Nat} (h : T.size ≤ s) : at1 T s = false := by
  unfold at1
  rw [decide_eq_false (by omega)]
  simp
theorem go1 (T : Array Nat) : ∀ (d s : Nat) (first : Bool) (seen : Sre.Seen), T.size - s = d → s ≤ T.size →
    Ends (6 * d + 7) (mk code1 T false first 5 s s s [fr0 5 s first] 1 none seen none) fun m =>
      (∃ s', s ≤ s' ∧ at1 T s' = true ∧ (∀ j, s ≤ j → j < s' → at1 T j = false) ∧ m.outcome = some .matched ∧ m.start = s' ∧ m.handed = s' + 1) ∨
      ((∀ j, s ≤ j → at1 T j = false) ∧ m.outcome = some .failed) := by
  intro d
  induction d with
  | zero =>
    intro s first seen hd hs
    have hsz : s = T.size := by omega
    have hall : ∀ j, s ≤ j → at1 T j = false := fun j hj => at1_hi (by omega)
    have fin : ∀ pc p h seen, Ends 3 (mk code1 T false first pc p s h [fr0 5 s first] 1 (some false) seen none) fun m =>
      (∃ s', s ≤ s' ∧ at1 T s' = true ∧ (∀ j, s ≤ j → j < s' → at1 T j = false) ∧ m.outcome = some .matched ∧ m.start = s' ∧ m.handed = s' + 1) ∨
      ((∀ j, s ≤ j → at1 T j = false) ∧ m.outcome = some .failed) := fun pc p h seen => by
      refine Ends.step rfl (st1f T first s p h pc seen) ?_
      rw [if_neg (by omega)]
      exact Ends.step rfl (st1g T first s s h 5 seen) (Ends.here rfl (.inr ⟨hall, rfl⟩))
    refine Ends.step rfl (st1a T first s seen) ?_
    split
    · refine Ends.step rfl (st1b T first s _) ?_
      rw [if_pos (by omega)]
      exact (fin _ _ _ _).mono (by omega)
    · exact (fin _ _ _ _).mono (by omega)
  | succ d ih =>
    intro s first seen hd hs
    have hlt : s < T.size := by omega
    have fin : at1 T s = false → ∀ pc p h seen, Ends (6 * d + 7 + 1) (mk code1 T false first pc p s h [fr0 5 s first] 1 (some false) seen none) fun m =>
      (∃ s', s ≤ s' ∧ at1 T s' = true ∧ (∀ j, s ≤ j → j < s' → at1 T j = false) ∧ m.outcome = some .matched ∧ m.start = s' ∧ m.handed = s' + 1) ∨
      ((∀ j, s ≤ j → at1 T j = false) ∧ m.outcome = some .failed) := fun h0 pc p h seen => by
      refine Ends.step rfl (st1f T first s p h pc seen) ?_
      rw [if_pos hlt]
      obtain ⟨k, hk, ho, hq⟩ := ih (s + 1) false seen (by omega) (by omega)
      refine ⟨k, hk, ho, ?_⟩
      rcases hq with ⟨s', h1, h2, h3, h4⟩ | ⟨h1, h2⟩
      · refine .inl ⟨s', by omega, h2, fun j hj hj' => ?_, h4⟩
        by_cases e : j = s
        · rw [e]; exact h0
        · exact h3 j (by omega) hj'
      · refine .inr ⟨fun j hj => ?_, h2⟩
        by_cases e : j = s
        · rw [e]; exact h0
        · exact h1 j (by omega)
    refine Ends.mono (n := (6 * d + 7 + 1 + 1) + 1) ?_ (by omega)
    refine Ends.step rfl (st1a T first s seen) ?_
    split
    · rename_i hb
      refine Ends.step rfl (st1b T first s _) ?_
      rw [if_neg (by omega)]
      cases hc : T.getD s 0 == 46 with
      | true =>
        refine Ends.mono (n := 4) ?_ (by omega)
        refine Ends.step rfl (st1c T first s _) ?_
        refine Ends.step rfl (st1d T first s _ _ _ _) ?_
        refine Ends.step rfl (st1e T first s _ _ _ _) (Ends.here rfl ?_)
        refine .inl ⟨s, Nat.le_refl _, ?_, fun j h1 h2 => by omega, rfl, rfl, rfl⟩
        unfold at1
        rw [hb, hc, decide_eq_true hlt]
        rfl
      | false =>
        refine (fin ?_ _ _ _ _).mono (by omega)
        unfold at1
        rw [hc]
        simp
    · rename_i hb
      refine (fin ?_ _ _ _ _).mono (by omega)
      unfold at1
      rw [Bool.not_eq_true] at hb
      rw [hb]
      rfl

/-- a search from s on with the first pattern -/
theorem search1 (T : Array Nat) (s : Nat) (hs : s ≤ T.size) : Ends (6 * (T.size - s) + 8) (Sre.forSearch code1 T 0 s T.size false) fun m =>
      (∃ s', s ≤ s' ∧ at1 T s' = true ∧ (∀ j, s ≤ j → j < s' → at1 T j = false) ∧ m.outcome = some .matched ∧ m.start = s' ∧ m.handed = s' + 1) ∨
      ((∀ j, s ≤ j → at1 T j = false) ∧ m.outcome = some .failed) := by
  have e1 : Sre.forSearch code1 T 0 s T.size false = if (decide (s > T.size) || decide (T.size - s < 1)) = true then { mk code1 T false true 5 s s s [] 0 (some false) (({} : Sre.Seen).add 14) none with lastStart := 0 } else mk code1 T false true 5 s s s [fr0 5 s true] 1 none (({} : Sre.Seen).add 14) none := rfl
  rw [e1]
  by_cases h : s = T.size
  · rw [if_pos (by simp; omega)]
    exact Ends.step (m' := { mk code1 T false true 5 s s s [] 0 (some false) (({} : Sre.Seen).add 14) (some .failed) with lastStart := 0 }) rfl rfl (Ends.here rfl (.inr ⟨fun j hj => at1_hi (by omega), rfl⟩))
  · rw [if_neg (by simp; omega)]
    exact (go1 T _ s true _ rfl hs).mono (by omega)
end Mine
end
section
set_option Elab.async false
set_option linter.unusedVariables false
set_option maxRecDepth 100000
set_option maxHeartbeats 2000000
namespace Mine
open PySem PySem.W PySem.Calls PyProof.Rows
noncomputable def fB (pc s : Nat) (first : Bool) : Sre.Frame := { wait := .nextBranch, pc := pc, pos := s, outermost := first }
noncomputable def fL (s : Nat) (first : Bool) : Sre.Frame := { wait := .lookNot, pc := 26, pos := s, outermost := first }
theorem l2_12 (T : Array Nat) (om : Bool) (p s h : Nat) (fr : List Sre.Frame) (wt : Nat) (seen : Sre.Seen) : (mk code2 T false om 12 p s h fr wt none seen none).step =
    if p ≥ T.size then mk code2 T false om 12 p s h fr wt (some false) (seen.add 16) none else cond (T.getD p 0 == 13) (mk code2 T false om 14 (p + 1) s h fr wt none (seen.add 16) none)
      (mk code2 T false om 12 p s h fr wt (some false) (seen.add 16) none) := by
  have e : (mk code2 T false om 12 p s h fr wt none seen none).step = if p ≥ T.size then mk code2 T false om 12 p s h fr wt (some false) (seen.add 16) none else
      litF (mk code2 T false om 12 p s h fr wt none (seen.add 16) none) (Sre.accepts code2 12 (T.getD p 0) (seen.add 16)) := rfl
  rw [e]
  have e2 : Sre.accepts code2 12 (T.getD p 0) (seen.add 16) = .ok (T.getD p 0 == 13, seen.add 16) := rfl
  rw [e2]
  cases T.getD p 0 == 13
  · rfl
  · rfl
theorem l2_14 (T : Array Nat) (om : Bool) (p s h : Nat) (fr : List Sre.Frame) (wt : Nat) (seen : Sre.Seen) : (mk code2 T false om 14 p s h fr wt none seen none).step =
    if p ≥ T.size then mk code2 T false om 14 p s h fr wt (some false) (seen.add 16) none else cond (T.getD p 0 == 10) (mk code2 T false om 16 (p + 1) s h fr wt none (seen.add 16) none)
      (mk code2 T false om 14 p s h fr wt (some false) (seen.add 16) none) := by
  have e : (mk code2 T false om 14 p s h fr wt none seen none).step = if p ≥ T.size then mk code2 T false om 14 p s h fr wt (some false) (seen.add 16) none else
      litF (mk code2 T false om 14 p s h fr wt none (seen.add 16) none) (Sre.accepts code2 14 (T.getD p 0) (seen.add 16)) := rfl
  rw [e]
  have e2 : Sre.accepts code2 14 (T.getD p 0) (seen.add 16) = .ok (T.getD p 0 == 10, seen.add 16) := rfl
  rw [e2]
  cases T.getD p 0 == 10
  · rfl
  · rfl
theorem l2_19 (T : Array Nat) (om : Bool) (p s h : Nat) (fr : List Sre.Frame) (wt : Nat) (seen : Sre.Seen) : (mk code2 T false om 19 p s h fr wt none seen none).step =
    if p ≥ T.size then mk code2 T false om 19 p s h fr wt (some false) (seen.add 16) none else cond (T.getD p 0 == 10) (mk code2 T false om 21 (p + 1) s h fr wt none (seen.add 16) none)
      (mk code2 T false om 19 p s h fr wt (some false) (seen.add 16) none) := by
  have e : (mk code2 T false om 19 p s h fr wt none seen none).step = if p ≥ T.size then mk code2 T false om 19 p s h fr wt (some false) (seen.add 16) none else
      litF (mk code2 T false om 19 p s h fr wt none (seen.add 16) none) (Sre.accepts code2 19 (T.getD p 0) (seen.add 16)) := rfl
  rw [e]
  have e2 : Sre.accepts code2 19 (T.getD p 0) (seen.add 16) = .ok (T.getD p 0 == 10, seen.add 16) := rfl
  rw [e2]
  cases T.getD p 0 == 10
  · rfl
  · rfl
theorem l2_24 (T : Array Nat) (om : Bool) (p s h : Nat) (fr : List Sre.Frame) (wt : Nat) (seen : Sre.Seen) : (mk code2 T false om 24 p s h fr wt none seen none).step =
    if p ≥ T.size then mk code2 T false om 24 p s h fr wt (some false) (seen.add 16) none else cond (T.getD p 0 == 13) (mk code2 T false om 26 (p + 1) s h fr wt none (seen.add 16) none)
      (mk code2 T false om 24 p s h fr wt (some false) (seen.add 16) none) := by
  have e : (mk code2 T false om 24 p s h fr wt none seen none).step = if p ≥ T.size then mk code2 T false om 24 p s h fr wt (some false) (seen.add 16) none else
      litF (mk code2 T false om 24 p s h fr wt none (seen.add 16) none) (Sre.accepts code2 24 (T.getD p 0) (seen.add 16)) := rfl
  rw [e]
  have e2 : Sre.accepts code2 24 (T.getD p 0) (seen.add 16) = .ok (T.getD p 0 == 13, seen.add 16) := rfl
  rw [e2]
  cases T.getD p 0 == 13
  · rfl
  · rfl
theorem l2_29 (T : Array Nat) (om : Bool) (p s h : Nat) (fr : List Sre.Frame) (wt : Nat) (seen : Sre.Seen) : (mk code2 T false om 29 p s h fr wt none seen none).step =
    if p ≥ T.size then mk code2 T false om 29 p s h fr wt (some false) (seen.add 16) none else cond (T.getD p 0 == 10) (mk code2 T false om 31 (p + 1) s h fr wt none (seen.add 16) none)
      (mk code2 T false om 29 p s h fr wt (some false) (seen.add 16) none) := by
  have e : (mk code2 T false om 29 p s h fr wt none seen none).step = if p ≥ T.size then mk code2 T false om 29 p s h fr wt (some false) (seen.add 16) none else
      litF (mk code2 T false om 29 p s h fr wt none (seen.add 16) none) (Sre.accepts code2 29 (T.getD p 0) (seen.add 16)) := rfl
  rw [e]
  have e2 : Sre.accepts code2 29 (T.getD p 0) (seen.add 16) = .ok (T.getD p 0 == 10, seen.add 16) := rfl
  rw [e2]
  cases T.getD p 0 == 10
  · rfl
  · rfl
theorem j2_16 (T : Array Nat) (om : Bool) (p s h : Nat) (fr : List Sre.Frame) (wt : Nat) (seen : Sre.Seen) : (mk code2 T false om 16 p s h fr wt none seen none).step = mk code2 T false om 35 p s h fr wt none (seen.add 15) none := by rfl
theorem j2_21 (T : Array Nat) (om : Bool) (p s h : Nat) (fr : List Sre.Frame) (wt : Nat) (seen : Sre.Seen) : (mk code2 T false om 21 p s h fr wt none seen none).step = mk code2 T false om 35 p s h fr wt none (seen.add 15) none := by rfl
theorem j2_32 (T : Array Nat) (om : Bool) (p s h : Nat) (fr : List Sre.Frame) (wt : Nat) (seen : Sre.Seen) : (mk code2 T false om 32 p s h fr wt none seen none).step = mk code2 T false om 35 p s h fr wt none (seen.add 15) none := by rfl
theorem s2_31 (T : Array Nat) (om : Bool) (p s h : Nat) (fr : List Sre.Frame) (wt : Nat) (seen : Sre.Seen) : (mk code2 T false om 31 p s h fr wt none seen none).step = mk code2 T false om 31 p s p fr wt (some true) (seen.add 1) none := by
  cases om
  · rfl
  · rfl
theorem s2_35 (T : Array Nat) (om : Bool) (p s h : Nat) (fr : List Sre.Frame) (wt : Nat) (seen : Sre.Seen) : (mk code2 T false om 35 p s h fr wt none seen none).step = mk code2 T false om 35 p s p fr wt (some true) (seen.add 1) none := by
  cases om
  · rfl
  · rfl
theorem b2 (T : Array Nat) (first : Bool) (s : Nat) (seen : Sre.Seen) : (mk code2 T false first 10 s s s [fr0 10 s first] 1 none seen none).step = mk code2 T false first 12 s s s [fB 11 s first, fr0 10 s first] 2 none (seen.add 7) none := by rfl
theorem b2n (T : Array Nat) (first om : Bool) (pc p s h : Nat) (seen : Sre.Seen) : (mk code2 T false om pc p s h [fB 11 s first, fr0 10 s first] 2 (some false) seen none).step = mk code2 T false first 19 s s s [fB 18 s first, fr0 10 s first] 2 none seen none := by rfl
theorem b2m (T : Array Nat) (first om : Bool) (pc p s h : Nat) (seen : Sre.Seen) : (mk code2 T false om pc p s h [fB 18 s first, fr0 10 s first] 2 (some false) seen none).step = mk code2 T false first 24 s s s [fB 23 s first, fr0 10 s first] 2 none seen none := by rfl
theorem b2y (T : Array Nat) (first om : Bool) (b pc p s h : Nat) (seen : Sre.Seen) : (mk code2 T false om pc p s h [fB b s first, fr0 10 s first] 2 (some true) seen none).step = mk code2 T false first b s s h [fr0 10 s first] 1 (some true) seen none := by rfl
theorem f2y (T : Array Nat) (first om : Bool) (pc p s h : Nat) (seen : Sre.Seen) : (mk code2 T false om pc p s h [fr0 10 s first] 1 (some true) seen none).step = mk code2 T false first 10 s s h [] 0 (some true) seen none := by rfl
theorem e2y (T : Array Nat) (om : Bool) (pc p s h : Nat) (seen : Sre.Seen) : (mk code2 T false om pc p s h [] 0 (some true) seen none).step = mk code2 T false om pc p s h [] 0 (some true) seen (some .matched) := by rfl
theorem a2 (T : Array Nat) (first : Bool) (s : Nat) (seen : Sre.Seen) : (mk code2 T false first 26 (s + 1) s s [fB 23 s first, fr0 10 s first] 2 none seen none).step = mk code2 T false false 29 (s + 1) s (s + 1) [fL (s + 1) first, fB 23 s first, fr0 10 s first] 3 none (seen.add 5) none := by rfl
theorem a2n (T : Array Nat) (first om : Bool) (pc p s h : Nat) (seen : Sre.Seen) : (mk code2 T false om pc p s h [fL (s + 1) first, fB 23 s first, fr0 10 s first] 3 (some false) seen none).step = mk code2 T false first 32 (s + 1) s h [fB 23 s first, fr0 10 s first] 2 none seen none := by rfl
noncomputable def at2 (T : Array Nat) (s : Nat) : Bool := decide (s < T.size) && (T.getD s 0 == 10 || T.getD s 0 == 13)
noncomputable def len2 (T : Array Nat) (s : Nat) : Nat := if (T.getD s 0 == 13 && (decide (s + 1 < T.size) && T.getD (s + 1) 0 == 10)) = true then 2 else 1
theorem go2 (T : Array Nat) (s : Nat) (first : Bool) (seen : Sre.Seen) (h : at2 T s = true) : Ends 40 (mk code2 T false first 10 s s s [fr0 10 s first] 1 none seen none) fun m => m.outcome = some .matched ∧ m.start = s ∧ m.handed = s + len2 T s := by
  have hlt : s < T.size := by
    unfold at2 at h
    exact of_decide_eq_true (Bool.and_eq_true_iff.mp h).1
  have hc : T.getD s 0 = 10 ∨ T.getD s 0 = 13 := by
    unfold at2 at h
    have := (Bool.and_eq_true_iff.mp h).2
    simpa using this
  have fin : ∀ (n b pc p e : Nat) (om : Bool) (seen : Sre.Seen), e = s + len2 T s → Ends (n + 3) (mk code2 T false om pc p s e [fB b s first, fr0 10 s first] 2 (some true) seen none) fun m => m.outcome = some .matched ∧ m.start = s ∧ m.handed = s + len2 T s := fun n b pc p e om seen he => by
    refine Ends.step rfl (b2y T first om b pc p s e seen) ?_
    refine Ends.step rfl (f2y T first _ _ _ s e seen) ?_
    refine Ends.step rfl (e2y T _ _ _ s e seen) (Ends.here rfl ⟨rfl, rfl, he⟩)
  -- the third road
  have third : T.getD s 0 = 13 → len2 T s = 1 → ∀ (om : Bool) (pc p h : Nat) (seen : Sre.Seen), Ends 20 (mk code2 T false om pc p s h [fB 11 s first, fr0 10 s first] 2 (some false) seen none) fun m => m.outcome = some .matched ∧ m.start = s ∧ m.handed = s + len2 T s := fun h13 hl om pc p h seen => by
    refine Ends.step rfl (b2n T first om pc p s h seen) ?_
    refine Ends.step rfl (l2_19 T first s s s _ _ _) ?_
    rw [if_neg (by omega), h13]
    show Ends 18 (mk code2 T false first 19 s s s [fB 18 s first, fr0 10 s first] 2 (some false) _ none) _
    refine Ends.step rfl (b2m T first first _ _ s _ _) ?_
    refine Ends.step rfl (l2_24 T first s s s _ _ _) ?_
    rw [if_neg (by omega), h13]
    show Ends 16 (mk code2 T false first 26 (s + 1) s s [fB 23 s first, fr0 10 s first] 2 none _ none) _
    refine Ends.step rfl (a2 T first s _) ?_
    have rest : ∀ pc p h seen, Ends 14 (mk code2 T false false pc p s h [fL (s + 1) first, fB 23 s first, fr0 10 s first] 3 (some false) seen none) fun m => m.outcome = some .matched ∧ m.start = s ∧ m.handed = s + len2 T s := fun pc p h seen => by
      refine Ends.step rfl (a2n T first false pc p s h seen) ?_
      refine Ends.step rfl (j2_32 T first _ s _ _ _ _) ?_
      refine Ends.step rfl (s2_35 T first _ s _ _ _ _) ?_
      exact fin 8 _ _ _ _ _ _ (by rw [hl])
    refine Ends.step rfl (l2_29 T false (s + 1) s (s + 1) _ _ _) ?_
    split
    · exact rest _ _ _ _
    · rename_i hlt1
      cases h10 : T.getD (s + 1) 0 == 10 with
      | true =>
        exfalso
        unfold len2 at hl
        rw [if_pos (by rw [h13, h10, decide_eq_true (by omega)]; rfl)] at hl
        cases hl
      | false => exact rest _ _ _ _
  refine Ends.step rfl (b2 T first s seen) ?_
  refine Ends.step rfl (l2_12 T first s s s _ _ _) ?_
  rw [if_neg (by omega)]
  rcases hc with hc | hc
  · rw [hc]
    show Ends 38 (mk code2 T false first 12 s s s [fB 11 s first, fr0 10 s first] 2 (some false) _ none) _
    refine Ends.step rfl (b2n T first first _ _ s _ _) ?_
    refine Ends.step rfl (l2_19 T first s s s _ _ _) ?_
    rw [if_neg (by omega), hc]
    show Ends 36 (mk code2 T false first 21 (s + 1) s s [fB 18 s first, fr0 10 s first] 2 none _ none) _
    refine Ends.step rfl (j2_21 T first _ s _ _ _ _) ?_
    refine Ends.step rfl (s2_35 T first _ s _ _ _ _) ?_
    refine fin 31 _ _ _ _ _ _ ?_
    unfold len2
    rw [hc, if_neg (by simp)]
  · rw [hc]
    show Ends 38 (mk code2 T false first 14 (s + 1) s s [fB 11 s first, fr0 10 s first] 2 none _ none) _
    refine Ends.step rfl (l2_14 T first (s + 1) s s _ _ _) ?_
    split
    · rename_i hge
      refine (third hc ?_ _ _ _ _ _).mono (by omega)
      unfold len2
      rw [if_neg (by rw [decide_eq_false (by omega)]; simp)]
    · rename_i hge
      cases h10 : T.getD (s + 1) 0 == 10 with
      | true =>
        show Ends 37 (mk code2 T false first 16 (s + 1 + 1) s s [fB 11 s first, fr0 10 s first] 2 none _ none) _
        refine Ends.step rfl (j2_16 T first _ s _ _ _ _) ?_
        refine Ends.step rfl (s2_35 T first _ s _ _ _ _) ?_
        refine fin 32 _ _ _ _ _ _ ?_
        unfold len2
        rw [if_pos (by rw [hc, h10, decide_eq_true (by omega)]; rfl)]
      | false =>
        refine (third hc ?_ _ _ _ _ _).mono (by omega)
        unfold len2
        rw [if_neg (by rw [h10]; simp)]
theorem set2 (c : Nat) (seen : Sre.Seen) : Sre.inSet code2 c 36 5 true seen = if (c == 10) = true then .ok (true, seen.add 16) else if (c == 13) = true then .ok (true, (seen.add 16).add 16) else .ok (false, ((seen.add 16).add 16).add 0) := by rfl
theorem admit2 (m : Sre.M) (hc : m.code = code2) (hl : m.lim = m.text.size) : ∀ (fuel s : Nat) (seen : Sre.Seen), m.text.size < s + fuel →
    (∃ s' seen', s ≤ s' ∧ at2 m.text s' = true ∧ (∀ j, s ≤ j → j < s' → at2 m.text j = false) ∧ Sre.M.admitted m fuel s seen = .ok (some s', seen')) ∨
    (∃ seen', (∀ j, s ≤ j → at2 m.text j = false) ∧ Sre.M.admitted m fuel s seen = .ok (none, seen')) := by
  have hi : ∀ j, m.text.size ≤ j → at2 m.text j = false := fun j hj => by unfold at2; rw [decide_eq_false (by omega)]; rfl
  intro fuel
  induction fuel with
  | zero => intro s seen h; exact .inr ⟨seen, fun j hj => hi j (by omega), rfl⟩
  | succ n ih =>
    intro s seen h
    unfold Sre.M.admitted
    by_cases hs : s ≥ m.lim
    · rw [if_pos hs]
      exact .inr ⟨seen, fun j hj => hi j (by omega), rfl⟩
    · rw [if_neg hs]
      have hz : m.code.size = 36 := by rw [hc]; rfl
      rw [hz, hc, set2]
      have hlt : s < m.text.size := by omega
      by_cases h10 : (m.text.getD s 0 == 10) = true
      · rw [if_pos h10]
        refine .inl ⟨s, _, Nat.le_refl _, ?_, fun j h1 h2 => by omega, rfl⟩
        unfold at2
        rw [h10, decide_eq_true hlt]; rfl
      · rw [if_neg h10]
        by_cases h13 : (m.text.getD s 0 == 13) = true
        · rw [if_pos h13]
          refine .inl ⟨s, _, Nat.le_refl _, ?_, fun j h1 h2 => by omega, rfl⟩
          unfold at2
          rw [h13, decide_eq_true hlt]; simp
        · rw [if_neg h13]
          have h0 : at2 m.text s = false := by
            unfold at2
            rw [Bool.not_eq_true] at h10 h13
            rw [h10, h13]; simp
          have ext : ∀ {k : Nat}, (∀ j, s + 1 ≤ j → j < k → at2 m.text j = false) → ∀ j, s ≤ j → j < k → at2 m.text j = false := fun hk j hj hj' => by
            by_cases e : j = s
            · rw [e]; exact h0
            · exact hk j (by omega) hj'
          dsimp only
          rcases ih (s + 1) (((seen.add 16).add 16).add 0) (by omega) with ⟨s', seen', h1, h2, h3, h4⟩ | ⟨seen', h1, h2⟩
          · exact .inl ⟨s', seen', by omega, h2, ext h3, h4⟩
          · refine .inr ⟨seen', fun j hj => ?_, h2⟩
            by_cases e : j = s
            · rw [e]; exact h0
            · exact h1 j (by omega)
noncomputable def attF (m : Sre.M) (first : Bool) (r : Except String (Option Nat × Sre.Seen)) : Sre.M :=
  match r with
  | .ok (some s, seen) => { m with mustAdvance := false, seen := seen }.attemptAt s first
  | .ok (none, seen) => { m with seen := seen }.say false
  | .error why => m.stick why
/-- a search from s on with the second pattern -/
theorem search2 (T : Array Nat) (s : Nat) (hs : s ≤ T.size) : Ends 42 (Sre.forSearch code2 T 0 s T.size false) fun m =>
      (∃ s', s ≤ s' ∧ at2 T s' = true ∧ (∀ j, s ≤ j → j < s' → at2 T j = false) ∧ m.outcome = some .matched ∧ m.start = s' ∧ m.handed = s' + len2 T s') ∨
      ((∀ j, s ≤ j → at2 T j = false) ∧ m.outcome = some .failed) := by
  have hi : ∀ j, T.size ≤ j → at2 T j = false := fun j hj => by unfold at2; rw [decide_eq_false (by omega)]; rfl
  have e1 : Sre.forSearch code2 T 0 s T.size false = if (decide (s > T.size) || decide (T.size - s < 1)) = true then { mk code2 T false true 10 s s s [] 0 (some false) (({} : Sre.Seen).add 14) none with lastStart := 0 } else attF (mk code2 T false true 10 s s s [] 0 none (({} : Sre.Seen).add 14) none) true (Sre.M.admitted (mk code2 T false true 10 s s s [] 0 none (({} : Sre.Seen).add 14) none) (T.size + 1 - s) s (({} : Sre.Seen).add 14)) := rfl
  rw [e1]
  by_cases h : s = T.size
  · rw [if_pos (by simp; omega)]
    exact Ends.step (m' := { mk code2 T false true 10 s s s [] 0 (some false) (({} : Sre.Seen).add 14) (some .failed) with lastStart := 0 }) rfl rfl (Ends.here rfl (.inr ⟨fun j hj => hi j (by omega), rfl⟩))
  · rw [if_neg (by simp; omega)]
    rcases admit2 (mk code2 T false true 10 s s s [] 0 none (({} : Sre.Seen).add 14) none) rfl rfl (T.size + 1 - s) s (({} : Sre.Seen).add 14) (by show T.size < _; omega) with ⟨s', seen', h1, h2, h3, h4⟩ | ⟨seen', h1, h2⟩
    · rw [h4]
      obtain ⟨k, hk, ho, q1, q2, q3⟩ := go2 T s' true seen' h2
      exact ⟨k, by omega, ho, .inl ⟨s', h1, h2, h3, q1, q2, q3⟩⟩
    · rw [h2]
      exact Ends.step (m' := mk code2 T false true 10 s s s [] 0 (some false) seen' (some .failed)) rfl rfl (Ends.here rfl (.inr ⟨h1, rfl⟩))
end Mine
end
section
set_option Elab.async false
set_option linter.unusedVariables false
set_option maxRecDepth 100000
set_option maxHeartbeats 2000000
namespace Mine
open PySem PySem.W PySem.Calls PyProof.Rows PySem.Builtin PySem.Builtin.Re

theorem plainAttrs_pat : PlainAttrs "re.Pattern" :=
  ⟨⟨"object.__getattribute__", by rw [typeLookup_type, builtinLookup_eq_fast]; kernel_rfl, by decide +kernel⟩, by rw [typeLookup_type, builtinLookup_eq_fast]; kernel_rfl⟩
theorem slot_pat_sub : Slot "re.Pattern" "sub" "re.Pattern.sub" :=
  .of (owner := "re.Pattern") (n := "sub") (by rw [typeLookup_type, builtinLookup_eq_fast]; kernel_rfl) (by decide +kernel) (by decide +kernel) (by decide +kernel)
    (by first | exact .inl (by decide +kernel) | exact .inr (by decide +kernel)) (by rw [isSubtype_type]; kernel_rfl)
theorem type_pat_sub : typeOf (.builtin "re.Pattern.sub") = pure (.type "method_descriptor") := by show builtinType _ = _; rw [builtinType_eq_fast]; kernel_rfl
theorem entry_pat_sub : entryFor table "re.Pattern.sub" = some Builtin.«re.Pattern.sub» := entryFor_of_tree (by kernel_rfl)
theorem entry_pat_loop : entryFor table "re.Pattern.sub.loop" = some Builtin.«re.Pattern.sub.loop» := entryFor_of_tree (by kernel_rfl)
theorem plain_pat_loop : plainId "re.Pattern.sub.loop" = true := by decide +kernel
theorem args_pat_sub (a b c : Value) : argsOk "re.Pattern.sub" ⟨[a, b, c], []⟩ := by unfold argsOk; kernel_rfl
theorem str_call : typeLookup (.type "str") "__call__" = pure none := by rw [typeLookup_type, builtinLookup_eq_fast]; kernel_rfl

section
variable {M : Model} {A : Around} {E : Value → Shared → Prop} {s : Shared}
theorem ends_drop {k : Nat} {m : Sre.M} {P : Sre.M → Prop} (h : Ends k m P) : Ends (k - 4) (Sre.M.runFor 4 m) P := by
  obtain ⟨j, hj, ho, hp⟩ := h
  by_cases h4 : j ≤ 4
  · have e : Sre.M.runFor 4 m = Sre.M.runFor j m := by
      rw [show (4 : Nat) = j + (4 - j) by omega, runFor_add, runFor_done _ _ ho]
    rw [e]
    exact Ends.here ho hp
  · refine ⟨j - 4, by omega, ?_, ?_⟩ <;> rw [← runFor_add, show 4 + (j - 4) = j by omega] <;> assumption
theorem wp_drive {P : Sre.M → Prop} {Q : Sre.M → Shared → Prop} (hQ : ∀ m, m.outcome.isSome = true → P m → Q m s) : ∀ (k : Nat) (turns : Nat) (m : Sre.M), Ends k m P → k < 4 * turns → wpAny M A (reDrive turns m) Q E s := by
  intro k
  induction k using Nat.strongRecOn with
  | ind k ih =>
    intro turns m h hk
    obtain ⟨t, rfl⟩ : ∃ t, turns = t + 1 := ⟨turns - 1, by omega⟩
    have h' := ends_drop h
    show wpAny M A (if (Sre.M.runFor 4 m).outcome.isSome = true then pure (Sre.M.runFor 4 m) else do rule "sre.turn"; reDrive t (Sre.M.runFor 4 m)) Q E s
    by_cases ho : (Sre.M.runFor 4 m).outcome.isSome = true
    · rw [if_pos ho]
      obtain ⟨j, hj, hjo, hjp⟩ := h'
      rw [runFor_done _ _ ho] at hjp
      exact wpAny_pure (hQ _ ho hjp)
    · rw [if_neg ho]
      refine wpAny_bind (wpAny_rule ?_)
      obtain ⟨j, hj, hjo, hjp⟩ := h'
      by_cases hk4 : k ≤ 4
      · have : j = 0 := by omega
        subst this
        exact absurd hjo ho
      · exact ih (k - 4) (by omega) t _ ⟨j, hj, hjo, hjp⟩ (by omega)
theorem wp_end {m : Sre.M} {P : Sre.M → Prop} {k : Nat} {Q : Option Sre.M → Shared → Prop} (h : Ends k m P) (hk : k < 2 ^ 60) (hQ : ∀ m', P m' → (m'.outcome = some .matched ∧ Q (some m') s) ∨ (m'.outcome = some .failed ∧ Q none s)) : wpAny M A (reRunToEnd m) Q E s := by
  unfold reRunToEnd
  refine wpAny_bind (wp_drive (P := P) (fun m' ho hp => ?_) k (2 ^ 64) m h (by omega))
  refine wpAny_bind (wpAny_forIn_list _ (fun _ _ s' => s' = s) _ ?_ ?_ _ _ rfl)
  · rintro i rest b s' rfl
    split
    · exact wpAny_bind (wpAny_rule (wpAny_pure rfl))
    · exact wpAny_pure rfl
  · rintro b s' rfl
    rcases hQ m' hp with ⟨e, q⟩ | ⟨e, q⟩
    · rw [e]; exact wpAny_pure q
    · rw [e]; exact wpAny_pure q
end
end Mine
end
section
set_option Elab.async false
set_option linter.unusedVariables false
set_option maxRecDepth 100000
set_option maxHeartbeats 2000000
namespace Mine
open PySem PySem.W PySem.Calls PyProof.Rows PySem.Builtin PySem.Builtin.Re

structure PatAt (h : Heap) (a : Addr) (code : Array Nat) : Prop where
  at' : ∃ o fs c oc vs n, h.get? a = some o ∧ o.cls = .type "re.Pattern" ∧ o.dict = none ∧ o.data = .fields fs ∧ reRawNat (fs.getD 2 .none) = 0 ∧ reRawNat (fs.getD 6 .none) = 0 ∧ fs.getD 5 .none = .ref c ∧ h.get? c = some oc ∧ oc.data = .seq vs n ∧ (vs.map reRawOf).map (·.toNat) = code
theorem PatAt.keep {h h' : Heap} {a : Addr} {code : Array Nat} {as : List Addr} (x : PatAt h a code) (k : ∀ b o, b ∉ as → h.get? b = some o → h'.get? b = some o) (hn : ∀ b ∈ as, ∀ o, h.get? b = some o → False) : PatAt h' a code := by
  obtain ⟨o, fs, c, oc, vs, n, h1, h2, h3, h4, h5, h6, h7, h8, h9⟩ := x
  exact ⟨o, fs, c, oc, vs, n, k _ _ (fun q => hn _ q _ h1) h1, h2, h3, h4, h5, h6, h7, k _ _ (fun q => hn _ q _ h8) h8, h9⟩
theorem pat1 (P : Params) : PatAt (H12 P) 50 code1 := ⟨o50 P, _, 49, o49 P, _, _, by kernel_rfl!, rfl, rfl, rfl, rfl, rfl, rfl, by kernel_rfl!, rfl, by decide +kernel⟩
theorem pat2 (P : Params) : PatAt (H12 P) 55 code2 := ⟨o55 P, _, 54, o54 P, _, _, by kernel_rfl!, rfl, rfl, rfl, rfl, rfl, rfl, by kernel_rfl!, rfl, by decide +kernel⟩

noncomputable def tgt (a : Addr) (x : Str) (t : Tok) (code : Array Nat) : ReTarget := { pattern := .ref a, string := .str x t, code := code, text := x.cps, kind := 0, groups := 0, pos := 0, lim := x.cps.size }
section
variable {M : Model} {A : Around} {E : Value → Shared → Prop} {s : Shared}
theorem wp_target {a : Addr} {code : Array Nat} {x : Str} {t : Tok} {Q : ReTarget → Shared → Prop} (h : PatAt s.heap a code) (hQ : Q (tgt a x t code) s) : wpAny M A (reWholeTarget (.ref a) (.str x t)) Q E s := by
  obtain ⟨o, fs, c, oc, vs, n, h1, h2, h3, h4, h5, h6, h7, h8, h9, h10⟩ := h
  unfold reWholeTarget
  refine wpAny_bind (wpAny_fieldsOf h1 h4 ?_)
  unfold reTextOf
  refine wpAny_bind (wpAny_bind (wpAny_pure ?_))
  dsimp only
  refine wpAny_pure ?_
  dsimp only
  rw [h6]
  simp only [beq_self_eq_true, Bool.true_and, Bool.false_and, Nat.reduceBEq, Bool.false_eq_true, if_false]
  refine wpAny_bind ?_
  refine wpAny_pure ?_
  rw [h7]
  unfold reRawItems
  refine wpAny_bind (wpAny_bind (wpAny_seqItems h8 h9 (wpAny_pure (wpAny_pure ?_))))
  rw [h5]
  show Q { pattern := .ref a, string := .str x t, code := (vs.map reRawOf).map (fun x => x.toNat), text := x.cps, kind := 0, groups := 0, pos := 0, lim := x.cps.size } s
  rw [h10]
  exact hQ
end
/-- what comes out from place p on -/
noncomputable def outF (T : Array Nat) (at' : Nat → Bool) (len : Nat → Nat) (r : List Nat) : Nat → Nat → List Nat
  | 0, p => []
  | f + 1, p => if p < T.size then if at' p = true then r ++ outF T at' len r f (p + len p) else T.getD p 0 :: outF T at' len r f (p + 1) else []
section
variable {T : Array Nat} {at' : Nat → Bool} {len : Nat → Nat} {r : List Nat}
theorem outF_ge : ∀ (f p : Nat), T.size ≤ p → outF T at' len r f p = []
  | 0, p, _ => rfl
  | f + 1, p, h => by unfold outF; rw [if_neg (by omega)]
theorem outF_fuel (hl : ∀ p, 1 ≤ len p) : ∀ (f f' p : Nat), T.size ≤ p + f → T.size ≤ p + f' → outF T at' len r f p = outF T at' len r f' p
  | 0, f', p, h, h' => by rw [outF_ge f' p (by omega)]; rfl
  | f + 1, 0, p, h, h' => by rw [outF_ge (f + 1) p (by omega)]; rfl
  | f + 1, f' + 1, p, h, h' => by
    have := hl p
    unfold outF
    split
    · split
      · rw [outF_fuel hl f f' (p + len p) (by omega) (by omega)]
      · rw [outF_fuel hl f f' (p + 1) (by omega) (by omega)]
    · rfl
theorem ext_cons {p s : Nat} (h : p < s) (hs : s ≤ T.size) : (T.extract p s).toList = T.getD p 0 :: (T.extract (p + 1) s).toList := by
  rw [Array.toList_extract, Array.toList_extract]
  simp only [List.extract_eq_take_drop]
  have hp : p < T.toList.length := by simp; omega
  rw [List.drop_eq_getElem_cons hp, show s - p = (s - (p + 1)) + 1 by omega, List.take_succ_cons]
  simp [Array.getD, show p < T.size by omega]
theorem ext_nil {p : Nat} : (T.extract p p).toList = [] := by simp
/-- up to the next place where the pattern is met -/
theorem outF_skip : ∀ (d p s f : Nat), s - p = d → p ≤ s → s ≤ T.size → T.size ≤ p + f → (∀ j, p ≤ j → j < s → at' j = false) → (hl : ∀ p, 1 ≤ len p) → outF T at' len r f p = (T.extract p s).toList ++ outF T at' len r f s
  | 0, p, s, f, hd, hp, hs, hf, hn, hl => by
    have : p = s := by omega
    subst this
    rw [ext_nil]; rfl
  | d + 1, p, s, f, hd, hp, hs, hf, hn, hl => by
    have hlt : p < s := by omega
    obtain ⟨f, rfl⟩ : ∃ f', f = f' + 1 := ⟨f - 1, by omega⟩
    have e : outF T at' len r (f + 1) p = T.getD p 0 :: outF T at' len r f (p + 1) := by
      conv => lhs; unfold outF
      rw [if_pos (by omega), if_neg (by rw [hn p (Nat.le_refl _) hlt]; exact Bool.false_ne_true)]
    rw [e, outF_fuel hl f (f + 1) (p + 1) (by omega) (by omega), outF_skip d (p + 1) s (f + 1) (by omega) (by omega) hs (by omega) (fun j h1 h2 => hn j (by omega) h2) hl, ext_cons hlt hs]
    rfl
theorem outF_at {p f : Nat} (hp : p < T.size) (ha : at' p = true) (hf : T.size ≤ p + f) (hl : ∀ p, 1 ≤ len p) : outF T at' len r f p = r ++ outF T at' len r f (p + len p) := by
  obtain ⟨f, rfl⟩ : ∃ f', f = f' + 1 := ⟨f - 1, by omega⟩
  have := hl p
  conv => lhs; unfold outF
  rw [if_pos hp, if_pos ha, outF_fuel hl f (f + 1) (p + len p) (by omega) (by omega)]
end
structure SearchOk (code T : Array Nat) (at' : Nat → Bool) (len : Nat → Nat) : Prop where
  pos : ∀ p, 1 ≤ len p
  fit : ∀ p, at' p = true → p + len p ≤ T.size
  run : ∀ s, s ≤ T.size → ∃ k, k < 2 ^ 60 ∧ Ends k (Sre.forSearch code T 0 s T.size false) fun m =>
      (∃ s', s ≤ s' ∧ at' s' = true ∧ (∀ j, s ≤ j → j < s' → at' j = false) ∧ m.outcome = some .matched ∧ m.start = s' ∧ m.handed = s' + len s') ∨
      ((∀ j, s ≤ j → at' j = false) ∧ m.outcome = some .failed)
theorem ok1 (T : Array Nat) (hT : T.size ≤ 1000000) : SearchOk code1 T (at1 T) (fun _ => 1) where
  pos := fun _ => Nat.le_refl _
  fit := fun p h => by
    have : p < T.size := by
      by_cases q : p < T.size
      · exact q
      · rw [at1_hi (by omega)] at h; cases h
    omega
  run := fun s hs => ⟨_, by omega, search1 T s hs⟩
theorem ok2 (T : Array Nat) : SearchOk code2 T (at2 T) (len2 T) where
  pos := fun p => by unfold len2; split <;> decide
  fit := fun p h => by
    unfold at2 at h
    have h1 : p < T.size := of_decide_eq_true (Bool.and_eq_true_iff.mp h).1
    by_cases q : (T.getD p 0 == 13 && (decide (p + 1 < T.size) && T.getD (p + 1) 0 == 10)) = true
    · have e : len2 T p = 2 := if_pos q
      rw [e]
      rw [Bool.and_eq_true, Bool.and_eq_true] at q
      have := of_decide_eq_true q.2.1
      omega
    · have e : len2 T p = 1 := if_neg q
      rw [e]
      omega
  run := fun s hs => ⟨42, by decide, search2 T s hs⟩
theorem quiet_loop (args : Args) : (Code.builtin "re.Pattern.sub.loop" args).quiet = true := Code.quiet_builtin args (by decide +kernel)
noncomputable abbrev loopArgs (a D : Addr) (x : Str) (t : Tok) (rp : Str) (tr : Tok) (n p : Nat) : Args := ⟨[.ref a, .str x t, .str rp tr, rawInt 0, rawInt 0, rawInt n, rawInt p, rawInt p, .bool false, .ref D, .bool false], []⟩
section
variable {p : Program} {w : World} {A : Around} {E : Value → Shared → Prop}
theorem push_at {D : Addr} {ys : List Value} {m : Nat} {v : Value} {s : Shared} {Q : Unit → Shared → Prop} (hD : s.heap.get? D = some ⟨.type "list", none, .seq ys.toArray m, #[]⟩) (hz : ys.length ≤ 10000000)
    (h : ∀ h', Heap.SameBut D s.heap h' → h'.get? D = some ⟨.type "list", none, .seq (ys ++ [v]).toArray (m + 1), #[]⟩ → Q () { s with heap := h' }) : wpAny (model p w) A (updateSeq D (·.push v)) Q E s := by
  refine wpAny_updateSeq hD rfl (h _ (Heap.SameBut.update ..) ?_) (by rw [List.size_toArray]; unfold sizeLine; omega) (by rw [Array.size_push, List.size_toArray]; unfold sizeLine; omega)
  have e : Obj.mapSeq (·.push v) ⟨.type "list", none, .seq ys.toArray m, #[]⟩ = ⟨.type "list", none, .seq (ys ++ [v]).toArray (m + 1), #[]⟩ := by
    simp [Obj.mapSeq]
  rw [Heap.get?_update_self _ hD (by rw [e]; rfl), e]
theorem strs_app {ys us : List Value} {zs ws : List Str} (h : StrsAre ys zs) (h' : StrsAre us ws) : StrsAre (ys ++ us) (zs ++ ws) := by
  induction h with
  | nil => exact h'
  | cons y t r ih => exact .cons y t ih
noncomputable def flatS (zs : List Str) : List Nat := (zs.map fun z => z.cps.toList).flatten
theorem flatS_app (a b : List Str) : flatS (a ++ b) = flatS a ++ flatS b := by simp [flatS]
theorem flatS_one (a : Str) : flatS [a] = a.cps.toList := by simp [flatS]
theorem flatS_len (zs : List Str) : (flatS zs).length = (zs.map (·.length)).sum := by
  induction zs with
  | nil => rfl
  | cons z zs ih =>
    have : flatS (z :: zs) = z.cps.toList ++ flatS zs := by simp [flatS]
    rw [this, List.length_append, ih]
    simp [Str.length]
theorem join_flat (zs : List Str) : Txt.join ⟨#[]⟩ zs = ⟨(flatS zs).toArray⟩ := by
  unfold Txt.join
  rw [PySem.StrLaws.glued_eq_join]
  have h : ∀ zs : List Str, (Str.join ⟨#[]⟩ zs).cps.toList = flatS zs := by
    intro zs
    induction zs with
    | nil => rfl
    | cons z zs ih =>
      cases zs with
      | nil => simp [Str.join, flatS]
      | cons y r =>
        have e : Str.join ⟨#[]⟩ (z :: y :: r) = z ++ ⟨#[]⟩ ++ Str.join ⟨#[]⟩ (y :: r) := rfl
        have e2 : (z ++ ⟨#[]⟩ ++ Str.join ⟨#[]⟩ (y :: r)).cps = (z.cps ++ #[]) ++ (Str.join ⟨#[]⟩ (y :: r)).cps := rfl
        rw [e, e2]
        simp only [Array.append_empty, Array.toList_append, ih]
        simp [flatS]
  rw [← h]
theorem ite_i {α : Type} (a b : α) : (if ((0 : Int) == 0) = true then a else b) = a := rfl
theorem ite_n {α : Type} (a b : α) : (if ((0 : Nat) == 0) = true then a else b) = a := rfl
theorem ite_f {α : Type} (a b : α) : (if false = true then a else b) = b := rfl
theorem strne (x : Str) (t : Tok) : (Value.str x t != Value.none) = true := by
  rfl
theorem slice_toList (x : Array Nat) (i j : Nat) : (⟨x.extract i j⟩ : Str).cps.toList = (x.extract i j).toList := rfl
theorem wp_slice {x : Array Nat} {i j : Nat} {s : Shared} {Q : Value → Shared → Prop} (hz : x.size ≤ 1000000) (h : Q (.str ⟨x.extract i j⟩ s.toks) { s with toks := s.toks + 1 }) : wpAny (model p w) A (reSlice x 0 i j) Q E s := by
  unfold reSlice
  rw [ite_n]
  refine wpAny_mkStr h ?_
  have : (x.extract i j).size ≤ x.size := by rw [Array.size_extract]; omega
  show (x.extract i j).size ≤ sizeLine
  unfold sizeLine
  omega
theorem chg_but {D : Addr} {s : Shared} {h' : Heap} {tk : Nat} (k : Heap.SameBut D s.heap h') : Chg [D] [] s { s with heap := h', toks := tk } := ⟨fun b o hb q => k.extBut b o (fun e => hb (by simp [e])) q, rfl, fun _ _ _ e => e, id⟩
theorem Chg.tok {D : Addr} {s s' : Shared} {tk : Nat} (k : Chg [D] [] s s') : Chg [D] [] s { s' with toks := tk } := ⟨k.keep, k.os, k.gens, k.bare⟩
theorem sub_loop {a D : Addr} {code : Array Nat} {x : Str} {t : Tok} {rp : Str} {tr : Tok} {at' : Nat → Bool} {len : Nat → Nat} {h0 : Heap} (S : SearchOk code x.cps at' len) (hz : x.cps.size ≤ 1000000) {R : Result → Shared → Prop} {total : List Nat} (ht : total.length ≤ 10000000) (hP0 : PatAt h0 a code) (hD0 : h0.get? D = none) :
    ∀ (d q n m : Nat) (ys : List Value) (zs : List Str) (s : Shared), x.cps.size - q ≤ d → q ≤ x.cps.size → s.heap.get? D = some ⟨.type "list", none, .seq ys.toArray m, #[]⟩ → (∀ b o, h0.get? b = some o → s.heap.get? b = some o) →
    StrsAre ys zs → ys.length ≤ 2 * q → flatS zs ++ outF x.cps at' len rp.cps.toList x.cps.size q = total →
    (∀ t' s', Chg [D] [] s s' → R (.ok (.ret (.str ⟨total.toArray⟩ t'))) s') → codeAny (model p w) A (.builtin "re.Pattern.sub.loop" (loopArgs a D x t rp tr n q)) R s := by
  intro d
  induction d using Nat.strongRecOn with
  | ind d ih =>
    intro q n m ys zs s hd hq hD hk hys hyl htot hR
    have hP : PatAt s.heap a code := hP0.keep (as := []) (fun b o _ e => hk b o e) (by simp)
    refine codeAny_builtin entry_pat_loop ?_
    unfold Builtin.«re.Pattern.sub.loop»
    refine wpAny_bind (wp_target hP ?_)
    dsimp only
    rw [ite_i]
    refine wpAny_bind ?_
    have hlit : reLiteralCannotBeTurned (.str rp tr) = pure () := rfl
    rw [hlit]
    refine wpAny_pure ?_
    have hcnd : (0 != 0 && decide ((n : Int) ≥ 0)) = false := rfl
    refine wpAny_bind ?_
    rw [if_neg (by simp)]
    obtain ⟨k, hk60, hE⟩ := S.run q hq
    refine wp_end hE hk60 fun m' hm' => ?_
    rcases hm' with ⟨s', h1, h2, h3, h4, h5, h6⟩ | ⟨h1, h2⟩
    · refine .inl ⟨h4, ?_⟩
      have hfit := S.fit _ h2
      have hpos := S.pos s'
      have hs' : s' < x.cps.size := by omega
      have hout : outF x.cps at' len rp.cps.toList x.cps.size q = (x.cps.extract q s').toList ++ (rp.cps.toList ++ outF x.cps at' len rp.cps.toList x.cps.size (s' + len s')) := by
        rw [outF_skip _ q s' x.cps.size rfl h1 (by omega) (by omega) h3 S.pos, outF_at hs' h2 (by omega) S.pos]
      dsimp only
      -- the replacement is pushed, and on
      have next : ∀ (ys' : List Value) (zs' : List Str) (m2 : Nat) (s1 : Shared), Chg [D] [] s s1 → s1.heap.get? D = some ⟨.type "list", none, .seq ys'.toArray m2, #[]⟩ → StrsAre ys' zs' → ys'.length ≤ 2 * q + 1 → flatS zs' = flatS zs ++ (x.cps.extract q s').toList →
          wpAny (model p w) (A.under (Code.builtin "re.Pattern.sub.loop" (loopArgs a D x t rp tr n q))) (do
            let __r ← updateSeq D fun y => y.push (Value.str rp tr)
            again (Code.builtin "re.Pattern.sub.loop" ⟨[.ref a, .str x t, .str rp tr, rawInt 0, rawInt 0, rawInt ((n : Int) + 1), rawInt (m'.handed : Int), rawInt (m'.handed : Int), .bool (m'.handed == m'.start), .ref D, .bool false], []⟩))
            (fun fin s' => match fin with | .done f => R (.ok f) s' | .again c' => c'.quiet = true ∧ codeAny (model p w) A c' R s') (fun e s' => R (.error e) s') s1 := by
        intro ys' zs' m2 s1 hc1 hD1 hy1 hl1 hf1
        refine wpAny_bind (push_at hD1 (by omega) fun h2' hs2 hD2 => wpAny_pure ?_)
        refine ⟨quiet_loop _, ?_⟩
        have e1 : (m'.handed == m'.start) = false := by rw [h6, h5]; simp; omega
        have e2 : (n : Int) + 1 = ((n + 1 : Nat) : Int) := by push_cast; rfl
        rw [e1, e2, h6]
        have hc2 : Chg [D] [] s { s1 with heap := h2' } := hc1.trans (chg_but (tk := s1.toks) hs2)
        refine ih (x.cps.size - (s' + len s')) (by omega) (s' + len s') (n + 1) (m2 + 1) (ys' ++ [.str rp tr]) (zs' ++ [rp]) _ (Nat.le_refl _) hfit hD2 (fun b o e => hc2.keep b o (fun z => by rw [List.mem_singleton.mp z, hD0] at e; cases e) (hk b o e)) (strs_app hy1 (.cons rp tr .nil)) ?_ ?_ ?_
        · rw [List.length_append]; simp; omega
        · rw [flatS_app, flatS_one, hf1, ← htot, hout]
          simp only [List.append_assoc]
        · intro t' s2 hc3
          exact hR t' s2 (hc2.trans hc3)
      by_cases hlt : q < s'
      · rw [if_pos (by rw [h5]; exact hlt)]
        refine wpAny_bind (wp_slice hz ?_)
        refine wpAny_bind (push_at hD (by omega) fun h1' hs1 hD1 => ?_)
        rw [ite_i]
        refine wpAny_bind (wpAny_pure ?_)
        rw [if_pos (strne rp tr)]
        refine next (ys ++ [.str ⟨x.cps.extract q s'⟩ s.toks]) (zs ++ [⟨x.cps.extract q s'⟩]) (m + 1) _ (chg_but (s := s) hs1) ?_ ?_ ?_ ?_
        · rw [h5] at hD1; exact hD1
        · exact strs_app hys (.cons _ _ .nil)
        · rw [List.length_append]; simp; omega
        · rw [flatS_app, flatS_one]
      · rw [if_neg (by rw [h5]; exact hlt), ite_i]
        refine wpAny_bind (wpAny_pure ?_)
        rw [if_pos (strne rp tr)]
        have : q = s' := by omega
        refine next ys zs m s ⟨fun _ _ _ e => e, rfl, fun _ _ _ e => e, id⟩ hD hys (by omega) ?_
        rw [this, ext_nil, List.append_nil]
    · refine .inr ⟨h2, ?_⟩
      have hout : outF x.cps at' len rp.cps.toList x.cps.size q = (x.cps.extract q x.cps.size).toList := by
        rw [outF_skip _ q x.cps.size x.cps.size rfl hq (Nat.le_refl _) (by omega) (fun j a b => h1 j a) S.pos, outF_ge _ _ (Nat.le_refl _), List.append_nil]
      dsimp only
      have fin : ∀ (ys' : List Value) (zs' : List Str) (m2 : Nat) (s1 : Shared), Chg [D] [] s s1 → s1.heap.get? D = some ⟨.type "list", none, .seq ys'.toArray m2, #[]⟩ → StrsAre ys' zs' → ys'.length ≤ 2 * q + 1 → flatS zs' = total →
          wpAny (model p w) (A.under (Code.builtin "re.Pattern.sub.loop" (loopArgs a D x t rp tr n q))) (do
            let joiner ← reSlice x.cps 0 0 0
            let __do_lift ← seqItems? (Value.ref D)
            have __do_jp : Value → Sem PySem.Fin := fun text => if false = true then do
                  let __do_lift ←
                    holding [text] do
                        let __do_lift ← mkInt ↑n
                        newTuple [text, __do_lift]
                  ret __do_lift
                else ret text
            if (__do_lift.getD #[]).isEmpty = true then do
                  let text ← pure joiner
                  __do_jp text
                else do
                  let text ← call (Value.builtin (if (0 == 0) = true then "str.join" else "bytes.join")) [joiner, Value.ref D]
                  __do_jp text)
            (fun fin s' => match fin with | .done f => R (.ok f) s' | .again c' => c'.quiet = true ∧ codeAny (model p w) A c' R s') (fun e s' => R (.error e) s') s1 := by
        intro ys' zs' m2 s1 hc1 hD1 hy1 hl1 hf1
        refine wpAny_bind (wp_slice hz ?_)
        refine wpAny_bind (wpAny_seqItems hD1 rfl ?_)
        dsimp only
        have e0 : x.cps.extract 0 0 = #[] := by simp
        rw [e0]
        split
        · rename_i he
          refine wpAny_bind (wpAny_pure ?_)
          rw [ite_f]
          have hn : ys' = [] := by simpa using he
          subst hn
          cases hy1
          have : total = [] := by rw [← hf1]; rfl
          subst this
          refine wpAny_pure (hR _ _ hc1.tok)
        · refine wpAny_bind ?_
          rw [ite_n]
          refine join_list (ys := zs') ⟨_, hD1, rfl, _, rfl⟩ (by simpa using hy1) ?_ fun t' tk => ?_
          · rw [← flatS_len, hf1]
            show total.length + zs'.length * 0 ≤ _
            omega
          · rw [ite_f]
            refine wpAny_pure ?_
            have e : Txt.join ⟨#[]⟩ zs' = ⟨total.toArray⟩ := by rw [join_flat, hf1]
            rw [e]
            exact hR _ _ hc1.tok
      by_cases hlt : q < x.cps.size
      · rw [if_pos (by exact hlt)]
        refine wpAny_bind (wp_slice hz ?_)
        refine wpAny_bind (push_at hD (by omega) fun h1' hs1 hD1 => ?_)
        refine fin (ys ++ [.str ⟨x.cps.extract q x.cps.size⟩ s.toks]) (zs ++ [⟨x.cps.extract q x.cps.size⟩]) (m + 1) _ (chg_but (s := s) hs1) hD1 (strs_app hys (.cons _ _ .nil)) ?_ ?_
        · rw [List.length_append]; simp; omega
        · rw [flatS_app, flatS_one, ← htot, hout]
      · rw [if_neg (by exact hlt)]
        have : q = x.cps.size := by omega
        refine fin ys zs m s ⟨fun _ _ _ e => e, rfl, fun _ _ _ e => e, id⟩ hD hys (by omega) ?_
        rw [← htot, hout, this, ext_nil, List.append_nil]
end
end Mine
end
section
set_option Elab.async false
set_option linter.unusedVariables false
set_option maxRecDepth 100000
set_option maxHeartbeats 2000000
namespace Mine
open PySem PySem.W PySem.Calls PyProof.Rows PySem.Builtin PySem.Builtin.Re

theorem named2 (a b : Value) : reNamed "re.Pattern.sub" "sub" ["repl", "string", "count"] 2 [a, b] [] = pure [some a, some b, none] := by rfl
section
variable {p : Program} {w : World} {A : Around} {E : Value → Shared → Prop}
theorem call_sub {a : Addr} {code : Array Nat} {x : Str} {t : Tok} {rp : Str} {tr : Tok} {at' : Nat → Bool} {len : Nat → Nat} (S : SearchOk code x.cps at' len) (hz : x.cps.size ≤ 1000000) (ht : (outF x.cps at' len rp.cps.toList x.cps.size 0).length ≤ 10000000) (hr : rp.cps.contains 92 = false)
    {s : Shared} {Q : Value → Shared → Prop} (hP : PatAt s.heap a code) (hQ : ∀ t' s', Gr s s' → Q (.str ⟨(outF x.cps at' len rp.cps.toList x.cps.size 0).toArray⟩ t') s') :
    wpAny (model p w) A (call (.builtin "re.Pattern.sub") [.ref a, .str rp tr, .str x t]) Q E s := by
  have hP' := hP
  obtain ⟨o, fs, c, oc, vs, n, h1, h2, h3, h4, h5, h6, h7, h8, h9, h10⟩ := hP
  refine wpAny_call (codeAny_call_builtin slot_pat_sub.plain entry_pat_sub (slot_pat_sub.check _ _ _ _ _ _ _ _ ⟨o, h1, h2⟩ (args_pat_sub _ _ _) ?_))
  unfold Builtin.«re.Pattern.sub» reSubstitute
  dsimp only
  rw [named2]
  refine wpAny_bind (wpAny_pure ?_)
  dsimp only
  refine wpAny_bind (wpAny_pure ?_)
  refine wpAny_bind (wpAny_specialOf (typeIs_str _ _ _) str_call ?_)
  have hn : (Option.isSome (none : Option Value)) = false := rfl
  rw [hn, ite_f]
  refine wpAny_bind ?_
  have has : asStr? (.str rp tr) = pure (some rp) := rfl
  rw [has]
  refine wpAny_pure ?_
  dsimp only
  refine wpAny_bind (wpAny_pure ?_)
  have hnf : (!false) = true := rfl
  rw [hr, ite_f, hnf, if_pos rfl]
  refine wpAny_bind (wpAny_pure ?_)
  dsimp only
  refine wpAny_bind (wpAny_holding (wp_target hP' ?_))
  have h01 : ((0 : Int) == 1) = false := rfl
  rw [h01, ite_f]
  refine wpAny_bind (wpAny_newList ?_ (by show 0 ≤ sizeLine; unfold sizeLine; omega))
  refine wpAny_pure ⟨quiet_loop _, ?_⟩
  refine sub_loop (a := a) (D := s.heap.objs.size) (h0 := s.heap) S hz ht hP' (get_size (Nat.le_refl _)) x.cps.size 0 0 0 [] [] _ (by omega) (Nat.zero_le _) (Heap.get?_push_size _ rfl) (fun b o e => Heap.get?_push_of_some _ e) .nil (Nat.zero_le _) rfl fun t' s' k => ?_
  have nD : s.heap.get? s.heap.objs.size = none := get_size (Nat.le_refl _)
  refine hQ t' s' ⟨fun b o e => k.keep b o (fun q => by rw [List.mem_singleton.mp q, nD] at e; cases e) (Heap.get?_push_of_some _ e), k.os, fun i x e => k.gens i x (by simp) e, k.bare⟩
end
section
variable {p : Program} {w : World} {A : Around} {env : Env} {l : List (Str × PV)} {g : View} {E : Value → Shared → Prop} {s : Shared}
/-- a method of two arguments -/
theorem meth2_ {o e f : Expr} {name : Str} {apos pos : Pos} {T id : String} {x y z : PV} {Q : Value → Shared → Prop} (P : Pre w.params env l g s) (ho : Ev p w A env l g o x) (he : Ev p w A env l g e y) (hf : Ev p w A env l g f z)
    (pa : PlainAttrs T) (slot : Slot T name id) (hty : typeOf (.builtin id) = pure (.type "method_descriptor")) (hx : ∀ v (s : Shared), Keeps0 w.params s.heap → Rep (nv g s.heap s.heap) x v → s.TypeIs v T ∧ (∀ a, v = .ref a → ∃ ob : Obj, s.heap.get? a = some ob ∧ ob.dict = none))
    (hc : ∀ u v v' s2, Gr s s2 → Rep (nv g s.heap s2.heap) x u → Rep (nv g s.heap s2.heap) y v → Rep (nv g s.heap s2.heap) z v' → wpAny (model p w) A (call (.builtin id) [u, v, v']) Q E s2)
    (hxf : Flat x) (hline : (apos.endLine == pos.line) = true) (hbase : attributeBase o name env (eval o env) = eval o env) (hst : ∀ env, starEach [e, f] env = (false, eval e env) :: starEach [f] env) (hst2 : ∀ env, starEach [f] env = [(false, eval f env)]) :
    wpAny (model p w) A (eval (.Call (.Attribute o name apos) [e, f] [] pos) env) Q E s := by
  refine wpAny_Call_method (pa := pa) (slot := slot) (hty := hty) hbase (by rw [hst, hst2]; rfl) hline ?_
  refine ho.run s P _ _ fun v s1 k1 r1 => ?_
  have P1 := P.gr k1
  obtain ⟨h1, h2⟩ := hx v s1 P1.base (hxf _ _ _ r1)
  refine ⟨h1, h2, ?_⟩
  refine callWith_builtin (by rw [hst, hst2]; rfl) (args_ P1 (Evs.cons he (Evs.cons hf Evs.nil hst2) hst) (hst _) fun vs2 s2 k2 r2 => ?_)
  obtain ⟨u, u', rfl, hu, hu'⟩ := two_inv r2
  exact hc v u u' s2 (k1.trans k2) (nvr k1 k2 r1) (nvl k1 hu) (nvl k1 hu')
theorem Flat.ref {a : Addr} : Flat (.ref a) := fun g g' v h => by cases rep_ref_inv h; exact rep_ref
theorem Ev.sub_ {o e f : Expr} {apos pos : Pos} {a : Addr} {code : Array Nat} {x rp : Str} {at' : Nat → Bool} {len : Nat → Nat} (hP : PatAt (H12 w.params) a code) (S : SearchOk code x.cps at' len) (hz : x.cps.size ≤ 1000000) (ht : (outF x.cps at' len rp.cps.toList x.cps.size 0).length ≤ 10000000) (hr : rp.cps.contains 92 = false)
    (ho : Ev p w A env l g o (.ref a)) (he : Ev p w A env l g e (.str rp)) (hf : Ev p w A env l g f (.str x))
    (hline : (apos.endLine == pos.line) = true := by rfl) (hbase : attributeBase o "sub" env (eval o env) = eval o env := by rfl) (hst : ∀ env, starEach [e, f] env = (false, eval e env) :: starEach [f] env := by intro _; rfl) (hst2 : ∀ env, starEach [f] env = [(false, eval f env)] := by intro _; rfl) :
    Ev p w A env l g (.Call (.Attribute o "sub" apos) [e, f] [] pos) (.str ⟨(outF x.cps at' len rp.cps.toList x.cps.size 0).toArray⟩) := .mk fun s P Q E hQ => by
  have hPk : ∀ h, Keeps0 w.params h → PatAt h a code := fun h k => hP.keep (as := []) (fun b o _ e => k b o e) (by simp)
  refine meth2_ P ho he hf plainAttrs_pat slot_pat_sub type_pat_sub (fun v s k r => ?_) (fun u v v' s2 k r1 r2 r3 => ?_) Flat.ref hline hbase hst hst2
  · cases rep_ref_inv r
    obtain ⟨o, fs, c, oc, vs, n, h1, h2, h3, _⟩ := hPk _ k
    exact ⟨⟨o, h1, h2⟩, fun b e => by cases e; exact ⟨o, h1, h3⟩⟩
  · cases rep_ref_inv r1
    obtain ⟨t, rfl⟩ := rep_str_inv r2
    obtain ⟨t', rfl⟩ := rep_str_inv r3
    exact call_sub S hz ht hr (hPk _ (P.gr k).base) fun t2 s3 k3 => hQ _ _ (k.trans k3) rep_str
end
noncomputable def twin2 (x : List Nat) : List Nat := outF x.toArray (at2 x.toArray) (len2 x.toArray) [13, 10] x.length 0
noncomputable def twin1 (x : List Nat) : List Nat := outF x.toArray (at1 x.toArray) (fun _ => 1) [46, 46] x.length 0
noncomputable def quoteP (x : Str) : Str := ⟨(twin1 (twin2 x.cps.toList)).toArray⟩
theorem outF_len {T : Array Nat} {at' : Nat → Bool} {len : Nat → Nat} {r : List Nat} (hr : 1 ≤ r.length) : ∀ f p, (outF T at' len r f p).length ≤ r.length * f
  | 0, p => by simp [outF]
  | f + 1, p => by
    unfold outF
    rw [Nat.mul_succ]
    split
    · split
      · rw [List.length_append]
        have := outF_len hr f (p + len p) (T := T) (at' := at') (len := len)
        omega
      · have := outF_len hr f (p + 1) (T := T) (at' := at') (len := len)
        simp only [List.length_cons]
        omega
    · simp
local macro_rules | `(tactic| walk_at "ev") => `(tactic| first
  | exact Ev.int
  | exact Ev.str
  | exact Ev.bool
  | exact Ev.none_
  | (refine Ev.name ?_; rfl)
  )
theorem fn_quote {p : Program} {w : World} {n : Nat} (x : Str) (hx : x.cps.size ≤ 100000) : FnOk p w (n + 1) (.ref 62) [.str x] (.str (quoteP x)) := FnOk.of_body (atQuote _) rfl (by
  intro A s0 g0 L s g hA F Q E hQ
  have l2 : (twin2 x.cps.toList).length ≤ 200000 := by
    have := outF_len (T := x.cps.toList.toArray) (at' := at2 x.cps.toList.toArray) (len := len2 x.cps.toList.toArray) (r := [13, 10]) (by decide) x.cps.toList.length 0
    unfold twin2
    simp at this ⊢
    omega
  have l1 : (twin1 (twin2 x.cps.toList)).length ≤ 400000 := by
    have := outF_len (T := (twin2 x.cps.toList).toArray) (at' := at1 (twin2 x.cps.toList).toArray) (len := fun _ => 1) (r := [46, 46]) (by decide) (twin2 x.cps.toList).length 0
    unfold twin1
    simp at this ⊢
    omega
  refine F.ret (r := .str (quoteP x)) ?_ hQ
  refine Ev.conv (Ev.sub_ (x := ⟨(twin2 x.cps.toList).toArray⟩) (rp := ⟨#[46, 46]⟩) (pat1 _) (ok1 _ ?_) ?_ ?_ (by simp) (Ev.global ?_ (gl_twin_re_1 _)) ?_ (Ev.conv (Ev.sub_ (x := x) (rp := ⟨#[13, 10]⟩) (pat2 _) (ok2 _) ?_ ?_ (by simp) (Ev.global ?_ (gl_twin_re_2 _)) (Ev.global ?_ (gl_CRLF _)) ?_) ?_)) ?_
  · show (twin2 x.cps.toList).toArray.size ≤ _
    rw [List.size_toArray]; omega
  · show (twin2 x.cps.toList).toArray.size ≤ _
    rw [List.size_toArray]; omega
  · refine Nat.le_trans ?_ (Nat.le_trans l1 (by decide))
    unfold twin1
    simp
  · rfl
  · walk_at "ev"
  · omega
  · refine Nat.le_trans ?_ (Nat.le_trans l2 (by decide))
    unfold twin2
    simp
  · rfl
  · rfl
  · walk_at "ev"
  · unfold twin2
    simp
  · unfold quoteP twin1
    simp)
end Mine
end
section
set_option Elab.async false
set_option linter.unusedVariables false
set_option maxRecDepth 100000
set_option maxHeartbeats 2000000
namespace Mine
open PySem PySem.W PySem.Calls PyProof.Rows

section
variable {M : Model} {A : Around} {R : GenEnd} {Y : Protocol} {n : Nat} {s₀ : Shared} {c : Code} {fs : List Frame} {s : Shared} {env : Env}
  {K : Flow → Sem PySem.Fin} {H : Value → Sem PySem.Fin} {gd : Bool → Bool} {lv : List Value → List Value}

/-- a block of statements as a part of a generator's run -/
theorem sg_stmt {st : Stmt} {rest : List Stmt} (h : ∀ E, wpAny M (A.over c fs) (exec st env) (fun f s' => f = .next ∧ Seg M A R Y n s₀ c ((execs rest env).wrap K H gd lv) fs s') E s) :
    Seg M A R Y n s₀ c ((execs (st :: rest) env).wrap K H gd lv) fs s := by
  refine seg_execs_cons (seg_wrap (wpAny_mono (h _) (fun f s' h' => ?_) fun _ _ e => e))
  obtain ⟨rfl, h'⟩ := h'
  exact h'
theorem sg_if {test : Expr} {body orelse rest : List Stmt} {pos : Pos} {b : Bool} (h : ∀ E, wpAny M (A.over c fs) (isTrue test env (eval test env)) (fun b' s' => b' = b ∧
      Seg M A R Y n s₀ c ((execs (if b = true then body else orelse) env).wrap (fun f => match f with | .next => (execs rest env).wrap K H gd lv | f => K f) H gd lv) fs s') E s) :
    Seg M A R Y n s₀ c ((execs (.If test body orelse pos :: rest) env).wrap K H gd lv) fs s := by
  refine seg_execs_cons ?_
  rw [exec_If]
  refine seg_bind_wrap (wpAny_standAt (seg_bind_wrap (wpAny_mono (h _) (fun b' s' h' => ?_) fun _ _ e => e)))
  obtain ⟨rfl, h'⟩ := h'
  cases b'
  · exact h'
  · exact h'
noncomputable def backF (env : Env) (K : Flow → Sem PySem.Fin) (H : Value → Sem PySem.Fin) (gd : Bool → Bool) (lv : List Value → List Value) (r : Result) : Sem PySem.Fin :=
  ((match r with | .ok f => (.pure f : Sem Flow) | .error e => .raise e).onRaise fun (x : Value) => do
        if (← field x 1) == Value.none then unsupported "frame.own-activation:exception-without-traceback"
        setFlight x env.frame).wrap K H gd lv
theorem sg_for {target iter : Expr} {body rest : List Stmt} {pos : Pos} (h : ∀ E, wpAny M (A.over c fs) (eval iter env) (fun x s1 => wpAny M (A.over c fs) (pyIter x) (fun it s2 => ∀ p,
      Seg M A R Y n s₀ (.forLoop target it body [] env) (M.den (.forLoop target it body [] env)) (.ret (backF env (fun f => match f with | .next => (execs rest env).wrap K H gd lv | f => K f) H gd lv) none (gd false) (lv []) c p [] :: fs) s2) E s1) E s)
    (hs : ∀ x, foldedSetIterable iter env x = pure x := by intro _; rfl) :
    Seg M A R Y n s₀ c ((execs (.For target iter body [] pos :: rest) env).wrap K H gd lv) fs s := by
  refine seg_execs_cons ?_
  rw [exec_For]
  refine seg_bind_wrap (wpAny_standAt (seg_bind_wrap (wpAny_mono (h _) (fun x s1 h1 => ?_) fun _ _ e => e)))
  refine seg_bind_wrap (wpAny_of_eq (hs x) (seg_bind_wrap (wpAny_standAt (seg_bind_wrap (wpAny_holding (wpAny_mono h1 (fun it s2 h2 => ?_) fun _ _ e => e))))))
  exact seg_call h2
theorem sg_yield {e : Expr} {ypos pos : Pos} {rest : List Stmt} (hfs : splitAtGen fs = none) (hgd : gd false = false) (hfg : fs.any Frame.guarded = false)
    (h : ∀ E, wpAny M (A.over c fs) (eval e env) (fun v s' => Y n s₀ v s' fun r s'' => r = .send .none ∧ Seg M A R Y n s'' c ((execs rest env).wrap K H gd lv) fs s'') E s)
    (hY : ∀ m s₀ v s' (k k' : Resume → Shared → Prop), (∀ r s'', k r s'' → k' r s'') → Y m s₀ v s' k → Y m s₀ v s' k') (hco : env.scope.isCoroutine = false) (hi : interactive env = false) :
    Seg M A R Y (n + 1) s₀ c ((execs (.Expr (.Yield (some e) ypos) pos :: rest) env).wrap K H gd lv) fs s := by
  refine seg_execs_cons (seg_Expr_Yield hfs hgd hfg (wpAny_mono (h _) (fun v s' h' kap hk => ?_) fun _ _ e => e) hco hi)
  refine hY _ _ _ _ _ _ (fun r s'' hr => ?_) h'
  obtain ⟨rfl, hr⟩ := hr
  exact hk .none s'' hr
end
section
variable {prog : Program} {w : World} {A : Around} {R : GenEnd} {Y : Protocol} {n : Nat} {s₀ : Shared} {fs : List Frame} {s : Shared} {env : Env}
noncomputable def nextF (target : Expr) (it : Value) (body : List Stmt) (env : Env) (f : Flow) : Sem PySem.Fin := match f with
  | .next | .cont => .pure (.again (.forLoop target it body [] env))
  | .brk => .pure (.done .next)
  | .ret v => .pure (.done (.ret v))
noncomputable def errF (env : Env) (e : Value) : Sem PySem.Fin := (do noteFrame e env; theTreesLotGoes e : Sem Unit).wrap (fun _ => .raise e) .raise id id
theorem sg_turn {target : Expr} {it : Value} {body : List Stmt}
    (h : ∀ E, wpAny (model prog w) (A.over (.forLoop target it body [] env) fs) (pyNext it) (fun rv s1 => match rv with
      | none => Seg (model prog w) A R Y n s₀ (.block [] env) (.pure (.done .next)) fs s1
      | some v => wpAny (model prog w) (A.over (.forLoop target it body [] env) fs) (letOwnedTupleGo target it v) (fun _ s2 => wpAny (model prog w) (A.over (.forLoop target it body [] env) fs) (assign target env v) (fun _ s3 =>
          Seg (model prog w) A R Y n s₀ (.forLoop target it body [] env) ((execs body env).wrap (nextF target it body env) (errF env) id id) fs s3) E s2) E s1) E s) :
    Seg (model prog w) A R Y n s₀ (.forLoop target it body [] env) ((model prog w).den (.forLoop target it body [] env)) fs s := by
  show Seg _ A R Y n s₀ _ ((forTurn target it body [] env).onRaise (fun x => do noteFrame x env; theTreesLotGoes x)) fs s
  unfold forTurn
  rw [Sem.onRaise_eq_wrap]
  refine seg_bind_wrap (wpAny_standAt (seg_bind_wrap (wpAny_onRaise (wpAny_mono (h _) (fun rv s1 h1 => ?_) fun _ _ e => wpAny_standAt e))))
  cases rv with
  | none => exact seg_again rfl h1
  | some v =>
    refine seg_bind_wrap (wpAny_mono h1 (fun _ s2 h2 => seg_bind_wrap (wpAny_mono h2 (fun _ s3 h3 => ?_) fun _ _ e => e)) fun _ _ e => e)
    rw [Sem.bind_eq_wrap', Sem.wrap_wrap]
    rw [Sem.wrap_congr (execs body env) _ _ (K' := nextF target it body env) (H' := errF env) (fun f => by cases f <;> rfl)
        (fun e => by first | exact Sem.bind_eq_wrap _ _ | (show (do noteFrame e env; theTreesLotGoes e : Sem Unit).bind (fun _ => .raise e) = _; rw [Sem.bind_eq_wrap]; rfl))]
    exact h3
end
end Mine
end
section
set_option Elab.async false
set_option linter.unusedVariables false
set_option maxRecDepth 100000
set_option maxHeartbeats 2000000
namespace Mine
open PySem PySem.W PySem.Calls PyProof.Rows

noncomputable def enumS (x : Str) : List PV := enumP (chs x)
theorem It.enumS {p : Program} {w : World} {n : Nat} {g : View} {elts : List Expr} {k : Nat} {pos : Pos} {e it : Addr} {x : Str} {t : Tok} (hei : e ≠ it) :
    It p w n (.Tuple elts k pos) (.ref e) [e, it] [] (enumS x) g (fun i => enumO e it i :: strItO it x t i) where
  eA := fun i => rfl
  eG := fun i => rfl
  next := fun {A i r g' s Q E} hA hb hg hs ho hn hi hQ => by
    obtain ⟨o1, h1, old, rfl⟩ := ho _ List.mem_cons_self
    obtain ⟨o2, h2, h3, h4⟩ := ho _ (List.mem_cons_of_mem _ List.mem_cons_self)
    obtain ⟨u, hu, rfl⟩ := enumP_get hi
    unfold chs at hu
    rw [List.getElem?_map] at hu
    obtain ⟨cc, hc1, hc2⟩ := Option.map_eq_some_iff.mp hu
    subst hc2
    have hx : x.cps[i]? = some cc := by simpa using hc1
    have hlt : i < x.cps.size := by
      obtain ⟨q, _⟩ := Array.getElem?_eq_some_iff.mp hx
      exact q
    have fin : ∀ (y : Value) (h' : Heap) (tk : Tok), (∃ c t, x.cps[i]? = some c ∧ y = .str ⟨#[c]⟩ t) → IsEnumOut h' e it ((i : Int) + 1) y s.heap.objs.size → h'.IsStrIter it (strIterType x) x t (i + 1) →
        h'.get? s.heap.objs.size = some { cls := .type "tuple", data := .seq #[.int i tk, y] } → (∀ b o, b ≠ e → b ≠ it → s.heap.get? b = some o → h'.get? b = some o) →
        wpAny (model p w) A (letOwnedTupleGo (.Tuple elts k pos) (.ref e) (.ref s.heap.objs.size)) (fun _ s2 => Q (.ref s.heap.objs.size) s2) E { s with heap := h', toks := tk + 1 } := by
      rintro y h' tk ⟨c, tc, hc, rfl⟩ ho' hit' hT hk
      rw [hx] at hc
      cases hc
      refine ec_next (r := .str ⟨#[cc]⟩) hei rep_str ho' hT hk hs (fun h2 hk2 o ho' => ?_) ⟨hn _ List.mem_cons_self, hn _ (List.mem_cons_of_mem _ List.mem_cons_self)⟩ (Heap.lt_size h1) hQ
      rw [List.mem_singleton.mp ho']
      obtain ⟨o', q1, q2, q3⟩ := hit'
      exact ⟨o', hk2 _ _ hei.symm q1, q2, q3⟩
    cases hq : x.cps.all (· < 128) with
    | true =>
      have et : strIterType x = "str_ascii_iterator" := by unfold strIterType; rw [hq]; rfl
      rw [et] at h3 fin
      refine wpAny_pyNext_enum_itemD (i := i) (Draws.strAscii (A := A.in1) hA.handled it x t) h1 ⟨o2, h2, h3, h4⟩ hlt hei (by simp [hei]) fun y h' tk hP hO hS hT hsz hk => fin y h' tk hP hO hS hT hk
    | false =>
      have et : strIterType x = "str_iterator" := by unfold strIterType; rw [hq]; rfl
      rw [et] at h3 fin
      refine wpAny_pyNext_enum_itemD (i := i) (Draws.strWide (A := A.in1) hA.handled it x t) h1 ⟨o2, h2, h3, h4⟩ hlt hei (by simp [hei]) fun y h' tk hP hO hS hT hsz hk => fin y h' tk hP hO hS hT hk
  done := fun {A g' s Q E} hA hb hg hs ho hn hQ => by
    obtain ⟨o1, h1, old, rfl⟩ := ho _ List.mem_cons_self
    obtain ⟨o2, h2, h3, h4⟩ := ho _ (List.mem_cons_of_mem _ List.mem_cons_self)
    have hl : (Mine.enumS x).length = x.cps.size := by unfold Mine.enumS; rw [enumP_len]; simp [chs]
    rw [hl] at h1 h4
    have fin : ∀ h' : Heap, Heap.ExtBut it s.heap h' → Q { s with heap := h' } := fun h' he => hQ _ ⟨fun b o hb e => he b o (fun q => hb (by simp [q])) e, rfl, fun _ _ _ e => e, id⟩
    cases hq : x.cps.all (· < 128) with
    | true =>
      have et : strIterType x = "str_ascii_iterator" := by unfold strIterType; rw [hq]; rfl
      rw [et] at h3
      exact wpAny_pyNext_enum_endD (Draws.strAscii (A := A.in1) hA.handled it x t) h1 ⟨o2, h2, h3, h4⟩ fin
    | false =>
      have et : strIterType x = "str_iterator" := by unfold strIterType; rw [hq]; rfl
      rw [et] at h3
      exact wpAny_pyNext_enum_endD (Draws.strWide (A := A.in1) hA.handled it x t) h1 ⟨o2, h2, h3, h4⟩ fin
  self := fun {A g' s Q E} ho hQ => by
    obtain ⟨o1, h1, old, rfl⟩ := ho _ List.mem_cons_self
    exact wpAny_pyIter_enum (i := (0 : Nat)) h1 hQ
end Mine
end
section
set_option Elab.async false
set_option linter.unusedVariables false
set_option maxRecDepth 100000
set_option maxHeartbeats 2000000
namespace Mine
open PySem PySem.W PySem.Calls PyProof.Rows

section
variable {prog : Program} {w : World} {A : Around} {E : Value → Shared → Prop} {s : Shared}
/-- the end of a text's iterator, which lives on -/
theorem str_end {it : Addr} {x : Str} {t : Tok} {i : Nat} {Q : Value → Shared → Prop} (hh : A.handled = none) (hit : s.heap.IsStrIter it (strIterType x) x t i) (hx : x.cps[i]? = none)
    (hE : ∀ h' e, Heap.ExtBut it s.heap h' → (∃ o, h'.get? it = some o) → (∃ o, h'.get? e = some o ∧ o.cls = .type "StopIteration") → E (.ref e) { s with heap := h' }) :
    wpAny (model prog w) A (Builtin.SmallTypes.nextOf (.ref it)) Q E s := by
  obtain ⟨o, ho, hc, hd⟩ := id hit
  have rest : ∀ {A' : Around} {Q' : PySem.Fin → Shared → Prop}, A'.handled = none → wpAny (model prog w) A' (newExc (.type "StopIteration") [] >>= fun y => raiseNew y) Q' E { s with heap := s.heap.update it (Obj.mapFields fun vs => vs.setIfInBounds 0 .none) } := by
    intro A' Q' hA'
    refine wpAny_bind ?_
    simp only [newExc, newTuple]
    refine wpAny_bind (wpAny_newObj_type ?_ (by size_fits))
    refine wpAny_bind (m := firstArgMember _ _) (wpAny_of_eq (a := Value.none) (by first | rfl | (simp only [firstArgMember]; rfl)) ?_)
    refine wpAny_newObj_type ?_ (by size_fits)
    simp only [raiseNew]
    refine wpAny_bind (wpAny_handled ?_)
    rw [hA']
    refine wpAny_bind (wpAny_pure (wpAny_throw ?_))
    have hl : (s.heap.update it (Obj.mapFields fun vs => vs.setIfInBounds 0 .none)).get? it = _ := Heap.get?_update_self _ ho (Obj.isFreed_of_fields (Obj.data_mapFields hd _))
    exact hE _ _ (((Heap.SameBut.update ..).extBut.push _).push _) ⟨_, Heap.get?_push_of_some _ (Heap.get?_push_of_some _ hl)⟩ ⟨_, Heap.get?_push_size _ rfl, rfl⟩
  cases hq : x.cps.all (· < 128) with
  | true =>
    have et : strIterType x = "str_ascii_iterator" := by unfold strIterType; rw [hq]; rfl
    rw [et] at hit
    unfold Builtin.SmallTypes.nextOf
    refine wpAny_bind (wpAny_callSpecial?_slot (name := Str.ofString "__next__") hit.typeIs PySem.F.slot_str_ascii_iterator_next
      (wpAny_call_entry PySem.F.slot_str_ascii_iterator_next hit.typeIs PySem.F.entry_str_ascii_iterator_next ?_ (PySem.F.args_str_ascii_iterator_next_1 _)))
    show wpAny _ _ (field (.ref it) 0 >>= _) _ _ s
    refine wpAny_bind (wpAny_field ho hd (x := .str x t) rfl ?_)
    show wpAny _ _ (field (.ref it) 1 >>= _) _ _ s
    refine wpAny_bind (wpAny_field ho hd (x := .int i 0) rfl ?_)
    simp only [Int.toNat_natCast, hx]
    refine wpAny_bind (wpAny_rule (wpAny_bind (wpAny_setField ho hd (by simp) (wpAny_bind (wpAny_letGo ?_)))))
    exact rest hh
  | false =>
    have et : strIterType x = "str_iterator" := by unfold strIterType; rw [hq]; rfl
    rw [et] at hit
    unfold Builtin.SmallTypes.nextOf
    refine wpAny_bind (wpAny_callSpecial?_slot (name := Str.ofString "__next__") hit.typeIs PySem.F.slot_str_iterator_next
      (wpAny_call_entry PySem.F.slot_str_iterator_next hit.typeIs PySem.F.entry_str_iterator_next ?_ (PySem.F.args_str_iterator_next_1 _)))
    show wpAny _ _ (field (.ref it) 0 >>= _) _ _ s
    refine wpAny_bind (wpAny_field ho hd (x := .str x t) rfl ?_)
    show wpAny _ _ (field (.ref it) 1 >>= _) _ _ s
    refine wpAny_bind (wpAny_field ho hd (x := .int i 0) rfl ?_)
    simp only [Int.toNat_natCast, hx]
    refine wpAny_bind (wpAny_rule (wpAny_bind (wpAny_setField ho hd (by simp) (wpAny_bind (wpAny_letGo ?_)))))
    exact rest hh
theorem enum_end {e it : Addr} {x : Str} {t : Tok} {i : Nat} {j : Int} {old : Value} {Q : Option Value → Shared → Prop} (hh : A.handled = none) (he : IsEnum s.heap e it j old) (hit : s.heap.IsStrIter it (strIterType x) x t i) (hx : x.cps[i]? = none)
    (hQ : ∀ h', Heap.ExtBut it s.heap h' → (∃ o, h'.get? it = some o) → Q none { s with heap := h' }) : wpAny (model prog w) A (pyNext (.ref e)) Q E s := by
  have hT : s.TypeIs (.ref e) "enumerate" := ⟨_, he, rfl⟩
  unfold pyNext
  refine wpAny_bind (wpAny_attempt (wpAny_callSpecial?_slot (name := Str.ofString "__next__") hT PySem.F.slot_enumerate_next
    (wpAny_call_entry PySem.F.slot_enumerate_next hT PySem.F.entry_enumerate_next ?_ (PySem.F.args_enumerate_next_1 _))))
  show wpAny _ _ (field (.ref e) 2 >>= _) _ _ _
  refine wpAny_bind (wpAny_field he rfl (x := .ref it) rfl ?_)
  refine wpAny_bind (str_end hh hit hx fun h' y he' hl hy => ?_)
  obtain ⟨o, ho, hc⟩ := hy
  refine wpAny_bind (wpAny_isInstance (T := "StopIteration") (b := true) ⟨o, ho, hc⟩ isSubtype_stop ?_)
  exact wpAny_pure (hQ _ he' hl)
end
end Mine
end
section
set_option Elab.async false
set_option linter.unusedVariables false
set_option maxRecDepth 100000
set_option maxHeartbeats 2000000
namespace Mine
open PySem PySem.W PySem.Calls PyProof.Rows

noncomputable def hid1 (h : Heap) (a : Addr) : Heap := h.update a fun _ => ⟨.none, none, .freed, #[]⟩
noncomputable def hid (as : List Addr) (h : Heap) : Heap := as.foldl hid1 h
theorem hid1_get (h : Heap) (a b : Addr) : (hid1 h a).get? b = if b = a then none else h.get? b := by
  obtain ⟨objs, life⟩ := h
  show (match (objs.modify a _)[b]? with | some ⟨_, _, .freed, _⟩ => none | o => o) = if b = a then none else (match objs[b]? with | some ⟨_, _, .freed, _⟩ => none | o => o)
  rw [Array.getElem?_modify]
  by_cases hb : a = b
  · rw [if_pos hb, if_pos hb.symm]
    cases objs[b]? <;> rfl
  · rw [if_neg hb, if_neg (fun q => hb q.symm)]
theorem hid_get : ∀ (as : List Addr) (h : Heap) (b : Addr), (hid as h).get? b = if b ∈ as then none else h.get? b
  | [], h, b => by simp [hid]
  | a :: as, h, b => by
    show (hid as (hid1 h a)).get? b = _
    rw [hid_get as, hid1_get]
    by_cases h1 : b ∈ as
    · simp [h1]
    · by_cases h2 : b = a
      · simp [h2]
      · simp [h1, h2]
theorem hid_sub {as : List Addr} {h : Heap} {b : Addr} {o : Obj} (e : (hid as h).get? b = some o) : h.get? b = some o := by
  rw [hid_get] at e
  split at e
  · cases e
  · exact e
theorem hid_keep {as : List Addr} {h : Heap} {b : Addr} {o : Obj} (hb : b ∉ as) (e : h.get? b = some o) : (hid as h).get? b = some o := by
  rw [hid_get, if_neg hb]; exact e
theorem hid_none {as : List Addr} {h : Heap} {a : Addr} (ha : a ∈ as) : (hid as h).get? a = none := by
  rw [hid_get, if_pos ha]

/-- signs, with what is escaped taken together -/
noncomputable def escP : Nat → Bool → List Nat → List (Nat × Str)
  | i, esc, [] => if esc = true then [(i - 1, ⟨#[92]⟩)] else []
  | i, esc, c :: r => if esc = true then (i, (⟨#[92]⟩ : Str) ++ ⟨#[c]⟩) :: escP (i + 1) false r else if (c == 92) = true then escP (i + 1) true r else (i, ⟨#[c]⟩) :: escP (i + 1) false r
noncomputable def mkE (y : Nat × Str) : PV := .tup [.int y.1, .str y.2]
noncomputable abbrev emptyV : View := fun _ => none
noncomputable abbrev cG (w : World) (L : Addr) (as : List Addr) (s₀ : Shared) : Cx := fnCx w fdIter 38 { s₀ with heap := hid as s₀.heap } emptyV L
noncomputable abbrev envG (L : Addr) : Env := callEnvC fdIter L 38
noncomputable def bodyG : List Stmt := bodyOf fdIter

theorem envG_ok (L : Addr) : EnvOk (envG L) := ⟨rfl, rfl, rfl⟩
theorem cellsG (L : Addr) : cellsFrom (L + 1) fdIter.scope.names [] = [] := by kernel_rfl!
theorem envG_cells (L : Addr) : (envG L).cells = [] := cellsG L

structure NamesAt (h : Heap) (L : Addr) (l : List (Str × PV)) : Prop where
  ns : ∃ m, h.Ns L m
  loc : ∀ x p, l.lookup x = some p → Flat p ∧ ∃ v, ReadsAs h (envG L) x v ∧ Rep emptyV p v
theorem NamesAt.at {h h' : Heap} {L : Addr} {l : List (Str × PV)} (x : NamesAt h L l) (k : ∀ o, h.get? L = some o → h'.get? L = some o) : NamesAt h' L l where
  ns := let ⟨m, hm⟩ := x.ns; ⟨m, hm.at' k⟩
  loc := fun y p e => by
    obtain ⟨f, v, h1, h2⟩ := x.loc y p e
    refine ⟨f, v, ?_, h2⟩
    rcases h1 with ⟨a, m, hm, b⟩ | ⟨a, b, c, o, h3, h4⟩
    · exact .inl ⟨a, m, hm.at' k, b⟩
    · rw [envG_cells] at h3; cases h3
/-- what the generator owns: its names, the enumeration, the signs' iterator -/
structure GenSt (P : Params) (L e it : Addr) : Prop where
  hL : (H12 P).get? L = none
  he : (H12 P).get? e = none
  hi : (H12 P).get? it = none
  Le : L ≠ e
  Li : L ≠ it
  ei : e ≠ it
section
variable {w : World} {L e it : Addr} {x : Str} {t : Tok} {l : List (Str × PV)}
theorem GenSt.cx (G : GenSt w.params L e it) {s₀ : Shared} (hb : Keeps0 w.params s₀.heap) : CxOk (cG w L [L, e, it] s₀) where
  ok := envG_ok L
  base := fun b o q => hid_keep (fun hm => by
    simp only [List.mem_cons, List.not_mem_nil, or_false] at hm
    rcases hm with rfl | rfl | rfl
    · rw [G.hL] at q; cases q
    · rw [G.he] at q; cases q
    · rw [G.hi] at q; cases q) (hb b o q)
  sub := fun b o q => by cases q
  frL := hid_none List.mem_cons_self
  frC := fun y a h => by rw [show (cG w L [L, e, it] s₀).cs = [] from cellsG L] at h; cases h
  inj := fun y z a h => by rw [show (cG w L [L, e, it] s₀).env.cells = [] from cellsG L] at h; cases h
  cl := fun y a h => by rw [show (cG w L [L, e, it] s₀).env.cells = [] from cellsG L] at h; cases h
theorem GenSt.fr (G : GenSt w.params L e it) {s₀ : Shared} {own : List Own} (hb : Keeps0 w.params s₀.heap) (N : NamesAt s₀.heap L l) (ho : ∀ o ∈ own, o.Holds emptyV s₀) (hA : adrs own = [] ∨ adrs own = [e, it]) (hG : gixs own = []) :
    Fr (cG w L [L, e, it] s₀) own l emptyV s₀ := by
  have hin : ∀ a ∈ adrs own, a ∈ [L, e, it] ∧ a ≠ L := by
    intro a ha
    rcases hA with q | q
    · rw [q] at ha; cases ha
    · rw [q] at ha
      simp only [List.mem_cons, List.not_mem_nil, or_false] at ha
      rcases ha with z | z
      · subst z; exact ⟨by simp, G.Le.symm⟩
      · subst z; exact ⟨by simp, G.Li.symm⟩
  have hnd : (adrs own).Nodup := by
    rcases hA with q | q
    · rw [q]; exact List.nodup_nil
    · rw [q]; simp [G.ei]
  have hcs : (cG w L [L, e, it] s₀).cs = [] := cellsG L
  exact {
    cx := G.cx hb
    loc := fun y p q => (N.loc y p q).2
    gr := ⟨fun b o q => hid_sub q, rfl, fun _ _ q => q, id⟩
    le := fun b o q => by cases q
    ns := N.ns
    cell := fun y a h => by rw [hcs] at h; cases h
    gL := rfl
    gC := fun y a h => rfl
    hold := ⟨ho, fun a ha => ⟨hid_none (hin a ha).1, rfl⟩, fun i hi => (by rw [hG] at hi; cases hi), hnd, (by rw [hG]; exact List.nodup_nil)⟩
    apart := fun a ha => ⟨(hin a ha).2, fun y b h => by rw [hcs] at h; cases h⟩ }
end
end Mine
end
section
set_option Elab.async false
set_option linter.unusedVariables false
set_option maxRecDepth 100000
set_option maxHeartbeats 4000000
namespace Mine
open PySem PySem.W PySem.Calls PyProof.Rows
local macro_rules | `(tactic| walk_at "ev") => `(tactic| first
  | exact Ev.int
  | exact Ev.str
  | exact Ev.bool
  | exact Ev.none_
  | (refine Ev.name ?_; rfl)
  | (refine Ev.tuple ?_ ?_ <;> first | walk_at "ev" | decide | skip)
  | exact Evs.nil
  | (refine Evs.cons ?_ ?_ <;> first | walk_at "ev" | skip)
  )
noncomputable abbrev RG (L e it : Addr) : GenEnd := fun n s₀ r s' => r = .ok (.ret .none) ∧ (n = 0 ∧ Chg [L, e, it] [] s₀ s')
noncomputable def YG (P : Params) (L e it : Addr) (IT : List (Nat × Str)) : Protocol := fun m s₀ v s' kap =>
  (∃ r g3, IT[IT.length - 1 - m]? = some r ∧ Rep g3 (mkE r) v ∧ ∀ b o, g3 b = some o → s₀.heap.get? b = none ∧ s'.heap.get? b = some o ∧ b ∉ [L, e, it]) ∧
  Chg [L, e, it] [] s₀ s' ∧ (∀ a ∈ [L, e, it], ∃ o, s'.heap.get? a = some o) ∧
  ∀ s'' : Shared, Keeps0 P s''.heap → (∀ a ∈ [L, e, it], ∀ o, s'.heap.get? a = some o → s''.heap.get? a = some o) → kap (.send .none) s''
noncomputable abbrev ownG (e it : Addr) (x : Str) (t : Tok) (j : Nat) : List Own := enumO e it j :: strItO it x t j
noncomputable def FlatL (l : List (Str × PV)) : Prop := ∀ x p, l.lookup x = some p → Flat p
theorem FlatL.cons {l : List (Str × PV)} {x : Str} {p : PV} (h : FlatL l) (hp : Flat p) : FlatL ((x, p) :: l) := fun y q e => by
  rw [List.lookup_cons] at e
  cases z : y == x with
  | true => rw [z] at e; cases e; exact hp
  | false => rw [z] at e; exact h y q e
theorem FlatL.nil : FlatL [] := fun y q e => by cases e
section
variable {p : Program} {w : World} {A : Around} {n : Nat} {s₀ s : Shared} {L e it : Addr} {x : Str} {t : Tok} {j : Nat} {l l' : List (Str × PV)} {g : View} {IT : List (Nat × Str)}
theorem fr_chg (G : GenSt w.params L e it) {own : List Own} (F : Fr (cG w L [L, e, it] s₀) own l g s) : Chg [L, e, it] [] s₀ s :=
  ⟨fun b o hb q => F.gr.keep b o (hid_keep hb q), F.gr.os, fun i y _ q => F.gr.gens i y q, F.gr.bare⟩
theorem fr_names {own : List Own} (F : Fr (cG w L [L, e, it] s₀) own l g s) (fl : FlatL l) : NamesAt s.heap L l :=
  ⟨F.ns, fun y q hq => let ⟨v, h1, h2⟩ := F.loc y q hq; ⟨fl y q hq, v, h1, fl y q hq _ _ _ h2⟩⟩
noncomputable def IsOwn (own : List Own) (e it : Addr) : Prop := adrs own = [e, it] ∧ gixs own = [] ∧ ∀ o ∈ own, ∃ a φ, o = .is a φ
theorem isOwn_G : IsOwn (ownG e it x t j) e it := ⟨rfl, rfl, fun o ho => by
  rcases List.mem_cons.mp ho with rfl | ho
  · exact ⟨_, _, rfl⟩
  · rw [List.mem_singleton.mp ho]; exact ⟨_, _, rfl⟩⟩
noncomputable abbrev ownD (e it : Addr) : List Own := [.is e fun _ => True, .is it fun _ => True]
theorem isOwn_D : IsOwn (ownD e it) e it := ⟨rfl, rfl, fun o ho => by
  simp only [List.mem_cons, List.not_mem_nil, or_false] at ho
  rcases ho with rfl | rfl <;> exact ⟨_, _, rfl⟩⟩
theorem own_at {own : List Own} (hO : IsOwn own e it) {s' s'' : Shared} {g' : View} (h : ∀ o ∈ own, o.Holds g' s') (k : ∀ a ∈ [L, e, it], ∀ o, s'.heap.get? a = some o → s''.heap.get? a = some o) : ∀ o ∈ own, o.Holds emptyV s'' := by
  intro o ho
  have := h o ho
  obtain ⟨a, φ, rfl⟩ := hO.2.2 o ho
  obtain ⟨y, h1, h2⟩ := this
  have hm : a ∈ adrs own := List.mem_filterMap.mpr ⟨_, ho, rfl⟩
  rw [hO.1] at hm
  exact ⟨y, k _ (List.mem_cons_of_mem _ hm) _ h1, h2⟩
theorem sgy {c : Code} {fs : List Frame} {K : Flow → Sem PySem.Fin} {H : Value → Sem PySem.Fin} {gd : Bool → Bool} {lv : List Value → List Value} {rest : List Stmt} {ex : Expr} {ypos pos : Pos} {r : Nat × Str} {own : List Own}
    (G : GenSt w.params L e it) (hO : IsOwn own e it) (F : Fr (cG w L [L, e, it] s₀) own l g s) (fl : FlatL l) (hfs : splitAtGen fs = none) (hgd : gd false = false) (hfg : fs.any Frame.guarded = false)
    (he : Ev p w (A.over c fs) (envG L) l g ex (mkE r)) (hr : IT[IT.length - 1 - n]? = some r)
    (next : ∀ s'' : Shared, Keeps0 w.params s''.heap → NamesAt s''.heap L l → (∀ o ∈ own, o.Holds emptyV s'') → Seg (model p w) A (RG L e it) (YG w.params L e it IT) n s'' c ((execs rest (envG L)).wrap K H gd lv) fs s'') :
    Seg (model p w) A (RG L e it) (YG w.params L e it IT) (n + 1) s₀ c ((execs (.Expr (.Yield (some ex) ypos) pos :: rest) (envG L)).wrap K H gd lv) fs s := by
  refine sg_yield hfs hgd hfg (fun E => he.run s F.pre _ _ fun v s' k r1 => ?_) (fun m s0 v s' k k' hk hy => ?_) rfl rfl
  · have F' := F.step k
    have hown : ∀ a, a = e ∨ a = it → a ∈ adrs own := fun a ha => by
      rw [hO.1]
      rcases ha with rfl | rfl <;> simp
    refine ⟨⟨r, _, hr, r1, fun b o hb => ?_⟩, fr_chg G F', fun a ha => ?_, fun s'' hb ha => ⟨rfl, next s'' hb ((fr_names F' fl).at fun o q => ha L (by simp) o q) (own_at hO F'.hold.holds ha)⟩⟩
    · have hnot : b ∉ [L, e, it] := fun hm => by
        simp only [List.mem_cons, List.not_mem_nil, or_false] at hm
        rcases hm with hm | hm
        · rw [hm] at hb; have := F'.gL.symm.trans hb; cases this
        · rw [(F'.hold.ownA b (hown b hm)).2] at hb; cases hb
      have hle := F'.le b o hb
      unfold nv at hle
      dsimp only at hle
      refine ⟨?_, F'.sub b o hb, hnot⟩
      cases z : s₀.heap.get? b with
      | none => rfl
      | some y =>
        rw [hid_keep hnot z] at hle
        cases hle
    · simp only [List.mem_cons, List.not_mem_nil, or_false] at ha
      rcases ha with rfl | ha
      · obtain ⟨m, o, _, _, ho, _⟩ := F'.ns; exact ⟨o, ho⟩
      · obtain ⟨o, ho, ea⟩ := List.mem_filterMap.mp (hown a ha)
        exact (F'.hold.holds o ho).live ea
  · exact ⟨hy.1, hy.2.1, hy.2.2.1, fun s'' a b => hk _ _ (hy.2.2.2 s'' a b)⟩

noncomputable def genBody : List Stmt := forBody (bodyG.getD 2 (.Pass zp))
noncomputable def genTail : List Stmt := bodyG.drop 3
noncomputable def K0 (f : Flow) : Sem PySem.Fin := .pure (.done (.ret (match f with | .ret v => v | _ => .none)))
noncomputable def H0' (L : Addr) (e : Value) : Sem PySem.Fin := (leaving (envG L) e).wrap (fun _ => .raise e) .raise id id
noncomputable def frG (L : Addr) (pp : Pos) : Frame := .ret (backF (envG L) (fun f => match f with | .next => (execs genTail (envG L)).wrap K0 (H0' L) id id | f => K0 f) (H0' L) id id) none false [] (.func bodyG (envG L)) pp []
theorem aok_func {m : Nat} (hA : AOk (m + 2) A) : AOk m (A.over (.func bodyG (envG L)) []) := ⟨hA.handled, by have := hA.depth; show A.depth + 0 + 1 + m ≤ 900; omega, by have := hA.units; show A.units + 0 + 3 + 10 * m ≤ 9000; omega⟩
theorem aok_loop {m : Nat} (hA : AOk (m + 2) A) {tg : Expr} {iv : Value} {bd : List Stmt} {pp : Pos} : AOk m (A.over (.forLoop tg iv bd [] (envG L)) [frG L pp]) := ⟨hA.handled, by have := hA.depth; show A.depth + 1 + 0 + m ≤ 900; omega, by have := hA.units; show A.units + 3 + 0 + 10 * m ≤ 9000; omega⟩
theorem aok_block {m : Nat} (hA : AOk (m + 2) A) : AOk m (A.over (.func bodyG (envG L)) []) := aok_func hA

/-- behind the loop -/
theorem sg_tail (G : GenSt w.params L e it) (hA : AOk 4 A) {own : List Own} (hO : IsOwn own e it) {esc : Bool} {pv : Int} {pp : Pos} (F : Fr (cG w L [L, e, it] s₀) own l g s) (fl : FlatL l) (hl1 : l.lookup ("escape" : Str) = some (.bool esc)) (hl2 : l.lookup ("pos" : Str) = some (.int pv))
    (hn : n = if esc = true then 1 else 0) (hr : esc = true → ∃ i : Nat, pv = i ∧ IT[IT.length - 1]? = some (i, ⟨#[92]⟩)) :
    Seg (model p w) A (RG L e it) (YG w.params L e it IT) n s₀ (.func bodyG (envG L)) ((execs genTail (envG L)).wrap K0 (H0' L) id id) [] s := by
  have fin : ∀ (s₁ s2 : Shared), Chg [L, e, it] [] s₁ s2 → Seg (model p w) A (RG L e it) (YG w.params L e it IT) 0 s₁ (.func bodyG (envG L)) (K0 .next) [] s2 := fun s₁ s2 k => seg_end (.ok (.ret .none)) ⟨rfl, rfl, k⟩
  refine sg_if (b := esc) fun E => ?_
  refine (EvB.name hl1).run s F.pre _ _ fun s' k => ⟨rfl, ?_⟩
  have F' := F.step k
  cases esc with
  | false =>
    subst hn
    exact fin _ _ (fr_chg G F')
  | true =>
    subst hn
    obtain ⟨i, rfl, hr'⟩ := hr rfl
    refine sgy (r := (i, ⟨#[92]⟩)) G hO F' fl rfl rfl rfl ?_ hr' fun s'' hb N ho => ?_
    · refine Ev.tuple (Evs.cons ?_ (Evs.cons ?_ Evs.nil)) (by simp)
      · exact Ev.name hl2
      · exact Ev.str
    · exact fin _ _ ⟨fun _ _ _ e => e, rfl, fun _ _ _ e => e, id⟩
end
end Mine
end
section
set_option Elab.async false
set_option linter.unusedVariables false
set_option maxRecDepth 100000
set_option maxHeartbeats 4000000
namespace Mine
open PySem PySem.W PySem.Calls PyProof.Rows
noncomputable def forTgt : Stmt → Expr
  | .For t _ _ _ _ => t
  | _ => .Name "" zp
noncomputable def genTgt : Expr := forTgt (bodyG.getD 2 (.Pass zp))
theorem str1_eq (c d : Nat) : ((⟨#[c]⟩ : Str) == ⟨#[d]⟩) = (c == d) := by
  by_cases h : c = d
  · subst h; simp
  · have h1 : ((⟨#[c]⟩ : Str) == ⟨#[d]⟩) = false := beq_eq_false_iff_ne.mpr fun q => h (by injection q with q; simpa using q)
    have h2 : (c == d) = false := beq_eq_false_iff_ne.mpr h
    rw [h1, h2]
theorem enumS_get {x : Str} {j : Nat} (h : j < x.cps.size) : (enumS x)[j]? = some (.tup [.int j, .str ⟨#[x.cps[j]]⟩]) := by
  unfold enumS enumP chs
  rw [List.getElem?_map, List.getElem?_zipIdx, List.getElem?_map, List.getElem?_eq_getElem (by simpa using h)]
  simp
theorem emptyV_le (g : View) : View.Le emptyV g := fun b o q => by cases q
section
variable {p : Program} {w : World} {A : Around} {L e it : Addr} {x : Str} {t : Tok} {IT : List (Nat × Str)}
theorem sg_loop (G : GenSt w.params L e it) (hA : AOk 4 A) (hx : x.cps.size ≤ 1000000) (pp : Pos) : ∀ (k j : Nat) (esc : Bool) (s₀ s : Shared) (g : View) (l : List (Str × PV)) (n : Nat) (pv : Int), j + k = x.cps.size →
    n = (escP j esc (x.cps.toList.drop j)).length → (∃ pre, IT = pre ++ escP j esc (x.cps.toList.drop j)) → l.lookup ("escape" : Str) = some (.bool esc) → l.lookup ("pos" : Str) = some (.int pv) → (esc = true → pv = ((j - 1 : Nat) : Int)) → FlatL l →
    Fr (cG w L [L, e, it] s₀) (ownG e it x t j) l g s →
    Seg (model p w) A (RG L e it) (YG w.params L e it IT) n s₀ (.forLoop genTgt (.ref e) genBody [] (envG L)) ((model p w).den (.forLoop genTgt (.ref e) genBody [] (envG L))) [frG L pp] s := by
  intro k
  induction k with
  | zero =>
    intro j esc s₀ s g l n pv hj hn hIT hl1 hl2 hpv fl F
    have hd : x.cps.toList.drop j = [] := by rw [List.drop_eq_nil_iff]; simp; omega
    rw [hd] at hn hIT
    refine sg_turn fun E => ?_
    obtain ⟨o1, h1, old, rfl⟩ := F.hold.holds (enumO e it j) List.mem_cons_self
    obtain ⟨o2, h2, h3, h4⟩ := F.hold.holds _ (List.mem_cons_of_mem _ List.mem_cons_self)
    refine enum_end (i := j) (aok_loop (m := 2) hA).handled h1 ⟨o2, h2, h3, h4⟩ (by simp; omega) fun h' hext hlive => ?_
    have kc : Chg [e, it] [] s { s with heap := h' } := ⟨fun b o hb q => hext b o (fun z => hb (by simp [z])) q, rfl, fun _ _ _ q => q, id⟩
    have F' : Fr (cG w L [L, e, it] s₀) ([] ++ ownD e it) l (nv g s.heap h') { s with heap := h' } := by
      refine Fr.chg (own := []) (O := ownG e it x t j) (O' := ownD e it) F kc rfl rfl fun o ho => ?_
      simp only [List.mem_cons, List.not_mem_nil, or_false] at ho
      rcases ho with rfl | rfl
      · exact ⟨_, hext _ _ G.ei h1, trivial⟩
      · obtain ⟨y, hy⟩ := hlive; exact ⟨y, hy, trivial⟩
    show Seg _ _ _ _ _ _ _ (leafOf (.ok .next)) [frG L pp] _
    refine seg_leaf _ ?_
    refine sg_tail (pp := pp) G hA isOwn_D F' fl hl1 hl2 ?_ ?_
    · rw [hn]
      unfold escP
      cases esc <;> rfl
    · intro he
      subst he
      obtain ⟨pre, rfl⟩ := hIT
      refine ⟨j - 1, hpv rfl, ?_⟩
      have e1 : escP j true [] = [(j - 1, ⟨#[92]⟩)] := rfl
      rw [e1]
      simp
  | succ k ih =>
    intro j esc s₀ s g l n pv hj hn hIT hl1 hl2 hpv fl F
    have hlt : j < x.cps.size := by omega
    have hd : x.cps.toList.drop j = x.cps[j] :: x.cps.toList.drop (j + 1) := by
      rw [List.drop_eq_getElem_cons (by simpa using hlt)]
      simp
    have hget := enumS_get hlt
    rw [hd] at hn hIT
    generalize hc : x.cps[j] = c at *
    refine sg_turn fun E => ?_
    have I : It p w 2 genTgt (.ref e) [e, it] [] (enumS x) emptyV (ownG e it x t) := It.enumS G.ei
    refine wpAny_mono (I.takeF (c := cG w L [L, e, it] s₀) (A := A.over (.forLoop genTgt (.ref e) genBody [] (envG L)) [frG L pp]) (own := []) (l := l) (g' := g) (s := s) (E := E) (Q := fun v s2 => wpAny (model p w) (A.over (.forLoop genTgt (.ref e) genBody [] (envG L)) [frG L pp]) (PySem.assign genTgt (envG L) v) (fun _ s3 =>
          Seg (model p w) A (RG L e it) (YG w.params L e it IT) n s₀ (.forLoop genTgt (.ref e) genBody [] (envG L)) ((execs genBody (envG L)).wrap (nextF genTgt (.ref e) genBody (envG L)) (errF (envG L)) id id) [frG L pp] s3) E s2) (aok_loop (m := 2) hA) F (emptyV_le _) hget fun v g2 s1 lg F1 hv => ?_) (fun rv s1 h => ?_) fun _ _ q => q
    · refine F1.asg (aok_loop (m := 2) (pp := pp) hA).handled (Binds.tup2 (.inl ?_) (.inl ?_)) hv fun s2 F2 => ?_
      · rfl
      · rfl
      have fl2 : FlatL ([(("ch" : Str), PV.str ⟨#[c]⟩), (("pos" : Str), PV.int (j : Int))] ++ l) := (fl.cons Flat.int).cons Flat.str
      have hl1' : ([(("ch" : Str), PV.str ⟨#[c]⟩), (("pos" : Str), PV.int (j : Int))] ++ l).lookup ("escape" : Str) = some (.bool esc) := hl1
      -- on with the loop
      have again : ∀ (esc' : Bool) (s₁ s3 : Shared) (g3 : View) (l3 : List (Str × PV)) (n3 : Nat), Fr (cG w L [L, e, it] s₁) (ownG e it x t (j + 1)) l3 g3 s3 → FlatL l3 → l3.lookup ("escape" : Str) = some (.bool esc') → l3.lookup ("pos" : Str) = some (.int (j : Int)) →
          n3 = (escP (j + 1) esc' (x.cps.toList.drop (j + 1))).length → (∃ pre, IT = pre ++ escP (j + 1) esc' (x.cps.toList.drop (j + 1))) →
          Seg (model p w) A (RG L e it) (YG w.params L e it IT) n3 s₁ (.forLoop genTgt (.ref e) genBody [] (envG L)) (nextF genTgt (.ref e) genBody (envG L) .next) [frG L pp] s3 := fun esc' s₁ s3 g3 l3 n3 F3 fl3 h1 h2 h3 h4 =>
        seg_again rfl (ih (j + 1) esc' s₁ s3 g3 l3 n3 j (by omega) h3 h4 h1 h2 (fun _ => by simp) fl3 F3)
      refine sg_if (b := esc) fun E => ?_
      refine (EvB.name hl1').run s2 F2.pre _ _ fun s3 k3 => ⟨rfl, ?_⟩
      have F3 := F2.step k3
      cases esc with
      | true =>
        have e1 : escP j true (c :: x.cps.toList.drop (j + 1)) = (j, (⟨#[92]⟩ : Str) ++ ⟨#[c]⟩) :: escP (j + 1) false (x.cps.toList.drop (j + 1)) := rfl
        rw [e1] at hn hIT
        obtain ⟨pre, hpre⟩ := hIT
        rw [List.length_cons] at hn
        subst hn
        refine sgy (r := (j, (⟨#[92]⟩ : Str) ++ ⟨#[c]⟩)) G isOwn_G F3 fl2 rfl rfl rfl ?_ ?_ fun s'' hb N ho => ?_
        · refine Ev.tuple (Evs.cons ?_ (Evs.cons ?_ Evs.nil)) (by simp)
          · refine Ev.name ?_
            rfl
          · refine Ev.addS ?_ ?_ (by unfold sizeLine; simp [Str.length])
            · exact Ev.str
            · refine Ev.name ?_
              rfl
        · rw [hpre]; simp
        · have F4 := G.fr hb N ho (.inr rfl) rfl
          refine sg_stmt fun E => wpAny_Assign_Name (Ev.bool.run s'' F4.pre _ _ fun v' s5 k5 r5 => (F4.step k5).store (.inl ?_) r5 fun s6 F6 => ⟨rfl, ?_⟩) ?_
          · rfl
          · exact again false _ _ _ _ _ F6 (fl2.cons Flat.bool) rfl rfl rfl ⟨pre ++ [(j, (⟨#[92]⟩ : Str) ++ ⟨#[c]⟩)], by rw [hpre]; simp⟩
          · rfl
      | false =>
        have e1 : escP j false (c :: x.cps.toList.drop (j + 1)) = if (c == 92) = true then escP (j + 1) true (x.cps.toList.drop (j + 1)) else (j, ⟨#[c]⟩) :: escP (j + 1) false (x.cps.toList.drop (j + 1)) := rfl
        rw [e1] at hn hIT
        refine sg_if (b := ((⟨#[c]⟩ : Str) == ⟨#[92]⟩)) fun E => ?_
        refine (EvB.eqS (x := ⟨#[c]⟩) (y := ⟨#[92]⟩) ?_ ?_).run s3 F3.pre _ _ fun s4 k4 => ⟨rfl, ?_⟩
        · refine Ev.name ?_
          rfl
        · exact Ev.str
        have F4 := F3.step k4
        rw [str1_eq]
        cases hq : c == 92 with
        | true =>
          rw [hq, if_pos rfl] at hn hIT
          refine sg_stmt fun E => wpAny_Assign_Name (Ev.bool.run s4 F4.pre _ _ fun v' s5 k5 r5 => (F4.step k5).store (.inl ?_) r5 fun s6 F6 => ⟨rfl, ?_⟩) ?_
          · rfl
          · exact again true _ _ _ _ _ F6 (fl2.cons Flat.bool) rfl rfl hn hIT
          · rfl
        | false =>
          rw [hq, if_neg Bool.false_ne_true] at hn hIT
          obtain ⟨pre, hpre⟩ := hIT
          rw [List.length_cons] at hn
          subst hn
          refine sgy (r := (j, ⟨#[c]⟩)) G isOwn_G F4 fl2 rfl rfl rfl ?_ ?_ fun s'' hb N ho => ?_
          · refine Ev.tuple (Evs.cons ?_ (Evs.cons ?_ Evs.nil)) (by simp)
            · refine Ev.name ?_
              rfl
            · refine Ev.name ?_
              rfl
          · rw [hpre]; simp
          · have F5 := G.fr hb N ho (.inr rfl) rfl
            exact again false _ _ _ _ _ F5 fl2 hl1 rfl rfl ⟨pre ++ [(j, ⟨#[c]⟩)], by rw [hpre]; simp⟩
    · cases rv with
      | none => exact h.elim
      | some v => exact h
end
end Mine
end
section
set_option Elab.async false
set_option linter.unusedVariables false
set_option maxRecDepth 100000
set_option maxHeartbeats 4000000
namespace Mine
open PySem PySem.W PySem.Calls PyProof.Rows
section
variable {p : Program} {w : World} {A : Around} {L : Addr} {x : Str} {t : Tok}
theorem GenSt.fr2 {e it : Addr} {l : List (Str × PV)} (G : GenSt w.params L e it) {s₀ s : Shared} {own : List Own} (hb : Keeps0 w.params s₀.heap) (gr : Gr { s₀ with heap := hid [L, e, it] s₀.heap } s) (N : NamesAt s.heap L l) (ho : ∀ o ∈ own, o.Holds emptyV s) (hA : adrs own = [e, it]) (hG : gixs own = []) :
    Fr (cG w L [L, e, it] s₀) own l emptyV s := by
  have hin : ∀ a ∈ adrs own, a ∈ [L, e, it] ∧ a ≠ L := by
    intro a ha
    rw [hA] at ha
    simp only [List.mem_cons, List.not_mem_nil, or_false] at ha
    rcases ha with z | z
    · subst z; exact ⟨by simp, G.Le.symm⟩
    · subst z; exact ⟨by simp, G.Li.symm⟩
  have hnd : (adrs own).Nodup := by rw [hA]; simp [G.ei]
  have hcs : (cG w L [L, e, it] s₀).cs = [] := cellsG L
  exact {
    cx := G.cx hb
    loc := fun y p q => (N.loc y p q).2
    gr := gr
    le := fun b o q => by cases q
    ns := N.ns
    cell := fun y a h => by rw [hcs] at h; cases h
    gL := rfl
    gC := fun y a h => rfl
    hold := ⟨ho, fun a ha => ⟨hid_none (hin a ha).1, rfl⟩, fun i hi => (by rw [hG] at hi; cases hi), hnd, (by rw [hG]; exact List.nodup_nil)⟩
    apart := fun a ha => ⟨(hin a ha).2, fun y b h => by rw [hcs] at h; cases h⟩ }
theorem samebut_trans {a : Addr} {h h' h'' : Heap} (x : Heap.SameBut a h h') (y : Heap.SameBut a h' h'') : Heap.SameBut a h h'' := ⟨y.1.trans x.1, fun b hb => (y.2 b hb).trans (x.2 b hb)⟩
theorem h12_none {P : Params} {h : Heap} (k : Keeps0 P h) {a : Addr} (e : h.get? a = none) : (H12 P).get? a = none := by
  cases z : (H12 P).get? a with
  | none => rfl
  | some o => rw [k _ _ z] at e; cases e
noncomputable def forIter : Stmt → Expr
  | .For _ i _ _ _ => i
  | _ => .Name "" zp
theorem kindG {L : Addr} : (envG L).kindOf ("pos" : Str) = some .local ∧ (envG L).kindOf ("escape" : Str) = some .local ∧ (envG L).kindOf ("addr" : Str) = some .local := ⟨rfl, rfl, rfl⟩
theorem sg_start (hA : AOk 4 A) (hx : x.cps.size ≤ 1000000) {s₀ : Shared} (hb : Keeps0 w.params s₀.heap) {m : Str → Option Value} (hn : s₀.heap.Ns L m) (hm : m ("addr" : Str) = some (.str x t)) (hL : (H12 w.params).get? L = none) :
    GenSt w.params L (s₀.heap.objs.size + 1) s₀.heap.objs.size ∧
    Seg (model p w) A (RG L (s₀.heap.objs.size + 1) s₀.heap.objs.size) (YG w.params L (s₀.heap.objs.size + 1) s₀.heap.objs.size (escP 0 false x.cps.toList)) (escP 0 false x.cps.toList).length s₀ (.func bodyG (envG L)) ((model p w).den (.func bodyG (envG L))) [] s₀ := by
  have hLt : L < s₀.heap.objs.size := by
    obtain ⟨o, _, _, ho, _⟩ := hn
    exact Heap.lt_size ho
  generalize hit : s₀.heap.objs.size = it at *
  have nit : s₀.heap.get? it = none := get_size (by omega)
  have ne : s₀.heap.get? (it + 1) = none := get_size (by omega)
  have G : GenSt w.params L (it + 1) it := ⟨hL, h12_none hb ne, h12_none hb nit, Nat.ne_of_lt (Nat.lt_succ_of_lt hLt), Nat.ne_of_lt hLt, Nat.succ_ne_self it⟩
  refine ⟨G, ?_⟩
  refine seg_func ?_
  show Seg _ _ _ _ _ _ _ ((execs bodyG (envG L)).wrap K0 (H0' L) id id) [] s₀
  refine sg_stmt fun E => wpAny_Assign_Name (wpAny_Constant_int (wpAny_storeName_local kindG.1 hn fun h1 hn1 hs1 => ⟨rfl, ?_⟩)) rfl
  refine sg_stmt fun E => wpAny_Assign_Name (wpAny_Constant_bool (wpAny_storeName_local kindG.2.1 hn1 fun h2 hn2 hs2 => ⟨rfl, ?_⟩)) rfl
  have hs : Heap.SameBut L s₀.heap h2 := samebut_trans hs1 hs2
  have hsz : h2.objs.size = it := hs.1.trans hit
  have keep2 : ∀ b o, b ≠ L → s₀.heap.get? b = some o → h2.get? b = some o := fun b o hb' q => by rw [hs.2 b hb']; exact q
  have hb2 : Keeps0 w.params h2 := fun b o q => keep2 b o (fun z => by rw [z, hL] at q; cases q) (hb b o q)
  refine sg_for fun E => ?_
  have key : ∀ s3 : Shared, s3.heap = h2 → s3.os = s₀.os → s3.gens = s₀.gens → wpAny (model p w) (A.over (.func bodyG (envG L)) []) (eval (forIter (bodyG.getD 2 (.Pass zp))) (envG L)) (fun y s1 => wpAny (model p w) (A.over (.func bodyG (envG L)) []) (pyIter y) (fun iv s2 => ∀ pp,
      Seg (model p w) A (RG L (it + 1) it) (YG w.params L (it + 1) it (escP 0 false x.cps.toList)) (escP 0 false x.cps.toList).length s₀ (.forLoop genTgt iv genBody [] (envG L)) ((model p w).den (.forLoop genTgt iv genBody [] (envG L))) [frG L pp] s2) E s1) E s3 := by
    intro s3 e1 e2 e3
    have P2 : Pre w.params (envG L) [] emptyV s3 := ⟨envG_ok L, by rw [e1]; exact hb2, (fun b o q => by cases q), (fun y q e => by cases e)⟩
    have hn3 : s3.heap.Ns L (fun y : Str => if y = "escape" then some (Value.bool false) else if y = "pos" then some (Value.int 0 s₀.toks) else m y) := by rw [e1]; exact hn2
    have hsz3 : s3.heap.objs.size = it := by rw [e1]; exact hsz
    have gr3 : Gr { s₀ with heap := hid [L, it + 1, it] s₀.heap } s3 := by
      refine ⟨fun b o q => ?_, e2, fun i y q => by rw [e3]; exact q, fun q => by rw [e3]; exact q⟩
      rw [e1]
      refine keep2 b o (fun z => ?_) (hid_sub q)
      rw [z, hid_none List.mem_cons_self] at q; cases q
    have hadr : (fun y : Str => if y = "escape" then some (Value.bool false) else if y = "pos" then some (Value.int 0 s₀.toks) else m y) "addr" = some (.str x t) := by
      show (if ("addr" : Str) = "escape" then _ else if ("addr" : Str) = "pos" then _ else m "addr") = _
      rw [if_neg (by decide), if_neg (by decide)]
      exact hm
    refine wpAny_Call_NameR (builtin_name P2 rfl (b_enumerate _) (PyProof.Rows.callWith_type rfl (evalArgs_plain (Calls.spliced_cons (wpAny_Name (wpAny_loadName_local rfl kindG.2.2 hn3 hadr (Calls.spliced_nil ?_)) (by decide))))))
    refine call_enumerate_str fun h' hE hI hz hk => ?_
    rw [hsz3] at hE hI
    rw [hsz3]
    refine wpAny_pyIter_enum hE fun pp => ?_
    have Nn : NamesAt h' L [(("escape" : Str), PV.bool false), (("pos" : Str), PV.int 0), (("addr" : Str), PV.str x)] := by
      have hn' := hn3.keeps hk
      refine ⟨⟨_, hn'⟩, fun y q e => ?_⟩
      rw [List.lookup_cons] at e
      cases z1 : y == "escape" with
      | true => rw [z1] at e; cases e; rw [eq_of_beq z1]; exact ⟨Flat.bool, _, .inl ⟨kindG.2.1, _, hn', rfl⟩, rep_bool⟩
      | false =>
        rw [z1] at e
        rw [List.lookup_cons] at e
        cases z2 : y == "pos" with
        | true => rw [z2] at e; cases e; rw [eq_of_beq z2]; exact ⟨Flat.int, _, .inl ⟨kindG.1, _, hn', rfl⟩, rep_int⟩
        | false =>
          rw [z2] at e
          rw [List.lookup_cons] at e
          cases z3 : y == "addr" with
          | true => rw [z3] at e; cases e; rw [eq_of_beq z3]; exact ⟨Flat.str, _, .inl ⟨kindG.2.2, _, hn', hadr⟩, rep_str⟩
          | false => rw [z3] at e; cases e
    have F : Fr (cG w L [L, it + 1, it] s₀) (ownG (it + 1) it x t 0) [(("escape" : Str), PV.bool false), (("pos" : Str), PV.int 0), (("addr" : Str), PV.str x)] emptyV { s3 with heap := h' } :=
      G.fr2 hb (gr3.trans ⟨hk, rfl, fun _ _ q => q, id⟩) Nn (fun o ho => by
        rcases List.mem_cons.mp ho with rfl | ho
        · exact ⟨_, hE, _, rfl⟩
        · rw [List.mem_singleton.mp ho]; obtain ⟨y, q1, q2, q3⟩ := hI; exact ⟨y, q1, q2, q3⟩) rfl rfl
    exact sg_loop G hA hx pp x.cps.size 0 false s₀ _ emptyV _ _ 0 (Nat.zero_add _) rfl ⟨[], rfl⟩ rfl rfl (fun q => by cases q) (((FlatL.nil.cons Flat.str).cons Flat.int).cons Flat.bool) F
  exact key _ rfl rfl rfl
end
end Mine
end
section
set_option Elab.async false
set_option linter.unusedVariables false
set_option maxRecDepth 100000
set_option maxHeartbeats 4000000
namespace Mine
open PySem PySem.W PySem.Calls PyProof.Rows
section
variable {prog : Program} {w : World} {A : Around} {E : Value → Shared → Prop} {s : Shared}
/-- the next item of a generator function's object -/
theorem next_gen {a : Addr} {g n : Nat} {gs : GenState} {P : Nat → Shared → Shared → Prop} {Y : Protocol} {Q : Option Value → Shared → Prop} (hh : A.handled = none)
    (hl : s.heap.NoLimit) (hroom : A.depth < recursionLimit) (hg : s.heap.IsGen a g) (hgs : s.gens[g]? = some gs)
    (hgo : gs.Goes (model prog w) A.in1 (fun n s₀ r s₁ => r = .ok (.ret .none) ∧ P n s₀ s₁) Y n (.send .none) (s.setGen g .running))
    (hY : ∀ v s₁ gs', gs'.bare = true → Y (n - 1) (s.setGen g .running) v s₁ (fun r' s'' => match n with
        | 0 => False
        | m + 1 => gs'.Goes (model prog w) A.in1 (fun n s₀ r s₁ => r = .ok (.ret .none) ∧ P n s₀ s₁) Y m r' s'') → Q (some v) (s₁.setGen g gs'))
    (hP : ∀ s₁, P n (s.setGen g .running) s₁ → ∀ h', (∀ b o, s₁.heap.get? b = some o → h'.get? b = some o) → Q none { s₁.setGen g .finished with heap := h' }) :
    wpAny (model prog w) A (pyNext (.ref a)) Q E s := by
  unfold pyNext
  refine wpAny_bind (wpAny_attempt (wpAny_callSpecial?_slot (name := Str.ofString "__next__") hg.typeIs slot_gen_next (wpAny_call_entry slot_gen_next hg.typeIs entry_gen_next ?_ (args_gen_next _))))
  show wpAny _ _ (Builtin.Generator.genWake (.ref a) (.send .none)) _ _ s
  unfold Builtin.Generator.genWake
  refine wpAny_bind (wpAny_holding (wpAny_genNumber hg (wpAny_bind (wpAny_genState hgs ?_))))
  have main : ∀ (R : GenResult → Sem PySem.Fin), (∀ v, R (.yielded v) = ret v) → (∃ K : PUnit → Sem PySem.Fin, R (End.ret (.ok (.ret .none))).result = (newExc (.type "StopIteration") [] >>= fun y => (raiseNew y : Sem PUnit) >>= K)) →
      wpAny (model prog w) A.in1 (.resume g (.send .none) [] R) (fun fin s' => ∃ v, fin = .done (.ret v) ∧ wpAny (model prog w) A (pure (some v)) Q E s') (fun e s' => wpAny (model prog w) A (do if ← isInstance e (.type "StopIteration") then pure none else throw e) Q E s') s := by
    intro R hR1 hR2
    refine wpAny_resumeQ hgs hgo (fun x s₁ hx => ?_) (fun v s₁ gs' hb hv => ?_)
    · obtain ⟨rfl, hp⟩ := hx
      obtain ⟨K, hR2⟩ := hR2
      rw [hR2]
      refine wpAny_bind ?_
      simp only [newExc, newTuple]
      refine wpAny_bind (wpAny_newObj_type ?_ (by size_fits))
      refine wpAny_bind (m := firstArgMember _ _) (wpAny_of_eq (a := Value.none) (by first | rfl | (simp only [firstArgMember]; rfl)) ?_)
      refine wpAny_newObj_type ?_ (by size_fits)
      simp only [raiseNew]
      refine wpAny_bind (wpAny_bind (wpAny_handled ?_))
      rw [show A.in1.handled = none from hh]
      refine wpAny_throw ?_
      refine wpAny_bind (wpAny_isInstance (T := "StopIteration") (b := true) ⟨_, Heap.get?_push_size _ rfl, rfl⟩ isSubtype_stop ?_)
      exact wpAny_pure (hP s₁ hp _ fun b o hb => Heap.get?_push_of_some _ (Heap.get?_push_of_some _ hb))
    · rw [hR1]
      exact wpAny_pure ⟨v, rfl, wpAny_pure (hY v s₁ gs' hb hv)⟩
  cases gs with
  | running => exact hgo.elim
  | finished => exact hgo.elim
  | fresh c =>
    refine wpAny_bind (wpAny_roomToWake hl hroom ?_)
    show wpAny _ A.in1 (.resume g (.send .none) [] _) _ _ s
    exact main _ (fun v => rfl) ⟨_, rfl⟩
  | suspended k l c p fs cl =>
    refine wpAny_bind (wpAny_roomToWake hl hroom ?_)
    show wpAny _ A.in1 (.resume g (.send .none) [] _) _ _ s
    exact main _ (fun v => rfl) ⟨_, rfl⟩
theorem bare_set {s : Shared} {g : Nat} {y : GenState} (h : AllBare s.gens) (hy : y.bare = true) : AllBare (s.setGen g y).gens := fun z hz => by
  unfold Shared.setGen at hz
  rcases Array.mem_or_eq_of_mem_setIfInBounds hz with q | q
  · exact h z q
  · rw [q]; exact hy
end

section
variable {c : Cx} {own O O' : List Own} {l : List (Str × PV)} {g : View} {s s1 : Shared} {new : List Addr}
/-- a thing owned was woken, and came to own more -/
theorem Fr.wake (F : Fr c (own ++ O) l g s) (k : Chg (adrs O) (gixs O) s s1) (hn : ∀ a ∈ new, s.heap.get? a = none) (H : ∀ o ∈ O', o.Holds (cutV new (nv g s.heap s1.heap)) s1) (hA : ∀ a ∈ adrs O', a ∈ adrs O ∨ a ∈ new) (hG : ∀ i ∈ gixs O', i ∈ gixs O) (ndA : (adrs O').Nodup) (ndG : (gixs O').Nodup) :
    Fr c (own ++ O') l (cutV new (nv g s.heap s1.heap)) s1 := by
  have Fs := F.spoil k
  have lg : g.Le (cutV new (nv g s.heap s1.heap)) := le_cut (nv_le _ _ _) fun a ha => view_none F.sub (hn a ha)
  have dead : ∀ b o, g b = none → s.heap.get? b = some o → cutV new (nv g s.heap s1.heap) b = none := fun b o e1 e2 => by
    cases z : cutV new (nv g s.heap s1.heap) b with
    | none => rfl
    | some y => have := cut_le _ _ z; rw [nv_none e1 e2] at this; cases this
  have mA : ∀ a ∈ adrs O, a ∈ adrs (own ++ O) := fun a ha => by rw [adrs_app]; exact List.mem_append_right _ ha
  have mo : ∀ a ∈ adrs own, a ∈ adrs (own ++ O) := fun a ha => by rw [adrs_app]; exact List.mem_append_left _ ha
  have live : ∀ a ∈ adrs (own ++ O), ∃ o, s.heap.get? a = some o := fun a ha => by
    obtain ⟨o, ho, e⟩ := List.mem_filterMap.mp ha
    exact (F.hold.holds o ho).live e
  have nd := F.hold.ndA
  rw [adrs_app] at nd
  have ndg := F.hold.ndG
  rw [gixs_app] at ndg
  have s0n : ∀ a ∈ new, c.s0.heap.get? a = none := fun a ha => none_back F.gr (hn a ha)
  have apart' : ∀ a ∈ adrs O', a ∉ adrs own ∧ a ≠ c.env.locals ∧ (∀ x b, (x, b) ∈ c.cs → b ≠ a) ∧ c.s0.heap.get? a = none ∧ cutV new (nv g s.heap s1.heap) a = none := fun a ha => by
    rcases hA a ha with q | q
    · obtain ⟨o, ho⟩ := live a (mA a q)
      exact ⟨fun z => (List.nodup_append.mp nd).2.2 a z a q rfl, (F.apart a (mA a q)).1, (F.apart a (mA a q)).2, (F.hold.ownA a (mA a q)).1, dead a o (F.hold.ownA a (mA a q)).2 ho⟩
    · have na := hn a q
      refine ⟨fun z => ?_, fun z => ?_, fun x b e z => ?_, s0n a q, ?_⟩
      · obtain ⟨o, ho⟩ := live a (mo a z); rw [na] at ho; cases ho
      · obtain ⟨m, o, _, _, ho, _⟩ := F.ns; rw [← z, na] at ho; cases ho
      · obtain ⟨v, o, h1, h2⟩ := F.cell x b e; rw [z, na] at h1; cases h1
      · unfold cutV; rw [if_pos q]
  refine { cx := F.cx, loc := fun x p e => let ⟨v, h1, h2⟩ := Fs.loc x p e; ⟨v, h1, Rep.mono lg _ _ h2⟩, gr := Fs.gr, le := cut_le.trans (nv_le_chg F.cx.sub F.gr F.le k fun a ha => (F.hold.ownA a (mA a ha)).2), ns := Fs.ns, cell := Fs.cell, gL := ?_, gC := fun x a e => ?_, hold := ⟨fun o ho => ?_, fun a ha => ?_, fun i hi => ?_, ?_, ?_⟩, apart := fun a ha => ?_ }
  · obtain ⟨m, o, _, _, ho, _⟩ := F.ns
    exact dead _ _ F.gL ho
  · obtain ⟨v, o, h1, h2⟩ := F.cell x a e
    exact dead _ _ (F.gC x a e) h1
  · rcases List.mem_append.mp ho with ho | ho
    · exact (Fs.hold.holds o ho).chg lg ((Gr.refl s1).chg [] []) (by simp) (by simp)
    · exact H o ho
  · rw [adrs_app] at ha
    rcases List.mem_append.mp ha with ha | ha
    · obtain ⟨o, ho⟩ := live a (mo a ha)
      exact ⟨(F.hold.ownA a (mo a ha)).1, dead a o (F.hold.ownA a (mo a ha)).2 ho⟩
    · exact (apart' a ha).2.2.2
  · rw [gixs_app] at hi
    refine F.hold.ownG i ?_
    rw [gixs_app]
    rcases List.mem_append.mp hi with hi | hi
    · exact List.mem_append_left _ hi
    · exact List.mem_append_right _ (hG i hi)
  · rw [adrs_app]
    exact List.nodup_append.mpr ⟨(List.nodup_append.mp nd).1, ndA, fun a ha b hb e => (apart' b hb).1 (e ▸ ha)⟩
  · rw [gixs_app]
    exact List.nodup_append.mpr ⟨(List.nodup_append.mp ndg).1, ndG, fun a ha b hb e => (List.nodup_append.mp ndg).2.2 a ha b (hG b hb) e⟩
  · rw [adrs_app] at ha
    rcases List.mem_append.mp ha with ha | ha
    · exact F.apart a (mo a ha)
    · exact ⟨(apart' a ha).2.1, (apart' a ha).2.2.1⟩
end
/-- the object of the generator, and its first names -/
structure GObj (P : Params) (gi : Nat) (oG oL : Obj) (L : Addr) (x : Str) (t : Tok) : Prop where
  gen : ∀ (h : Heap) (a : Addr), h.get? a = some oG → h.IsGen a gi
  cls : oG.cls = .type "generator"
  ns : ∀ h : Heap, h.get? L = some oL → ∃ m, h.Ns L m ∧ m ("addr" : Str) = some (.str x t)
  hL : (H12 P).get? L = none
section
variable {p : Program} {w : World} {A : Around}
noncomputable abbrev O0 (L Ga : Addr) (gi : Nat) (oG oL : Obj) : List Own := [.is Ga fun o => o = oG, .is L fun o => o = oL, .gen gi fun y => y = .fresh (.func bodyG (envG L))]
/-- asleep, with n items to come -/
noncomputable def Asleep (p : Program) (w : World) (A : Around) (L e it : Addr) (IT : List (Nat × Str)) (oL oe oi : Obj) (n : Nat) (y : GenState) : Prop :=
  ∀ s'' : Shared, Keeps0 w.params s''.heap → s''.heap.get? L = some oL → s''.heap.get? e = some oe → s''.heap.get? it = some oi → y.Goes (model p w) A.in1 (RG L e it) (YG w.params L e it IT) n (.send .none) s''
inductive OK (p : Program) (w : World) (A : Around) (Ga L : Addr) (gi : Nat) (oG : Obj) (x : Str) (t : Tok) (IT : List (Nat × Str)) : Nat → List Own → Prop
  | fresh {oL : Obj} (G : GObj w.params gi oG oL L x t) : OK p w A Ga L gi oG x t IT IT.length (O0 L Ga gi oG oL)
  | asleep {oL oe oi : Obj} {e it : Addr} {n : Nat} (G : GenSt w.params L e it) (h1 : Ga ≠ e) (h2 : Ga ≠ it) (h3 : Ga ≠ L) : OK p w A Ga L gi oG x t IT n
      [.is Ga fun o => o = oG, .is L fun o => o = oL, .is e fun o => o = oe, .is it fun o => o = oi, .gen gi fun y => Asleep p w A L e it IT oL oe oi n y]
end
end Mine
end
section
set_option Elab.async false
set_option linter.unusedVariables false
set_option maxRecDepth 100000
set_option maxHeartbeats 4000000
namespace Mine
open PySem PySem.W PySem.Calls PyProof.Rows
theorem set_ne {s : Shared} {g i : Nat} {y : GenState} (h : i ≠ g) : (s.setGen g y).gens[i]? = s.gens[i]? := (GenOnly.setGen s g y).2 i h
/-- the change that a waking makes -/
theorem wake_chg {as as' : List Addr} {gi : Nat} {s s₁ : Shared} {gs gs' : GenState} (hgs : s.gens[gi]? = some gs) (k : Chg as [] (s.setGen gi .running) s₁) (hb : gs'.bare = true) (hs : ∀ b o, b ∉ as' → s.heap.get? b = some o → b ∉ as) : Chg as' [gi] s (s₁.setGen gi gs') where
  keep := fun b o h e => k.keep b o (hs b o h e) e
  os := k.os
  gens := fun i y h e => by
    have hi : i ≠ gi := fun q => h (by simp [q])
    rw [set_ne hi]
    exact k.gens i y (by simp) (by rw [set_ne hi]; exact e)
  bare := fun h => bare_set (k.bare (bare_set h rfl)) hb
theorem wake_self {as : List Addr} {gi : Nat} {s s₁ : Shared} {gs gs' : GenState} (hgs : s.gens[gi]? = some gs) (k : Chg as [] (s.setGen gi .running) s₁) : (s₁.setGen gi gs').gens[gi]? = some gs' :=
  setGen_self (k.gens gi .running (by simp) (setGen_self hgs))
section
variable {p : Program} {c : Cx} {A : Around} {Ga L : Addr} {gi : Nat} {oG : Obj} {x : Str} {t : Tok} {IT : List (Nat × Str)} {O own : List Own} {l : List (Str × PV)} {g : View} {s : Shared} {E : Value → Shared → Prop} {Q : Option Value → Shared → Prop} {n : Nat}
theorem rep_wake {new as : List Addr} {s₁ : Shared} {h1 : Heap} {g3 : View} {r : PV} {v : Value} (hg : g.Sub s.heap) (hsub : ∀ a ∈ new, a ∈ as) (hr : Rep g3 r v) (h : ∀ b o, g3 b = some o → s.heap.get? b = none ∧ h1.get? b = some o ∧ b ∉ as) : Rep (cutV new (nv g s.heap h1)) r v := by
  refine Rep.mono (fun b o e => ?_) _ _ hr
  obtain ⟨q1, q2, q3⟩ := h b o e
  unfold cutV
  rw [if_neg (fun z => q3 (hsub b z))]
  unfold nv
  rw [view_none hg q1, q1]
  exact q2
theorem gen_next (hA : AOk 8 A) (hx : x.cps.size ≤ 1000000) (hIT : IT = escP 0 false x.cps.toList) (hG1 : ∀ (h : Heap) (a : Addr), h.get? a = some oG → h.IsGen a gi) (hO : OK p c.w A Ga L gi oG x t IT n O) (F : Fr c (own ++ O) l g s)
    (hItem : ∀ m, n = m + 1 → ∀ r, IT[IT.length - 1 - m]? = some r → ∀ v g2 s1 O', OK p c.w A Ga L gi oG x t IT m O' → g.Le g2 → Fr c (own ++ O') l g2 s1 → Rep g2 (mkE r) v → Q (some v) s1)
    (hDone : n = 0 → ∀ s1, Fr c own l g s1 → Q none s1) : wpAny (model p c.w) A (pyNext (.ref Ga)) Q E s := by
  have hlim : s.heap.NoLimit := (nolimit c.w.params).keeps F.base
  have holds : ∀ o ∈ O, o.Holds g s := fun o ho => F.hold.holds o (List.mem_append_right _ ho)
  cases hO with
  | @fresh oL G =>
    obtain ⟨o1, q1, e1⟩ := holds _ List.mem_cons_self
    obtain ⟨o2, q2, e2⟩ := holds _ (List.mem_cons_of_mem _ List.mem_cons_self)
    obtain ⟨gs, q3, rfl⟩ := holds _ (List.mem_cons_of_mem _ (List.mem_cons_of_mem _ List.mem_cons_self))
    rw [show o1 = oG from e1] at q1
    rw [show o2 = oL from e2] at q2
    obtain ⟨m, hn, hm⟩ := G.ns _ q2
    have hA5 : AOk 4 A.in1 := ⟨hA.handled, by have := hA.depth; show A.depth + 4 ≤ 900; omega, by have := hA.units; show A.units + 1 + 10 * 4 ≤ 9000; omega⟩
    have hst := sg_start (p := p) (w := c.w) (t := t) (x := x) (s₀ := s.setGen gi .running) hA5 hx F.base hn hm G.hL
    rw [← hIT] at hst
    obtain ⟨GS, hseg⟩ := hst
    generalize he : (s.setGen gi .running).heap.objs.size + 1 = e at *
    generalize hi : (s.setGen gi .running).heap.objs.size = it at *
    have hi' : s.heap.objs.size = it := hi
    have nit : s.heap.get? it = none := get_size (Nat.le_of_eq hi')
    have ne : s.heap.get? e = none := get_size (by rw [hi', ← he]; exact Nat.le_succ _)
    have alive : ∀ b o, s.heap.get? b = some o → b ≠ e ∧ b ≠ it := fun b o q => ⟨fun z => (by rw [z, ne] at q; cases q), fun z => (by rw [z, nit] at q; cases q)⟩
    have hGL : Ga ≠ L := fun z => by
      have nd := F.hold.ndA
      rw [adrs_app] at nd
      have := (List.nodup_append.mp nd).2.1
      simp [adrs, Own.adr] at this
      exact this.1 z
    have hsub : ∀ b o, b ∉ [Ga, L] → s.heap.get? b = some o → b ∉ [L, e, it] := fun b o h q => by
      obtain ⟨a1, a2⟩ := alive b o q
      simp only [List.mem_cons, List.not_mem_nil, or_false, not_or] at h ⊢
      exact ⟨h.2, a1, a2⟩
    refine next_gen (P := fun n s₀ s₁ => n = 0 ∧ Chg [L, e, it] [] s₀ s₁) (Y := YG c.w.params L e it IT) hA.handled hlim hA.lim (hG1 _ _ q1) q3 ⟨rfl, hseg⟩ (fun v s₁ gs' hb hy => ?_) (fun s₁ hp h' hk => ?_)
    · obtain ⟨⟨r, g3, hr, hrep, hg3⟩, hch, hlive, hkap⟩ := hy
      cases hn' : IT.length with
      | zero =>
        rw [hn'] at hkap
        refine (hkap s₁ (fun b o q => hch.keep b o (fun z => ?_) (F.base b o q)) fun a _ o q => q).elim
        simp only [List.mem_cons, List.not_mem_nil, or_false] at z
        rcases z with rfl | rfl | rfl
        · rw [GS.hL] at q; cases q
        · rw [GS.he] at q; cases q
        · rw [GS.hi] at q; cases q
      | succ m' =>
        rw [hn'] at hkap hr
        obtain ⟨oL', l1⟩ := hlive L (by simp)
        obtain ⟨oe', l2⟩ := hlive e (by simp)
        obtain ⟨oi', l3⟩ := hlive it (by simp)
        have kk := wake_chg (as' := [Ga, L]) q3 hch hb hsub
        have kself : (s₁.setGen gi gs').gens[gi]? = some gs' := wake_self q3 hch
        have hGe := alive _ _ q1
        have OK' : OK p c.w A Ga L gi oG x t IT m' [.is Ga fun o => o = oG, .is L fun o => o = oL', .is e fun o => o = oe', .is it fun o => o = oi', .gen gi fun y => Asleep p c.w A L e it IT oL' oe' oi' m' y] := .asleep GS hGe.1 hGe.2 hGL
        refine hItem m' hn' r (by rw [hn']; exact hr) v _ _ _ OK' ?_ (F.wake (new := [e, it]) kk (fun a ha => ?_) (fun o ho => ?_) (fun a ha => ?_) (fun i hi => ?_) ?_ ?_) ?_
        · exact le_cut (nv_le _ _ _) fun a ha => view_none F.sub (by
            simp only [List.mem_cons, List.not_mem_nil, or_false] at ha
            rcases ha with rfl | rfl
            · exact ne
            · exact nit)
        · simp only [List.mem_cons, List.not_mem_nil, or_false] at ha
          rcases ha with rfl | rfl
          · exact ne
          · exact nit
        · simp only [List.mem_cons, List.not_mem_nil, or_false] at ho
          rcases ho with rfl | rfl | rfl | rfl | rfl
          · exact ⟨_, hch.keep _ _ (by simp [hGe.1, hGe.2, hGL]) q1, rfl⟩
          · exact ⟨_, l1, rfl⟩
          · exact ⟨_, l2, rfl⟩
          · exact ⟨_, l3, rfl⟩
          · refine ⟨gs', kself, fun s'' hb'' a1 a2 a3 => hkap s'' hb'' fun a ha o q => ?_⟩
            simp only [List.mem_cons, List.not_mem_nil, or_false] at ha
            rcases ha with rfl | rfl | rfl
            · rw [l1] at q; cases q; exact a1
            · rw [l2] at q; cases q; exact a2
            · rw [l3] at q; cases q; exact a3
        · have : a = Ga ∨ a = L ∨ a = e ∨ a = it := by simpa [adrs, Own.adr] using ha
          rcases this with rfl | rfl | rfl | rfl
          · exact .inl (by simp [adrs, Own.adr])
          · exact .inl (by simp [adrs, Own.adr])
          · exact .inr (by simp)
          · exact .inr (by simp)
        · exact hi
        · show [Ga, L, e, it].Nodup
          simp [hGe.1, hGe.2, hGL, GS.Le, GS.Li, GS.ei]
        · show [gi].Nodup
          simp
        · exact rep_wake (as := [L, e, it]) (s₁ := s₁) F.sub (by simp) hrep hg3
    · obtain ⟨hn0, hch⟩ := hp
      refine hDone hn0 _ (F.spoil ?_)
      have kk := wake_chg (as' := [Ga, L]) (gs' := .finished) q3 hch rfl hsub
      exact ⟨fun b o h q => hk b o (kk.keep b o h q), kk.os, kk.gens, kk.bare⟩
  | @asleep oL oe oi e it n GS h1 h2 h3 =>
    obtain ⟨o1, q1, e1⟩ := holds _ List.mem_cons_self
    obtain ⟨o2, q2, e2⟩ := holds _ (List.mem_cons_of_mem _ List.mem_cons_self)
    obtain ⟨o3, q4, e3⟩ := holds _ (List.mem_cons_of_mem _ (List.mem_cons_of_mem _ List.mem_cons_self))
    obtain ⟨o4, q5, e4⟩ := holds _ (List.mem_cons_of_mem _ (List.mem_cons_of_mem _ (List.mem_cons_of_mem _ List.mem_cons_self)))
    obtain ⟨gs, q3, hsl⟩ := holds _ (List.mem_cons_of_mem _ (List.mem_cons_of_mem _ (List.mem_cons_of_mem _ (List.mem_cons_of_mem _ List.mem_cons_self))))
    rw [show o1 = oG from e1] at q1
    rw [show o2 = oL from e2] at q2
    rw [show o3 = oe from e3] at q4
    rw [show o4 = oi from e4] at q5
    have hsub : ∀ b o, b ∉ [Ga, L, e, it] → s.heap.get? b = some o → b ∉ [L, e, it] := fun b o h q => by
      simp only [List.mem_cons, List.not_mem_nil, or_false, not_or] at h ⊢
      exact h.2
    refine next_gen (P := fun n s₀ s₁ => n = 0 ∧ Chg [L, e, it] [] s₀ s₁) (Y := YG c.w.params L e it IT) hA.handled hlim hA.lim (hG1 _ _ q1) q3 (hsl _ F.base q2 q4 q5) (fun v s₁ gs' hb hy => ?_) (fun s₁ hp h' hk => ?_)
    · obtain ⟨⟨r, g3, hr, hrep, hg3⟩, hch, hlive, hkap⟩ := hy
      cases n with
      | zero =>
        refine (hkap s₁ (fun b o q => hch.keep b o (fun z => ?_) (F.base b o q)) fun a _ o q => q).elim
        simp only [List.mem_cons, List.not_mem_nil, or_false] at z
        rcases z with rfl | rfl | rfl
        · rw [GS.hL] at q; cases q
        · rw [GS.he] at q; cases q
        · rw [GS.hi] at q; cases q
      | succ m' =>
        obtain ⟨oL', l1⟩ := hlive L (by simp)
        obtain ⟨oe', l2⟩ := hlive e (by simp)
        obtain ⟨oi', l3⟩ := hlive it (by simp)
        have kk := wake_chg (as' := [Ga, L, e, it]) q3 hch hb hsub
        have kself : (s₁.setGen gi gs').gens[gi]? = some gs' := wake_self q3 hch
        have OK' : OK p c.w A Ga L gi oG x t IT m' [.is Ga fun o => o = oG, .is L fun o => o = oL', .is e fun o => o = oe', .is it fun o => o = oi', .gen gi fun y => Asleep p c.w A L e it IT oL' oe' oi' m' y] := .asleep GS h1 h2 h3
        refine hItem m' rfl r hr v _ _ _ OK' ?_ (F.wake (new := []) kk (fun a ha => ?_) (fun o ho => ?_) (fun a ha => ?_) (fun i hi => ?_) ?_ ?_) ?_
        · exact le_cut (nv_le _ _ _) fun a ha => by cases ha
        · cases ha
        · simp only [List.mem_cons, List.not_mem_nil, or_false] at ho
          rcases ho with rfl | rfl | rfl | rfl | rfl
          · exact ⟨_, hch.keep _ _ (by simp [h1, h2, h3]) q1, rfl⟩
          · exact ⟨_, l1, rfl⟩
          · exact ⟨_, l2, rfl⟩
          · exact ⟨_, l3, rfl⟩
          · refine ⟨gs', kself, fun s'' hb'' a1 a2 a3 => hkap s'' hb'' fun a ha o q => ?_⟩
            simp only [List.mem_cons, List.not_mem_nil, or_false] at ha
            rcases ha with rfl | rfl | rfl
            · rw [l1] at q; cases q; exact a1
            · rw [l2] at q; cases q; exact a2
            · rw [l3] at q; cases q; exact a3
        · exact .inl ha
        · exact hi
        · show [Ga, L, e, it].Nodup
          simp [h1, h2, h3, GS.Le, GS.Li, GS.ei]
        · show [gi].Nodup
          simp
        · exact rep_wake (as := [L, e, it]) (s₁ := s₁) F.sub (by simp) hrep hg3
    · obtain ⟨hn0, hch⟩ := hp
      refine hDone hn0 _ (F.spoil ?_)
      have kk := wake_chg (as' := [Ga, L, e, it]) (gs' := .finished) q3 hch rfl hsub
      exact ⟨fun b o h q => hk b o (kk.keep b o h q), kk.os, kk.gens, kk.bare⟩
end
end Mine
end
section
set_option Elab.async false
set_option linter.unusedVariables false
set_option maxRecDepth 100000
set_option maxHeartbeats 4000000
namespace Mine
open PySem PySem.W PySem.Calls PyProof.Rows
theorem iter_code (P : Params) : (H12 P).CodeRec fdIter.code fdIter.qualname := ⟨37, o37 P, _, 285, rfl, by kernel_rfl!, rfl, by kernel_rfl!⟩
theorem iter_at (P : Params) : (H12 P).get? 38 = some (o38 P) := by kernel_rfl!
theorem iter_bind (v : Value) : bindArgs fdIter ⟨[v], []⟩ = pure [(("addr" : Str), v)] := by kernel_rfl!
section
variable {p : Program} {c : Cx} {A : Around} {x : Str} {own : List Own} {l : List (Str × PV)} {g : View} {s : Shared} {E : Value → Shared → Prop}
theorem make_gen {px pos : Pos} {ea : Expr} {n : Nat} {Q : Value → Shared → Prop} (hA : AOk 8 A) (F : Fr c own l g s) (hk : c.env.kindOf ("_iter_escaped_chars" : Str) = some .globalImplicit) (ha : Ev p c.w A c.env l g ea (.str x))
    (hQ : ∀ Ga L gi oG t O s', OK p c.w A Ga L gi oG x t (escP 0 false x.cps.toList) (escP 0 false x.cps.toList).length O → (∀ (h : Heap) (a : Addr), h.get? a = some oG → h.IsGen a gi) → oG.cls = .type "generator" → s'.heap.get? Ga = some oG → Fr c (own ++ O) l g s' → Q (.ref Ga) s')
    (he : ∀ env, starEach [ea] env = [(false, eval ea env)] := by intro _; rfl) :
    wpAny (model p c.w) A (eval (.Call (.Name "_iter_escaped_chars" px) [ea] [] pos) c.env) (fun y s1 => wpAny (model p c.w) A (pyIter y) Q E s1) E s := by
  refine wpAny_Call_NameR ((Ev.global (p := p) (A := A) (l := l) (g := g) (pos := px) hk (glIter c.w.params)).run s F.pre _ _ fun v s1 k1 r1 => ?_)
  cases rep_ref_inv r1
  have P1 := F.pre.gr k1
  refine callWith_function (o := o38 c.w.params) (fd := fdIter) (args_ P1 (Evs.cons ha Evs.nil he) (he _) fun vs s2 k2 r2 => ?_)
  obtain ⟨u, rfl, hu⟩ := one_inv r2
  obtain ⟨t, rfl⟩ := rep_str_inv hu
  have F2 := F.keep (k1.trans k2)
  refine ⟨⟨F2.base _ _ (iter_at _), rfl⟩, ?_⟩
  refine wpAny_call (codeAny_call_generator (fd := fdIter) (body := bodyG) hA.lim (F2.base _ _ (iter_at _)) rfl rfl (by kernel_rfl!) (by kernel_rfl!) ((iter_code _).keeps F2.base) ?_)
  have eb := iter_bind (.str x t)
  show wpAny _ _ (bindArgs fdIter ⟨[.str x t], []⟩) _ _ _
  rw [eb]
  refine wpAny_pure ?_
  have hclo : fdIter.closure = [] := rfl
  rw [hclo]
  refine wpAny_newFunctionEnv_cells rfl (fun y hy => ?_) fun env hen s' X => ?_
  · rw [List.mem_singleton.mp hy]
    exact .inl rfl
  have hen' : env = envG s2.heap.objs.size := hen
  subst hen'
  generalize hL : s2.heap.objs.size = L at *
  obtain ⟨h1, tk, e1, hk1⟩ := X.done
  have hns := X.toInCall.ns
  have k3 : Gr s2 s' := by rw [e1]; exact Gr.heap hk1
  have nL : s2.heap.get? L = none := get_size (Nat.le_of_eq hL)
  have hlim' : s'.heap.NoLimit := ((nolimit c.w.params).keeps F2.base).keeps k3.keep
  refine ⟨hlim', ?_⟩
  have hmL : ∃ m, s'.heap.Ns L m ∧ m ("addr" : Str) = some (.str x t) := ⟨_, hns, bindL_get _ (x := ("addr" : Str)) (v := .str x t) rfl _ _ (by simp) (by simp)⟩
  obtain ⟨m, hnm, hma⟩ := hmL
  obtain ⟨oL, _, _, hoL, _⟩ := id hnm
  have hg : s'.gens = s2.gens := by rw [e1]
  generalize hGa : s'.heap.objs.size = Ga at *
  have nG' : s'.heap.get? Ga = none := get_size (Nat.le_of_eq hGa)
  have nG : s2.heap.get? Ga = none := none_back k3 nG'
  have hGL : Ga ≠ L := fun z => by rw [z, hoL] at nG'; cases nG'
  generalize hoG : ({ cls := .type "generator", data := .fields #[.int s'.gens.size 0, .str fdIter.name s'.toks, .str fdIter.qualname (s'.toks + 1)] } : Obj) = oG
  have hput : (s'.heap.push oG).get? Ga = some oG := by rw [← hGa]; exact Heap.get?_push_size _ (by rw [← hoG]; rfl)
  have hgen : ∀ (h : Heap) (a : Addr), h.get? a = some oG → h.IsGen a s'.gens.size := fun h a q => by
    rw [← hoG] at q
    exact ⟨_, _, _, q, rfl, rfl, rfl⟩
  have hcls : oG.cls = .type "generator" := by rw [← hoG]
  have GO : GObj c.w.params s'.gens.size oG oL L x t := ⟨hgen, hcls, fun h q => ⟨m, hnm.at' fun o qo => by rw [hoL] at qo; cases qo; exact q, hma⟩, h12_none F2.base nL⟩
  have k4 : Gr s2 { s' with gens := s'.gens.push (.fresh (.func bodyG (envG L))), toks := s'.toks + 1 + 1, heap := s'.heap.push oG } :=
    ⟨fun b o q => Heap.get?_push_of_some _ (k3.keep b o q), k3.os, fun i y q => by
      have := k3.gens i y q
      obtain ⟨hi, _⟩ := Array.getElem?_eq_some_iff.mp this
      show (s'.gens.push _)[i]? = some y
      rw [Array.getElem?_push_lt hi]
      rw [Array.getElem?_eq_getElem hi] at this
      exact this, fun q => AllBare.push (k3.bare q) rfl⟩
  have F4 := F2.gain (O := O0 L Ga s'.gens.size oG oL) k4 (View.Le.refl g) (nv_le _ _ _) ⟨fun o ho => ?_, fun a ha' => ?_, fun i hi => ?_, ?_, ?_⟩
  · show wpAny _ _ (pyIter (.ref Ga)) Q E _
    exact wpAny_pyIter_gen (hgen _ _ hput) (hQ Ga L _ oG t _ _ (.fresh GO) hgen hcls hput F4)
  · simp only [List.mem_cons, List.not_mem_nil, or_false] at ho
    rcases ho with rfl | rfl | rfl
    · exact ⟨_, hput, rfl⟩
    · exact ⟨_, Heap.get?_push_of_some _ hoL, rfl⟩
    · exact ⟨_, Array.getElem?_push_size, rfl⟩
  · have : a = Ga ∨ a = L := by simpa [adrs, Own.adr] using ha'
    rcases this with rfl | rfl
    · exact ⟨nG, view_none F2.sub nG⟩
    · exact ⟨nL, view_none F2.sub nL⟩
  · have : s'.gens.size = i := by simpa [gixs, Own.gix] using hi
    rw [← this, hg]
    exact Array.getElem?_eq_none (Nat.le_refl _)
  · show [Ga, L].Nodup
    simp [hGL]
  · show [s'.gens.size].Nodup
    simp
end
end Mine
end
section
set_option Elab.async false
set_option linter.unusedVariables false
set_option maxRecDepth 100000
set_option maxHeartbeats 4000000
namespace Mine
open PySem PySem.W PySem.Calls PyProof.Rows
local macro_rules | `(tactic| walk_at "ev") => `(tactic| first
  | exact Ev.int
  | exact Ev.str
  | exact Ev.bool
  | exact Ev.none_
  | (refine Ev.name ?_; rfl)
  | (refine Ev.add ?_ ?_ <;> first | walk_at "ev" | skip)
  )
section
variable {p : Program} {c : Cx} {A : Around} {x : Str} {own : List Own} {l : List (Str × PV)} {g : View} {s : Shared} {E : Value → Shared → Prop} {Q : Flow → Shared → Prop}
theorem OK.at_ {Ga L : Addr} {gi : Nat} {oG : Obj} {t : Tok} {IT : List (Nat × Str)} {n : Nat} {O : List Own} (h : OK p c.w A Ga L gi oG x t IT n O) (F : Fr c (own ++ O) l g s) : s.heap.get? Ga = some oG := by
  cases h with
  | fresh G =>
    obtain ⟨o, q1, q2⟩ := F.hold.holds _ (List.mem_append_right _ List.mem_cons_self)
    rw [q1]; exact congrArg some q2
  | asleep G =>
    obtain ⟨o, q1, q2⟩ := F.hold.holds _ (List.mem_append_right _ List.mem_cons_self)
    rw [q1]; exact congrArg some q2
noncomputable abbrev itP (x : Str) : List (Nat × Str) := escP 0 false x.cps.toList
theorem Fr.forGen {target ea : Expr} {body rest : List Stmt} {px cpos pos : Pos} (F : Fr c own l g s) (bs : Nat × Str → List (Str × PV)) (inv : Nat → List (Str × PV)) (io : Nat → List Own)
    (hA : AOk 8 A) (hx : x.cps.size ≤ 1000000) (hk : c.env.kindOf ("_iter_escaped_chars" : Str) = some .globalImplicit) (ha : Ev p c.w A c.env l g ea (.str x)) (e0 : own = io 0) (l0 : ∀ y r, (inv 0).lookup y = some r → l.lookup y = some r)
    (hb : ∀ y, Binds (Sto c) target (mkE y) (bs y))
    (turn : ∀ i (hi : i < (itP x).length) oth g' s' (E : Value → Shared → Prop), Fr c (io i ++ oth) (bs (itP x)[i] ++ inv i) g' s' → Ex p A c body
      (fun f s'' => f = .next ∧ ∃ g'', Fr c (io (i + 1) ++ oth) (inv (i + 1)) g'' s'') E s')
    (h : ∀ g' s', Fr c (io (itP x).length) (inv (itP x).length) g' s' → Ex p A c rest Q E s')
    (hs : ∀ y, foldedSetIterable (.Call (.Name "_iter_escaped_chars" px) [ea] [] cpos) c.env y = pure y := by intro _; rfl) (he : ∀ env, starEach [ea] env = [(false, eval ea env)] := by intro _; rfl) :
    Ex p A c (.For target (.Call (.Name "_iter_escaped_chars" px) [ea] [] cpos) body [] pos :: rest) Q E s := by
  refine .cons_ (wpAny_For (make_gen (n := 0) hA F hk ha (fun Ga L gi oG t O s2 hOK hG1 hcls hput F2 => ?_) he) hs)
  have F0 : Fr c (io 0 ++ O) (inv 0) g s2 := by
    rw [← e0]
    exact F2.weaken l0
  obtain ⟨N, hN⟩ : ∃ N, (itP x).length = N := ⟨_, rfl⟩
  have hOK' : OK p c.w A Ga L gi oG x t (itP x) N O := hN ▸ hOK
  refine codeAny_forLoop_any (fun m s' => ∃ n g' O, n ≤ N ∧ OK p c.w A Ga L gi oG x t (itP x) n O ∧ Fr c (io (N - n) ++ O) (inv (N - n)) g' s' ∧ m = n + 1) ?_ (N + 1) ⟨N, g, O, Nat.le_refl _, hOK', by rw [Nat.sub_self]; exact F0, rfl⟩
  rintro m s' ⟨n, g', O', hn, hO', F', rfl⟩
  refine gen_next (Q := _) hA hx rfl hG1 hO' F' (fun m' hm r hr v g2 s1 O2 hO2 lg F3 hv => ?_) fun hn0 s1 F3 => ?_
  · subst hm
    have hi : N - (m' + 1) < (itP x).length := by omega
    have hr' : (itP x)[N - (m' + 1)]'hi = r := by
      rw [hN, show N - 1 - m' = N - (m' + 1) by omega, List.getElem?_eq_getElem hi] at hr
      exact Option.some.inj hr
    have e2 : N - m' = N - (m' + 1) + 1 := by omega
    dsimp only
    refine go_plain (nm := "generator") (hO2.at_ F3) hcls (by decide) ?_
    refine F3.asg hA.handled (hb r) hv fun s4 F4 => ?_
    have T := turn (N - (m' + 1)) hi O2 g2 s4 (notedBy (model p c.w) A c.env fun e s' => cameBackBy (model p c.w) A c.env E e s') (by rw [hr']; exact F4)
    refine wpAny_mono T.run (fun f s5 h5 => ?_) fun _ _ q => q
    obtain ⟨rfl, g5, F5⟩ := h5
    exact ⟨m' + 1, by omega, m', g5, O2, by omega, hO2, by rw [e2]; exact F5, rfl⟩
  · subst hn0
    rw [Nat.sub_zero, ← hN] at F3
    exact wpAny_execs_nil (h _ _ F3)
end
structure SS where
  start : Nat
  op : Option Nat
  parts : List Str
noncomputable def opP : Option Nat → PV
  | none => .none
  | some o => .int o
noncomputable def stepS (x : Str) (st : SS) (y : Nat × Str) : SS :=
  if (y.2 == (⟨#[34]⟩ : Str)) = true then match st.op with
    | none => { st with op := some y.1 }
    | some o => ⟨y.1 + 1, none, if ((st.start : Int) != (o : Int)) = true then st.parts ++ [Txt.slice x (some st.start) (some o)] else st.parts⟩
  else st
noncomputable def runS (x : Str) (m : Nat) : SS := ((itP x).take m).foldl (stepS x) ⟨0, none, []⟩
noncomputable def noQ (x : Str) : Bool := (Builtin.Str.occurrences x ⟨#[34]⟩ 0 x.length 1).isEmpty
noncomputable def partsS (x : Str) : List Str := (runS x (itP x).length).parts ++ if ((runS x (itP x).length).start : Int) < (x.length : Int) then [Txt.slice x (some (runS x (itP x).length).start) none] else []
noncomputable def stripP (x : Str) : Str := if noQ x = true then x else Txt.join ⟨#[]⟩ (partsS x)
theorem runS_succ (x : Str) (i : Nat) (h : i < (itP x).length) : runS x (i + 1) = stepS x (runS x i) (itP x)[i] := fold_take _ _ _ i h
theorem escP_len : ∀ (l : List Nat) (i : Nat) (esc : Bool), (escP i esc l).length ≤ l.length + 1
  | [], i, esc => by unfold escP; split <;> simp
  | c :: r, i, esc => by
    unfold escP
    have h1 := escP_len r (i + 1) false
    have h2 := escP_len r (i + 1) true
    split
    · simp only [List.length_cons]; omega
    · split
      · simp only [List.length_cons]; omega
      · simp only [List.length_cons]; omega
theorem runS_parts (x : Str) : ∀ i, i ≤ (itP x).length → (runS x i).parts.length ≤ i
  | 0, _ => by simp [runS]
  | i + 1, h => by
    rw [runS_succ x i h]
    have := runS_parts x i (by omega)
    unfold stepS
    split
    · split
      · exact Nat.le_succ_of_le this
      · split
        · simp; omega
        · exact Nat.le_succ_of_le this
    · exact Nat.le_succ_of_le this
theorem mk_app (xs : List Str) (y : Str) : (xs.map PV.str) ++ [.str y] = (xs ++ [y]).map .str := by simp
theorem slice_len (x : Str) (i j : Option Int) : (Txt.slice x i j).length ≤ x.length := Txt.slice_le x i j
theorem runS_lens (x : Str) : ∀ i, i ≤ (itP x).length → ∀ y ∈ (runS x i).parts, y.length ≤ x.length
  | 0, _ => by intro y hy; cases hy
  | i + 1, h => by
    rw [runS_succ x i h]
    have ih := runS_lens x i (by omega)
    unfold stepS
    split
    · split
      · exact ih
      · split
        · intro y hy
          rcases List.mem_append.mp hy with hy | hy
          · exact ih y hy
          · rw [List.mem_singleton.mp hy]; exact slice_len _ _ _
        · exact ih
    · exact ih
theorem sum_le {ys : List Str} {b : Nat} (h : ∀ y ∈ ys, y.length ≤ b) : (ys.map (·.length)).sum ≤ ys.length * b := by
  induction ys with
  | nil => simp
  | cons y ys ih =>
    have h1 := h y List.mem_cons_self
    have h2 := ih fun z hz => h z (List.mem_cons_of_mem _ hz)
    simp only [List.map_cons, List.sum_cons, List.length_cons, Nat.succ_mul]
    omega
theorem body_strip {p : Program} {w : World} {n : Nat} (x : Str) (hx : x.length ≤ 2000) : BodyOk p w (n + 8) fdStrip 45 ["addr"] [.str x] (.str (stripP x)) := by
  intro A s0 g0 L s g hA F Q E hQ
  have hxc : x.cps.size ≤ 2000 := hx
  have hN : (itP x).length ≤ 2001 := by
    have := escP_len x.cps.toList 0 false
    simp at this
    show (escP 0 false x.cps.toList).length ≤ 2001
    omega
  refine F.if_ (b := (!(!(noQ x)))) ?_ ?_ ?_
  · refine EvB.notInS (x := x) (y := ⟨#[34]⟩) ?_ ?_
    · walk_at "ev"
    · walk_at "ev"
  · intro hb s1 F1
    have hb' : noQ x = true := by simpa using hb
    refine F1.ret (r := .str (stripP x)) ?_ hQ
    unfold stripP
    rw [if_pos hb']
    walk_at "ev"
  · intro hb s1 F1
    have hb' : noQ x = false := by simpa using hb
    refine Ex.nil_ ?_
    show Ex p A _ _ _ E s1
    refine F1.assign (r := .int 0) ?_ (.inl ?_) ?_
    rotate_left
    · rfl
    rotate_left
    · exact Ev.int
    intro g2 s2 l2 F2
    refine F2.assign (r := .none) ?_ (.inl ?_) ?_
    rotate_left
    · rfl
    rotate_left
    · exact Ev.none_
    intro g3 s3 l3 F3
    refine F3.newL (ps := []) ?_ (.inl ?_) ?_
    · exact EvO.list Evs.nil (by decide)
    · rfl
    intro a g4 s4 l4 F4
    refine Fr.forGen (x := x) F4 (fun y => [("ch", .str y.2), ("pos", .int y.1)]) (fun i => [("start", .int (runS x i).start), ("open_pos", opP (runS x i).op), ("result", .ref a), ("addr", .str x)]) (fun i => [.lst a ((runS x i).parts.map .str)]) ?_ ?_ ?_ ?_ rfl ?_ ?_ ?_ ?_
    · exact hA.mono (by omega)
    · omega
    · rfl
    · walk_at "ev"
    · exact (Sub.cons rfl (.cons rfl (.cons rfl (.cons rfl .nil)))).all
    · intro y
      refine Binds.tup2 (.inl ?_) (.inl ?_)
      · rfl
      · rfl
    · intro i hi oth g5 s5 E5 F5
      have hst := runS_succ x i hi
      have hpl := runS_parts x i (by omega)
      rw [hst]
      generalize hyi : (itP x)[i] = y at *
      generalize runS x i = st at *
      obtain ⟨yp, yc⟩ := y
      obtain ⟨start, op, parts⟩ := st
      dsimp only at hpl F5
      refine F5.if_ (b := (yc == (⟨#[34]⟩ : Str))) ?_ ?_ ?_
      · refine EvB.eqS ?_ ?_
        · walk_at "ev"
        · walk_at "ev"
      · intro hq s6 F6
        have key : stepS x ⟨start, op, parts⟩ (yp, yc) = match op with
            | none => ⟨start, some yp, parts⟩
            | some o => ⟨yp + 1, none, if ((start : Int) != (o : Int)) = true then parts ++ [Txt.slice x (some start) (some o)] else parts⟩ := by
          unfold stepS
          dsimp only
          rw [if_pos hq]
          cases op <;> rfl
        rw [key]
        cases op with
        | none =>
          refine F6.if_ (b := true) ?_ ?_ ?_
          · refine EvB.conv (EvB.isNone (x := opP none) ?_) rfl
            walk_at "ev"
          · intro _ s7 F7
            refine F7.assign (r := .int yp) ?_ (.inl ?_) ?_
            rotate_left
            · rfl
            rotate_left
            · walk_at "ev"
            intro g8 s8 l8 F8
            refine Ex.nil_ (Ex.nil_ (Ex.nil_ ⟨rfl, g8, F8.weaken ?_⟩))
            exact (Sub.cons rfl (.cons rfl (.cons rfl (.cons rfl .nil)))).all
          · intro h; cases h
        | some o =>
          refine F6.if_ (b := false) ?_ ?_ ?_
          · refine EvB.conv (EvB.isNone (x := opP (some o)) ?_) rfl
            walk_at "ev"
          · intro h; cases h
          · intro _ s7 F7
            refine F7.if_ (b := ((start : Int) != (o : Int))) ?_ ?_ ?_
            · refine EvB.cmpI CmpI.ne (x := start) (y := o) ?_ ?_
              · walk_at "ev"
              · refine Ev.conv (r := opP (some o)) ?_ rfl
                walk_at "ev"
            · intro hne s8 F8
              dsimp only
              rw [if_pos hne]
              refine Fr.append (r := .str (Txt.slice x (some start) (some o))) [] oth F8 ?_ ?_ ?_ ?_
              · walk_at "ev"
              · refine Ev.sliceS_ss ?_ ?_ ?_ (by omega)
                · walk_at "ev"
                · walk_at "ev"
                · refine Ev.conv (r := opP (some o)) ?_ rfl
                  walk_at "ev"
              · rw [List.length_map]; omega
              · intro g9 s9 l9 F9
                refine Ex.nil_ ?_
                show Ex p A _ _ _ E5 s9
                refine F9.assign (r := .int ((yp : Int) + 1)) ?_ (.inl ?_) ?_
                rotate_left
                · rfl
                rotate_left
                · walk_at "ev"
                intro g10 s10 l10 F10
                refine F10.assign (r := .none) ?_ (.inl ?_) ?_
                rotate_left
                · rfl
                rotate_left
                · exact Ev.none_
                intro g11 s11 l11 F11
                refine Ex.nil_ (Ex.nil_ (Ex.nil_ ⟨rfl, g11, ?_⟩))
                rw [mk_app] at F11
                exact F11.weaken (Sub.cons rfl (.cons rfl (.cons rfl (.cons rfl .nil)))).all
            · intro hne s8 F8
              dsimp only
              rw [if_neg (by rw [hne]; exact Bool.false_ne_true)]
              refine Ex.nil_ ?_
              show Ex p A _ _ _ E5 s8
              refine F8.assign (r := .int ((yp : Int) + 1)) ?_ (.inl ?_) ?_
              rotate_left
              · rfl
              rotate_left
              · walk_at "ev"
              intro g10 s10 l10 F10
              refine F10.assign (r := .none) ?_ (.inl ?_) ?_
              rotate_left
              · rfl
              rotate_left
              · exact Ev.none_
              intro g11 s11 l11 F11
              refine Ex.nil_ (Ex.nil_ (Ex.nil_ ⟨rfl, g11, ?_⟩))
              exact F11.weaken (Sub.cons rfl (.cons rfl (.cons rfl (.cons rfl .nil)))).all
      · intro hq s6 F6
        have key : stepS x ⟨start, op, parts⟩ (yp, yc) = ⟨start, op, parts⟩ := by
          unfold stepS
          dsimp only
          rw [if_neg (by rw [hq]; exact Bool.false_ne_true)]
        rw [key]
        refine Ex.nil_ (Ex.nil_ ⟨rfl, g5, F6.weaken ?_⟩)
        exact (Sub.cons rfl (.cons rfl (.cons rfl (.cons rfl .nil)))).all
    · intro g6 s6 F6
      have hpl := runS_parts x _ (Nat.le_refl _)
      have hle := runS_lens x _ (Nat.le_refl _)
      have hps : partsS x = (runS x (itP x).length).parts ++ if ((runS x (itP x).length).start : Int) < (x.length : Int) then [Txt.slice x (some (runS x (itP x).length).start) none] else [] := rfl
      have hfin : ∀ g7 s7 l', Fr (fnCx w fdStrip 45 s0 g0 L) [.lst a ((partsS x).map .str)] l' g7 s7 → l'.lookup ("result" : Str) = some (.ref a) → Ex p A (fnCx w fdStrip 45 s0 g0 L) ((bodyOf fdStrip).drop 6) Q E s7 := by
        intro g7 s7 l' F7 hl7
        obtain ⟨g8, l8, F8, r8⟩ := Fr.freeze [] [] F7
        have F9 : Fr (fnCx w fdStrip 45 s0 g0 L) [] [("result", .lst ((partsS x).map .str))] g8 s7 := F8.up fun y q e => by
          rw [List.lookup_cons] at e
          cases z : y == "result" with
          | true =>
            rw [z] at e
            cases e
            rw [eq_of_beq z]
            exact ⟨.ref a, hl7, fun v hv => by cases rep_ref_inv hv; exact r8⟩
          | false => rw [z] at e; cases e
        refine F9.ret (r := .str (stripP x)) ?_ hQ
        unfold stripP
        rw [if_neg (by rw [hb']; exact Bool.false_ne_true)]
        refine Ev.join ?_ ?_ ?_
        · exact Ev.str
        · walk_at "ev"
        · have hlen : ∀ y ∈ partsS x, y.length ≤ x.length := by
            rw [hps]
            intro y hy
            rcases List.mem_append.mp hy with hy | hy
            · exact hle y hy
            · split at hy
              · rw [List.mem_singleton.mp hy]; exact slice_len _ _ _
              · cases hy
          have hcount : (partsS x).length ≤ 2002 := by
            rw [hps, List.length_append]
            split
            · show _ + 1 ≤ 2002
              omega
            · show _ + 0 ≤ 2002
              omega
          have h1 := sum_le hlen
          have h2 : (partsS x).length * x.length ≤ 2002 * 2000 := Nat.mul_le_mul hcount hx
          have h3 : (⟨#[]⟩ : Str).length = 0 := rfl
          rw [h3]
          omega
      refine F6.if_ (b := decide (((runS x (itP x).length).start : Int) < (x.length : Int))) ?_ ?_ ?_
      · refine EvB.cmpI CmpI.lt ?_ ?_
        · walk_at "ev"
        · refine Ev.lenS ?_ (b_len _) ?_ (by omega)
          · rfl
          · walk_at "ev"
      · intro hlt s7 F7
        rw [if_pos (of_decide_eq_true hlt)] at hps
        refine Fr.append (r := .str (Txt.slice x (some (runS x (itP x).length).start) none)) [] [] F7 ?_ ?_ ?_ ?_
        · walk_at "ev"
        · refine Ev.sliceS_sn ?_ ?_ (by omega)
          · walk_at "ev"
          · walk_at "ev"
        · rw [List.length_map]; omega
        · intro g8 s8 l8 F8
          rw [mk_app, ← hps] at F8
          exact Ex.nil_ (hfin g8 s8 _ F8 rfl)
      · intro hlt s7 F7
        rw [if_neg (of_decide_eq_false hlt), List.append_nil] at hps
        rw [← hps] at F7
        exact Ex.nil_ (hfin g6 s7 _ F7 rfl)
theorem fn_strip {p : Program} {w : World} {n : Nat} (x : Str) (hx : x.length ≤ 2000) : FnOk p w (n + 9) (.ref 45) [.str x] (.str (stripP x)) := FnOk.of_body (atStrip _) rfl (body_strip x hx)
end Mine
end
section
set_option Elab.async false
set_option linter.unusedVariables false
set_option maxRecDepth 100000
set_option maxHeartbeats 4000000
namespace Mine
open PySem PySem.W PySem.Calls PyProof.Rows
local macro_rules | `(tactic| walk_at "ev") => `(tactic| first
  | exact Ev.int
  | exact Ev.str
  | exact Ev.bool
  | exact Ev.none_
  | (refine Ev.name ?_; rfl)
  | (refine Ev.mod ?_ ?_ ?_ <;> first | walk_at "ev" | skip)
  | (refine Ev.add ?_ ?_ <;> first | walk_at "ev" | skip)
  | (refine Ev.sub ?_ ?_ <;> first | walk_at "ev" | skip)
  | (refine Ev.list ?_ ?_ <;> first | walk_at "ev" | decide | skip)
  | (refine Ev.tuple ?_ ?_ <;> first | walk_at "ev" | decide | skip)
  | exact Evs.nil
  | (refine Evs.cons ?_ ?_ <;> first | walk_at "ev" | skip)
  )
theorem fn_due {p : Program} {w : World} {n : Nat} (nodes : Int) (xs : List Piece) (hx : xs.length ≤ 100000) (hn : ∀ y ∈ xs, y.1 ≤ 4) (hz : szP xs ≤ 100000) : FnOk p w (n + 1) (.ref 198) [.lst (xs.map mk3), .int nodes] (.str (dueP nodes xs)) := FnOk.of_body (atDue _) rfl (body_due nodes xs hx hn hz)

section
variable {p : Program} {A : Around} {c : Cx} {own : List Own} {l : List (Str × PV)} {g : View} {s : Shared} {E : Value → Shared → Prop} {Q : Flow → Shared → Prop}
theorem Fr.assignT {x y : Str} {px py tpos pos : Pos} {k : Nat} {e : Expr} {rest : List Stmt} {r u : PV} (F : Fr c own l g s) (hh : A.handled = none) (he : Ev p c.w A c.env l g e (.tup [r, u])) (hx : Sto c x) (hy : Sto c y)
    (h : ∀ g' s', g.Le g' → Fr c own ((y, u) :: (x, r) :: l) g' s' → Ex p A c rest Q E s')
    (hs : swapsWithSole [.Tuple [.Name x px, .Name y py] k tpos] e pos.line c.env = pure false := by rfl) (hw : swappedStores [.Tuple [.Name x px, .Name y py] k tpos] e c.env = pure none := by rfl) :
    Ex p A c (.Assign [.Tuple [.Name x px, .Name y py] k tpos] e pos :: rest) Q E s := by
  refine .cons_ (wpAny_Assign_stores (he.run s F.pre _ _ fun v s1 k1 r1 => ?_) hs hw)
  show wpAny _ A (PySem.assign (.Tuple [.Name x px, .Name y py] k tpos) c.env v) _ _ _
  exact (F.step k1).asg hh (Binds.tup2 hx hy) r1 fun s2 F2 => h _ _ (nv_le _ _ _) F2
end
theorem sto_cell {w : World} {L : Addr} {s0 : Shared} {g0 : View} {x : Str} (h : fdLaw.scope.names.lookup x = some .cell) (hd : x ≠ ("__classdict__" : Str)) : Sto (fnCx w fdLaw 203 s0 g0 L) x := by
  refine .inr ⟨h, hd, ?_⟩
  have := cellsFrom_some (x := x) fdLaw.scope.names (L + 1) [] (.inl h)
  obtain ⟨b, hb⟩ := Option.isSome_iff_exists.mp this
  exact ⟨b, mem_of_lookup hb⟩

-- what the law computes
noncomputable def pickI (xs : List Int) (lo hi st : Option Int) : List Int := (sliceRange (sliceBounds lo hi st xs.length).1 (sliceBounds lo hi st xs.length).2.1 (sliceBounds lo hi st xs.length).2.2).filterMap (xs[·]?)
theorem pick_map (xs : List Int) (lo hi st : Option Int) : pickP (xs.map PV.int) lo hi st = (pickI xs lo hi st).map .int := by
  unfold pickP pickI
  rw [List.length_map, List.map_filterMap]
  congr 1
  funext i
  rw [List.getElem?_map]
noncomputable def numP (xs : List Int) (k : Nat) (extra : Int) : Int := ((pickI xs (some k) none (some 4)).map (·.fmod 1000000)).sum + extra
noncomputable def numsP (xs : List Int) : List Int := [numP xs 0 54, numP xs 1 55, numP xs 2 58, numP xs 3 57]
noncomputable def startP (N : List Int) : Nat := (N.sum.fmod 6).toNat
noncomputable def headP (N : List Int) : Str := ([⟨#[]⟩, ⟨#[34, 34]⟩, ⟨#[34, 46, 34]⟩] : List Str).getD (N.sum.fmod 3).toNat ⟨#[]⟩
noncomputable def tailP (N : List Int) : Str := ([⟨#[]⟩, ⟨#[34]⟩, ⟨#[34, 46]⟩, ⟨#[92]⟩] : List Str).getD ((N.sum.fdiv 6).fmod 4).toNat ⟨#[]⟩
noncomputable def netK (N : List Int) (kind : Nat) : List Int := if kind = 0 then (netsP N).n0 else (netsP N).n1
noncomputable def pcsK (N : List Int) (kind : Nat) : List Piece := piecesP (netK N kind) (startP N) ((N.getD kind 0).fdiv 100)
noncomputable def text0 (N : List Int) (kind : Nat) : Str := headP N ++ Txt.join ⟨#[]⟩ ((pcsK N kind).map (·.2.1)) ++ tailP N
noncomputable def nodesK (N : List Int) (kind : Nat) : List Nat := (List.range 4).filter fun k => kindI N k == (kind : Int)
noncomputable def judgeA (i : Nat) : Addr := [80, 87, 99, 111, 135, 153].getD i 80
noncomputable def judgeB (i : Nat) (c : Nat) : Bool := match i with
  | 0 => b1L.contains (c : Int)
  | 1 => c4B c
  | 2 => c6L.contains (c : Int)
  | 3 => c7L.contains (c : Int)
  | 4 => c8L.contains (c : Int)
  | _ => c9L.contains (c : Int)
noncomputable def toldAt (N : List Int) (kind m : Nat) : List (Nat × Int) := ((nodesK N kind).take m).foldl (fun t node => toldP (judgeB ((startP N + node) % 6)) (2 ^ node) t) ((text0 N kind).cps.toList.map fun c => (c, 0))
noncomputable def toldK (N : List Int) (kind : Nat) : List (Nat × Int) := toldAt N kind (nodesK N kind).length
noncomputable def setsAt (N : List Int) (kind m : Nat) : List Int := ((nodesK N kind).take m).foldl (fun t node => t ++ t.map (· + 2 ^ node)) [0]
noncomputable def setsK (N : List Int) (kind : Nat) : List Int := setsAt N kind (nodesK N kind).length
noncomputable def textK (N : List Int) (kind : Nat) (nodes : Int) : Str := Txt.join ⟨#[]⟩ (((toldK N kind).filter fun y => Builtin.bitAnd y.2 nodes == 0).map fun y => ⟨#[y.1]⟩)
noncomputable def mailK (N : List Int) (kind : Nat) (nodes : Int) : Str := quoteP (stripP (textK N kind nodes))
noncomputable def crlfS : Str := ⟨#[13, 10]⟩
noncomputable def rowsK (m : Str) : List Str := (Txt.split m crlfS).drop 1
noncomputable def seenM (m : Str) : Int := (((rowsK m).filter fun r => Txt.slice r none (some 2) == (⟨#[46, 46]⟩ : Str)).length : Nat)
noncomputable def oneK (N : List Int) (kind : Nat) : Int := (N.sum.fdiv 36).fmod ((setsK N kind).length : Nat)
noncomputable def seenK (N : List Int) (kind : Nat) : List Int := (setsK N kind).map fun nodes => seenM (mailK N kind nodes)
noncomputable def highP (N : List Int) : Int := ((seenK N 0).map fun s => 101 ^ s.toNat * (-99) ^ (4 - s).toNat).sum
noncomputable def lowP (N : List Int) : Int := ((seenK N 1).map fun s => 100 ^ (4 - s).toNat).sum
theorem nums_len (xs : List Int) : (numsP xs).length = 4 := rfl

/-- what must be shown of the numbers, apart from the walk -/
structure LawOk (N : List Int) : Prop where
  len : N.length = 4
  mark : ∀ kind < 2, ∀ y ∈ toldK N kind, 0 ≤ y.2 ∧ y.2 ≤ 15
  mail : ∀ kind < 2, ∀ k, k < (setsK N kind).length → mailK N kind ((setsK N kind).getD k 0) = dueP ((setsK N kind).getD k 0) (pcsK N kind) ++ tailP N
  seen : ∀ kind < 2, ∀ s ∈ seenK N kind, 0 ≤ s ∧ s ≤ 4
  fin : highP N = ((seenK N 0).length : Nat) * lowP N
end Mine
end
section
set_option Elab.async false
set_option linter.unusedVariables false
set_option maxRecDepth 100000
set_option maxHeartbeats 4000000
namespace Mine
open PySem PySem.W PySem.Calls PyProof.Rows
local macro_rules | `(tactic| walk_at "ev") => `(tactic| first
  | exact Ev.int
  | exact Ev.str
  | exact Ev.bool
  | exact Ev.none_
  | (refine Ev.name ?_; rfl)
  | (refine Ev.mod ?_ ?_ ?_ <;> first | walk_at "ev" | skip)
  | (refine Ev.add ?_ ?_ <;> first | walk_at "ev" | skip)
  | (refine Ev.sub ?_ ?_ <;> first | walk_at "ev" | skip)
  | (refine Ev.list ?_ ?_ <;> first | walk_at "ev" | decide | skip)
  | (refine Ev.tuple ?_ ?_ <;> first | walk_at "ev" | decide | skip)
  | exact Evs.nil
  | (refine Evs.cons ?_ ?_ <;> first | walk_at "ev" | skip)
  )
theorem pieces_bd (net : List Int) (start : Nat) (number : Int) : (piecesP net start number).length ≤ 25 ∧ ∀ y ∈ piecesP net start number, y.1 ≤ 4 ∧ y.2.1.length ≤ 8 ∧ y.2.2.length ≤ 8 := by
  refine ⟨flat_len (turnP net start number) 5 (turnP_len _ _ _) 5, fun y hy => ?_⟩
  unfold piecesP preP at hy
  rw [List.mem_flatMap] at hy
  obtain ⟨k, hk, hy⟩ := hy
  unfold turnP at hy
  rcases List.mem_append.mp hy with hy | hy
  · unfold nodesP at hy
    rw [List.mem_flatMap] at hy
    obtain ⟨m, hm, hy⟩ := hy
    rw [List.mem_range] at hm
    unfold nodeP at hy
    split at hy
    · rw [List.mem_singleton.mp hy]
      refine ⟨by show m ≤ 4; omega, ?_, ?_⟩
      · show (signS start number k m).length ≤ 8
        unfold signS
        rw [Str.length_append, Str.length_append]
        simp [Str.length]
      · show (⟨#[92, 92]⟩ : Str).length ≤ 8
        decide
    · cases hy
  · split at hy
    · rw [List.mem_singleton.mp hy]
      have h1 := nl_len (number + k)
      have h2 := dots_len number k
      refine ⟨Nat.le_refl 4, ?_, ?_⟩
      · show (nlS (number + k) ++ dotsP number k).length ≤ 8
        rw [Str.length_append]; omega
      · show ((⟨#[13, 10, 46]⟩ : Str) ++ dotsP number k).length ≤ 8
        rw [Str.length_append]
        have h3 : (⟨#[13, 10, 46]⟩ : Str).length = 3 := rfl
        omega
    · cases hy
theorem join_len (ys : List Str) : (Txt.join ⟨#[]⟩ ys).length = (ys.map (·.length)).sum := by
  rw [join_flat]
  show (flatS ys).toArray.size = _
  rw [List.size_toArray, flatS_len]
theorem head_len (N : List Int) : (headP N).length ≤ 3 := by
  have h0 := Int.fmod_nonneg_of_pos N.sum (by decide : (0 : Int) < 3)
  have h1 := Int.fmod_lt_of_pos N.sum (by decide : (0 : Int) < 3)
  unfold headP
  have : N.sum.fmod 3 = 0 ∨ N.sum.fmod 3 = 1 ∨ N.sum.fmod 3 = 2 := by omega
  rcases this with h | h | h <;> rw [h] <;> decide
theorem tail_len (N : List Int) : (tailP N).length ≤ 2 := by
  have h0 := Int.fmod_nonneg_of_pos (N.sum.fdiv 6) (by decide : (0 : Int) < 4)
  have h1 := Int.fmod_lt_of_pos (N.sum.fdiv 6) (by decide : (0 : Int) < 4)
  unfold tailP
  have : (N.sum.fdiv 6).fmod 4 = 0 ∨ (N.sum.fdiv 6).fmod 4 = 1 ∨ (N.sum.fdiv 6).fmod 4 = 2 ∨ (N.sum.fdiv 6).fmod 4 = 3 := by omega
  rcases this with h | h | h | h <;> rw [h] <;> decide
theorem pcs_bd (N : List Int) (kind : Nat) : (pcsK N kind).length ≤ 25 ∧ ∀ y ∈ pcsK N kind, y.1 ≤ 4 ∧ y.2.1.length ≤ 8 ∧ y.2.2.length ≤ 8 := pieces_bd _ _ _
theorem join0_len (N : List Int) (kind : Nat) : (Txt.join ⟨#[]⟩ ((pcsK N kind).map (·.2.1))).length ≤ 200 := by
  rw [join_len]
  obtain ⟨h1, h2⟩ := pcs_bd N kind
  have h3 := sum_le (ys := (pcsK N kind).map (·.2.1)) (b := 8) fun y hy => by
    obtain ⟨z, hz, rfl⟩ := List.mem_map.mp hy
    exact (h2 z hz).2.1
  rw [List.length_map] at h3
  have := Nat.mul_le_mul_right 8 h1
  omega
theorem text0_len (N : List Int) (kind : Nat) : (text0 N kind).length ≤ 205 := by
  unfold text0
  rw [Str.length_append, Str.length_append]
  have := head_len N
  have := tail_len N
  have := join0_len N kind
  omega
theorem told_len (N : List Int) (kind : Nat) : ∀ m, (toldAt N kind m).length = (text0 N kind).length := by
  intro m
  unfold toldAt
  generalize (nodesK N kind).take m = l
  have h0 : ((text0 N kind).cps.toList.map fun c => (c, (0 : Int))).length = (text0 N kind).length := by simp [Str.length]
  revert h0
  generalize (text0 N kind).cps.toList.map (fun c => (c, (0 : Int))) = t
  induction l generalizing t with
  | nil => intro h; exact h
  | cons a r ih =>
    intro h
    rw [List.foldl_cons]
    exact ih _ (by rw [toldP, List.length_map]; exact h)
theorem sets_len (N : List Int) (kind : Nat) : ∀ m, m ≤ (nodesK N kind).length → (setsAt N kind m).length = 2 ^ m
  | 0, _ => rfl
  | m + 1, h => by
    unfold setsAt
    rw [fold_take _ _ _ m (by omega)]
    have := sets_len N kind m (by omega)
    unfold setsAt at this
    rw [List.length_append, List.length_map, this, Nat.pow_succ]
    omega
theorem nodes_len (N : List Int) (kind : Nat) : (nodesK N kind).length ≤ 4 := by
  have := List.length_filter_le (fun k => kindI N k == (kind : Int)) (List.range 4)
  rw [List.length_range] at this
  exact this
theorem setsK_len (N : List Int) (kind : Nat) : 1 ≤ (setsK N kind).length ∧ (setsK N kind).length ≤ 16 := by
  unfold setsK
  rw [sets_len N kind _ (Nat.le_refl _)]
  have h := nodes_len N kind
  have : 2 ^ (nodesK N kind).length ≤ 2 ^ 4 := Nat.pow_le_pow_right (by decide) h
  exact ⟨Nat.pos_of_ne_zero (by simp), by omega⟩
theorem text_len (N : List Int) (kind : Nat) (nodes : Int) : (textK N kind nodes).length ≤ 205 := by
  unfold textK
  rw [join_len]
  have h1 := sum_le (ys := ((toldK N kind).filter fun y => Builtin.bitAnd y.2 nodes == 0).map fun y => (⟨#[y.1]⟩ : Str)) (b := 1) fun y hy => by
    obtain ⟨z, hz, rfl⟩ := List.mem_map.mp hy
    exact Nat.le_refl 1
  rw [List.length_map] at h1
  have h2 := List.length_filter_le (fun y : Nat × Int => Builtin.bitAnd y.2 nodes == 0) (toldK N kind)
  have h3 := told_len N kind (nodesK N kind).length
  have h4 := text0_len N kind
  unfold toldK at h1 h2 ⊢
  omega
theorem strip_len (x : Str) (hx : x.length ≤ 205) : (stripP x).length ≤ 50000 := by
  unfold stripP
  split
  · omega
  · rw [join_len]
    have hle : ∀ y ∈ partsS x, y.length ≤ 205 := fun y hy => by
      unfold partsS at hy
      rcases List.mem_append.mp hy with hy | hy
      · exact Nat.le_trans (runS_lens x _ (Nat.le_refl _) y hy) hx
      · split at hy
        · rw [List.mem_singleton.mp hy]; exact Nat.le_trans (slice_len _ _ _) hx
        · cases hy
    have hcount : (partsS x).length ≤ 210 := by
      have h1 := runS_parts x _ (Nat.le_refl _)
      have h2 := escP_len x.cps.toList 0 false
      have h3 : x.cps.toList.length = x.length := by simp [Str.length]
      have h4 : (itP x).length = (escP 0 false x.cps.toList).length := rfl
      unfold partsS
      rw [List.length_append]
      split
      · show _ + 1 ≤ 210
        omega
      · show _ + 0 ≤ 210
        omega
    have h5 := sum_le hle
    have := Nat.mul_le_mul_right 205 hcount
    omega
theorem quote_len (x : Str) (hx : x.length ≤ 50000) : (quoteP x).length ≤ 200000 := by
  have hx' : x.cps.toList.length ≤ 50000 := by simpa [Str.length] using hx
  have l2 : (twin2 x.cps.toList).length ≤ 100000 := by
    have := outF_len (T := x.cps.toList.toArray) (at' := at2 x.cps.toList.toArray) (len := len2 x.cps.toList.toArray) (r := [13, 10]) (by decide) x.cps.toList.length 0
    unfold twin2
    simp at this hx' ⊢
    omega
  have := outF_len (T := (twin2 x.cps.toList).toArray) (at' := at1 (twin2 x.cps.toList).toArray) (len := fun _ => 1) (r := [46, 46]) (by decide) (twin2 x.cps.toList).length 0
  show (twin1 (twin2 x.cps.toList)).toArray.size ≤ _
  unfold twin1
  simp at this ⊢
  omega
theorem mail_len (N : List Int) (kind : Nat) (nodes : Int) : (mailK N kind nodes).length ≤ 200000 := quote_len _ (strip_len _ (text_len N kind nodes))
theorem szP_le (xs : List Piece) (h : ∀ y ∈ xs, y.2.1.length ≤ 8 ∧ y.2.2.length ≤ 8) : szP xs ≤ 16 * xs.length := by
  induction xs with
  | nil => simp [szP]
  | cons y r ih =>
    have h1 := h y List.mem_cons_self
    have h2 := ih fun z hz => h z (List.mem_cons_of_mem _ hz)
    have e : szP (y :: r) = (y.2.1.length + y.2.2.length) + szP r := by simp [szP]
    rw [e, List.length_cons]
    omega
theorem parts_len (x y : Str) : (Builtin.Str.partsBetween x (Builtin.Str.occurrences x y 0 x.length (x.length + 1)) y.length).length ≤ x.length + 2 := by
  unfold Builtin.Str.partsBetween
  have := PySem.StrLaws.occ_length_le_len x y 0 x.length (x.length + 1)
  simp
  omega
theorem split_len (x y : Str) : (Txt.split x y).length ≤ x.length + 2 := by
  unfold Txt.split
  split
  · simp
  · split
    · simp
    · exact parts_len x y
theorem maxI_le {xs : List Int} {b : Int} (h : ∀ x ∈ xs, x ≤ b) (hb : 0 ≤ b) : maxI xs ≤ b := by
  unfold maxI
  rw [List.getD_eq_getElem?_getD]
  cases q : xs[argBest (fun i j => decide (xs.getD i 0 > xs.getD j 0)) (xs.length - 1)]? with
  | none => exact hb
  | some y => exact h y (List.mem_of_getElem? q)
theorem judge_fn {p : Program} {w : World} {n : Nat} (i : Nat) (hi : i < 6) (c : Nat) : FnOk p w (n + 1) (.ref (judgeA i)) [ch c] (.bool (judgeB i c)) := by
  match i, hi with
  | 0, _ => exact fn_b1 c
  | 1, _ => exact fn_c4 c
  | 2, _ => exact fn_c6 c
  | 3, _ => exact fn_c7 c
  | 4, _ => exact fn_c8 c
  | 5, _ => exact fn_c9 c
theorem judge_is (P : Params) (i : Nat) (hi : i < 6) : ∃ o fd, (H12 P).get? (judgeA i) = some o ∧ o.data = .func fd := by
  match i, hi with
  | 0, _ => exact isB1 P
  | 1, _ => exact isC4 P
  | 2, _ => exact isC6 P
  | 3, _ => exact isC7 P
  | 4, _ => exact isC8 P
  | 5, _ => exact isC9 P
end Mine
end
section
set_option Elab.async false
set_option linter.unusedVariables false
set_option maxRecDepth 100000
set_option maxHeartbeats 8000000
namespace Mine
open PySem PySem.W PySem.Calls PyProof.Rows
local macro_rules | `(tactic| walk_at "ev") => `(tactic| first
  | exact Ev.int
  | exact Ev.str
  | exact Ev.bool
  | exact Ev.none_
  | (refine Ev.name ?_; rfl)
  | (refine Ev.mod ?_ ?_ ?_ <;> first | walk_at "ev" | skip)
  | (refine Ev.add ?_ ?_ <;> first | walk_at "ev" | skip)
  | (refine Ev.sub ?_ ?_ <;> first | walk_at "ev" | skip)
  | (refine Ev.list ?_ ?_ <;> first | walk_at "ev" | decide | skip)
  | (refine Ev.tuple ?_ ?_ <;> first | walk_at "ev" | decide | skip)
  | exact Evs.nil
  | (refine Evs.cons ?_ ?_ <;> first | walk_at "ev" | skip)
  )
theorem get_str3 {x : Int} {ys : List Str} {n : Nat} (hn : ys.length = n) (h0 : 0 ≤ x) (h1 : x < n) : (ys.map PV.str)[x.toNat]? = some (.str (ys.getD x.toNat ⟨#[]⟩)) := by
  have : x.toNat < ys.length := by omega
  rw [List.getElem?_map, List.getD_eq_getElem?_getD, List.getElem?_eq_getElem this]
  rfl
theorem get_ref6 {i : Nat} (hi : i < 6) : ([.ref 80, .ref 87, .ref 99, .ref 111, .ref 135, .ref 153] : List PV)[i]? = some (.ref (judgeA i)) := by
  match i, hi with
  | 0, _ => rfl
  | 1, _ => rfl
  | 2, _ => rfl
  | 3, _ => rfl
  | 4, _ => rfl
  | 5, _ => rfl
theorem bits16 : ∀ n : Nat, n ≤ 16 → Builtin.Int.intBits (n : Int) ≤ 64 := by decide +kernel
theorem bits101 : ∀ n : Nat, n ≤ 4 → Builtin.Int.intBits ((101 : Int) ^ n) ≤ 64 := by decide +kernel
section
variable {p : Program} {w : World} {A : Around} {s0 s : Shared} {g0 g : View} {L : Addr} {E : Value → Shared → Prop} {Q : Flow → Shared → Prop} {l : List (Str × PV)} {own : List Own} {N : List Int}
noncomputable def lawInv (N : List Int) (a : Addr) : List (Str × PV) := [("seen", .ref a), ("nets", .lst [.lst ((netsP N).n0.map .int), .lst ((netsP N).n1.map .int)]), ("kinds", .lst ((kindsP N).map .int)), ("tail", .str (tailP N)), ("head", .str (headP N)), ("start", .int (startP N : Nat)), ("total", .int N.sum), ("numbers", .lst (N.map .int))]
noncomputable def kindBody : List Stmt := forBody ((bodyOf fdLaw).getD 7 (.Pass zp))
noncomputable def sInt (xs : List Int) : PV := .lst (xs.map .int)
theorem netK_get (N : List Int) (kind : Nat) (hk : kind < 2) : ([.lst ((netsP N).n0.map .int), .lst ((netsP N).n1.map .int)] : List PV)[kind]? = some (.lst ((netK N kind).map .int)) := by
  match kind, hk with
  | 0, _ => rfl
  | 1, _ => rfl
theorem netK_len (N : List Int) (kind : Nat) (hk : kind < 2) : (netK N kind).length = 4 := by
  have G := nets_good N 4 (Nat.le_refl _)
  match kind, hk with
  | 0, _ => exact G.l0
  | 1, _ => exact G.l1
theorem pick_drop1 (ps : List PV) : pickP ps (some 1) none none = ps.drop 1 := by
  unfold pickP
  rw [sliceBounds_plain]
  dsimp only
  have e1 : Option.elim (some (1 : Int)) 0 (clipAt ps.length) = min 1 ps.length := by
    have := clipAt_nat ps.length 1
    simpa using this
  have e2 : Option.elim (none : Option Int) ps.length (clipAt ps.length) = ps.length := rfl
  rw [e1, e2, sliceRange_one]
  have := pick_run ps.toArray (min 1 ps.length) (ps.length - min 1 ps.length)
  simp only [List.getElem?_toArray] at this
  rw [this]
  cases ps with
  | nil => rfl
  | cons a r =>
    have : min 1 (a :: r).length = 1 := by simp
    rw [this]
    simp
theorem mem_le_sum {ys : List Str} {y : Str} (h : y ∈ ys) : y.length ≤ (ys.map (·.length)).sum := by
  induction ys with
  | nil => cases h
  | cons z r ih =>
    simp only [List.map_cons, List.sum_cons]
    rcases List.mem_cons.mp h with rfl | h
    · omega
    · have := ih h; omega
theorem text0_pos (N : List Int) (kind : Nat) : 1 ≤ (text0 N kind).length := by
  unfold text0
  rw [Str.length_append, Str.length_append, join_len]
  have hm : rowP ((N.getD kind 0).fdiv 100) 0 ∈ pcsK N kind := by
    unfold pcsK piecesP preP
    rw [List.mem_flatMap]
    refine ⟨0, by simp, ?_⟩
    unfold turnP
    rw [if_pos (by decide)]
    simp
  have h1 := mem_le_sum (ys := (pcsK N kind).map (·.2.1)) (List.mem_map_of_mem hm)
  have h2 : 1 ≤ (rowP ((N.getD kind 0).fdiv 100) 0).2.1.length := by
    show 1 ≤ (nlS _ ++ dotsP _ 0).length
    rw [Str.length_append]
    have : 1 ≤ (dotsP ((N.getD kind 0).fdiv 100) 0).length := by
      unfold dotsP
      rw [Str.length_append]
      simp [Str.length]
    omega
  omega
theorem rows_in {x y : Str} {r : Str} (h : r ∈ Txt.split x y) : r.length ≤ x.length := by
  unfold Txt.split at h
  split at h
  · rw [List.mem_singleton.mp h]; exact Nat.le_refl _
  · split at h
    · rw [List.mem_singleton.mp h]; exact Nat.le_refl _
    · unfold Builtin.Str.partsBetween at h
      obtain ⟨⟨i, j⟩, _, rfl⟩ := List.mem_map.mp h
      show (x.cps.extract i j).size ≤ x.cps.size
      rw [Array.size_extract]; omega
theorem law_turn (hA : AOk 40 A) (H : LawOk N) {kind : Nat} (hk : kind < 2) {a : Addr} {ps : List PV} (hps : ps.length ≤ 10) {oth : List Own}
    (F : Fr (fnCx w fdLaw 203 s0 g0 L) ([.lst a ps] ++ oth) (("kind", .int (kind : Int)) :: lawInv N a) g s)
    (h : ∀ g' s', g.Le g' → Fr (fnCx w fdLaw 203 s0 g0 L) ([.lst a (ps ++ [sInt (seenK N kind)])] ++ oth) (lawInv N a) g' s' → Q .next s') :
    Ex p A (fnCx w fdLaw 203 s0 g0 L) kindBody Q E s := by
  have hA9 : AOk 9 A := hA.mono (by omega)
  have hNk : (N.map PV.int)[kind]? = some (.int (N.getD kind 0)) := getD_get (by rw [H.len]; omega)
  obtain ⟨pz1, pz2⟩ := pcs_bd N kind
  unfold lawInv at F
  refine F.assign (r := .lst ((pcsK N kind).map mk3)) ?_ (.inl ?_) ?_
  rotate_left
  · rfl
  rotate_left
  · refine Ev.callF (n := 9) hA9 (Ev.global ?_ (glPieces _)) (fn_pieces (n := 6) (netK N kind) (netK_len N kind hk) (startP N) ((N.getD kind 0).fdiv 100)) (isPieces _) (Evs.cons ?_ (Evs.cons ?_ (Evs.cons ?_ Evs.nil)))
    · rfl
    · refine Ev.item (k := (kind : Int)) (ps := [.lst ((netsP N).n0.map .int), .lst ((netsP N).n1.map .int)]) ?_ ?_ (by omega) (by omega) (netK_get N kind hk)
      · walk_at "ev"
      · walk_at "ev"
    · walk_at "ev"
    · refine Ev.floordiv (Ev.item (k := (kind : Int)) (ps := N.map .int) ?_ ?_ (by omega) (by omega) hNk) ?_ (by decide) (by decide)
      · walk_at "ev"
      · walk_at "ev"
      · walk_at "ev"
  intro g1 s1 l1 F1
  have hj := join0_len N kind
  have hh := head_len N
  have ht := tail_len N
  refine F1.assign (r := .lst ((toldAt N kind 0).map mk2)) ?_ (sto_cell ?_ (by decide)) ?_
  rotate_left
  · rfl
  rotate_left
  · refine Ev.conv (Ev.compA (n := 9) (text0 N kind).cps.toList ch (fun c => mk2 (c, 0)) hA9 ?_ (CompOk.of ?_) ?_ ?_) ?_
    · refine SrcE.str (x := text0 N kind) ?_
      unfold text0
      refine Ev.addS (Ev.addS ?_ (Ev.join (ys := (pcsK N kind).map (·.2.1)) ?_ ?_ ?_) ?_) ?_ ?_
      · walk_at "ev"
      · exact Ev.str
      · refine Ev.conv (Ev.compA (n := 9) (pcsK N kind) mk3 (fun y => .str y.2.1) hA9 ?_ (CompOk.of ?_) (by omega) ?_) ?_
        · refine SrcE.list ?_
          walk_at "ev"
        · kernel_rfl!
        · intro y hy C cells g' hg
          refine ⟨_, Binds.tup3 (.inl ?_) (.inl ?_) (.inl ?_), ?_⟩
          · rfl
          · rfl
          · rfl
          · walk_at "ev"
        · rw [List.map_map]; rfl
      · rw [← join_len]
        have : (⟨#[]⟩ : Str).length = 0 := rfl
        rw [this]; omega
      · unfold sizeLine; omega
      · walk_at "ev"
      · rw [Str.length_append]; unfold sizeLine; omega
    · kernel_rfl!
    · have := text0_len N kind
      simp only [Array.length_toList]
      exact Nat.le_trans this (by decide)
    · intro y hy C cells g' hg
      refine ⟨_, Binds.name (.inl ?_), ?_⟩
      · rfl
      · unfold mk2
        refine Ev.tuple (Evs.cons ?_ (Evs.cons ?_ Evs.nil)) (by simp)
        · walk_at "ev"
        · walk_at "ev"
    · unfold toldAt
      rw [List.take_zero, List.foldl_nil, List.map_map]; rfl
  intro g2 s2 l2 F2
  refine F2.assign (r := sInt (setsAt N kind 0)) ?_ (.inl ?_) ?_
  rotate_left
  · rfl
  rotate_left
  · refine Ev.conv (r := .lst [.int 0]) ?_ rfl
    walk_at "ev"
  intro g3 s3 l3 F3
  have hnl := nodes_len N kind
  refine Fr.for_ (n := 9) F3 (nodesK N kind) (fun i => .int (i : Int)) (fun i => [("node", .int (i : Int))]) (fun m => ("sets", sInt (setsAt N kind m)) :: ("told", .lst ((toldAt N kind m).map mk2)) :: ("pieces", .lst ((pcsK N kind).map mk3)) :: ("kind", .int (kind : Int)) :: lawInv N a) (fun _ => [.lst a ps] ++ oth) (fun _ => True) hA9 ?_ rfl ?_ trivial ?_ ?_ ?_
  · refine SrcE.list ?_
    refine Ev.conv (Ev.comp (n := 9) (List.range 4) (fun i => .int (i : Int)) (fun k => kindI N k == (kind : Int)) (fun k => .int (k : Int)) hA9 ?_ (CompOk.of ?_) (by decide) ?_) rfl
    · refine SrcE.range (m := 4) ?_ (b_range _) ?_ (by decide)
      · rfl
      · walk_at "ev"
    · kernel_rfl!
    · intro k hk' C cells g' hg
      have hk4 : k < 4 := List.mem_range.mp hk'
      refine ⟨_, Binds.name (.inl ?_), EvT.one (EvB.cmpI CmpI.eq (Ev.item (k := (k : Int)) (ps := (kindsP N).map .int) ?_ ?_ (by omega) (by omega) (kinds_get N k hk4)) ?_), fun _ => ?_⟩
      · rfl
      · walk_at "ev"
      · walk_at "ev"
      · walk_at "ev"
      · walk_at "ev"
  · unfold lawInv
    exact (Sub.cons rfl (.cons rfl (.cons rfl (.cons rfl (.cons rfl (.cons rfl (.cons rfl (.cons rfl (.cons rfl (.cons rfl (.cons rfl (.cons rfl .nil)))))))))))).all
  · intro i hi
    refine Binds.name (sto_cell ?_ (by decide))
    rfl
  · intro m hm oth2 g4 s4 E4 hg4 _ F4
    have eT : toldAt N kind (m + 1) = toldP (judgeB ((startP N + (nodesK N kind)[m]) % 6)) (2 ^ (nodesK N kind)[m]) (toldAt N kind m) := fold_take _ _ _ m hm
    have eS : setsAt N kind (m + 1) = setsAt N kind m ++ (setsAt N kind m).map (· + 2 ^ (nodesK N kind)[m]) := fold_take _ _ _ m hm
    have hlt := told_len N kind m
    have hls := sets_len N kind m (by omega)
    have h16 : (setsAt N kind m).length ≤ 16 := by
      rw [hls]
      exact Nat.le_trans (Nat.pow_le_pow_right (by decide) (by omega : m ≤ 4)) (by decide)
    have ht0 := text0_len N kind
    have hnd : (nodesK N kind)[m] ≤ 4 := by
      have := List.getElem_mem hm
      unfold nodesK at this
      rw [List.mem_filter, List.mem_range] at this
      exact Nat.le_of_lt this.1
    rw [eT, eS]
    generalize hnode : (nodesK N kind)[m] = node at *
    generalize toldAt N kind m = told at *
    generalize setsAt N kind m = sets at *
    unfold lawInv at F4 ⊢
    have hi6 : (startP N + node) % 6 < 6 := Nat.mod_lt _ (by decide)
    refine F4.assign (r := .ref (judgeA ((startP N + node) % 6))) ?_ (.inl ?_) ?_
    rotate_left
    · rfl
    rotate_left
    · refine Ev.item (k := (((startP N + node) % 6 : Nat) : Int)) (ps := [.ref 80, .ref 87, .ref 99, .ref 111, .ref 135, .ref 153]) ?_ ?_ (by omega) (by omega) (by rw [Int.toNat_natCast]; exact get_ref6 hi6)
      · refine Ev.list (Evs.cons ?_ (Evs.cons ?_ (Evs.cons ?_ (Evs.cons ?_ (Evs.cons ?_ (Evs.cons ?_ Evs.nil)))))) (by simp)
        · exact Ev.global rfl (glB1 _)
        · exact Ev.global rfl (glC4 _)
        · exact Ev.global rfl (glC6 _)
        · exact Ev.global rfl (glC7 _)
        · exact Ev.global rfl (glC8 _)
        · exact Ev.global rfl (glC9 _)
      · refine Ev.conv (Ev.mod (Ev.add (x := (startP N : Int)) (y := (node : Int)) ?_ ?_) (y := 6) ?_ (by decide)) ?_
        · walk_at "ev"
        · walk_at "ev"
        · walk_at "ev"
        · congr 1
          rw [Int.fmod_eq_emod_of_nonneg _ (by decide)]
          norm_cast
    intro g5 s5 l5 F5
    refine F5.assign (r := .lst ((toldP (judgeB ((startP N + node) % 6)) (2 ^ node) told).map mk2)) ?_ (sto_cell ?_ (by decide)) ?_
    rotate_left
    · rfl
    rotate_left
    · refine Ev.callF (n := 9) hA9 (Ev.global ?_ (glTold _)) (fn_told (n := 8) (judgeA ((startP N + node) % 6)) (judgeB ((startP N + node) % 6)) (2 ^ node) told (by omega) (judge_is _ _ hi6) (fun c _ => judge_fn (n := 7) _ hi6 c)) (isTold _) (Evs.cons ?_ (Evs.cons ?_ (Evs.cons ?_ Evs.nil)))
      · rfl
      · walk_at "ev"
      · walk_at "ev"
      · refine Ev.conv (Ev.pow (x := 2) (y := (node : Int)) ?_ ?_ (by omega) (by omega) (by decide)) rfl
        · walk_at "ev"
        · walk_at "ev"
    intro g6 s6 l6 F6
    refine F6.assign (r := sInt (sets ++ sets.map (· + 2 ^ node))) ?_ (.inl ?_) ?_
    rotate_left
    · rfl
    rotate_left
    · refine Ev.conv (Ev.addL (xs := sets.map .int) (ys := sets.map fun x => .int (x + 2 ^ node)) ?_ ?_ ?_) ?_
      · refine Ev.conv (r := sInt sets) ?_ rfl
        walk_at "ev"
      · refine Ev.compA (n := 9) sets .int (fun x => .int (x + 2 ^ node)) hA9 ?_ (CompOk.of ?_) (by omega) ?_
        · refine SrcE.list ?_
          refine Ev.conv (r := sInt sets) ?_ rfl
          walk_at "ev"
        · kernel_rfl!
        · intro y hy C cells g' hg
          refine ⟨_, Binds.name (.inl ?_), Ev.add ?_ (Ev.conv (Ev.pow (x := 2) (y := (node : Int)) ?_ ?_ (by omega) (by omega) (by decide)) rfl)⟩
          · rfl
          · walk_at "ev"
          · walk_at "ev"
          · walk_at "ev"
      · rw [List.length_map, List.length_map]; omega
      · unfold sInt
        rw [List.map_append, List.map_map]; rfl
    intro g7 s7 l7 F7
    refine Ex.nil_ (.inl ⟨rfl, trivial, g7, l5.trans (l6.trans l7), F7.weaken ?_⟩)
    exact (Sub.cons rfl (.cons rfl (.cons rfl (.cons rfl (.cons rfl (.cons rfl (.cons rfl (.cons rfl (.cons rfl (.cons rfl (.cons rfl (.cons rfl .nil)))))))))))).all
  · intro g8 s8 l8 _ F8
    have hA9' := hA9
    have eT : toldAt N kind (nodesK N kind).length = toldK N kind := rfl
    have eS : setsAt N kind (nodesK N kind).length = setsK N kind := rfl
    rw [eT, eS] at F8
    have hlt : (toldK N kind).length = (text0 N kind).length := told_len N kind _
    have ht0 := text0_len N kind
    obtain ⟨hs1, hs16⟩ := setsK_len N kind
    have hmark := H.mark kind hk
    unfold lawInv at F8
    -- no mark is greater than 15
    refine F8.if_ (b := decide ((15 : Int) < maxI ((toldK N kind).map (·.2)))) ?_ ?_ ?_
    · refine EvB.cmpI CmpI.gt ?_ ?_
      · refine Ev.max hA.handled ?_ (b_max _) ?_ ?_
        · rfl
        · refine Ev.conv (Ev.compA (n := 9) (toldK N kind) mk2 (fun y => .int y.2) hA9 ?_ (CompOk.of ?_) (by omega) ?_) ?_
          · refine SrcE.list ?_
            walk_at "ev"
          · kernel_rfl!
          · intro y hy C cells g' hg
            refine ⟨_, Binds.tup2 (.inl ?_) (.inl ?_), ?_⟩
            · rfl
            · rfl
            · walk_at "ev"
          · rw [List.map_map]; rfl
        · intro q
          have h1 := congrArg List.length q
          have h2 := text0_pos N kind
          rw [List.length_map, List.length_nil] at h1
          omega
      · walk_at "ev"
    · intro hb
      exfalso
      have := of_decide_eq_true hb
      have h15 := maxI_le (xs := (toldK N kind).map (·.2)) (b := 15) (fun z hz => by
        obtain ⟨y, hy, rfl⟩ := List.mem_map.mp hz
        exact (hmark y hy).2) (by decide)
      omega
    intro _ s9 F9
    refine Ex.nil_ ?_
    show Ex p A _ _ _ E s9
    refine F9.assignA (n := 9) (setsK N kind) .int (fun nodes => .str (textK N kind nodes)) hA9 ?_ (CompOk.of ?_) (by omega) (.inl ?_) ?_ ?_
    · refine SrcE.list ?_
      refine Ev.conv (r := sInt (setsK N kind)) ?_ rfl
      walk_at "ev"
    · kernel_rfl!
    · rfl
    · intro nodes hy C cells g' hg
      refine ⟨_, Binds.name (.inr ⟨?_, by decide⟩), ?_⟩
      · rfl
      · unfold textK
        refine Ev.join ?_ ?_ ?_
        · exact Ev.str
        · refine Ev.conv (Ev.comp (n := 9) (toldK N kind) mk2 (fun y => Builtin.bitAnd y.2 nodes == 0) (fun y => .str ⟨#[y.1]⟩) hA9 ?_ (CompOk.of ?_) (by omega) ?_) ?_
          · refine SrcE.list ?_
            walk_at "ev"
          · kernel_rfl!
          · intro y hy C2 cells2 g2 hg2
            refine ⟨_, Binds.tup2 (.inl ?_) (.inl ?_), EvT.one (EvB.cmpI CmpI.eq (Ev.band (x := y.2) (y := nodes) ?_ ?_) ?_), fun _ => ?_⟩
            · rfl
            · rfl
            · walk_at "ev"
            · walk_at "ev"
            · walk_at "ev"
            · refine Ev.conv (r := ch y.1) ?_ rfl
              walk_at "ev"
          · rw [List.map_map]; rfl
        · have := text_len N kind nodes
          unfold textK at this
          rw [join_len] at this
          have h0 : (⟨#[]⟩ : Str).length = 0 := rfl
          rw [h0]; omega
    intro g10 s10 l10 F10
    refine F10.assignA (n := 9) (setsK N kind) (fun nodes => .str (textK N kind nodes)) (fun nodes => .str (mailK N kind nodes)) hA9 ?_ (CompOk.of ?_) (by omega) (.inl ?_) ?_ ?_
    · refine SrcE.list ?_
      walk_at "ev"
    · kernel_rfl!
    · rfl
    · intro nodes hy C cells g' hg
      refine ⟨_, Binds.name (.inl ?_), ?_⟩
      · rfl
      · have htl := text_len N kind nodes
        have hsl := strip_len _ htl
        refine Ev.callF (n := 9) hA9 (Ev.global ?_ (glQuote _)) (fn_quote (n := 8) (stripP (textK N kind nodes)) (by
          show (stripP (textK N kind nodes)).length ≤ _
          omega)) (isQuote _) (Evs.cons ?_ Evs.nil)
        · rfl
        · refine Ev.callF (n := 9) hA9 (Ev.global ?_ (glStrip _)) (fn_strip (n := 0) (textK N kind nodes) (by omega)) (isStrip _) (Evs.cons ?_ Evs.nil)
          · rfl
          · walk_at "ev"
    intro g11 s11 l11 F11
    have o0 := Int.fmod_nonneg_of_pos (N.sum.fdiv 36) (b := ((setsK N kind).length : Nat)) (by omega)
    have o1 := Int.fmod_lt_of_pos (N.sum.fdiv 36) (b := ((setsK N kind).length : Nat)) (by omega)
    refine F11.assign (r := .int (oneK N kind)) ?_ (.inl ?_) ?_
    rotate_left
    · rfl
    rotate_left
    · unfold oneK
      refine Ev.mod (Ev.floordiv (x := N.sum) (y := 36) ?_ ?_ (by decide) (by decide)) (Ev.conv (Ev.len (rs := (setsK N kind).map .int) ?_ (b_len _) ?_ ?_) ?_) (by omega)
      · walk_at "ev"
      · walk_at "ev"
      · rfl
      · refine Ev.conv (r := sInt (setsK N kind)) ?_ rfl
        walk_at "ev"
      · rw [List.length_map]; omega
      · rw [List.length_map]
    intro g12 s12 l12 F12
    have hone : (oneK N kind).toNat < (setsK N kind).length := by unfold oneK; omega
    have hone0 : 0 ≤ oneK N kind := o0
    have hone1 : oneK N kind < 17 := by unfold oneK; omega
    have hmail := H.mail kind hk _ hone
    generalize hnd : (setsK N kind).getD (oneK N kind).toNat 0 = nd at *
    have hget1 : ((setsK N kind).map fun nodes => PV.str (mailK N kind nodes))[(oneK N kind).toNat]? = some (.str (mailK N kind nd)) := by
      rw [List.getElem?_map, List.getElem?_eq_getElem hone, ← hnd, List.getD_eq_getElem?_getD, List.getElem?_eq_getElem hone]
      rfl
    have hget2 : ((setsK N kind).map PV.int)[(oneK N kind).toNat]? = some (.int nd) := by
      rw [List.getElem?_map, List.getElem?_eq_getElem hone, ← hnd, List.getD_eq_getElem?_getD, List.getElem?_eq_getElem hone]
      rfl
    have hsz := szP_le (pcsK N kind) fun y hy => (pz2 y hy).2
    refine F12.if_ (b := (mailK N kind nd != dueP nd (pcsK N kind) ++ tailP N)) ?_ ?_ ?_
    · refine EvB.neS ?_ ?_
      · refine Ev.item (k := oneK N kind) (ps := (setsK N kind).map fun nodes => PV.str (mailK N kind nodes)) ?_ ?_ hone0 (by omega) hget1
        · walk_at "ev"
        · walk_at "ev"
      · refine Ev.addS ?_ ?_ ?_
        · refine Ev.callF (n := 9) hA9 (Ev.global ?_ (glDue _)) (fn_due (n := 8) nd (pcsK N kind) (by omega) (fun y hy => (pz2 y hy).1) (by omega)) (isDue _) (Evs.cons ?_ (Evs.cons ?_ Evs.nil))
          · rfl
          · walk_at "ev"
          · refine Ev.item (k := oneK N kind) (ps := (setsK N kind).map PV.int) ?_ ?_ hone0 (by omega) hget2
            · refine Ev.conv (r := sInt (setsK N kind)) ?_ rfl
              walk_at "ev"
            · walk_at "ev"
        · walk_at "ev"
        · have h1 := due_le nd (pcsK N kind) (⟨#[]⟩, true)
          have h2 : (⟨#[]⟩ : Str).length = 0 := rfl
          have h3 : (dueP nd (pcsK N kind)).length ≤ 0 + szP (pcsK N kind) := h1
          have := tail_len N
          unfold sizeLine
          omega
    · intro hb
      rw [hmail] at hb
      simp at hb
    intro _ s13 F13
    refine Ex.nil_ ?_
    show Ex p A _ _ _ E s13
    refine Fr.append (r := sInt (seenK N kind)) [] oth F13 ?_ ?_ ?_ ?_
    · walk_at "ev"
    · unfold seenK
      refine Ev.conv (Ev.compA (n := 9) (setsK N kind) (fun nodes => .str (mailK N kind nodes)) (fun nodes => .int (seenM (mailK N kind nodes))) hA9 ?_ (CompOk.of ?_) (by omega) ?_) ?_
      · refine SrcE.list ?_
        walk_at "ev"
      · kernel_rfl!
      · intro nodes hy C cells g' hg
        refine ⟨_, Binds.name (.inl ?_), ?_⟩
        · rfl
        · have hml : (mailK N kind nodes).length ≤ 1000 := by
            obtain ⟨i, hi, hy'⟩ := List.getElem_of_mem hy
            have hm := H.mail kind hk i hi
            rw [List.getD_eq_getElem?_getD, List.getElem?_eq_getElem hi, Option.getD_some, hy'] at hm
            rw [hm, Str.length_append]
            have h1 := due_le nodes (pcsK N kind) (⟨#[]⟩, true)
            have h2 : (⟨#[]⟩ : Str).length = 0 := rfl
            have h3 : (dueP nodes (pcsK N kind)).length ≤ 0 + szP (pcsK N kind) := h1
            have := tail_len N
            omega
          have hsp := split_len (mailK N kind nodes) crlfS
          have hpl := parts_len (mailK N kind nodes) crlfS
          have hfl := List.length_filter_le (fun r : Str => Txt.slice r none (some 2) == (⟨#[46, 46]⟩ : Str)) (rowsK (mailK N kind nodes))
          have hrl : (rowsK (mailK N kind nodes)).length ≤ 1002 := by
            unfold rowsK
            rw [List.length_drop]; omega
          unfold seenM
          refine Ev.conv (Ev.len (rs := ((rowsK (mailK N kind nodes)).filter fun r => Txt.slice r none (some 2) == (⟨#[46, 46]⟩ : Str)).map fun _ => PV.int 1) ?_ (b_len _) ?_ ?_) ?_
          · rfl
          · refine Ev.comp (n := 9) (rowsK (mailK N kind nodes)) .str (fun r => Txt.slice r none (some 2) == (⟨#[46, 46]⟩ : Str)) (fun _ => .int 1) hA9 ?_ (CompOk.of ?_) ?_ ?_
            · refine SrcE.list ?_
              refine Ev.conv (Ev.sliceL (xs := (Txt.split (mailK N kind nodes) crlfS).map .str) (i := some 1) (j := none) (k := none) (Ev.split ?_ ?_ ?_ ?_ ?_) (.int ?_) .none .none ?_ ?_) ?_
              · walk_at "ev"
              · exact Ev.str
              · rfl
              · omega
              · omega
              · walk_at "ev"
              · simp
              · rw [List.length_map]; omega
              · rw [pick_drop1]
                unfold rowsK
                rw [List.map_drop]
            · kernel_rfl!
            · exact Nat.le_trans hrl (by decide)
            · intro r hr C2 cells2 g2 hg2
              refine ⟨_, Binds.name (.inl ?_), EvT.one (EvB.eqS (Ev.sliceS_ns ?_ ?_ ?_) ?_), fun _ => ?_⟩
              · rfl
              · walk_at "ev"
              · walk_at "ev"
              · have := rows_in (List.mem_of_mem_drop hr)
                omega
              · exact Ev.str
              · walk_at "ev"
          · rw [List.length_map]; omega
          · rw [List.length_map]
      · unfold sInt
        rw [List.map_map]; rfl
    · omega
    · intro g14 s14 l14 F14
      refine Ex.nil_ (h g14 s14 ?_ ?_)
      · exact l1.trans (l2.trans (l3.trans (l8.trans (l10.trans (l11.trans (l12.trans l14))))))
      · unfold lawInv
        exact F14.weaken (Sub.cons rfl (.cons rfl (.cons rfl (.cons rfl (.cons rfl (.cons rfl (.cons rfl (.cons rfl .nil)))))))).all
end
end Mine
end
section
set_option Elab.async false
set_option linter.unusedVariables false
set_option maxRecDepth 100000
set_option maxHeartbeats 8000000
namespace Mine
open PySem PySem.W PySem.Calls PyProof.Rows
local macro_rules | `(tactic| walk_at "ev") => `(tactic| first
  | exact Ev.int
  | exact Ev.str
  | exact Ev.bool
  | exact Ev.none_
  | (refine Ev.name ?_; rfl)
  | (refine Ev.mod ?_ ?_ ?_ <;> first | walk_at "ev" | skip)
  | (refine Ev.add ?_ ?_ <;> first | walk_at "ev" | skip)
  | (refine Ev.sub ?_ ?_ <;> first | walk_at "ev" | skip)
  | (refine Ev.list ?_ ?_ <;> first | walk_at "ev" | decide | skip)
  | (refine Ev.tuple ?_ ?_ <;> first | walk_at "ev" | decide | skip)
  | exact Evs.nil
  | (refine Evs.cons ?_ ?_ <;> first | walk_at "ev" | skip)
  )
noncomputable def four : List (Nat × Int) := [(0, 54), (1, 55), (2, 58), (3, 57)]
theorem pickI_len (xs : List Int) (k : Nat) : (pickI xs (some k) none (some 4)).length ≤ xs.length := by
  unfold pickI
  refine Nat.le_trans (List.length_filterMap_le _ _) ?_
  refine sliceRange_length_le _ _ _ _ ?_ ?_
  · intro _
    simp only [sliceBounds, Option.getD_some]
    simp
    omega
  · intro h
    exfalso
    simp [sliceBounds] at h
section
variable {p : Program} {w : World} {A : Around} {n : Nat} {env : Env} {l : List (Str × PV)} {g : View} {E : Value → Shared → Prop} {s : Shared}
theorem Ev.sliceL3 {a : Expr} {lo hi st : Option Expr} {i j k : Option Int} {pos spos : Pos} {xs : List PV} (ha : Ev p w A env l g a (.lst xs)) (hlo : PartOk p w A env l g lo i) (hhi : PartOk p w A env l g hi j) (hst : PartOk p w A env l g st k) (h0 : k ≠ some 0) (hsz : xs.length ≤ 1000000)
    (hs : ∀ o i', subscripted (.Slice lo hi st spos) false o i' = operate [o, i'] (getItem o i') := by intro _ _; rfl) : Ev p w A env l g (.Subscript a (.Slice lo hi st spos) pos) (.lst (pickP xs i j k)) := .mk fun s P Q E hQ =>
  Subscript_ (ha.run s P _ _ fun v s1 k1 r1 => by
    obtain ⟨b, vs, n, rfl, hb, hv⟩ := rep_lst_inv r1
    refine wpAny_Slice (hlo.ev (P.gr k1) fun v1 s2 k2 p1 => hhi.ev (P.gr (k1.trans k2)) fun v2 s3 k3 p2 => hst.ev (P.gr ((k1.trans k2).trans k3)) fun v3 s4 k4 p3 => ?_)
    have k14 : Gr s1 s4 := (k2.trans k3).trans k4
    have sub4 : (nv g s.heap s1.heap).Sub s4.heap := fun b o e => k14.keep _ _ (nv_sub P.sub k1.keep _ _ e)
    have hl := isList_of sub4 hb
    refine tail_any (Heap.IsList.typeIs (s := { s4 with heap := s4.heap.push { cls := .type "slice", data := .fields #[v1, v2, v3] } }) (hl.push _)) list_getitem_lookup
      (wpAny_getItem_list_slice (hl.push _) (Heap.IsSliceOf.new ..) p1 p2 p3 h0 ?_ (by simp [hv.length, sizeLine]; omega)) (hs _ _)
    generalize hh : s4.heap.push { cls := .type "slice", data := .fields #[v1, v2, v3] } = h5
    have k5 : Gr s4 { s4 with heap := h5 } := by rw [← hh]; exact gr_push
    have kk : Gr s { s4 with heap := h5 } := (k1.trans k14).trans k5
    have e : slicePick vs.toArray i j k = ((sliceRange (sliceBounds i j k xs.length).1 (sliceBounds i j k xs.length).2.1 (sliceBounds i j k xs.length).2.2).filterMap (vs[·]?)).toArray := by
      unfold slicePick
      rw [List.size_toArray, hv.length]
      simp
    rw [e]
    exact hQ _ _ (kk.trans gr_push) (rep_lst (nv_later kk.keep _ _ (nv_new (P.gr kk).sub rfl)) (nvrs k1 ((k14.trans k5).trans gr_push) (hv.pick _))))

end
theorem body_law {p : Program} {w : World} (xs : List Int) (hx : xs.length ≤ 100000) (H : LawOk (numsP xs)) : BodyOk p w 40 fdLaw 203 ["script"] [.lst (xs.map .int)] (.bool true) := by
  intro A s0 g0 L s g hA F Q E hQ
  have hA9 : AOk 9 A := hA.mono (by omega)
  refine F.assignA (n := 9) four (fun y => .tup [.int y.1, .int y.2]) (fun y => .int (numP xs y.1 y.2)) hA9 ?_ (CompOk.of ?_) (by decide) (.inl ?_) ?_ ?_
  · refine SrcE.enumL (rs := [.int 54, .int 55, .int 58, .int 57]) ?_ (b_enumerate _) ?_
    · rfl
    · walk_at "ev"
  · kernel_rfl!
  · rfl
  · intro y hy C cells g' hg
    refine ⟨_, Binds.tup2 (.inl ?_) (.inl ?_), ?_⟩
    · rfl
    · rfl
    · unfold numP
      refine Ev.add (Ev.sum hA.handled ?_ (b_sum _) ?_) ?_
      · rfl
      · have hpl := pickI_len xs y.1
        refine Ev.conv (Ev.compA (n := 9) (pickI xs (some y.1) none (some 4)) .int (fun x => .int (x.fmod 1000000)) hA9 ?_ (CompOk.of ?_) (by omega) ?_) ?_
        · refine SrcE.list ?_
          refine Ev.conv (Ev.sliceL3 (xs := xs.map .int) (i := some (y.1 : Int)) (j := none) (k := some 4) ?_ (.int ?_) .none (.int ?_) (by simp) (by rw [List.length_map]; omega)) (by rw [pick_map])
          · walk_at "ev"
          · walk_at "ev"
          · walk_at "ev"
        · kernel_rfl!
        · intro z hz C2 cells2 g2 hg2
          refine ⟨_, Binds.name (.inl ?_), Ev.mod ?_ ?_ (by decide)⟩
          · rfl
          · walk_at "ev"
          · walk_at "ev"
        · rw [List.map_map]; rfl
      · walk_at "ev"
  intro g1 s1 l1 F1'
  have F1 : Fr (fnCx w fdLaw 203 s0 g0 L) [] (("numbers", .lst ((numsP xs).map .int)) :: [("script", .lst (xs.map .int))]) g1 s1 := F1'
  have hlen := H.len
  generalize hN : numsP xs = N at *
  refine F1.assign (r := .int N.sum) ?_ (.inl ?_) ?_
  rotate_left
  · rfl
  rotate_left
  · refine Ev.sum hA.handled ?_ (b_sum _) ?_
    · rfl
    · walk_at "ev"
  intro g2 s2 l2 F2
  have s0' := Int.fmod_nonneg_of_pos N.sum (by decide : (0 : Int) < 6)
  refine F2.assign (r := .int (startP N : Nat)) ?_ (.inl ?_) ?_
  rotate_left
  · rfl
  rotate_left
  · refine Ev.conv (Ev.mod (x := N.sum) (y := 6) ?_ ?_ (by decide)) ?_
    · walk_at "ev"
    · walk_at "ev"
    · unfold startP
      rw [Int.toNat_of_nonneg s0']
  intro g3 s3 l3 F3
  refine F3.assign (r := .str (headP N)) ?_ (.inl ?_) ?_
  rotate_left
  · rfl
  rotate_left
  · have i0 := Int.fmod_nonneg_of_pos N.sum (by decide : (0 : Int) < 3)
    have i1 := Int.fmod_lt_of_pos N.sum (by decide : (0 : Int) < 3)
    refine Ev.item (k := N.sum.fmod 3) (ps := ([⟨#[]⟩, ⟨#[34, 34]⟩, ⟨#[34, 46, 34]⟩] : List Str).map .str) ?_ ?_ i0 (by omega) (get_str3 (n := 3) rfl i0 i1)
    · refine Ev.conv (r := .lst [.str ⟨#[]⟩, .str ⟨#[34, 34]⟩, .str ⟨#[34, 46, 34]⟩]) ?_ rfl
      walk_at "ev"
    · refine Ev.mod ?_ ?_ (by decide)
      · walk_at "ev"
      · walk_at "ev"
  intro g4 s4 l4 F4
  refine F4.assign (r := .str (tailP N)) ?_ (.inl ?_) ?_
  rotate_left
  · rfl
  rotate_left
  · have i0 := Int.fmod_nonneg_of_pos (N.sum.fdiv 6) (by decide : (0 : Int) < 4)
    have i1 := Int.fmod_lt_of_pos (N.sum.fdiv 6) (by decide : (0 : Int) < 4)
    refine Ev.item (k := (N.sum.fdiv 6).fmod 4) (ps := ([⟨#[]⟩, ⟨#[34]⟩, ⟨#[34, 46]⟩, ⟨#[92]⟩] : List Str).map .str) ?_ ?_ i0 (by omega) (get_str3 (n := 4) rfl i0 i1)
    · refine Ev.conv (r := .lst [.str ⟨#[]⟩, .str ⟨#[34]⟩, .str ⟨#[34, 46]⟩, .str ⟨#[92]⟩]) ?_ rfl
      walk_at "ev"
    · refine Ev.mod (Ev.floordiv ?_ ?_ (by decide) (by decide)) ?_ (by decide)
      · walk_at "ev"
      · walk_at "ev"
      · walk_at "ev"
  intro g5 s5 l5 F5
  refine F5.assignT hA.handled (r := .lst ((kindsP N).map .int)) (u := .lst [.lst ((netsP N).n0.map .int), .lst ((netsP N).n1.map .int)]) ?_ (sto_cell ?_ (by decide)) (.inl ?_) ?_
  · refine Ev.callF (n := 9) hA9 (Ev.global ?_ (glNets _)) (fn_nets (n := 6) N hlen) (isNets _) (Evs.cons ?_ Evs.nil)
    · rfl
    · walk_at "ev"
  · rfl
  · rfl
  intro g6 s6 l6 F6
  refine F6.newL (ps := []) ?_ (.inl ?_) ?_
  · exact EvO.list Evs.nil (by decide)
  · rfl
  intro a g7 s7 l7 F7
  refine Fr.for_ (n := 9) F7 (List.range 2) (fun i => .int (i : Int)) (fun i => [("kind", .int (i : Int))]) (fun _ => lawInv N a) (fun i => [.lst a ((List.range i).map fun k => sInt (seenK N k))]) (fun _ => True) hA9 ?_ rfl ?_ trivial ?_ ?_ ?_
  · refine SrcE.range (m := 2) ?_ (b_range _) ?_ (by decide)
    · rfl
    · walk_at "ev"
  · unfold lawInv
    exact (Sub.cons rfl (.cons rfl (.cons rfl (.cons rfl (.cons rfl (.cons rfl (.cons rfl (.cons rfl .nil)))))))).all
  · intro i hi
    refine Binds.name (sto_cell ?_ (by decide))
    rfl
  · intro k hk oth g8 s8 E8 hg8 _ F8
    have hk2 : k < 2 := by simpa using hk
    have e1 : (List.range 2)[k]'hk = k := List.getElem_range hk
    rw [e1] at F8
    refine law_turn hA H hk2 (by rw [List.length_map, List.length_range]; omega) F8 fun g9 s9 l9 F9 => .inl ⟨rfl, trivial, g9, l9, ?_⟩
    rw [List.range_succ, List.map_append]
    exact F9
  · intro g8 s8 l8 _ F8
    rw [List.length_range] at F8
    obtain ⟨g9, l9, F9, r9⟩ := Fr.freeze (a := a) (ps := [sInt (seenK N 0), sInt (seenK N 1)]) [] [] F8
    have F10 : Fr (fnCx w fdLaw 203 s0 g0 L) [] [("seen", .lst [sInt (seenK N 0), sInt (seenK N 1)])] g9 s8 := F9.up fun y q e => by
      rw [List.lookup_cons] at e
      cases z : y == "seen" with
      | true =>
        rw [z] at e
        cases e
        rw [eq_of_beq z]
        exact ⟨.ref a, rfl, fun v hv => by cases rep_ref_inv hv; exact r9⟩
      | false => rw [z] at e; cases e
    have hs0 : (seenK N 0).length ≤ 16 := by unfold seenK; rw [List.length_map]; exact (setsK_len N 0).2
    have hs1 : (seenK N 1).length ≤ 16 := by unfold seenK; rw [List.length_map]; exact (setsK_len N 1).2
    refine F10.assign (r := .int (highP N)) ?_ (.inl ?_) ?_
    rotate_left
    · rfl
    rotate_left
    · unfold highP
      refine Ev.sum hA.handled ?_ (b_sum _) ?_
      · rfl
      · refine Ev.conv (Ev.compA (n := 9) (seenK N 0) .int (fun s => .int (101 ^ s.toNat * (-99) ^ (4 - s).toNat)) hA9 ?_ (CompOk.of ?_) (by omega) ?_) ?_
        · refine SrcE.list (Ev.item (k := 0) (ps := [sInt (seenK N 0), sInt (seenK N 1)]) ?_ ?_ (by decide) (by decide) rfl)
          · walk_at "ev"
          · walk_at "ev"
        · kernel_rfl!
        · intro y hy C cells g' hg
          obtain ⟨y0, y4⟩ := H.seen 0 (by decide) y hy
          refine ⟨_, Binds.name (.inl ?_), Ev.mul (Ev.pow (x := 101) (y := y) ?_ ?_ y0 (by omega) (by decide)) (Ev.pow (x := -99) (y := 4 - y) (Ev.neg ?_) ?_ (by omega) (by omega) (by decide)) (IntMulOk.of_left (bits101 _ (by omega)))⟩
          · rfl
          · walk_at "ev"
          · walk_at "ev"
          · walk_at "ev"
          · walk_at "ev"
        · rw [List.map_map]; rfl
    intro g11 s11 l11 F11
    refine F11.assign (r := .int (lowP N)) ?_ (.inl ?_) ?_
    rotate_left
    · rfl
    rotate_left
    · unfold lowP
      refine Ev.sum hA.handled ?_ (b_sum _) ?_
      · rfl
      · refine Ev.conv (Ev.compA (n := 9) (seenK N 1) .int (fun s => .int (100 ^ (4 - s).toNat)) hA9 ?_ (CompOk.of ?_) (by omega) ?_) ?_
        · refine SrcE.list (Ev.item (k := 1) (ps := [sInt (seenK N 0), sInt (seenK N 1)]) ?_ ?_ (by decide) (by decide) rfl)
          · walk_at "ev"
          · walk_at "ev"
        · kernel_rfl!
        · intro y hy C cells g' hg
          obtain ⟨y0, y4⟩ := H.seen 1 (by decide) y hy
          refine ⟨_, Binds.name (.inl ?_), Ev.pow (x := 100) (y := 4 - y) ?_ ?_ (by omega) (by omega) (by decide)⟩
          · rfl
          · walk_at "ev"
          · walk_at "ev"
        · rw [List.map_map]; rfl
    intro g12 s12 l12 F12
    refine F12.ret (r := .bool true) ?_ hQ
    refine Ev.conv (Ev.cmpI CmpI.eq (x := highP N) (y := ((seenK N 0).length : Nat) * lowP N) ?_ (Ev.mul (Ev.conv (Ev.len (rs := (seenK N 0).map .int) ?_ (b_len _) ?_ ?_) ?_) ?_ ?_)) ?_
    · walk_at "ev"
    · rfl
    · refine Ev.item (k := 0) (ps := [sInt (seenK N 0), sInt (seenK N 1)]) ?_ ?_ (by decide) (by decide) rfl
      · walk_at "ev"
      · walk_at "ev"
    · rw [List.length_map]; omega
    · rw [List.length_map]
    · walk_at "ev"
    · exact IntMulOk.of_left (bits16 _ hs0)
    · rw [H.fin]; simp
theorem fn_law {p : Program} {w : World} (xs : List Int) (hx : xs.length ≤ 100000) (H : LawOk (numsP xs)) : FnOk p w 41 (.ref 203) [.lst (xs.map .int)] (.bool true) := FnOk.of_body (atLaw _) rfl (body_law xs hx H)
end Mine
end
section
set_option Elab.async false
set_option linter.unusedVariables false
set_option maxRecDepth 100000
set_option maxHeartbeats 4000000
namespace Mine
open PySem PySem.W PySem.Calls PyProof.Rows
/-- what is left of a text: what stands between two quotation marks goes -/
noncomputable def strG : Option (List Nat) → Bool → List Nat → List Nat
  | none, _, [] => []
  | some b, _, [] => b
  | none, true, c :: r => c :: strG none false r
  | none, false, c :: r => if c = 92 then c :: strG none true r else if c = 34 then strG (some [34]) false r else c :: strG none false r
  | some b, true, c :: r => strG (some (b ++ [c])) false r
  | some b, false, c :: r => if c = 92 then strG (some (b ++ [c])) true r else if c = 34 then strG none false r else strG (some (b ++ [c])) false r
noncomputable def seg (T : List Nat) (a b : Nat) : List Nat := (T.drop a).take (b - a)
theorem seg_nil (T : List Nat) (a : Nat) : seg T a a = [] := by simp [seg]
theorem seg_snoc {T : List Nat} {a i c : Nat} {r : List Nat} (h : T.drop i = c :: r) (ha : a ≤ i) : seg T a (i + 1) = seg T a i ++ [c] := by
  have h1 : T[i]? = some c := by
    have := congrArg (fun l => l[0]?) h
    simpa [List.getElem?_drop] using this
  unfold seg
  have e : i + 1 - a = (i - a) + 1 := by omega
  rw [e, List.take_add_one, List.getElem?_drop, show a + (i - a) = i by omega, h1]
  rfl
theorem seg_one {T : List Nat} {i c : Nat} {r : List Nat} (h : T.drop i = c :: r) : seg T i (i + 1) = [c] := by
  rw [seg_snoc h (Nat.le_refl _), seg_nil]; rfl
theorem seg_app {T : List Nat} {a b c : Nat} (h1 : a ≤ b) (h2 : b ≤ c) : seg T a b ++ seg T b c = seg T a c := by
  unfold seg
  have e : c - a = (b - a) + (c - b) := by omega
  rw [e, List.take_add, List.drop_drop, show a + (b - a) = b by omega]
theorem seg_end {T : List Nat} {a : Nat} : seg T a T.length = T.drop a := by
  unfold seg
  rw [List.take_of_length_le]
  simp
theorem slice_seg {x : Str} {i j : Nat} (h : i ≤ j) (hj : j ≤ x.length) : (Txt.slice x (some i) (some j)).cps.toList = seg x.cps.toList i j := by
  have e := eq_of_beq (slice_closesL (x := x) (i := i) (j := j) (by omega) (by omega) (by omega))
  rw [e]
  unfold seg
  simp
theorem slice_tail {x : Str} {i : Nat} (h : i ≤ x.length) : (Txt.slice x (some i) none).cps.toList = x.cps.toList.drop i := by
  rw [slice_from_eq (x := x) (i := i) (b := x.length) (by omega) (by omega) rfl]
  show List.take _ _ = _
  rw [List.take_of_length_le]
  · simp
  · simp [Str.length]
noncomputable def finS (x : Str) (st : SS) : List Nat := flatS (st.parts ++ if (st.start : Int) < (x.length : Int) then [Txt.slice x (some st.start) none] else [])
theorem fin_is (x : Str) (st : SS) (h : st.start ≤ x.length) : finS x st = flatS st.parts ++ x.cps.toList.drop st.start := by
  unfold finS
  rw [flatS_app]
  congr 1
  split
  · rw [flatS_one, slice_tail h]
  · rename_i hn
    have : x.cps.toList.length ≤ st.start := by
      have : x.cps.toList.length = x.length := by simp [Str.length]
      omega
    rw [List.drop_eq_nil_of_le this]
    rfl
noncomputable def outS (T : List Nat) (i : Nat) (esc : Bool) (rest : List Nat) (start : Nat) : Option Nat → List Nat
  | none => seg T start i ++ strG none esc rest
  | some o => seg T start o ++ strG (some (seg T o i)) esc rest
noncomputable def outC (T : List Nat) (i : Nat) (esc : Bool) (c : Nat) (r : List Nat) (start : Nat) : Option Nat → List Nat
  | none => seg T start i ++ (c :: strG none esc r)
  | some o => seg T start o ++ strG (some (seg T o i ++ [c])) esc r
theorem outC_esc (T : List Nat) (i c : Nat) (r : List Nat) (start : Nat) (op : Option Nat) : outC T i false c r start op = outS T i true (c :: r) start op := by
  cases op <;> rfl
theorem outC_92 (T : List Nat) (i c : Nat) (r : List Nat) (start : Nat) (op : Option Nat) (h : c = 92) : outC T i true c r start op = outS T i false (c :: r) start op := by
  subst h
  cases op <;> rfl
theorem outC_no (T : List Nat) (i c : Nat) (r : List Nat) (start : Nat) (op : Option Nat) (h : c ≠ 92) (h' : c ≠ 34) : outC T i false c r start op = outS T i false (c :: r) start op := by
  cases op with
  | none =>
    show _ ++ _ = _ ++ (if c = 92 then c :: strG none true r else if c = 34 then strG (some [34]) false r else c :: strG none false r)
    rw [if_neg h, if_neg h']
  | some o =>
    show _ ++ _ = _ ++ (if c = 92 then strG (some (seg T o i ++ [c])) true r else if c = 34 then strG none false r else strG (some (seg T o i ++ [c])) false r)
    rw [if_neg h, if_neg h']
theorem two_ne {c : Nat} : ((⟨#[92]⟩ : Str) ++ ⟨#[c]⟩ == (⟨#[34]⟩ : Str)) = false := by
  cases h : ((⟨#[92]⟩ : Str) ++ ⟨#[c]⟩ == (⟨#[34]⟩ : Str)) with
  | false => rfl
  | true =>
    have := congrArg Str.length (eq_of_beq h)
    rw [Str.length_append] at this
    have e : ((⟨#[92]⟩ : Str).length + (⟨#[c]⟩ : Str).length) = 2 := rfl
    rw [e] at this
    exact absurd this (by decide)
theorem one_ne {c : Nat} (h : c ≠ 34) : ((⟨#[c]⟩ : Str) == (⟨#[34]⟩ : Str)) = false := by
  cases q : ((⟨#[c]⟩ : Str) == (⟨#[34]⟩ : Str)) with
  | false => rfl
  | true =>
    have := eq_of_beq q
    injection this with e
    have e2 := congrArg Array.toList e
    injection e2 with e3
    exact absurd e3 h
theorem step_no (x : Str) (st : SS) (y : Nat × Str) (h : (y.2 == (⟨#[34]⟩ : Str)) = false) : stepS x st y = st := by
  unfold stepS
  rw [if_neg (by rw [h]; exact Bool.false_ne_true)]
theorem run_go (x : Str) : ∀ (rest : List Nat) (i : Nat) (esc : Bool) (start : Nat) (op : Option Nat) (parts : List Str), x.cps.toList.drop i = rest → i ≤ x.length → start ≤ i → (∀ o, op = some o → start ≤ o ∧ o ≤ i) →
    finS x ((escP i esc rest).foldl (stepS x) ⟨start, op, parts⟩) = flatS parts ++ outS x.cps.toList i esc rest start op
  | [], i, esc, start, op, parts, hr, hi, hs, ho => by
    have hlen : x.cps.toList.length = x.length := by simp [Str.length]
    have hil : i = x.cps.toList.length := by
      have := List.drop_eq_nil_iff.mp hr
      omega
    have e1 : (escP i esc []).foldl (stepS x) ⟨start, op, parts⟩ = ⟨start, op, parts⟩ := by
      unfold escP
      split
      · rw [List.foldl_cons, step_no x _ _ (one_ne (by decide))]; rfl
      · rfl
    rw [e1, fin_is _ _ (by show start ≤ x.length; omega)]
    dsimp only
    congr 1
    cases op with
    | none =>
      show _ = seg _ start i ++ strG none esc []
      rw [hil, seg_end]
      unfold strG
      rw [List.append_nil]
    | some o =>
      show _ = seg _ start o ++ strG (some (seg _ o i)) esc []
      unfold strG
      have := ho o rfl
      rw [seg_app this.1 this.2, hil, seg_end]
  | c :: r, i, esc, start, op, parts, hr, hi, hs, ho => by
    have hlen : x.cps.toList.length = x.length := by simp [Str.length]
    have hr' : x.cps.toList.drop (i + 1) = r := by
      rw [← List.drop_drop, hr]; rfl
    have hi' : i + 1 ≤ x.length := by
      have := congrArg List.length hr
      rw [List.length_drop] at this
      simp only [List.length_cons] at this
      omega
    have ho' : ∀ o, op = some o → start ≤ o ∧ o ≤ i + 1 := fun o h => ⟨(ho o h).1, Nat.le_succ_of_le (ho o h).2⟩
    have plain : ∀ esc', outS x.cps.toList (i + 1) esc' r start op = outC x.cps.toList i esc' c r start op := fun esc' => by
      cases op with
      | none =>
        show seg _ start (i + 1) ++ _ = _
        rw [seg_snoc hr hs, List.append_assoc]; rfl
      | some o =>
        show seg _ start o ++ strG (some (seg _ o (i + 1))) esc' r = _
        rw [seg_snoc hr (ho o rfl).2]
        rfl
    unfold escP
    cases esc with
    | true =>
      rw [if_pos rfl, List.foldl_cons, step_no x _ _ two_ne, run_go x r (i + 1) false start op parts hr' hi' (by omega) ho', plain, outC_esc]
    | false =>
      rw [if_neg Bool.false_ne_true]
      by_cases h92 : c = 92
      · rw [if_pos (beq_iff_eq.mpr h92), run_go x r (i + 1) true start op parts hr' hi' (by omega) ho', plain, outC_92 _ _ _ _ _ _ h92]
      · rw [if_neg (by simpa using h92), List.foldl_cons]
        by_cases h34 : c = 34
        · subst h34
          cases op with
          | none =>
            have e : stepS x ⟨start, none, parts⟩ (i, ⟨#[34]⟩) = ⟨start, some i, parts⟩ := rfl
            rw [e, run_go x r (i + 1) false start (some i) parts hr' hi' (by omega) (fun o h => by cases h; omega)]
            congr 1
            show seg _ start i ++ strG (some (seg _ i (i + 1))) false r = seg _ start i ++ strG none false (34 :: r)
            rw [seg_one hr]
            rfl
          | some o =>
            have hso := ho o rfl
            have e : stepS x ⟨start, some o, parts⟩ (i, ⟨#[34]⟩) = ⟨i + 1, none, if ((start : Int) != (o : Int)) = true then parts ++ [Txt.slice x (some start) (some o)] else parts⟩ := rfl
            rw [e, run_go x r (i + 1) false (i + 1) none _ hr' hi' (by omega) (fun o h => by cases h)]
            have e2 : flatS (if ((start : Int) != (o : Int)) = true then parts ++ [Txt.slice x (some start) (some o)] else parts) = flatS parts ++ seg x.cps.toList start o := by
              split
              · rw [flatS_app, flatS_one, slice_seg hso.1 (by omega)]
              · rename_i hne
                have : start = o := by
                  have h3 : ¬ ((start : Int) ≠ (o : Int)) := fun q => hne (bne_iff_ne.mpr q)
                  omega
                rw [this, seg_nil, List.append_nil]
            rw [e2, List.append_assoc]
            congr 1
            show seg _ start o ++ (seg _ (i + 1) (i + 1) ++ strG none false r) = seg _ start o ++ strG (some (seg _ o i)) false (34 :: r)
            rw [seg_nil]
            rfl
        · rw [step_no x _ _ (one_ne h34), run_go x r (i + 1) false start op parts hr' hi' (by omega) ho', plain, outC_no _ _ _ _ _ _ h92 h34]
theorem strG_no : ∀ (l : List Nat) (esc : Bool), 34 ∉ l → strG none esc l = l
  | [], _, _ => by unfold strG; rfl
  | c :: r, esc, h => by
    have hr : 34 ∉ r := fun q => h (List.mem_cons_of_mem _ q)
    have hc : c ≠ 34 := fun q => h (by rw [q]; exact List.mem_cons_self)
    cases esc with
    | true => unfold strG; rw [strG_no r _ hr]
    | false =>
      unfold strG
      split
      · rw [strG_no r _ hr]
      · rw [strG_no r _ hr]
theorem strip_is (x : Str) : stripP x = ⟨(strG none false x.cps.toList).toArray⟩ := by
  unfold stripP
  split
  · rename_i h
    unfold noQ at h
    rw [empty_one] at h
    have hn : 34 ∉ x.cps.toList := by simpa using h
    rw [strG_no _ _ hn]
  · rw [join_flat]
    congr 2
    have h := run_go x x.cps.toList 0 false 0 none [] rfl (Nat.zero_le _) (Nat.le_refl _) (fun o h => by cases h)
    have e : runS x (itP x).length = (escP 0 false x.cps.toList).foldl (stepS x) ⟨0, none, []⟩ := by
      unfold runS
      rw [List.take_length]
    unfold partsS
    rw [e]
    refine Eq.trans h ?_
    show [] ++ (seg x.cps.toList 0 0 ++ _) = _
    rw [seg_nil]
    rfl
end Mine
end
section
set_option Elab.async false
set_option linter.unusedVariables false
set_option maxRecDepth 100000
set_option maxHeartbeats 4000000
namespace Mine
open PySem PySem.W PySem.Calls PyProof.Rows
/-- every end of a line is both signs; cr: a return stands just behind -/
noncomputable def crlfG : Bool → List Nat → List Nat
  | _, [] => []
  | cr, c :: r => if c = 10 then (if cr = true then crlfG false r else 13 :: 10 :: crlfG false r) else if c = 13 then 13 :: 10 :: crlfG true r else c :: crlfG false r
/-- a dot at a line's beginning stands twice -/
noncomputable def dotG : Bool → List Nat → List Nat
  | _, [] => []
  | bol, c :: r => if bol = true ∧ c = 46 then 46 :: 46 :: dotG false r else c :: dotG (c == 10) r
theorem drop_cons {T : Array Nat} {p : Nat} (hp : p < T.size) : T.toList.drop p = T.getD p 0 :: T.toList.drop (p + 1) := by
  rw [List.drop_eq_getElem_cons (by simpa using hp)]
  congr 1
  simp [Array.getD, hp]
theorem crlf_10 (r : List Nat) : crlfG false (10 :: r) = 13 :: 10 :: crlfG false r := rfl
theorem crlf_13 (cr : Bool) (r : List Nat) : crlfG cr (13 :: r) = 13 :: 10 :: crlfG true r := rfl
theorem crlf_no (cr : Bool) (c : Nat) (r : List Nat) (h : c ≠ 10) (h' : c ≠ 13) : crlfG cr (c :: r) = c :: crlfG false r := by
  show (if c = 10 then _ else if c = 13 then _ else _) = _
  rw [if_neg h, if_neg h']
theorem crlf_tt (r : List Nat) (h : ∀ q, r ≠ 10 :: q) : crlfG true r = crlfG false r := by
  cases r with
  | nil => rfl
  | cons c q =>
    have hc : c ≠ 10 := fun e => h q (by rw [e])
    show (if c = 10 then _ else if c = 13 then _ else _) = (if c = 10 then _ else if c = 13 then _ else _)
    rw [if_neg hc, if_neg hc]
theorem dot_yes (r : List Nat) : dotG true (46 :: r) = 46 :: 46 :: dotG false r := rfl
theorem dot_no (bol : Bool) (c : Nat) (r : List Nat) (h : ¬ (bol = true ∧ c = 46)) : dotG bol (c :: r) = c :: dotG (c == 10) r := by
  show (if bol = true ∧ c = 46 then _ else _) = _
  rw [if_neg h]
theorem out_crlf (T : Array Nat) : ∀ (f p : Nat), T.size ≤ p + f → outF T (at2 T) (len2 T) [13, 10] f p = crlfG false (T.toList.drop p)
  | 0, p, h => by
    rw [List.drop_eq_nil_of_le (by simpa using h)]; rfl
  | f + 1, p, h => by
    by_cases hp : p < T.size
    · by_cases ha : at2 T p = true
      · have h2 : T.getD p 0 = 10 ∨ T.getD p 0 = 13 := by
          unfold at2 at ha
          rw [Bool.and_eq_true, Bool.or_eq_true, beq_iff_eq, beq_iff_eq] at ha
          exact ha.2
        have e0 : outF T (at2 T) (len2 T) [13, 10] (f + 1) p = [13, 10] ++ outF T (at2 T) (len2 T) [13, 10] f (p + len2 T p) := by
          show (if p < T.size then if at2 T p = true then _ else _ else _) = _
          rw [if_pos hp, if_pos ha]
        rw [e0, drop_cons hp]
        have h1 : 1 ≤ len2 T p := by
          unfold len2
          generalize (T.getD p 0 == 13 && (decide (p + 1 < T.size) && T.getD (p + 1) 0 == 10)) = b
          cases b <;> decide
        rw [out_crlf T f (p + len2 T p) (by omega)]
        by_cases h10 : T.getD p 0 = 10
        · have e : len2 T p = 1 := by
            unfold len2
            rw [h10]
            rfl
          rw [e, h10, crlf_10]
          rfl
        · have h13 : T.getD p 0 = 13 := by omega
          rw [h13, crlf_13]
          show 13 :: 10 :: _ = _
          congr 2
          by_cases hn : p + 1 < T.size ∧ T.getD (p + 1) 0 = 10
          · have e : len2 T p = 2 := by
              unfold len2
              rw [if_pos]
              rw [h13, hn.2, decide_eq_true hn.1]
              rfl
            rw [e, drop_cons hn.1, hn.2]
            rfl
          · have e : len2 T p = 1 := by
              unfold len2
              rw [if_neg]
              simp only [Bool.and_eq_true, beq_iff_eq, decide_eq_true_eq]
              exact fun q => hn q.2
            rw [e]
            refine (crlf_tt _ fun q hq => hn ?_).symm
            by_cases hs : p + 1 < T.size
            · rw [drop_cons hs] at hq
              injection hq with hq _
              exact ⟨hs, hq⟩
            · rw [List.drop_eq_nil_of_le (by rw [Array.length_toList]; omega)] at hq
              cases hq
      · have h2 : ¬ (T.getD p 0 = 10 ∨ T.getD p 0 = 13) := fun q => ha (by
          unfold at2
          rw [Bool.and_eq_true, Bool.or_eq_true, beq_iff_eq, beq_iff_eq]
          exact ⟨decide_eq_true hp, q⟩)
        have e0 : outF T (at2 T) (len2 T) [13, 10] (f + 1) p = T.getD p 0 :: outF T (at2 T) (len2 T) [13, 10] f (p + 1) := by
          show (if p < T.size then if at2 T p = true then _ else _ else _) = _
          rw [if_pos hp, if_neg ha]
        rw [e0, drop_cons hp, out_crlf T f (p + 1) (by omega), crlf_no _ _ _ (fun q => h2 (.inl q)) (fun q => h2 (.inr q))]
    · rw [outF_ge _ _ (by omega), List.drop_eq_nil_of_le (by rw [Array.length_toList]; omega)]
      rfl
theorem out_dot (T : Array Nat) : ∀ (f p : Nat), T.size ≤ p + f → outF T (at1 T) (fun _ => 1) [46, 46] f p = dotG (p == 0 || T.getD (p - 1) 0 == 10) (T.toList.drop p)
  | 0, p, h => by
    rw [List.drop_eq_nil_of_le (by simpa using h)]; rfl
  | f + 1, p, h => by
    by_cases hp : p < T.size
    · rw [drop_cons hp]
      have ih := out_dot T f (p + 1) (by omega)
      have e1 : (p + 1 == 0 || T.getD (p + 1 - 1) 0 == 10) = (T.getD p 0 == 10) := by
        rw [Nat.add_sub_cancel]
        show (false || _) = _
        rw [Bool.false_or]
      rw [e1] at ih
      have e : at1 T p = ((p == 0 || T.getD (p - 1) 0 == 10) && T.getD p 0 == 46) := by
        unfold at1
        rw [decide_eq_true hp, Bool.true_and]
      by_cases ha : at1 T p = true
      · have e0 : outF T (at1 T) (fun _ => 1) [46, 46] (f + 1) p = [46, 46] ++ outF T (at1 T) (fun _ => 1) [46, 46] f (p + 1) := by
          show (if p < T.size then if at1 T p = true then _ else _ else _) = _
          rw [if_pos hp, if_pos ha]
        rw [e0, ih]
        rw [e, Bool.and_eq_true, beq_iff_eq] at ha
        rw [ha.1, ha.2, dot_yes]
        rfl
      · have e0 : outF T (at1 T) (fun _ => 1) [46, 46] (f + 1) p = T.getD p 0 :: outF T (at1 T) (fun _ => 1) [46, 46] f (p + 1) := by
          show (if p < T.size then if at1 T p = true then _ else _ else _) = _
          rw [if_pos hp, if_neg ha]
        rw [e0, ih]
        rw [e, Bool.and_eq_true, beq_iff_eq] at ha
        rw [dot_no _ _ _ ha]
    · rw [outF_ge _ _ (by omega), List.drop_eq_nil_of_le (by rw [Array.length_toList]; omega)]
      rfl
theorem twin2_is (l : List Nat) : twin2 l = crlfG false l := by
  unfold twin2
  rw [out_crlf _ _ 0 (by simp)]
  rfl
theorem twin1_is (l : List Nat) : twin1 l = dotG true l := by
  unfold twin1
  rw [out_dot _ _ 0 (by simp)]
  rfl
theorem quote_is (x : Str) : quoteP x = ⟨(dotG true (crlfG false x.cps.toList)).toArray⟩ := by
  unfold quoteP
  rw [twin2_is, twin1_is]
end Mine
end
section
set_option Elab.async false
set_option linter.unusedVariables false
set_option maxRecDepth 100000
set_option maxHeartbeats 4000000
namespace Mine
open PySem PySem.W PySem.Calls PyProof.Rows PySem.StrLaws PySem.Builtin PySem.Builtin.Str
/-- how often both ends of a line and two dots stand in a row -/
noncomputable def cntD : List Nat → Nat
  | [] => 0
  | c :: r => (if (c :: r).take 4 = [13, 10, 46, 46] then 1 else 0) + cntD r
theorem cntD_cons (c : Nat) (r : List Nat) : cntD (c :: r) = (if (c :: r).take 4 = [13, 10, 46, 46] then 1 else 0) + cntD r := rfl
noncomputable def rowB (r : Str) : Bool := Txt.slice r none (some 2) == (⟨#[46, 46]⟩ : Str)
theorem row_is (r : Str) : rowB r = decide (r.cps.toList.take 2 = [46, 46]) := by
  unfold rowB
  by_cases h : r.length < 2
  · have e1 : Txt.slice r none (some 2) ≠ (⟨#[46, 46]⟩ : Str) := fun e => by
      have h1 := Txt.slice_le r none (some 2)
      have h2 : (Txt.slice r none (some 2)).length = 2 := by rw [e]; rfl
      omega
    have e2 : ¬ r.cps.toList.take 2 = [46, 46] := fun e => by
      have := congrArg List.length e
      simp at this
      have h3 : r.cps.size = r.length := rfl
      omega
    rw [beq_eq_false_iff_ne.mpr e1, decide_eq_false e2]
  · have e := eq_of_beq (slice_closes_toL (x := r) (j := 2) (by decide) (by omega))
    rw [e]
    have e2 : ((2 : Int) - 0).toNat = 2 := rfl
    have e3 : (0 : Int).toNat = 0 := rfl
    rw [e2, e3, List.drop_zero, Bool.eq_iff_iff, beq_iff_eq, decide_eq_true_eq]
    constructor
    · intro q
      injection q with q
      simpa using congrArg Array.toList q
    · intro q
      rw [q]
theorem at_iff (x : Str) (k : Nat) : At x crlfS x.length k ↔ (x.cps.toList.drop k).take 2 = [13, 10] := by
  unfold At
  rw [subAt_eq]
  show k + 2 ≤ x.length ∧ ((x.cps.toList.drop k).take 2 == [13, 10]) = true ↔ _
  rw [beq_iff_eq]
  constructor
  · exact fun h => h.2
  · intro h
    refine ⟨?_, h⟩
    have := congrArg List.length h
    simp at this
    have h3 : x.cps.size = x.length := rfl
    omega
theorem cnt_skip (x : Str) (a : Nat) : ∀ d, (∀ k, a ≤ k → k < a + d → ¬ At x crlfS x.length k) → cntD (x.cps.toList.drop a) = cntD (x.cps.toList.drop (a + d))
  | 0, _ => rfl
  | d + 1, h => by
    rw [cnt_skip x a d fun k h1 h2 => h k h1 (by omega)]
    cases e : x.cps.toList.drop (a + d) with
    | nil =>
      have : x.cps.toList.drop (a + (d + 1)) = [] := by
        have h1 := List.drop_eq_nil_iff.mp e
        exact List.drop_eq_nil_of_le (by omega)
      rw [this]
    | cons c r =>
      have e2 : x.cps.toList.drop (a + (d + 1)) = r := by
        rw [show a + (d + 1) = (a + d) + 1 by omega, ← List.drop_drop, e]; rfl
      rw [e2]
      rw [cntD_cons, if_neg, Nat.zero_add]
      · intro q
        refine h (a + d) (by omega) (by omega) ((at_iff x _).mpr ?_)
        rw [e]
        have := congrArg (List.take 2) q
        rw [List.take_take] at this
        exact this
theorem cnt_end (x : Str) (a : Nat) (h : ∀ k, a ≤ k → ¬ At x crlfS x.length k) : cntD (x.cps.toList.drop a) = 0 := by
  rw [cnt_skip x a x.length fun k h1 _ => h k h1, List.drop_eq_nil_of_le]
  · rfl
  · have : x.cps.toList.length = x.length := by simp [Str.length]
    omega
theorem cnt_at (x : Str) (c : Nat) (h : At x crlfS x.length c) : cntD (x.cps.toList.drop c) = (if (x.cps.toList.drop (c + 2)).take 2 = [46, 46] then 1 else 0) + cntD (x.cps.toList.drop (c + 2)) := by
  have h2 := (at_iff x c).mp h
  have e : x.cps.toList.drop (c + 2) = (x.cps.toList.drop c).drop 2 := by rw [List.drop_drop]
  rw [e]
  generalize x.cps.toList.drop c = l at h2
  match l, h2 with
  | 13 :: 10 :: r, _ =>
    rw [cntD_cons]
    have e1 : ((13 :: 10 :: r).take 4 = [13, 10, 46, 46]) ↔ ((List.drop 2 (13 :: 10 :: r)).take 2 = [46, 46]) := by
      show (13 :: 10 :: r.take 2 = [13, 10, 46, 46]) ↔ (r.take 2 = [46, 46])
      simp
    congr 1
    · by_cases q : (List.drop 2 (13 :: 10 :: r)).take 2 = [46, 46]
      · rw [if_pos q, if_pos (e1.mpr q)]
      · rw [if_neg q, if_neg fun z => q (e1.mp z)]
    · show cntD (10 :: r) = cntD r
      rw [cntD_cons, if_neg (by intro q; cases q), Nat.zero_add]
theorem head_row (x : Str) (a b : Nat) (hb : b ≤ x.length) (ha : a ≤ b) (hn : ∀ k, a ≤ k → k < b → ¬ At x crlfS x.length k) (hx : b = x.length ∨ At x crlfS x.length b) : rowB (strSub x a b) = decide ((x.cps.toList.drop a).take 2 = [46, 46]) := by
  rw [row_is, strSub_toList, List.take_take]
  by_cases h2 : 2 ≤ b - a
  · rw [Nat.min_eq_left h2]
  · have e1 : ¬ (List.take (min 2 (b - a)) (x.cps.toList.drop a) = [46, 46]) := fun e => by
      have := congrArg List.length e
      rw [List.length_take] at this
      have h3 : ([46, 46] : List Nat).length = 2 := rfl
      omega
    have e2 : ¬ ((x.cps.toList.drop a).take 2 = [46, 46]) := fun e => by
      rcases hx with hx | hx
      · have := congrArg List.length e
        rw [List.length_take, List.length_drop] at this
        have h3 : ([46, 46] : List Nat).length = 2 := rfl
        have h4 : x.cps.toList.length = x.length := by simp [Str.length]
        omega
      · have h5 := (at_iff x b).mp hx
        have e0 := congrArg (fun l => l[b - a]?) e
        have e6 := congrArg (fun l => l[0]?) h5
        replace e0 : (List.take 2 (List.drop a x.cps.toList))[b - a]? = ([46, 46] : List Nat)[b - a]? := e0
        replace e6 : (List.take 2 (List.drop b x.cps.toList))[0]? = some 13 := e6
        rw [List.getElem?_take_of_lt (by omega), List.getElem?_drop] at e0 e6
        rw [show a + (b - a) = b by omega] at e0
        rw [Nat.add_zero] at e6
        rw [e6] at e0
        have : b - a = 0 ∨ b - a = 1 := by omega
        rcases this with q | q <;> rw [q] at e0 <;> cases e0
    rw [decide_eq_false e1, decide_eq_false e2]
theorem chain_rows (x : Str) : ∀ (cuts : List Nat) (a f : Nat), ChainG x crlfS x.length a cuts f → a ≤ x.length → (∀ k, f ≤ k → ¬ At x crlfS x.length k) →
    (((partsFrom x 2 a cuts).drop 1).filter rowB).length = cntD (x.cps.toList.drop a) ∧ ((partsFrom x 2 a cuts).filter rowB).length = (if (x.cps.toList.drop a).take 2 = [46, 46] then 1 else 0) + cntD (x.cps.toList.drop a)
  | [], a, f, h, ha, hn => by
    have e : f = a := h
    subst e
    have h0 := cnt_end x f hn
    have h1 := head_row x f x.length (Nat.le_refl _) ha (fun k h1 _ => hn k h1) (.inl rfl)
    rw [h0]
    refine ⟨rfl, ?_⟩
    show (List.filter rowB [strSub x f x.length]).length = _
    rw [List.filter_cons, h1]
    split
    · rename_i q; rw [if_pos (of_decide_eq_true q)]; rfl
    · rename_i q; rw [if_neg (fun z => q (decide_eq_true z))]; rfl
  | c :: r, a, f, h, ha, hn => by
    obtain ⟨hac, hA, hno, hr⟩ := h
    have hc2 : c + 2 ≤ x.length := hA.1
    have ih := chain_rows x r (c + 2) f hr hc2 hn
    have e1 : cntD (x.cps.toList.drop a) = cntD (x.cps.toList.drop c) := by
      have := cnt_skip x a (c - a) fun k h1 h2 => hno k h1 (by omega)
      rwa [show a + (c - a) = c by omega] at this
    have h1 := head_row x a c (by omega) hac hno (.inr hA)
    rw [e1, cnt_at x c hA]
    have e2 : ((partsFrom x 2 a (c :: r)).drop 1) = partsFrom x 2 (c + 2) r := rfl
    have e3 : partsFrom x 2 a (c :: r) = strSub x a c :: partsFrom x 2 (c + 2) r := rfl
    refine ⟨by rw [e2, ih.2], ?_⟩
    rw [e3, List.filter_cons, h1]
    split
    · rename_i q; rw [if_pos (of_decide_eq_true q), List.length_cons, ih.2]; omega
    · rename_i q; rw [if_neg (fun z => q (decide_eq_true z)), ih.2]; omega
theorem kind_crlf (x : Str) : ¬ (Builtin.Str.strKind x < Builtin.Str.strKind crlfS) := by
  have e : Builtin.Str.strKind crlfS = 1 := by decide +kernel
  rw [e]
  unfold Builtin.Str.strKind
  split
  · omega
  · split <;> omega
theorem cnt_short : ∀ l : List Nat, l.length < 2 → cntD l = 0
  | [], _ => rfl
  | [c], _ => by
    unfold cntD
    rw [if_neg (by intro q; cases q)]
    rfl
  | _ :: _ :: _, h => by simp only [List.length_cons] at h; omega
theorem seen_is (m : Str) : seenM m = (cntD m.cps.toList : Nat) := by
  unfold seenM rowsK
  show (((((Txt.split m crlfS).drop 1).filter rowB).length : Nat) : Int) = _
  congr 1
  have hlen : m.cps.toList.length = m.length := by simp [Str.length]
  unfold Txt.split
  split
  · rename_i hc
    rw [Bool.or_eq_true, decide_eq_true_eq, decide_eq_true_eq] at hc
    rcases hc with hc | hc
    · have h2 : m.length < 2 := hc
      rw [cnt_short _ (by omega)]
      rfl
    · exact absurd hc (kind_crlf m)
  · obtain ⟨f, hG, hn⟩ := occ_tight m crlfS (by decide)
    split
    · rename_i he
      have e0 : occurrences m crlfS 0 m.length (m.length + 1) = [] := List.isEmpty_iff.mp he
      rw [e0] at hG
      have := chain_rows m [] 0 f hG (Nat.zero_le _) hn
      have h1 := this.1
      rw [List.drop_zero] at h1
      rw [← h1]
      rfl
    · have := chain_rows m _ 0 f hG (Nat.zero_le _) hn
      have h1 := this.1
      rw [List.drop_zero] at h1
      rw [← h1]
      congr 3
      exact zip_parts m 2 _ 0
end Mine
end
section
set_option Elab.async false
set_option linter.unusedVariables false
set_option maxRecDepth 100000
set_option maxHeartbeats 4000000
namespace Mine
open PySem PySem.W PySem.Calls PyProof.Rows
-- the nets, all of them: there are not many
noncomputable abbrev QN := List Int × List Int × List Int × List Int
noncomputable def toQ (st : NS) : QN := (st.n0, st.n1, st.o0, st.o1)
noncomputable def ofQ (q : QN) : NS := ⟨q.1, q.2.1, q.2.2.1, q.2.2.2⟩
theorem ofQ_toQ (st : NS) : ofQ (toQ st) = st := rfl
noncomputable def kB (k2 k3 : Bool) (k : Nat) : Bool := match k with | 0 => false | 1 => true | 2 => k2 | _ => k3
noncomputable def moreD (k : Nat) : List Int := (List.replicate (k / 3) [1, 1, 1, 1, 2, 2, 2, 2]).flatten
noncomputable def keyQ (q : QN) : Nat := q.2.2.2.foldl (fun a x => a * 16 + x.toNat) (q.2.2.1.foldl (fun a x => a * 16 + x.toNat) (q.2.1.foldl (fun a x => a * 16 + x.toNat) (q.1.foldl (fun a x => a * 16 + x.toNat) 0)))
noncomputable def hasQ (a : QN) (l : List QN) : Bool := l.any fun b => Nat.beq (keyQ b) (keyQ a) && b == a
noncomputable def addQ (a : QN) (l : List QN) : List QN := if hasQ a l = true then l else a :: l
noncomputable def onceL : List QN → List QN
  | [] => []
  | a :: r => addQ a (onceL r)
theorem mem_once {a : QN} : ∀ {l : List QN}, a ∈ l → a ∈ onceL l
  | b :: r, h => by
    show a ∈ addQ b (onceL r)
    unfold addQ
    rcases List.mem_cons.mp h with rfl | h
    · split
      · rename_i hc
        obtain ⟨c, h1, h2⟩ := List.any_eq_true.mp hc
        rw [← eq_of_beq (Bool.and_eq_true _ _ |>.mp h2).2]
        exact h1
      · exact List.mem_cons_self
    · split
      · exact mem_once h
      · exact List.mem_cons_of_mem _ (mem_once h)
noncomputable def deedQ (S : List QN) : List QN := onceL (S.flatMap fun q => [q, toQ (deed1 (ofQ q)), toQ (deed2 (ofQ q))])
noncomputable def nextQ (own : Bool) (k : Nat) (S : List QN) : List QN := onceL ((deedQ (deedQ (deedQ (S.map fun q => toQ (stepOwn own k (ofQ q)))))).map fun q => toQ ((moreD k).foldl deedP (ofQ q)))
noncomputable def reachQ (k2 k3 : Bool) : Nat → List QN
  | 0 => [toQ ns0]
  | k + 1 => nextQ (kB k2 k3 k) k (reachQ k2 k3 k)
theorem kindB_kB (N : List Int) (k : Nat) (hk : k < 4) : kindB N k = kB (kindB N 2) (kindB N 3) k := by
  match k with
  | 0 => rfl
  | 1 => rfl
  | 2 => rfl
  | 3 => rfl
theorem three (x : Int) : x.fmod 3 ∈ ([0, 1, 2] : List Int) := by
  have h0 := Int.fmod_nonneg_of_pos x (by decide : (0 : Int) < 3)
  have h1 := Int.fmod_lt_of_pos x (by decide : (0 : Int) < 3)
  simp only [List.mem_cons, List.not_mem_nil, or_false]
  omega
theorem deed_in {S : List QN} {st : NS} {d : Int} (h : toQ st ∈ S) (hd : d ∈ ([0, 1, 2] : List Int)) : toQ (deedP st d) ∈ deedQ S := by
  refine mem_once (List.mem_flatMap.mpr ⟨_, h, ?_⟩)
  simp only [List.mem_cons, List.not_mem_nil, or_false] at hd
  rcases hd with rfl | rfl | rfl
  · exact List.mem_cons_self
  · exact List.mem_cons_of_mem _ List.mem_cons_self
  · exact List.mem_cons_of_mem _ (List.mem_cons_of_mem _ List.mem_cons_self)
theorem reach_ok (N : List Int) : ∀ k, k ≤ 4 → toQ (netsAt N k) ∈ reachQ (kindB N 2) (kindB N 3) k
  | 0, _ => List.mem_singleton.mpr rfl
  | k + 1, h => by
    rw [nets_succ]
    have h0 : toQ (stepOwn (kindB N k) k (netsAt N k)) ∈ (reachQ (kindB N 2) (kindB N 3) k).map fun q => toQ (stepOwn (kB (kindB N 2) (kindB N 3) k) k (ofQ q)) :=
      List.mem_map.mpr ⟨_, reach_ok N k (by omega), by rw [ofQ_toQ, kindB_kB N k (by omega)]⟩
    have h1 := deed_in h0 (three ((N.getD k 0).fdiv 2))
    have h2 := deed_in h1 (three (((N.getD k 0).fdiv 2).fdiv 3))
    have h3 := deed_in h2 (three (((N.getD k 0).fdiv 2).fdiv 9))
    refine mem_once (List.mem_map.mpr ⟨_, h3, ?_⟩)
    rw [ofQ_toQ]
    rfl
noncomputable def bB (v : Int) (n : Nat) : Bool := bitI v n == 1
noncomputable def parB (nodes v : Int) : Bool := (List.range 4).foldl (fun s n => s ^^ (liveB nodes n && bB v n)) false
noncomputable def seenF (net : List Int) (nodes : Int) : Nat := ((List.range 4).filter fun k => !parB nodes (net.getD k 0)).length
noncomputable def nodesF (k2 k3 : Bool) (kind : Nat) : List Nat := (List.range 4).filter fun k => kB k2 k3 k == (kind == 1)
noncomputable def setsF (ns : List Nat) : List Int := ns.foldl (fun t node => t ++ t.map (· + 2 ^ node)) [0]
noncomputable def bitsOk (k2 k3 : Bool) (kind : Nat) (net : List Int) : Bool := net.all fun v => (List.range 4).all fun n => kB k2 k3 n == (kind == 1) || bitI v n == 0
noncomputable def sumsOk (k2 k3 : Bool) (n0 n1 : List Int) : Bool :=
  ((setsF (nodesF k2 k3 0)).map fun nodes => (101 : Int) ^ (seenF n0 nodes) * (-99) ^ (4 - seenF n0 nodes)).sum == ((setsF (nodesF k2 k3 0)).length : Nat) * ((setsF (nodesF k2 k3 1)).map fun nodes => (100 : Int) ^ (4 - seenF n1 nodes)).sum
noncomputable def okQ (k2 k3 : Bool) (q : QN) : Bool := bitsOk k2 k3 0 q.1 && bitsOk k2 k3 1 q.2.1 && sumsOk k2 k3 q.1 q.2.1
-- the same in small numbers, for the kernel
noncomputable def par16 (x : Nat) : Bool := [false, true, true, false, true, false, false, true, true, false, false, true, false, true, true, false].getD x false
noncomputable def seenT (net : List Int) (nodes : Int) : Nat := ((List.range 4).filter fun k => !par16 (Nat.land nodes.toNat (net.getD k 0).toNat)).length
noncomputable def inB (net : List Int) : Bool := net.all fun v => decide (0 ≤ v) && decide (v < 16)
noncomputable def sumsT (k2 k3 : Bool) (n0 n1 : List Int) : Bool :=
  ((setsF (nodesF k2 k3 0)).map fun nodes => (101 : Int) ^ (seenT n0 nodes) * (-99) ^ (4 - seenT n0 nodes)).sum == ((setsF (nodesF k2 k3 0)).length : Nat) * ((setsF (nodesF k2 k3 1)).map fun nodes => (100 : Int) ^ (4 - seenT n1 nodes)).sum
noncomputable def okT (k2 k3 : Bool) (q : QN) : Bool := inB q.1 && inB q.2.1 && bitsOk k2 k3 0 q.1 && bitsOk k2 k3 1 q.2.1 && sumsT k2 k3 q.1 q.2.1
theorem par_is : ∀ m : Nat, m < 16 → ∀ v : Nat, v < 16 → parB (m : Int) (v : Int) = par16 (Nat.land m v) := by decide +kernel
theorem sets_bd : ∀ k2 k3 : Bool, ∀ kind, kind < 2 → ∀ x ∈ setsF (nodesF k2 k3 kind), 0 ≤ x ∧ x < 16 := by decide +kernel
theorem par_at {m v : Int} (hm : 0 ≤ m ∧ m < 16) (hv : 0 ≤ v ∧ v < 16) : parB m v = par16 (Nat.land m.toNat v.toNat) := by
  have h := par_is m.toNat (by omega) v.toNat (by omega)
  rwa [show ((m.toNat : Nat) : Int) = m by omega, show ((v.toNat : Nat) : Int) = v by omega] at h
theorem seen_at {net : List Int} {nodes : Int} (hn : inB net = true) (hm : 0 ≤ nodes ∧ nodes < 16) : seenF net nodes = seenT net nodes := by
  unfold seenF seenT
  congr 1
  refine List.filter_congr fun k _ => ?_
  rw [par_at hm]
  rw [List.getD_eq_getElem?_getD]
  cases h : net[k]? with
  | none => exact ⟨Int.le_refl 0, by decide⟩
  | some v =>
    have := List.all_eq_true.mp hn v (List.mem_of_getElem? h)
    rw [Bool.and_eq_true, decide_eq_true_eq, decide_eq_true_eq] at this
    exact this
theorem ok_of {k2 k3 : Bool} {q : QN} (h : okT k2 k3 q = true) : okQ k2 k3 q = true := by
  unfold okT at h
  rw [Bool.and_eq_true, Bool.and_eq_true, Bool.and_eq_true, Bool.and_eq_true] at h
  obtain ⟨⟨⟨⟨h1, h2⟩, h3⟩, h4⟩, h5⟩ := h
  unfold okQ
  rw [h3, h4, Bool.true_and, Bool.true_and]
  have e0 : ∀ x ∈ setsF (nodesF k2 k3 0), seenF q.1 x = seenT q.1 x := fun x hx => seen_at h1 (sets_bd k2 k3 0 (by decide) x hx)
  have e1 : ∀ x ∈ setsF (nodesF k2 k3 1), seenF q.2.1 x = seenT q.2.1 x := fun x hx => seen_at h2 (sets_bd k2 k3 1 (by decide) x hx)
  rw [← h5]
  unfold sumsOk sumsT
  rw [List.map_congr_left fun x hx => by rw [e0 x hx], List.map_congr_left (l := setsF (nodesF k2 k3 1)) fun x hx => by rw [e1 x hx]]
theorem ok_ff : (reachQ false false 4).all (okT false false) = true := by decide +kernel
theorem ok_ft : (reachQ false true 4).all (okT false true) = true := by decide +kernel
theorem ok_tf : (reachQ true false 4).all (okT true false) = true := by decide +kernel
theorem ok_tt : (reachQ true true 4).all (okT true true) = true := by decide +kernel
theorem all_ok (k2 k3 : Bool) : (reachQ k2 k3 4).all (okT k2 k3) = true := by
  cases k2 <;> cases k3
  · exact ok_ff
  · exact ok_ft
  · exact ok_tf
  · exact ok_tt
theorem nets_ok (N : List Int) : okQ (kindB N 2) (kindB N 3) (toQ (netsP N)) = true := ok_of (List.all_eq_true.mp (all_ok _ _) _ (reach_ok N 4 (Nat.le_refl _)))
end Mine
end
section
set_option Elab.async false
set_option linter.unusedVariables false
set_option maxRecDepth 100000
set_option maxHeartbeats 4000000
namespace Mine
open PySem PySem.W PySem.Calls PyProof.Rows
/-- a piece as the law builds it -/
inductive PcOk (keep live : Nat → Bool) : Piece → Prop
  | sign (n c : Nat) (h1 : (n == 4) = false) (h2 : c ≠ 10) (h3 : c ≠ 13) (h4 : keep c = !live n) : PcOk keep live (n, ⟨#[92, c, 92, 34]⟩, ⟨#[92, 92]⟩)
  | row (nl d : List Nat) (b : Nat) (h1 : nl = [10] ∨ nl = [13] ∨ nl = [13, 10]) (h2 : d = [46] ∨ d = [46, 46]) (h3 : b ≠ 10) (h4 : b ≠ 13) (h5 : b ≠ 34) (h6 : b ≠ 92) (h7 : keep b = true) : PcOk keep live (4, ⟨(nl ++ d ++ [b]).toArray⟩, ⟨([13, 10, 46] ++ d ++ [b]).toArray⟩)
structure KeepOk (keep live : Nat → Bool) : Prop where
  k10 : keep 10 = true
  k13 : keep 13 = true
  k34 : keep 34 = true
  k46 : keep 46 = true
  k92 : keep 92 = true
  l4 : live 4 = false
noncomputable def nextS (live : Nat → Bool) (s : Bool) (y : Piece) : Bool := if live y.1 = true then !s else s
noncomputable def endS (live : Nat → Bool) (s : Bool) (ys : List Piece) : Bool := ys.foldl (nextS live) s
noncomputable def rawL (live : Nat → Bool) : Bool → List Piece → List Nat
  | _, [] => []
  | s, y :: r => (if s = true then (if live y.1 = true then [92, 92] else y.2.1.cps.toList) else []) ++ rawL live (nextS live s y) r
noncomputable def dueL (live : Nat → Bool) : Bool → List Piece → List Nat
  | _, [] => []
  | s, y :: r => (if s = true then (if live y.1 || y.1 == 4 then y.2.2 else y.2.1).cps.toList else []) ++ dueL live (nextS live s y) r
noncomputable def rowsL (live : Nat → Bool) : Bool → List Piece → Nat
  | _, [] => 0
  | s, y :: r => (if (s && y.1 == 4) = true then 1 else 0) + rowsL live (nextS live s y) r
theorem strG_plain (rest : List Nat) : ∀ l : List Nat, (∀ c ∈ l, c ≠ 92 ∧ c ≠ 34) → strG none false (l ++ rest) = l ++ strG none false rest
  | [], _ => rfl
  | c :: r, h => by
    have hc := h c List.mem_cons_self
    show (if c = 92 then c :: strG none true (r ++ rest) else if c = 34 then strG (some [34]) false (r ++ rest) else c :: strG none false (r ++ rest)) = _
    rw [if_neg hc.1, if_neg hc.2, strG_plain rest r fun z hz => h z (List.mem_cons_of_mem _ hz)]
    rfl
theorem strG_plainB (rest : List Nat) : ∀ (l b : List Nat), (∀ c ∈ l, c ≠ 92 ∧ c ≠ 34) → strG (some b) false (l ++ rest) = strG (some (b ++ l)) false rest
  | [], b, _ => by rw [List.append_nil]; rfl
  | c :: r, b, h => by
    have hc := h c List.mem_cons_self
    show (if c = 92 then strG (some (b ++ [c])) true (r ++ rest) else if c = 34 then strG none false (r ++ rest) else strG (some (b ++ [c])) false (r ++ rest)) = _
    rw [if_neg hc.1, if_neg hc.2, strG_plainB rest r _ fun z hz => h z (List.mem_cons_of_mem _ hz), List.append_assoc]
    rfl
section
variable {keep live : Nat → Bool}
theorem filter_sign (K : KeepOk keep live) (c : Nat) : [92, c, 92, 34].filter keep = 92 :: ((if keep c = true then [c] else []) ++ [92, 34]) := by
  rw [List.filter_cons_of_pos K.k92, List.filter_cons]
  split
  · rw [List.filter_cons_of_pos K.k92, List.filter_cons_of_pos K.k34]; rfl
  · rw [List.filter_cons_of_pos K.k92, List.filter_cons_of_pos K.k34]; rfl
theorem row_chars {nl d : List Nat} {b : Nat} (h1 : nl = [10] ∨ nl = [13] ∨ nl = [13, 10]) (h2 : d = [46] ∨ d = [46, 46]) : ∀ c ∈ nl ++ d ++ [b], c = 10 ∨ c = 13 ∨ c = 46 ∨ c = b := by
  intro c hc
  rcases List.mem_append.mp hc with hc | hc
  · rcases List.mem_append.mp hc with hc | hc
    · rcases h1 with rfl | rfl | rfl
      · exact .inl (List.mem_singleton.mp hc)
      · exact .inr (.inl (List.mem_singleton.mp hc))
      · rcases List.mem_cons.mp hc with hc | hc
        · exact .inr (.inl hc)
        · exact .inl (List.mem_singleton.mp hc)
    · rcases h2 with rfl | rfl
      · exact .inr (.inr (.inl (List.mem_singleton.mp hc)))
      · rcases List.mem_cons.mp hc with hc | hc
        · exact .inr (.inr (.inl hc))
        · exact .inr (.inr (.inl (List.mem_singleton.mp hc)))
  · exact .inr (.inr (.inr (List.mem_singleton.mp hc)))
theorem strip_pcs (K : KeepOk keep live) (rest : List Nat) : ∀ ys : List Piece, (∀ y ∈ ys, PcOk keep live y) →
    (endS live true ys = true → strG none false ((ys.flatMap fun y => y.2.1.cps.toList.filter keep) ++ rest) = rawL live true ys ++ strG none false rest) ∧
    (endS live false ys = true → ∀ b, strG (some b) false ((ys.flatMap fun y => y.2.1.cps.toList.filter keep) ++ rest) = rawL live false ys ++ strG none false rest)
  | [], _ => ⟨fun _ => rfl, fun h => by cases h⟩
  | y :: r, H => by
    have ih := strip_pcs K rest r fun z hz => H z (List.mem_cons_of_mem _ hz)
    have hy := H y List.mem_cons_self
    rw [List.flatMap_cons, List.append_assoc]
    generalize hq : (r.flatMap fun y => y.2.1.cps.toList.filter keep) ++ rest = q at *
    cases hy with
    | sign n c h1 h2 h3 h4 =>
      have ef : (⟨#[92, c, 92, 34]⟩ : Str).cps.toList.filter keep = 92 :: ((if keep c = true then [c] else []) ++ [92, 34]) := filter_sign K c
      dsimp only
      rw [ef]
      cases hl : live n with
      | true =>
        rw [hl] at h4
        have en : ∀ s, nextS live s (n, ⟨#[92, c, 92, 34]⟩, ⟨#[92, 92]⟩) = !s := fun s => by unfold nextS; dsimp only; rw [if_pos hl]
        have ee : ∀ s, endS live s ((n, ⟨#[92, c, 92, 34]⟩, ⟨#[92, 92]⟩) :: r) = endS live (!s) r := fun s => by unfold endS; rw [List.foldl_cons, en]
        rw [ee, ee, if_neg (by rw [h4]; decide)]
        unfold rawL
        dsimp only
        rw [if_pos rfl, if_neg Bool.false_ne_true, if_pos hl, en, en]
        refine ⟨fun h => ?_, fun h b => ?_⟩
        · show 92 :: 92 :: strG (some [34]) false q = _
          rw [ih.2 h]
          rfl
        · show strG none false q = _
          rw [ih.1 h]
          rfl
      | false =>
        rw [hl] at h4
        have en : ∀ s, nextS live s (n, ⟨#[92, c, 92, 34]⟩, ⟨#[92, 92]⟩) = s := fun s => by unfold nextS; dsimp only; rw [if_neg (by rw [hl]; exact Bool.false_ne_true)]
        have ee : ∀ s, endS live s ((n, ⟨#[92, c, 92, 34]⟩, ⟨#[92, 92]⟩) :: r) = endS live s r := fun s => by unfold endS; rw [List.foldl_cons, en]
        rw [ee, ee, if_pos (by rw [h4]; rfl)]
        unfold rawL
        dsimp only
        rw [if_pos rfl, if_neg Bool.false_ne_true, if_neg (by rw [hl]; exact Bool.false_ne_true), en, en]
        refine ⟨fun h => ?_, fun h b => ?_⟩
        · show 92 :: c :: 92 :: 34 :: strG none false q = _
          rw [ih.1 h]
          rfl
        · show strG (some ((((b ++ [92]) ++ [c]) ++ [92]) ++ [34])) false q = _
          rw [ih.2 h]
          rfl
    | row nl d b h1 h2 h3 h4 h5 h6 h7 =>
      have hch := row_chars (b := b) h1 h2
      have ef : (⟨(nl ++ d ++ [b]).toArray⟩ : Str).cps.toList.filter keep = nl ++ d ++ [b] := by
        show (nl ++ d ++ [b]).filter keep = _
        rw [List.filter_eq_self]
        intro c hc
        rcases hch c hc with rfl | rfl | rfl | rfl
        · exact K.k10
        · exact K.k13
        · exact K.k46
        · exact h7
      have hno : ∀ c ∈ nl ++ d ++ [b], c ≠ 92 ∧ c ≠ 34 := fun c hc => by
        rcases hch c hc with rfl | rfl | rfl | rfl
        · decide
        · decide
        · decide
        · exact ⟨h6, h5⟩
      have en : ∀ s, nextS live s (4, ⟨(nl ++ d ++ [b]).toArray⟩, ⟨([13, 10, 46] ++ d ++ [b]).toArray⟩) = s := fun s => by unfold nextS; dsimp only; rw [if_neg (by rw [K.l4]; exact Bool.false_ne_true)]
      have ee : ∀ s, endS live s ((4, ⟨(nl ++ d ++ [b]).toArray⟩, ⟨([13, 10, 46] ++ d ++ [b]).toArray⟩) :: r) = endS live s r := fun s => by unfold endS; rw [List.foldl_cons, en]
      dsimp only
      rw [ef, ee, ee]
      unfold rawL
      rw [if_pos rfl, if_neg Bool.false_ne_true, if_neg (by rw [K.l4]; exact Bool.false_ne_true), en, en]
      refine ⟨fun h => ?_, fun h z => ?_⟩
      · rw [strG_plain _ _ hno, ih.1 h, ← List.append_assoc]
      · rw [strG_plainB _ _ _ hno, ih.2 h]
        rfl
theorem quote_pcs (K : KeepOk keep live) (rest out : List Nat) (hrest : ∀ bol, dotG bol (crlfG false rest) = out) : ∀ (ys : List Piece) (s bol : Bool), (∀ y ∈ ys, PcOk keep live y) →
    dotG bol (crlfG false (rawL live s ys ++ rest)) = dueL live s ys ++ out
  | [], s, bol, _ => hrest bol
  | y :: r, s, bol, H => by
    have ih := fun s bol => quote_pcs K rest out hrest r s bol fun z hz => H z (List.mem_cons_of_mem _ hz)
    have hy := H y List.mem_cons_self
    unfold rawL dueL
    rw [List.append_assoc, List.append_assoc]
    cases s with
    | false =>
      rw [if_neg Bool.false_ne_true, if_neg Bool.false_ne_true]
      exact ih _ bol
    | true =>
      rw [if_pos rfl, if_pos rfl]
      generalize nextS live true y = s'
      generalize hq : rawL live s' r ++ rest = q
      have ih' : ∀ bol, dotG bol (crlfG false q) = dueL live s' r ++ out := fun bol => by rw [← hq]; exact ih s' bol
      cases hy with
      | sign n c h1 h2 h3 h4 =>
        dsimp only
        rw [h1, Bool.or_false]
        have d92 : ∀ bol z, dotG bol (92 :: z) = 92 :: dotG false z := fun bol z => dot_no _ _ _ (fun h => absurd h.2 (by decide))
        have c92 : ∀ z, crlfG false (92 :: z) = 92 :: crlfG false z := fun z => crlf_no _ _ _ (by decide) (by decide)
        split
        · show dotG bol (crlfG false (92 :: 92 :: q)) = 92 :: 92 :: _
          rw [c92, c92, d92, d92, ih']
          rfl
        · show dotG bol (crlfG false (92 :: c :: 92 :: 34 :: q)) = 92 :: c :: 92 :: 34 :: _
          rw [c92, crlf_no _ _ _ h2 h3, c92, crlf_no _ _ _ (by decide) (by decide), d92, dot_no _ c _ (fun h => absurd h.1 Bool.false_ne_true), d92, dot_no _ 34 _ (fun h => absurd h.1 Bool.false_ne_true), ih']
          rfl
      | row nl d b h1 h2 h3 h4 h5 h6 h7 =>
        dsimp only
        rw [K.l4, if_neg Bool.false_ne_true]
        show dotG bol (crlfG false ((nl ++ d ++ [b]) ++ q)) = ([13, 10, 46] ++ d ++ [b]) ++ _
        have c46 : ∀ z, crlfG false (46 :: z) = 46 :: crlfG false z := fun z => crlf_no _ _ _ (by decide) (by decide)
        have c46' : ∀ z, crlfG true (46 :: z) = 46 :: crlfG false z := fun z => crlf_no _ _ _ (by decide) (by decide)
        have cb : ∀ z, crlfG false (b :: z) = b :: crlfG false z := fun z => crlf_no _ _ _ h3 h4
        have e1 : crlfG false ((nl ++ d ++ [b]) ++ q) = 13 :: 10 :: (d ++ b :: crlfG false q) := by
          rcases h1 with rfl | rfl | rfl <;> rcases h2 with rfl | rfl
          · show crlfG false (10 :: 46 :: b :: q) = _
            rw [crlf_10, c46, cb]; rfl
          · show crlfG false (10 :: 46 :: 46 :: b :: q) = _
            rw [crlf_10, c46, c46, cb]; rfl
          · show crlfG false (13 :: 46 :: b :: q) = _
            rw [crlf_13, c46', cb]; rfl
          · show crlfG false (13 :: 46 :: 46 :: b :: q) = _
            rw [crlf_13, c46', c46, cb]; rfl
          · show 13 :: 10 :: crlfG false (46 :: b :: q) = _
            rw [c46, cb]; rfl
          · show 13 :: 10 :: crlfG false (46 :: 46 :: b :: q) = _
            rw [c46, c46, cb]; rfl
        have d13 : ∀ z, dotG bol (13 :: z) = 13 :: dotG false z := fun z => dot_no _ _ _ (fun h => absurd h.2 (by decide))
        have d10 : ∀ z, dotG false (10 :: z) = 10 :: dotG true z := fun z => dot_no _ _ _ (fun h => absurd h.2 (by decide))
        have dn : ∀ c z, c ≠ 10 → dotG false (c :: z) = c :: dotG false z := fun c z h => by
          rw [dot_no _ _ _ (fun h => absurd h.1 Bool.false_ne_true), beq_eq_false_iff_ne.mpr h]
        rw [e1, d13, d10]
        rcases h2 with rfl | rfl
        · show 13 :: 10 :: dotG true (46 :: b :: crlfG false q) = _
          rw [dot_yes, dn _ _ h3, ih']
          rfl
        · show 13 :: 10 :: dotG true (46 :: 46 :: b :: crlfG false q) = _
          rw [dot_yes, dn _ _ (by decide), dn _ _ h3, ih']
          rfl
theorem cnt_no (c : Nat) (r : List Nat) (h : c ≠ 13) : cntD (c :: r) = cntD r := by
  rw [cntD_cons, if_neg, Nat.zero_add]
  intro q
  injection q with q _
  exact h q
theorem cnt_yes (r : List Nat) : cntD (13 :: 10 :: 46 :: 46 :: r) = 1 + cntD (10 :: 46 :: 46 :: r) := by
  rw [cntD_cons, if_pos]
  rfl
theorem cnt_pcs (K : KeepOk keep live) (tail : List Nat) (ht : cntD tail = 0) : ∀ (ys : List Piece) (s : Bool), (∀ y ∈ ys, PcOk keep live y) → cntD (dueL live s ys ++ tail) = rowsL live s ys
  | [], s, _ => ht
  | y :: r, s, H => by
    have ih := fun s => cnt_pcs K tail ht r s fun z hz => H z (List.mem_cons_of_mem _ hz)
    have hy := H y List.mem_cons_self
    unfold dueL rowsL
    rw [List.append_assoc]
    cases s with
    | false =>
      rw [if_neg Bool.false_ne_true, Bool.false_and, if_neg Bool.false_ne_true, Nat.zero_add]
      exact ih _
    | true =>
      rw [if_pos rfl, Bool.true_and]
      rw [← ih]
      generalize dueL live (nextS live true y) r ++ tail = q
      cases hy with
      | sign n c h1 h2 h3 h4 =>
        dsimp only
        rw [h1, Bool.or_false, if_neg Bool.false_ne_true, Nat.zero_add]
        split
        · show cntD (92 :: 92 :: q) = _
          rw [cnt_no _ _ (by decide), cnt_no _ _ (by decide)]
        · show cntD (92 :: c :: 92 :: 34 :: q) = _
          rw [cnt_no _ _ (by decide), cnt_no _ _ h3, cnt_no _ _ (by decide), cnt_no _ _ (by decide)]
      | row nl d b h1 h2 h3 h4 h5 h6 h7 =>
        dsimp only
        rw [K.l4]
        show cntD (([13, 10, 46] ++ d ++ [b]) ++ q) = 1 + cntD q
        rcases h2 with rfl | rfl
        · show cntD (13 :: 10 :: 46 :: 46 :: b :: q) = _
          rw [cnt_yes, cnt_no _ _ (by decide), cnt_no _ _ (by decide), cnt_no _ _ (by decide), cnt_no _ _ h4]
        · show cntD (13 :: 10 :: 46 :: 46 :: 46 :: b :: q) = _
          rw [cnt_yes, cnt_no _ _ (by decide), cnt_no _ _ (by decide), cnt_no _ _ (by decide), cnt_no _ _ (by decide), cnt_no _ _ h4]
end
theorem due_fold (nodes : Int) : ∀ (xs : List Piece) (a : Str) (s : Bool), (xs.foldl (dueStep nodes) (a, s)).1.cps.toList = a.cps.toList ++ dueL (liveB nodes) s xs
  | [], a, s => by rw [List.foldl_nil]; show _ = _ ++ []; rw [List.append_nil]
  | y :: r, a, s => by
    rw [List.foldl_cons]
    have e : dueStep nodes (a, s) y = (if s = true then a ++ (if liveB nodes y.1 || (y.1 : Int) == 4 then y.2.2 else y.2.1) else a, nextS (liveB nodes) s y) := rfl
    rw [e, due_fold nodes r]
    have e9 : dueL (liveB nodes) s (y :: r) = (if s = true then (if liveB nodes y.1 || y.1 == 4 then y.2.2 else y.2.1).cps.toList else []) ++ dueL (liveB nodes) (nextS (liveB nodes) s y) r := rfl
    rw [e9, ← List.append_assoc]
    congr 1
    have e4 : ((y.1 : Int) == 4) = (y.1 == 4) := by
      rw [Bool.eq_iff_iff, beq_iff_eq, beq_iff_eq]
      omega
    rw [e4]
    split
    · show (a.cps ++ _).toList = _
      rw [Array.toList_append]
    · rw [List.append_nil]
theorem due_is (nodes : Int) (xs : List Piece) : (dueP nodes xs).cps.toList = dueL (liveB nodes) true xs := due_fold nodes xs _ _
end Mine
end
section
set_option Elab.async false
set_option linter.unusedVariables false
set_option maxRecDepth 100000
set_option maxHeartbeats 4000000
namespace Mine
open PySem PySem.W PySem.Calls PyProof.Rows
-- the marks
noncomputable def markL (ns : List Nat) (start c : Nat) (a : Int) : Int := ns.foldl (fun a node => a + if judgeB ((start + node) % 6) c = true then 2 ^ node else 0) a
theorem told_go (start : Nat) : ∀ (ns : List Nat) (xs : List Nat) (m : Nat → Int), ns.foldl (fun t node => toldP (judgeB ((start + node) % 6)) (2 ^ node) t) (xs.map fun c => (c, m c)) = xs.map fun c => (c, markL ns start c (m c))
  | [], xs, m => rfl
  | n :: r, xs, m => by
    rw [List.foldl_cons]
    have e : toldP (judgeB ((start + n) % 6)) (2 ^ n) (xs.map fun c => (c, m c)) = xs.map fun c => (c, m c + if judgeB ((start + n) % 6) c = true then 2 ^ n else 0) := by
      unfold toldP
      rw [List.map_map]
      rfl
    rw [e, told_go start r xs]
    rfl
theorem told_is (N : List Int) (kind : Nat) : toldK N kind = (text0 N kind).cps.toList.map fun c => (c, markL (nodesK N kind) (startP N) c 0) := by
  unfold toldK toldAt
  rw [List.take_length, told_go (startP N) (nodesK N kind) _ fun _ => 0]
noncomputable def maskB (a b c d : Bool) : Int := (if a = true then 1 else 0) + (if b = true then 2 else 0) + (if c = true then 4 else 0) + (if d = true then 8 else 0)
theorem mask_bd : ∀ a b c d, 0 ≤ maskB a b c d ∧ maskB a b c d ≤ 15 := by decide
theorem mask_go (p q : Nat → Bool) : ((List.range 4).filter p).foldl (fun (a : Int) n => a + if q n = true then 2 ^ n else 0) 0 = maskB (p 0 && q 0) (p 1 && q 1) (p 2 && q 2) (p 3 && q 3) := by
  have e : List.range 4 = [0, 1, 2, 3] := rfl
  rw [e]
  simp only [List.filter_cons, List.filter_nil]
  generalize p 0 = p0
  generalize p 1 = p1
  generalize p 2 = p2
  generalize p 3 = p3
  have h : ∀ q0 q1 q2 q3 p0 p1 p2 p3 : Bool, (if p3 = true then (if p2 = true then (if p1 = true then (if p0 = true then (0 : Int) + (if q0 = true then 2 ^ 0 else 0) else 0) + (if q1 = true then 2 ^ 1 else 0) else (if p0 = true then (0 : Int) + (if q0 = true then 2 ^ 0 else 0) else 0)) + (if q2 = true then 2 ^ 2 else 0) else (if p1 = true then (if p0 = true then (0 : Int) + (if q0 = true then 2 ^ 0 else 0) else 0) + (if q1 = true then 2 ^ 1 else 0) else (if p0 = true then (0 : Int) + (if q0 = true then 2 ^ 0 else 0) else 0))) + (if q3 = true then 2 ^ 3 else 0) else (if p2 = true then (if p1 = true then (if p0 = true then (0 : Int) + (if q0 = true then 2 ^ 0 else 0) else 0) + (if q1 = true then 2 ^ 1 else 0) else (if p0 = true then (0 : Int) + (if q0 = true then 2 ^ 0 else 0) else 0)) + (if q2 = true then 2 ^ 2 else 0) else (if p1 = true then (if p0 = true then (0 : Int) + (if q0 = true then 2 ^ 0 else 0) else 0) + (if q1 = true then 2 ^ 1 else 0) else (if p0 = true then (0 : Int) + (if q0 = true then 2 ^ 0 else 0) else 0)))) = maskB (p0 && q0) (p1 && q1) (p2 && q2) (p3 && q3) := by decide +kernel
  refine Eq.trans ?_ (h (q 0) (q 1) (q 2) (q 3) p0 p1 p2 p3)
  cases p0 <;> cases p1 <;> cases p2 <;> cases p3 <;> rfl
theorem mark_mask (p : Nat → Bool) (start c : Nat) : markL ((List.range 4).filter p) start c 0 = maskB (p 0 && judgeB ((start + 0) % 6) c) (p 1 && judgeB ((start + 1) % 6) c) (p 2 && judgeB ((start + 2) % 6) c) (p 3 && judgeB ((start + 3) % 6) c) := mask_go p fun n => judgeB ((start + n) % 6) c
noncomputable def kindP (N : List Int) (kind : Nat) (k : Nat) : Bool := kindI N k == (kind : Int)
theorem nodesK_is (N : List Int) (kind : Nat) : nodesK N kind = (List.range 4).filter (kindP N kind) := rfl
theorem kindP_is (N : List Int) (kind : Nat) (hk : kind < 2) (k : Nat) (h4 : k < 4) : kindP N kind k = (kB (kindB N 2) (kindB N 3) k == (kind == 1)) := by
  unfold kindP
  rw [kind_BI, kindB_kB N k h4]
  generalize kB _ _ k = b
  have : kind = 0 ∨ kind = 1 := by omega
  rcases this with rfl | rfl <;> cases b <;> rfl
theorem nodesF_is (N : List Int) (kind : Nat) (hk : kind < 2) : nodesK N kind = nodesF (kindB N 2) (kindB N 3) kind := by
  rw [nodesK_is]
  refine List.filter_congr fun k hm => kindP_is N kind hk k (List.mem_range.mp hm)
theorem setsF_is (N : List Int) (kind : Nat) (hk : kind < 2) : setsK N kind = setsF (nodesF (kindB N 2) (kindB N 3) kind) := by
  unfold setsK setsAt
  rw [List.take_length, nodesF_is N kind hk]
  rfl
theorem sets_nat (N : List Int) (kind : Nat) (hk : kind < 2) (x : Int) (hx : x ∈ setsK N kind) : ∃ m : Nat, m < 16 ∧ x = m := by
  rw [setsF_is N kind hk] at hx
  have := sets_bd _ _ kind hk x hx
  exact ⟨x.toNat, by omega, by omega⟩
theorem law_mark (N : List Int) (kind : Nat) : ∀ y ∈ toldK N kind, 0 ≤ y.2 ∧ y.2 ≤ 15 := by
  intro y hy
  rw [told_is] at hy
  obtain ⟨c, _, rfl⟩ := List.mem_map.mp hy
  dsimp only
  rw [nodesK_is, mark_mask]
  exact mask_bd _ _ _ _
noncomputable def keepK (N : List Int) (kind : Nat) (nodes : Int) (c : Nat) : Bool := Builtin.bitAnd (markL (nodesK N kind) (startP N) c 0) nodes == 0
theorem text_is (N : List Int) (kind : Nat) (nodes : Int) : textK N kind nodes = ⟨((text0 N kind).cps.toList.filter (keepK N kind nodes)).toArray⟩ := by
  unfold textK
  rw [join_flat, told_is, List.filter_map, List.map_map]
  congr 2
  unfold flatS
  rw [List.map_map]
  generalize (text0 N kind).cps.toList = l
  show (List.map (fun c => [c]) (l.filter (keepK N kind nodes))).flatten = _
  generalize l.filter _ = r
  induction r with
  | nil => rfl
  | cons c r ih => rw [List.map_cons, List.flatten_cons, ih]; rfl
-- the signs
noncomputable def sizeK (k : Nat) : Nat := if k = 1 then 66 else (totalR (runsOf k)).toNat
noncomputable def codeK (k y : Nat) : Nat := (if k = 1 then c4C y else pickR (runsOf k) y).toNat
noncomputable def noneB (c : Nat) : Bool := (List.range 6).all fun j => !judgeB j c
noncomputable def signB (k c : Nat) : Bool := ((List.range 6).all fun j => judgeB j c == (j == k)) && (c != 10 && c != 13)
theorem signs_0 : ∀ y, y < sizeK 0 → signB 0 (codeK 0 y) = true := by decide +kernel
theorem signs_1 : ∀ y, y < sizeK 1 → signB 1 (codeK 1 y) = true := by decide +kernel
theorem signs_2 : ∀ y, y < sizeK 2 → signB 2 (codeK 2 y) = true := by decide +kernel
theorem signs_3 : ∀ y, y < sizeK 3 → signB 3 (codeK 3 y) = true := by decide +kernel
theorem signs_4 : ∀ y, y < sizeK 4 → signB 4 (codeK 4 y) = true := by decide +kernel
theorem signs_5 : ∀ y, y < sizeK 5 → signB 5 (codeK 5 y) = true := by decide +kernel
theorem signs_all : ∀ k, k < 6 → ∀ y, y < sizeK k → signB k (codeK k y) = true
  | 0, _ => signs_0
  | 1, _ => signs_1
  | 2, _ => signs_2
  | 3, _ => signs_3
  | 4, _ => signs_4
  | 5, _ => signs_5
  | k + 6, h => by omega
theorem sign_ok (k : Nat) (hk : k < 6) (x : Int) : signB k (signC k x).toNat = true := by
  by_cases h1 : k = 1
  · subst h1
    have h0 := Int.fmod_nonneg_of_pos x (by decide : (0 : Int) < 66)
    have h2 := Int.fmod_lt_of_pos x (by decide : (0 : Int) < 66)
    have := signs_all 1 (by decide) (x.fmod 66).toNat (by show _ < 66; omega)
    have e : codeK 1 (x.fmod 66).toNat = (signC 1 x).toNat := by
      unfold codeK signC
      rw [if_pos rfl, if_pos rfl]
      have e2 : (((x.fmod 66).toNat : Nat) : Int) = x.fmod 66 := by omega
      rw [e2]
      unfold c4C
      have e3 : (x.fmod 66).fmod 66 = x.fmod 66 := by
        rw [Int.fmod_eq_emod_of_nonneg _ (by decide : (0 : Int) ≤ 66), Int.fmod_eq_emod_of_nonneg _ (by decide : (0 : Int) ≤ 66), Int.emod_emod]
      rw [e3]
    rwa [e] at this
  · have ht := runs_total k hk h1
    have h0 := Int.fmod_nonneg_of_pos x ht
    have h2 := Int.fmod_lt_of_pos x ht
    have := signs_all k hk (x.fmod (totalR (runsOf k))).toNat (by unfold sizeK; rw [if_neg h1]; omega)
    have e : codeK k (x.fmod (totalR (runsOf k))).toNat = (signC k x).toNat := by
      unfold codeK signC
      rw [if_neg h1, if_neg h1]
      have e2 : (((x.fmod (totalR (runsOf k))).toNat : Nat) : Int) = x.fmod (totalR (runsOf k)) := by omega
      rw [e2]
    rwa [e] at this
theorem beside_all : ∀ y ∈ besideL, noneB y.toNat = true ∧ y.toNat ≠ 10 ∧ y.toNat ≠ 13 ∧ y.toNat ≠ 34 ∧ y.toNat ≠ 92 := by decide +kernel
theorem beside_ok (x : Int) : noneB (besideC x).toNat = true ∧ (besideC x).toNat ≠ 10 ∧ (besideC x).toNat ≠ 13 ∧ (besideC x).toNat ≠ 34 ∧ (besideC x).toNat ≠ 92 := by
  have h0 := Int.fmod_nonneg_of_pos x (by decide : (0 : Int) < 33)
  have h1 := Int.fmod_lt_of_pos x (by decide : (0 : Int) < 33)
  have hk : (x.fmod 33).toNat < besideL.length := by
    have : besideL.length = 33 := rfl
    omega
  unfold besideC
  rw [List.getD_eq_getElem?_getD, List.getElem?_eq_getElem hk]
  exact beside_all _ (List.getElem_mem hk)
theorem plain_all : ∀ c ∈ [10, 13, 34, 46, 92], noneB c = true := by decide +kernel
theorem and_zero : ∀ m : Nat, m < 16 → (Builtin.bitAnd 0 (m : Int) == 0) = true := by decide +kernel
theorem and_pow : ∀ n : Nat, n < 4 → ∀ m : Nat, m < 16 → (Builtin.bitAnd (maskB (n == 0) (n == 1) (n == 2) (n == 3)) (m : Int) == 0) = !liveB (m : Int) n := by decide +kernel
theorem live_4 : ∀ m : Nat, m < 16 → liveB (m : Int) 4 = false := by decide +kernel
theorem none_at {c : Nat} (h : noneB c = true) (j : Nat) (hj : j < 6) : judgeB j c = false := by
  have := List.all_eq_true.mp h j (List.mem_range.mpr hj)
  simpa using this
theorem keep_none (N : List Int) (kind : Nat) (m : Nat) (hm : m < 16) (c : Nat) (h : noneB c = true) : keepK N kind m c = true := by
  unfold keepK
  rw [nodesK_is, mark_mask]
  rw [none_at h _ (Nat.mod_lt _ (by decide)), none_at h _ (Nat.mod_lt _ (by decide)), none_at h _ (Nat.mod_lt _ (by decide)), none_at h _ (Nat.mod_lt _ (by decide))]
  simp only [Bool.and_false]
  exact and_zero m hm
theorem keep_sign (N : List Int) (kind : Nat) (m : Nat) (hm : m < 16) (n : Nat) (hn : n < 4) (c : Nat) (hp : kindP N kind n = true) (h : signB ((startP N + n) % 6) c = true) : keepK N kind m c = !liveB (m : Int) n := by
  rw [← and_pow n hn m hm]
  unfold keepK
  rw [nodesK_is, mark_mask]
  have hj : ∀ n', n' < 4 → judgeB ((startP N + n') % 6) c = (n == n') := fun n' h' => by
    have := List.all_eq_true.mp (Bool.and_eq_true _ _ |>.mp h).1 ((startP N + n') % 6) (List.mem_range.mpr (Nat.mod_lt _ (by decide)))
    rw [eq_of_beq this, Bool.eq_iff_iff, beq_iff_eq, beq_iff_eq]
    constructor <;> intro q <;> omega
  rw [hj 0 (by decide), hj 1 (by decide), hj 2 (by decide), hj 3 (by decide)]
  have e : ∀ n', (kindP N kind n' && n == n') = (n == n') := fun n' => by
    cases q : (n == n') with
    | false => rw [Bool.and_false]
    | true => rw [← eq_of_beq q, hp]; rfl
  rw [e, e, e, e]
theorem keep_ok (N : List Int) (kind : Nat) (m : Nat) (hm : m < 16) : KeepOk (keepK N kind m) (liveB m) where
  k10 := keep_none N kind m hm 10 (plain_all 10 (by decide))
  k13 := keep_none N kind m hm 13 (plain_all 13 (by decide))
  k34 := keep_none N kind m hm 34 (plain_all 34 (by decide))
  k46 := keep_none N kind m hm 46 (plain_all 46 (by decide))
  k92 := keep_none N kind m hm 92 (plain_all 92 (by decide))
  l4 := live_4 m hm
end Mine
end
section
set_option Elab.async false
set_option linter.unusedVariables false
set_option maxRecDepth 100000
set_option maxHeartbeats 4000000
namespace Mine
open PySem PySem.W PySem.Calls PyProof.Rows
theorem str_ext {a b : Str} (h : a.cps.toList = b.cps.toList) : a = b := by
  apply Str.ext'
  exact Array.toList_inj.mp h
theorem app_list (a b : Str) : (a ++ b).cps.toList = a.cps.toList ++ b.cps.toList := by
  show (a.cps ++ b.cps).toList = _
  rw [Array.toList_append]
theorem sign_str (start : Nat) (number : Int) (k node : Nat) : signS start number k node = ⟨#[92, (signC ((start + node) % 6) (number + 5 * k)).toNat, 92, 34]⟩ := by
  apply str_ext
  unfold signS
  rw [app_list, app_list]
  rfl
theorem dots_is (number : Int) (k : Nat) : ∃ d : List Nat, (d = [46] ∨ d = [46, 46]) ∧ (dotsP number k).cps.toList = d ++ [(besideC (number.fdiv 6 + 7 * k)).toNat] := by
  unfold dotsP
  have h0 := Int.fmod_nonneg_of_pos ((number + k).fdiv 3) (by decide : (0 : Int) < 2)
  have h1 := Int.fmod_lt_of_pos ((number + k).fdiv 3) (by decide : (0 : Int) < 2)
  have h : ((number + k).fdiv 3).fmod 2 = 0 ∨ ((number + k).fdiv 3).fmod 2 = 1 := by omega
  rcases h with h | h
  · refine ⟨[46], .inl rfl, ?_⟩
    rw [h, app_list]
    have e : (Txt.mul ⟨#[46]⟩ (1 + 0)).cps.toList = [46] := by decide +kernel
    rw [e]
  · refine ⟨[46, 46], .inr rfl, ?_⟩
    rw [h, app_list]
    have e : (Txt.mul ⟨#[46]⟩ (1 + 1)).cps.toList = [46, 46] := by decide +kernel
    rw [e]
theorem nl_is (x : Int) : (nlS x).cps.toList = [10] ∨ (nlS x).cps.toList = [13] ∨ (nlS x).cps.toList = [13, 10] := by
  have h0 := Int.fmod_nonneg_of_pos x (by decide : (0 : Int) < 3)
  have h1 := Int.fmod_lt_of_pos x (by decide : (0 : Int) < 3)
  have h : (x.fmod 3).toNat = 0 ∨ (x.fmod 3).toNat = 1 ∨ (x.fmod 3).toNat = 2 := by omega
  unfold nlS
  rcases h with h | h | h <;> rw [h]
  · exact .inl rfl
  · exact .inr (.inl rfl)
  · exact .inr (.inr rfl)
section
variable {keep live : Nat → Bool}
theorem row_ok (number : Int) (k : Nat) (hb : keep (besideC (number.fdiv 6 + 7 * k)).toNat = true) : PcOk keep live (rowP number k) := by
  obtain ⟨d, hd, e⟩ := dots_is number k
  have B := beside_ok (number.fdiv 6 + 7 * k)
  have e1 : rowP number k = (4, ⟨((nlS (number + k)).cps.toList ++ d ++ [(besideC (number.fdiv 6 + 7 * k)).toNat]).toArray⟩, ⟨([13, 10, 46] ++ d ++ [(besideC (number.fdiv 6 + 7 * k)).toNat]).toArray⟩) := by
    unfold rowP
    congr 2
    · apply str_ext
      rw [app_list, e, List.append_assoc]
    · apply str_ext
      rw [app_list, e, List.append_assoc]
  rw [e1]
  exact .row _ d _ (nl_is _) hd B.2.1 B.2.2.1 B.2.2.2.1 B.2.2.2.2 hb
theorem node_ok (start : Nat) (number : Int) (k : Nat) (left right : Int) (node : Nat) (h4 : node < 4) (hs : (bitI left node != bitI right node) = true → keep (signC ((start + node) % 6) (number + 5 * k)).toNat = !live node) : ∀ y ∈ nodeP start number k left right node, PcOk keep live y := by
  intro y hy
  unfold nodeP at hy
  split at hy
  · rename_i h
    rw [List.mem_singleton.mp hy, sign_str]
    have S := sign_ok ((start + node) % 6) (Nat.mod_lt _ (by decide)) (number + 5 * k)
    have S2 := (Bool.and_eq_true _ _ |>.mp S).2
    rw [Bool.and_eq_true, bne_iff_ne, bne_iff_ne] at S2
    exact .sign node _ (by rw [beq_eq_false_iff_ne]; omega) S2.1 S2.2 (hs h)
  · cases hy
theorem bit_0 (n : Nat) : bitI 0 n = 0 := by
  unfold bitI
  rw [Int.zero_fdiv, Int.zero_fmod]
theorem left_mem (net : List Int) (k : Nat) : leftI net k = 0 ∨ leftI net k ∈ net := by
  unfold leftI
  rw [List.getD_eq_getElem?_getD]
  cases h : ((0 : Int) :: net)[k]? with
  | none => exact .inl rfl
  | some v =>
    have := List.mem_of_getElem? h
    rcases List.mem_cons.mp this with q | q
    · exact .inl q
    · exact .inr q
theorem right_mem (net : List Int) (k : Nat) : rightI net k = 0 ∨ rightI net k ∈ net := by
  unfold rightI
  rw [List.getD_eq_getElem?_getD]
  cases h : (net ++ [0])[k]? with
  | none => exact .inl rfl
  | some v =>
    have := List.mem_of_getElem? h
    rcases List.mem_append.mp this with q | q
    · exact .inr q
    · exact .inl (List.mem_singleton.mp q)
theorem pieces_ok (net : List Int) (start : Nat) (number : Int) (own : Nat → Bool) (ho : ∀ v ∈ net, ∀ n, n < 4 → own n = true ∨ bitI v n = 0) (hs : ∀ n, n < 4 → own n = true → ∀ x, keep (signC ((start + n) % 6) x).toNat = !live n) (hb : ∀ x, keep (besideC x).toNat = true) : ∀ y ∈ piecesP net start number, PcOk keep live y := by
  intro y hy
  unfold piecesP preP at hy
  obtain ⟨k, hk, hy⟩ := List.mem_flatMap.mp hy
  unfold turnP at hy
  rcases List.mem_append.mp hy with hy | hy
  · unfold nodesP at hy
    obtain ⟨n, hn, hy⟩ := List.mem_flatMap.mp hy
    have h4 := List.mem_range.mp hn
    refine node_ok start number k _ _ n h4 (fun hne => hs n h4 ?_ _) y hy
    cases hown : own n with
    | true => rfl
    | false =>
      have z : ∀ v, v = 0 ∨ v ∈ net → bitI v n = 0 := fun v hv => by
        rcases hv with rfl | hv
        · exact bit_0 n
        · rcases ho v hv n h4 with q | q
          · rw [hown] at q; cases q
          · exact q
      rw [z _ (left_mem net k), z _ (right_mem net k)] at hne
      cases hne
  · split at hy
    · rw [List.mem_singleton.mp hy]
      exact row_ok number k (hb _)
    · cases hy
theorem end_app (s : Bool) (a b : List Piece) : endS live s (a ++ b) = endS live (endS live s a) b := by
  unfold endS
  rw [List.foldl_append]
theorem rows_app : ∀ (a b : List Piece) (s : Bool), rowsL live s (a ++ b) = rowsL live s a + rowsL live (endS live s a) b
  | [], b, s => by
    show rowsL live s b = 0 + rowsL live s b
    rw [Nat.zero_add]
  | y :: r, b, s => by
    show (if (s && y.1 == 4) = true then 1 else 0) + rowsL live (nextS live s y) (r ++ b) = ((if (s && y.1 == 4) = true then 1 else 0) + rowsL live (nextS live s y) r) + rowsL live (endS live (nextS live s y) r) b
    rw [rows_app r b, Nat.add_assoc]
noncomputable def parM (live : Nat → Bool) (v : Int) (m : Nat) : Bool := (List.range m).foldl (fun s n => s ^^ (live n && bB v n)) false
theorem parM_succ (v : Int) (m : Nat) : parM live v (m + 1) = (parM live v m ^^ (live m && bB v m)) := by
  unfold parM
  rw [List.range_succ, List.foldl_append]
  rfl
theorem bit_bB (l r : Int) (n : Nat) : (bitI l n != bitI r n) = (bB l n != bB r n) := by
  have f : ∀ v, bitI v n = 0 ∨ bitI v n = 1 := fun v => by
    have h0 := Int.fmod_nonneg_of_pos (v.fdiv (2 ^ n)) (by decide : (0 : Int) < 2)
    have h1 := Int.fmod_lt_of_pos (v.fdiv (2 ^ n)) (by decide : (0 : Int) < 2)
    unfold bitI
    omega
  unfold bB
  rcases f l with q | q <;> rcases f r with z | z <;> rw [q, z] <;> rfl
theorem node_end (start : Nat) (number : Int) (k : Nat) (left right : Int) (n : Nat) (s : Bool) : endS live s (nodeP start number k left right n) = (s ^^ (live n && (bB left n != bB right n))) := by
  unfold nodeP
  rw [bit_bB]
  split
  · rename_i h
    rw [h]
    show nextS live s _ = _
    unfold nextS
    dsimp only
    cases live n <;> cases s <;> rfl
  · rename_i h
    rw [Bool.not_eq_true] at h
    rw [h]
    show s = _
    cases live n <;> cases s <;> rfl
theorem node_rows (start : Nat) (number : Int) (k : Nat) (left right : Int) (n : Nat) (h4 : n < 4) (s : Bool) : rowsL live s (nodeP start number k left right n) = 0 := by
  unfold nodeP
  split
  · show (if (s && n == 4) = true then 1 else 0) + 0 = 0
    have : (n == 4) = false := by rw [beq_eq_false_iff_ne]; omega
    rw [this, Bool.and_false]
    rfl
  · rfl
theorem nodes_end (net : List Int) (start : Nat) (number : Int) (k : Nat) : ∀ m, m ≤ 4 → ∀ s : Bool, (endS live s (nodesP net start number k m) ^^ parM live (leftI net k) m) = (s ^^ parM live (rightI net k) m) ∧ rowsL live s (nodesP net start number k m) = 0
  | 0, _, s => by
    refine ⟨?_, rfl⟩
    show (s ^^ false) = (s ^^ false)
    rfl
  | m + 1, h, s => by
    have ih := nodes_end net start number k m (by omega) s
    have e : nodesP net start number k (m + 1) = nodesP net start number k m ++ nodeP start number k (leftI net k) (rightI net k) m := flat_succ _ m
    rw [e, end_app, rows_app, node_end, node_rows _ _ _ _ _ _ (by omega), ih.2]
    refine ⟨?_, rfl⟩
    rw [parM_succ, parM_succ]
    have h1 := ih.1
    clear ih e
    revert h1
    generalize endS live s (nodesP net start number k m) = a
    generalize parM live (leftI net k) m = b
    generalize parM live (rightI net k) m = c
    generalize live m = x
    generalize bB (leftI net k) m = y
    generalize bB (rightI net k) m = z
    revert a b c x y z s
    decide
end
theorem turn_end {live : Nat → Bool} (l4 : live 4 = false) (net : List Int) (start : Nat) (number : Int) (k : Nat) : endS live (!parM live (leftI net k) 4) (turnP net start number k) = (!parM live (rightI net k) 4) ∧
    rowsL live (!parM live (leftI net k) 4) (turnP net start number k) = if k < 4 then (if (!parM live (rightI net k) 4) = true then 1 else 0) else 0 := by
  have h := nodes_end (live := live) net start number k 4 (Nat.le_refl _) (!parM live (leftI net k) 4)
  have e : endS live (!parM live (leftI net k) 4) (nodesP net start number k 4) = (!parM live (rightI net k) 4) := by
    have h1 := h.1
    revert h1
    generalize endS live (!parM live (leftI net k) 4) (nodesP net start number k 4) = a
    generalize parM live (leftI net k) 4 = b
    generalize parM live (rightI net k) 4 = c
    revert a b c
    decide
  unfold turnP
  rw [end_app, rows_app, e, h.2]
  generalize (!parM live (rightI net k) 4) = s
  split
  · constructor
    · show nextS live s _ = s
      unfold nextS rowP
      rw [if_neg (by rw [l4]; exact Bool.false_ne_true)]
    · show 0 + ((if (s && true) = true then 1 else 0) + 0) = _
      rw [Bool.and_true]
      omega
  · exact ⟨rfl, rfl⟩
theorem left_0 (net : List Int) : leftI net 0 = 0 := rfl
theorem left_succ (net : List Int) (h : net.length = 4) (k : Nat) (hk : k < 4) : leftI net (k + 1) = rightI net k := by
  unfold leftI rightI
  rw [List.getD_cons_succ, List.getD_eq_getElem?_getD, List.getD_eq_getElem?_getD, List.getElem?_append_left (by omega)]
theorem right_4 (net : List Int) (h : net.length = 4) : rightI net 4 = 0 := by
  unfold rightI
  rw [List.getD_eq_getElem?_getD, List.getElem?_append_right (by omega), h]
  rfl
theorem par_0 (live : Nat → Bool) : ∀ m, parM live 0 m = false
  | 0 => rfl
  | m + 1 => by
    rw [parM_succ, par_0 live m]
    have : bB 0 m = false := by unfold bB; rw [bit_0]; rfl
    rw [this, Bool.and_false]
    rfl
theorem pre_end {live : Nat → Bool} (l4 : live 4 = false) (net : List Int) (hl : net.length = 4) (start : Nat) (number : Int) : ∀ m, m ≤ 4 → endS live true (preP net start number m) = (!parM live (leftI net m) 4) ∧ rowsL live true (preP net start number m) = ((List.range m).filter fun k => !parM live (rightI net k) 4).length
  | 0, _ => by
    rw [left_0, par_0]
    exact ⟨rfl, rfl⟩
  | m + 1, h => by
    have ih := pre_end l4 net hl start number m (by omega)
    have e : preP net start number (m + 1) = preP net start number m ++ turnP net start number m := flat_succ _ m
    have t := turn_end l4 net start number m
    rw [e, end_app, rows_app, ih.1, ih.2, t.1, t.2, if_pos (by omega), left_succ net hl m (by omega)]
    refine ⟨rfl, ?_⟩
    rw [List.range_succ, List.filter_append, List.length_append, List.filter_cons]
    congr 1
    split <;> rfl
theorem pieces_end {live : Nat → Bool} (l4 : live 4 = false) (net : List Int) (hl : net.length = 4) (start : Nat) (number : Int) : endS live true (piecesP net start number) = true ∧ rowsL live true (piecesP net start number) = ((List.range 4).filter fun k => !parM live (net.getD k 0) 4).length := by
  have ih := pre_end l4 net hl start number 4 (Nat.le_refl _)
  have e : piecesP net start number = preP net start number 4 ++ turnP net start number 4 := flat_succ _ 4
  have t := turn_end l4 net start number 4
  rw [e, end_app, rows_app, ih.1, ih.2, t.1, t.2, if_neg (by decide), right_4 net hl, par_0]
  refine ⟨rfl, ?_⟩
  rw [Nat.add_zero]
  congr 1
  refine List.filter_congr fun k hk => ?_
  have hk4 := List.mem_range.mp hk
  unfold rightI
  rw [List.getD_eq_getElem?_getD, List.getElem?_append_left (by omega), ← List.getD_eq_getElem?_getD]
end Mine
end
section
set_option Elab.async false
set_option linter.unusedVariables false
set_option maxRecDepth 100000
set_option maxHeartbeats 4000000
namespace Mine
open PySem PySem.W PySem.Calls PyProof.Rows
theorem head_is (N : List Int) : (headP N).cps.toList = [] ∨ (headP N).cps.toList = [34, 34] ∨ (headP N).cps.toList = [34, 46, 34] := by
  have h0 := Int.fmod_nonneg_of_pos N.sum (by decide : (0 : Int) < 3)
  have h1 := Int.fmod_lt_of_pos N.sum (by decide : (0 : Int) < 3)
  have h : (N.sum.fmod 3).toNat = 0 ∨ (N.sum.fmod 3).toNat = 1 ∨ (N.sum.fmod 3).toNat = 2 := by omega
  unfold headP
  rcases h with h | h | h <;> rw [h]
  · exact .inl rfl
  · exact .inr (.inl rfl)
  · exact .inr (.inr rfl)
theorem tail_is (N : List Int) : (tailP N).cps.toList = [] ∨ (tailP N).cps.toList = [34] ∨ (tailP N).cps.toList = [34, 46] ∨ (tailP N).cps.toList = [92] := by
  have h0 := Int.fmod_nonneg_of_pos (N.sum.fdiv 6) (by decide : (0 : Int) < 4)
  have h1 := Int.fmod_lt_of_pos (N.sum.fdiv 6) (by decide : (0 : Int) < 4)
  have h : ((N.sum.fdiv 6).fmod 4).toNat = 0 ∨ ((N.sum.fdiv 6).fmod 4).toNat = 1 ∨ ((N.sum.fdiv 6).fmod 4).toNat = 2 ∨ ((N.sum.fdiv 6).fmod 4).toNat = 3 := by omega
  unfold tailP
  rcases h with h | h | h | h <;> rw [h]
  · exact .inl rfl
  · exact .inr (.inl rfl)
  · exact .inr (.inr (.inl rfl))
  · exact .inr (.inr (.inr rfl))
theorem text0_is (N : List Int) (kind : Nat) : (text0 N kind).cps.toList = (headP N).cps.toList ++ ((pcsK N kind).flatMap fun y => y.2.1.cps.toList) ++ (tailP N).cps.toList := by
  unfold text0
  rw [app_list, app_list, join_flat]
  congr 2
  unfold flatS
  rw [List.map_map, List.flatMap]
  rfl
section
variable {N : List Int} {kind m : Nat}
theorem filter_all {keep : Nat → Bool} {l : List Nat} (h : ∀ c ∈ l, keep c = true) : l.filter keep = l := List.filter_eq_self.mpr h
theorem text_flat (hm : m < 16) : (text0 N kind).cps.toList.filter (keepK N kind m) = (headP N).cps.toList ++ (((pcsK N kind).flatMap fun y => y.2.1.cps.toList.filter (keepK N kind m)) ++ (tailP N).cps.toList) := by
  have K := keep_ok N kind m hm
  rw [text0_is, List.filter_append, List.filter_append, List.filter_flatMap, List.append_assoc]
  congr 1
  · refine filter_all fun c hc => ?_
    rcases head_is N with e | e | e <;> rw [e] at hc
    · cases hc
    · simp only [List.mem_cons, List.not_mem_nil, or_false, or_self] at hc
      rw [hc]; exact K.k34
    · simp only [List.mem_cons, List.not_mem_nil, or_false] at hc
      rcases hc with rfl | rfl | rfl
      · exact K.k34
      · exact K.k46
      · exact K.k34
  · congr 1
    refine filter_all fun c hc => ?_
    rcases tail_is N with e | e | e | e <;> rw [e] at hc
    · cases hc
    · rw [List.mem_singleton.mp hc]; exact K.k34
    · simp only [List.mem_cons, List.not_mem_nil, or_false] at hc
      rcases hc with rfl | rfl
      · exact K.k34
      · exact K.k46
    · rw [List.mem_singleton.mp hc]; exact K.k92
theorem head_gone (N : List Int) (r : List Nat) : strG none false ((headP N).cps.toList ++ r) = strG none false r := by
  rcases head_is N with e | e | e <;> rw [e] <;> rfl
theorem tail_stays (N : List Int) : strG none false (tailP N).cps.toList = (tailP N).cps.toList := by
  rcases tail_is N with e | e | e | e <;> rw [e] <;> rfl
theorem tail_quote (N : List Int) (bol : Bool) : dotG bol (crlfG false (tailP N).cps.toList) = (tailP N).cps.toList := by
  rcases tail_is N with e | e | e | e <;> rw [e] <;> cases bol <;> rfl
theorem tail_cnt (N : List Int) : cntD (tailP N).cps.toList = 0 := by
  rcases tail_is N with e | e | e | e <;> rw [e] <;> rfl
theorem net_len (hk : kind < 2) : (netK N kind).length = 4 := netK_len N kind hk
theorem net_bits (hk : kind < 2) : ∀ v ∈ netK N kind, ∀ n, n < 4 → kindP N kind n = true ∨ bitI v n = 0 := by
  intro v hv n hn
  have ok := nets_ok N
  unfold okQ at ok
  rw [Bool.and_eq_true, Bool.and_eq_true] at ok
  have hb : bitsOk (kindB N 2) (kindB N 3) kind (netK N kind) = true := by
    have : kind = 0 ∨ kind = 1 := by omega
    rcases this with rfl | rfl
    · exact ok.1.1
    · exact ok.1.2
  have := List.all_eq_true.mp (List.all_eq_true.mp hb v hv) n (List.mem_range.mpr hn)
  rw [Bool.or_eq_true, beq_iff_eq (a := bitI v n)] at this
  rw [kindP_is N kind hk n hn]
  exact this
theorem pcs_ok (hk : kind < 2) (hm : m < 16) : ∀ y ∈ pcsK N kind, PcOk (keepK N kind m) (liveB m) y :=
  pieces_ok (netK N kind) (startP N) _ (kindP N kind) (net_bits hk)
    (fun n hn hown x => keep_sign N kind m hm n hn _ hown (sign_ok _ (Nat.mod_lt _ (by decide)) x))
    (fun x => keep_none N kind m hm _ (beside_ok x).1)
theorem pcs_end (hk : kind < 2) (hm : m < 16) : endS (liveB m) true (pcsK N kind) = true ∧ rowsL (liveB m) true (pcsK N kind) = seenF (netK N kind) m :=
  pieces_end (live_4 m hm) (netK N kind) (net_len hk) (startP N) _
theorem mail_is (hk : kind < 2) (hm : m < 16) : (mailK N kind m).cps.toList = dueL (liveB m) true (pcsK N kind) ++ (tailP N).cps.toList := by
  have K := keep_ok N kind m hm
  have P := pcs_ok (N := N) hk hm
  unfold mailK
  rw [quote_is, strip_is, text_is]
  show dotG true (crlfG false (strG none false (((text0 N kind).cps.toList.filter (keepK N kind m))))) = _
  rw [text_flat hm, head_gone, (strip_pcs K _ _ P).1 (pcs_end hk hm).1, tail_stays, quote_pcs K _ _ (tail_quote N) _ _ _ P]
theorem mail_due (hk : kind < 2) (hm : m < 16) : mailK N kind m = dueP m (pcsK N kind) ++ tailP N := by
  apply str_ext
  rw [mail_is hk hm, app_list, due_is]
theorem mail_seen (hk : kind < 2) (hm : m < 16) : seenM (mailK N kind m) = (seenF (netK N kind) m : Nat) := by
  rw [seen_is, mail_is hk hm, cnt_pcs (keep_ok N kind m hm) _ (tail_cnt N) _ _ (pcs_ok hk hm), (pcs_end hk hm).2]
theorem seenK_is (hk : kind < 2) : seenK N kind = (setsK N kind).map fun nodes => ((seenF (netK N kind) nodes : Nat) : Int) := by
  unfold seenK
  refine List.map_congr_left fun x hx => ?_
  obtain ⟨m, hm, rfl⟩ := sets_nat N kind hk x hx
  exact mail_seen hk hm
theorem seenF_le (net : List Int) (nodes : Int) : seenF net nodes ≤ 4 := by
  unfold seenF
  have := List.length_filter_le (fun k => !parB nodes (net.getD k 0)) (List.range 4)
  rw [List.length_range] at this
  exact this
end
theorem four_sub (n : Nat) : (4 - ((n : Nat) : Int)).toNat = 4 - n := by omega
theorem law_ok (xs : List Int) : LawOk (numsP xs) where
  len := nums_len xs
  mark := fun kind _ => law_mark _ kind
  mail := fun kind hk k hlt => by
    have hx : (setsK (numsP xs) kind).getD k 0 ∈ setsK (numsP xs) kind := by
      rw [List.getD_eq_getElem?_getD, List.getElem?_eq_getElem hlt]
      exact List.getElem_mem hlt
    obtain ⟨m, hm, e⟩ := sets_nat _ kind hk _ hx
    rw [e]
    exact mail_due hk hm
  seen := fun kind hk s hs => by
    rw [seenK_is hk] at hs
    obtain ⟨x, _, rfl⟩ := List.mem_map.mp hs
    have := seenF_le (netK (numsP xs) kind) x
    omega
  fin := by
    have ok := nets_ok (numsP xs)
    unfold okQ at ok
    rw [Bool.and_eq_true, Bool.and_eq_true] at ok
    have S := eq_of_beq ok.2
    rw [← setsF_is _ 0 (by decide), ← setsF_is _ 1 (by decide)] at S
    unfold highP lowP
    rw [seenK_is (by decide), seenK_is (by decide), List.map_map, List.map_map, List.length_map]
    refine Eq.trans ?_ (S.trans ?_)
    · refine congrArg List.sum (List.map_congr_left fun nodes _ => ?_)
      show (101 : Int) ^ ((seenF (netK (numsP xs) 0) nodes : Nat) : Int).toNat * (-99) ^ (4 - ((seenF (netK (numsP xs) 0) nodes : Nat) : Int)).toNat = 101 ^ seenF (netK (numsP xs) 0) nodes * (-99) ^ (4 - seenF (netK (numsP xs) 0) nodes)
      rw [four_sub]
      rfl
    · refine congrArg (_ * ·) (congrArg List.sum (List.map_congr_left fun nodes _ => ?_))
      show (100 : Int) ^ (4 - seenF (netK (numsP xs) 1) nodes) = 100 ^ (4 - ((seenF (netK (numsP xs) 1) nodes : Nat) : Int)).toNat
      rw [four_sub]
end Mine
end
section
set_option Elab.async false
set_option linter.unusedVariables false
set_option maxRecDepth 100000
set_option maxHeartbeats 4000000
namespace Mine
open PySem PySem.W PySem.Calls PyProof.Rows
theorem ints_well {P : Params} {h : Heap} : ∀ {ns : List Int} {vs : List Value}, WellAll P h vs (ns.map .int) → ∀ g : View, Reps g (ns.map .int) vs
  | [], vs, x, g => by cases x; exact Reps.nil
  | n :: r, vs, x, g => by
    rw [List.map_cons] at x ⊢
    cases x with
    | cons a b =>
      cases a with
      | int i t => exact Reps.cons rep_int (ints_well b g)
theorem pre_len {R : WRecords} {ns : List Int} (h : (PySem.Challenge.rw_to0003_01.pre).holds R { args := [.list (ns.map .int)] } = true) : ns.length ≤ 63 := by
  have e : (PySem.Challenge.rw_to0003_01.pre) = .and (.not (.lt (.lit (.int 63)) (.len (.arg 0)))) (.lit (.bool true)) := rfl
  rw [e] at h
  unfold WTm.holds at h
  by_cases h63 : (63 : Int) < (ns.length : Nat)
  · simp [WTm.value, less?, Num.less?, h63] at h
  · omega
theorem post_ok (ds ds' : List WData) : rr.claim.post ds (.bool true) ds' = true := by
  show (WShape.has [] (.bool true) .bool && (WTm.eq .res (.lit (.bool true))).holds [] { args := ds, res := some (.bool true), after := ds' }) = true
  simp [WShape.has, WShape.arms, WTm.holds, WTm.value, same]
theorem final : PySem.Challenge.rw_to0003_01.Holds := by
  refine top_law fun d kwd hd ht => ?_
  intro w s₀ s₁ mg mb G Y a o pm cd doc dV kV ho hdata hcode hdflt hname hgens args vals as hpre hlay hreads hwell hsys
  have hdn : d.name = rr.name := defOf_name hd
  have ha : a = 203 := by
    have e := Heap.Ns.agree G.T.g (ns_main Y) d.name
    rw [hname, hdn] at e
    obtain ⟨v, hv, hr⟩ := glLaw w.params
    have e2 : (H12 w.params).nsMap mainGlobals rr.name = some v := hv
    rw [e2] at e
    cases e
    have := hr (fun _ => none)
    have := rep_ref_inv this
    injection this
  subst ha
  have hsh := (Bool.and_eq_true _ _ |>.mp hpre).1
  have hpr := (Bool.and_eq_true _ _ |>.mp hpre).2
  obtain ⟨x, r, rfl, hx, hr⟩ := hasAllW_cons hsh
  cases hasAllW_nil hr
  obtain ⟨ws, rfl, hi⟩ := hasW_list hx
  obtain ⟨ns, rfl⟩ := items_int hi
  have hlen := pre_len hpr
  obtain ⟨v0, vs', rfl, W0, W1⟩ := wellAll_cons_inv hwell
  cases W1
  cases W0 with
  | list hat hws =>
    rename_i l vs
    let g : View := fun b => if b = l then s₁.heap.get? l else none
    have hg : g.Sub s₁.heap := fun b o e => by
      have e' : (if b = l then s₁.heap.get? l else none) = some o := e
      split at e'
      · rename_i hb; rw [hb]; exact e'
      · cases e'
    have hgl : g l = some ⟨.type "list", none, .seq (List.toArray vs) 0, #[]⟩ := by
      show (if l = l then s₁.heap.get? l else none) = _
      rw [if_pos rfl]
      exact hat
    have hrep : Reps g [.lst (ns.map .int)] [.ref l] := by
      refine Reps.cons ?_ Reps.nil
      unfold Rep
      exact ⟨l, vs, 0, rfl, hgl, ints_well hws g⟩
    refine fn_law (p := rr.prog) (w := w) ns (by omega) (law_ok ns) callerA g s₁ ⟨rfl, by decide, by decide⟩ Y hg _ hrep _ _ fun v s' k r => ?_
    cases rep_bool_inv r
    exact ⟨.inl ⟨_, .bool true, [], rfl, fun _ => rfl, .bool true, post_ok _ _, fun _ => ⟨.nil, fun _ h => by cases h⟩⟩, .of_keep k.keep, k.os, k.bare (.of_eq hgens)⟩
end Mine
end
set_option Elab.async false
set_option maxRecDepth 100000 in
set_option maxHeartbeats 8000000 in
theorem PySem.Challenge.cw_to0003_01_holds : PySem.Challenge.rw_to0003_01.Holds := by
  exact Mine.final
