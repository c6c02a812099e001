/-
  A MAP OF SLICES OF THE CALL's OWN, WHATEVER THE ELEMENTS (structs of several cells): 'Groups .. f g D w': block b is a map that holds at key k the slice value g k, which owns the row of the elements f k; a key is there just where f k is not empty; no two keys' slices lie in one row.
  The map's elements are read as tokens ('tokR': each value reads as itself), so that the kit's laws on 'ownsMap' serve.
-/
import Derived.Maps.OwnSet
import Derived.Maps.AppendAt
import Derived.Lib.SlKeysI
import Derived.Maps.Range
import Derived.Below
namespace Go.Proofs.Qxb6618980a
open Go.RowKit (Below)
open Go.Maps (Keyed)

/-- The nil slice. -/
def nilS : Value := .slice none 0 0
/-- How an element reads: as itself. -/
def tokR (v : Value) : Option (DataW Value × List MemPlace) := some (.held v, [])

structure Groups {α : Type} (P : Program) (kt base e size b n : Nat) (enc : α → List Value) (f : Int → List α) (g : Int → Value) (D : DataW Value) (w : World) : Prop where
  own : w.ownsMap P kt tokR b n D
  lt : b < base
  look : ∀ k, D.atKey (.int .i64 k) (.held nilS) = .held (g k)
  has : ∀ k, Maps.has D (.int .i64 k) = !(f k).isEmpty
  row : ∀ k, w.ownsRow base e size (g k) (f k).length ((f k).flatMap enc)
  apart : ∀ k k', k ≠ k' → (g k).ownBlock = none ∨ (g k).ownBlock ≠ (g k').ownBlock

/-- f with xs at k. -/
def upd {β : Type} (f : Int → β) (k : Int) (xs : β) : Int → β := fun k' => if k' = k then xs else f k'
theorem upd_same {β : Type} (f : Int → β) (k : Int) (xs : β) : upd f k xs k = xs := by simp [upd]
theorem upd_other {β : Type} (f : Int → β) {k k' : Int} (xs : β) (h : k' ≠ k) : upd f k xs k' = f k' := by simp [upd, h]

theorem grown_of_below {w w' : World} (h : Below w.heap.size w w') : w.grownBy w' none := ⟨h.os, h.tape, h.output, h.size, fun k hk _ => h.block k hk⟩

theorem none_or_ne (v : Value) : v.ownBlock = none ∨ v.ownBlock ≠ none := by cases v.ownBlock <;> simp

section
variable {α : Type} {P : Program} {kt base e size b n : Nat} {enc : α → List Value} {f : Int → List α} {g : Int → Value} {D : DataW Value} {w : World}

theorem Groups.made (w : World) (P : Program) (kt e size : Nat) (enc : α → List Value) : Groups P kt (w.heap.size + 1) e size w.heap.size 0 enc (fun _ => []) (fun _ => nilS) (.map []) (w.alloc (.map #[] 0)) where
  own := World.ownsMap_made w P kt tokR
  lt := Nat.lt_succ_self _
  look := fun _ => rfl
  has := fun _ => rfl
  row := fun _ => World.ownsRow_nil _ _ _ _
  apart := fun _ _ _ => .inl rfl

theorem Groups.mono (h : Groups P kt base e size b n enc f g D w) {n' : Nat} (hn : n ≤ n') : Groups P kt base e size b n' enc f g D w :=
  { h with own := h.own.mono hn }

theorem Groups.kept (h : Groups P kt base e size b n enc f g D w) {w' : World} {row : Option Nat} (hg : w.grownBy w' row) (hb : some b ≠ row) (hr : ∀ k, (g k).ownBlock = none ∨ (g k).ownBlock ≠ row) : Groups P kt base e size b n enc f g D w' :=
  { h with own := h.own.kept hg hb, row := fun k => (h.row k).kept hg (hr k) }

theorem Groups.grown (h : Groups P kt base e size b n enc f g D w) {w' : World} (hg : w.grownBy w' none) : Groups P kt base e size b n enc f g D w' :=
  h.kept hg (by simp) (fun k => none_or_ne _)

theorem Groups.below (h : Groups P kt base e size b n enc f g D w) {w' : World} (hg : Below w.heap.size w w') : Groups P kt base e size b n enc f g D w' := h.grown (grown_of_below hg)

theorem Groups.alloc (h : Groups P kt base e size b n enc f g D w) (o : Obj) : Groups P kt base e size b n enc f g D (w.alloc o) := h.grown (World.grownBy_alloc w o none)

/-- The row of a key that is there. -/
theorem Groups.rowAt (h : Groups P kt base e size b n enc f g D w) {k : Int} (hk : f k ≠ []) : ∃ G cap cur, g k = .slice (some ⟨G, 0, none⟩) (f k).length cap ∧ base ≤ G ∧ w.heap[G]? = some (.cells cur e (0, 0)) ∧ (f k).length ≤ cap ∧ cap ≤ maxLen ∧ cur.size = cap * size ∧ cur.toList.take ((f k).length * size) = (f k).flatMap enc := by
  rcases (h.row k).2 with ⟨_, h0⟩ | h1
  · exact absurd (List.length_eq_zero_iff.1 h0) hk
  · exact h1

theorem Groups.nilAt (h : Groups P kt base e size b n enc f g D w) {k : Int} (hk : f k = []) : g k = nilS := by
  have h1 := h.has k
  rw [hk] at h1
  have h2 := h.look k
  rw [Maps.atKey_of_not_has h1] at h2
  exact (DataW.held.inj h2).symm

theorem Groups.neMap (h : Groups P kt base e size b n enc f g D w) (k : Int) : some b ≠ (g k).ownBlock := by
  intro e1
  have := ((h.row k).lt b e1.symm).1
  have := h.lt
  omega

variable {t E : TypeId}

/-- 'm[k]'. -/
theorem Groups.run_look (h : Groups P kt base e size b n enc f g D w) (K : Keyed P kt) (hkt : P.underlying kt = some (.int .i64)) (ht : P.underlying t = some (.map kt E)) (hz : (zeroValue E).run P w = .ok nilS w) {k : Int} (hk : (Lit.int .i64 k).wf = true) :
    (Instr.lookup t (.map (some b)) (.int .i64 k) false).run P w = .ok (g k) w := by
  obtain ⟨v, ps, hrun, hv⟩ := h.own.lookup K ht hz (zd := .held nilS) (zp := []) rfl (Maps.keyOf_int_mk hkt hk)
  rw [h.look k] at hv
  have : v = g k := by
    simp only [tokR, Option.some.injEq, Prod.mk.injEq, DataW.held.injEq] at hv
    exact hv.1
  rw [hrun, this]

/-- 'v, ok := m[k]'. -/
theorem Groups.run_look_ok (h : Groups P kt base e size b n enc f g D w) (K : Keyed P kt) (hkt : P.underlying kt = some (.int .i64)) (ht : P.underlying t = some (.map kt E)) (hz : (zeroValue E).run P w = .ok nilS w) {k : Int} (hk : (Lit.int .i64 k).wf = true) :
    (Instr.lookup t (.map (some b)) (.int .i64 k) true).run P w = .ok (.tuple #[g k, .bool (!(f k).isEmpty)]) w := by
  obtain ⟨v, ps, hrun, hv⟩ := h.own.look_ok K ht hz (zd := .held nilS) (zp := []) rfl (Maps.keyOf_int_mk hkt hk)
  rw [h.look k] at hv
  have : v = g k := by
    simp only [tokR, Option.some.injEq, Prod.mk.injEq, DataW.held.injEq] at hv
    exact hv.1
  rw [hrun, this, h.has k]

/-- 'm[k] = v'', behind whatever was done to the key's own row and to new blocks. -/
theorem Groups.store (h : Groups P kt base e size b n enc f g D w) (K : Keyed P kt) (hkt : P.underlying kt = some (.int .i64)) (ht : P.underlying t = some (.map kt E)) (hn : n < maxLen) {k : Int} (hk : (Lit.int .i64 k).wf = true)
    {w1 : World} {v' : Value} {xs' : List α} (hg : w.grownBy w1 (g k).ownBlock) (hrow : w1.ownsRow base e size v' xs'.length (xs'.flatMap enc)) (hne : xs' ≠ []) (hloc : v'.ownBlock = (g k).ownBlock ∨ ∃ G, v'.ownBlock = some G ∧ w.heap.size ≤ G) :
    ∃ w2, (Instr.mapUpdate t (.map (some b)) (.int .i64 k) v').run P w1 = .ok () w2 ∧ Groups P kt base e size b (n + 1) enc (upd f k xs') (upd g k v') (D.put (.int .i64 k) (.held v')) w2 ∧ w1.grownBy w2 (some b) := by
  have hown1 := h.own.kept hg (h.neMap k)
  obtain ⟨w2, hrun, hown2, hg2⟩ := hown1.update K ht hn (Maps.keyOf_int_mk hkt hk) (val := v') (d := .held v') (ps := []) rfl
  have rowNe : ∀ {u : Value} {m : Nat} {ys : List Value}, w1.ownsRow base e size u m ys → u.ownBlock = none ∨ u.ownBlock ≠ some b := fun {u m ys} ho => by
    cases hu : u.ownBlock with
    | none => exact .inl rfl
    | some G =>
      refine .inr fun e1 => ?_
      have h1 := (ho.lt G hu).1
      have h2 := h.lt
      cases e1
      omega
  have oldNew : ∀ k', k' ≠ k → (g k').ownBlock = none ∨ (g k').ownBlock ≠ v'.ownBlock := by
    intro k' hne'
    rcases hloc with h1 | ⟨G, h1, h2⟩
    · rw [h1]; exact h.apart k' k hne'
    · cases hx : (g k').ownBlock with
      | none => exact .inl rfl
      | some gx =>
        have := ((h.row k').lt gx hx).2
        refine .inr fun e1 => ?_
        rw [h1] at e1
        cases e1
        omega
  refine ⟨w2, hrun, ⟨hown2, h.lt, fun k' => ?_, fun k' => ?_, fun k' => ?_, fun k1 k2 hne12 => ?_⟩, hg2⟩
  · by_cases hk' : k' = k
    · subst hk'
      rw [upd_same, Maps.atKey_put_same (k := .int .i64 k') h.own.isMap trivial]
    · rw [upd_other _ _ hk', Maps.atKey_put_other (by simpa using hk')]
      exact h.look k'
  · by_cases hk' : k' = k
    · subst hk'
      rw [upd_same, Maps.has_put_same (k := .int .i64 k') h.own.isMap trivial]
      cases xs' with
      | nil => exact absurd rfl hne
      | cons _ _ => rfl
    · rw [upd_other _ _ hk', Maps.has_put_other (by simpa using hk')]
      exact h.has k'
  · by_cases hk' : k' = k
    · subst hk'
      rw [upd_same, upd_same]
      exact hrow.kept hg2 (rowNe hrow)
    · rw [upd_other _ _ hk', upd_other _ _ hk']
      have r1 := (h.row k').kept hg (h.apart k' k hk')
      exact r1.kept hg2 (rowNe r1)
  · by_cases h1 : k1 = k
    · have h2 : k2 ≠ k := fun e2 => hne12 (h1.trans e2.symm)
      subst h1
      rw [upd_same, upd_other _ _ h2]
      cases hv : v'.ownBlock with
      | none => exact .inl rfl
      | some G =>
        refine .inr fun e1 => ?_
        rcases oldNew k2 h2 with h3 | h3
        · rw [h3] at e1; cases e1
        · exact h3 (by rw [hv, e1])
    · by_cases h2 : k2 = k
      · subst h2
        rw [upd_same, upd_other _ _ h1]
        exact oldNew k1 h1
      · rw [upd_other _ _ h1, upd_other _ _ h2]
        exact h.apart k1 k2 hne12

/-- 'delete(m, k)', likewise. -/
theorem Groups.drop (h : Groups P kt base e size b n enc f g D w) (K : Keyed P kt) (hkt : P.underlying kt = some (.int .i64)) (ht : P.underlying t = some (.map kt E)) {k : Int} (hk : (Lit.int .i64 k).wf = true)
    {w1 : World} (hg : w.grownBy w1 (g k).ownBlock) (ty : TypeId) :
    ∃ w2, (Builtin.delete_ #[t, kt] ty #[.map (some b), .int .i64 k]).run P w1 = .ok (.tuple #[]) w2 ∧ Groups P kt base e size b n enc (upd f k []) (upd g k nilS) (D.del (.int .i64 k)) w2 ∧ w1.grownBy w2 (some b) := by
  have hown1 := h.own.kept hg (h.neMap k)
  obtain ⟨w2, hrun, hown2, ht2⟩ := hown1.drop K ht (Maps.keyOf_int_mk hkt hk) ty
  have hg2 := ht2.grown
  have rowNe : ∀ {u : Value} {m : Nat} {ys : List Value}, w1.ownsRow base e size u m ys → u.ownBlock = none ∨ u.ownBlock ≠ some b := fun {u m ys} ho => by
    cases hu : u.ownBlock with
    | none => exact .inl rfl
    | some G =>
      refine .inr fun e1 => ?_
      have h1 := (ho.lt G hu).1
      have h2 := h.lt
      cases e1
      omega
  refine ⟨w2, hrun, ⟨hown2, h.lt, fun k' => ?_, fun k' => ?_, fun k' => ?_, fun k1 k2 hne12 => ?_⟩, hg2⟩
  · by_cases hk' : k' = k
    · subst hk'
      rw [upd_same, Maps.atKey_del_same]
    · rw [upd_other _ _ hk', Maps.atKey_del_other (by simpa using hk')]
      exact h.look k'
  · by_cases hk' : k' = k
    · subst hk'
      rw [upd_same, Maps.has_del_same]
      rfl
    · rw [upd_other _ _ hk', Maps.has_del_other (by simpa using hk')]
      exact h.has k'
  · by_cases hk' : k' = k
    · subst hk'
      rw [upd_same, upd_same]
      exact World.ownsRow_nil _ _ _ _
    · rw [upd_other _ _ hk', upd_other _ _ hk']
      have r1 := (h.row k').kept hg (h.apart k' k hk')
      exact r1.kept hg2 (rowNe r1)
  · by_cases h1 : k1 = k
    · subst h1
      rw [upd_same]
      exact .inl rfl
    · by_cases h2 : k2 = k
      · subst h2
        rw [upd_same, upd_other _ _ h1]
        exact none_or_ne _
      · rw [upd_other _ _ h1, upd_other _ _ h2]
        exact h.apart k1 k2 hne12

/-- 'len(m)': as many as there are keys with something behind them. -/
theorem Groups.size_eq (h : Groups P kt base e size b n enc f g D w) (K : Keyed P kt) (hkt : P.underlying kt = some (.int .i64)) {ss : List Int} (hnd : ss.Nodup) (hm : ∀ k, k ∈ ss ↔ f k ≠ []) : Maps.size D = ss.length := by
  obtain ⟨es, hD, hpw, _⟩ := h.own.entries K
  obtain ⟨es', hD', hko⟩ := h.own.keysOf
  obtain rfl : es = es' := by rw [hD] at hD'; simpa using hD'
  have hp := perm_intKeys hpw (fun p hp => by obtain ⟨v, hv⟩ := hko p hp; obtain ⟨x, _, hx, _⟩ := Maps.keyOf_i64 hkt hv; exact ⟨x, hx⟩) hnd (fun x => by
    have hh := h.has x
    rw [hD] at hh
    rw [hm x, hh]
    cases f x <;> simp)
  have hl := hp.length_eq
  rw [hD, hl]
  simp [intKeys, Maps.size]

/-- The keys, in whatever order: each once; those with something behind them. -/
theorem Groups.keys (h : Groups P kt base e size b n enc f g D w) (K : Keyed P kt) (hkt : P.underlying kt = some (.int .i64)) {ss : List Int} (hp : ss.Perm (intKeys D)) : ss.Nodup ∧ (∀ k, k ∈ ss ↔ f k ≠ []) ∧ (∀ k ∈ ss, (Lit.int .i64 k).wf = true) ∧ ss.length = Maps.size D := by
  obtain ⟨es, hD, hpw, _⟩ := h.own.entries K
  obtain ⟨es', hD', hko⟩ := h.own.keysOf
  obtain rfl : es = es' := by rw [hD] at hD'; simpa using hD'
  have hki : ∀ p ∈ es, ∃ x, p.1 = .int .i64 x := fun p hp => by obtain ⟨v, hv⟩ := hko p hp; obtain ⟨x, _, hx, _⟩ := Maps.keyOf_i64 hkt hv; exact ⟨x, hx⟩
  have hnd : (intKeys D).Nodup := by
    rw [hD]
    show (es.map fun p => intOf p.1).Nodup
    refine List.pairwise_map.2 (hpw.imp_of_mem fun {p q} hp' hq' hne e => hne ?_)
    obtain ⟨a, ha⟩ := hki p hp'
    obtain ⟨b, hb⟩ := hki q hq'
    rw [ha, hb] at e ⊢
    exact congrArg _ e
  refine ⟨hp.symm.nodup hnd, fun k => ?_, fun k hk => intKeys_wf h.own hkt k (hp.mem_iff.1 hk), ?_⟩
  · rw [hp.mem_iff]
    have hh := h.has k
    rw [hD, Maps.has_eq] at hh
    rw [hD]
    show k ∈ es.map (fun p => intOf p.1) ↔ _
    rw [List.mem_map]
    constructor
    · rintro ⟨p, hp', rfl⟩ he
      obtain ⟨a, ha⟩ := hki p hp'
      rw [he] at hh
      have : es.any (fun q => q.1.sameKey (.int .i64 (intOf p.1))) = true := List.any_eq_true.2 ⟨p, hp', by rw [ha]; simp [Lit.sameKey, intOf]⟩
      rw [this] at hh
      cases hh
    · intro hne
      have : (!(f k).isEmpty) = true := by cases hf : f k <;> simp_all
      rw [this] at hh
      obtain ⟨p, hp', hs⟩ := List.any_eq_true.1 hh
      obtain ⟨a, ha⟩ := hki p hp'
      rw [ha] at hs
      exact ⟨p, hp', by rw [ha]; simpa [Lit.sameKey, intOf] using hs⟩
  · rw [hp.length_eq, hD]
    simp [intKeys, Maps.size]

end
end Go.Proofs.Qxb6618980a
