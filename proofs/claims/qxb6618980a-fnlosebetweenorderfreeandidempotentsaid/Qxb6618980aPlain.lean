/-
  THE PLAIN LAW: no Go in sight: the ticks in the order of their first message; what 'dueMatches' wants at each; how many ticks hold something.
-/
import Derived.Test.Qxb6618980aBase
namespace Go.Proofs.Qxb6618980a

/-- Is the message on the link between a and b, either way? -/
def lnk (a b : Int) (m : Fly) : Bool := (m.From == a && m.To == b) || (m.From == b && m.To == a)
/-- Is it kept where that link is lost? -/
def keepL (a b : Int) (m : Fly) : Bool := !lnk a b m

/-- One tick more, if it is new. -/
def addTick (acc : List Int) (m : Fly) : List Int := if acc.contains m.At then acc else acc ++ [m.At]
/-- The ticks, each once, in the order of their first message. -/
def ticksOf (fs : List Fly) : List Int := fs.foldl addTick []

theorem ticksOf_snoc (fs : List Fly) (m : Fly) : ticksOf (fs ++ [m]) = addTick (ticksOf fs) m := by simp [ticksOf, List.foldl_append]

theorem fold_mem (t : Int) : ∀ (fs : List Fly) (acc : List Int), t ∈ fs.foldl addTick acc ↔ t ∈ acc ∨ ∃ m ∈ fs, m.At = t
  | [], acc => by simp
  | x :: r, acc => by
    rw [List.foldl_cons, fold_mem t r]
    have h : t ∈ addTick acc x ↔ t ∈ acc ∨ x.At = t := by
      unfold addTick
      by_cases hc : acc.contains x.At = true
      · rw [if_pos hc]
        have : x.At ∈ acc := by simpa using hc
        constructor
        · exact .inl
        · rintro (h | h)
          · exact h
          · rw [← h]; exact this
      · rw [if_neg hc]
        simp [eq_comm]
    rw [h]
    simp [or_assoc]

theorem mem_ticksOf (fs : List Fly) (t : Int) : t ∈ ticksOf fs ↔ ∃ m ∈ fs, m.At = t := by
  unfold ticksOf
  rw [fold_mem]
  simp

theorem fold_nodup : ∀ (fs : List Fly) (acc : List Int), acc.Nodup → (fs.foldl addTick acc).Nodup
  | [], _, h => h
  | x :: r, acc, h => by
    rw [List.foldl_cons]
    refine fold_nodup r _ ?_
    unfold addTick
    split
    · exact h
    · rename_i hc
      have : x.At ∉ acc := by simpa using hc
      refine List.nodup_append.2 ⟨h, by simp, fun a ha b hb => ?_⟩
      simp at hb
      subst hb
      exact fun e => this (e ▸ ha)

theorem nodup_ticksOf (fs : List Fly) : (ticksOf fs).Nodup := fold_nodup fs [] List.nodup_nil

theorem fold_le : ∀ (fs : List Fly) (acc : List Int), (fs.foldl addTick acc).length ≤ acc.length + fs.length
  | [], _ => by simp
  | x :: r, acc => by
    rw [List.foldl_cons]
    have h1 := fold_le r (addTick acc x)
    have h2 : (addTick acc x).length ≤ acc.length + 1 := by
      unfold addTick
      split <;> simp
    simp only [List.length_cons]
    omega

theorem ticksOf_le (fs : List Fly) : (ticksOf fs).length ≤ fs.length := by
  have := fold_le fs []
  simp only [List.length_nil, Nat.zero_add] at this
  exact this

/-- A message that is on neither link. -/
def wanted (a b c d : Int) (m : Fly) : Bool := !lnk a b m && !lnk c d m
/-- What 'dueMatches' wants at tick t. -/
def wantOf (a b c d : Int) (fs : List Fly) (t : Int) : List Fly := dueOf (fs.filter (wanted a b c d)) t

theorem wantOf_kept (a b c d : Int) (fs : List Fly) (m : Fly) (h : wanted a b c d m = true) : wantOf a b c d (fs ++ [m]) = upd (wantOf a b c d fs) m.At (wantOf a b c d fs m.At ++ [m]) := by
  funext t
  unfold wantOf
  rw [List.filter_append]
  simp only [List.filter_cons, h, if_true, List.filter_nil]
  rw [dueOf_snoc]
theorem wantOf_lost (a b c d : Int) (fs : List Fly) (m : Fly) (h : wanted a b c d m = false) : wantOf a b c d (fs ++ [m]) = wantOf a b c d fs := by
  funext t
  unfold wantOf
  rw [List.filter_append]
  simp [h]

theorem wantOf_le (a b c d : Int) (fs : List Fly) (t : Int) : (wantOf a b c d fs t).length ≤ fs.length :=
  Nat.le_trans (dueOf_le _ _) (List.length_filter_le _ _)

/-- Where something is wanted there is a tick. -/
theorem wantOf_tick {a b c d : Int} {fs : List Fly} {t : Int} (h : wantOf a b c d fs t ≠ []) : t ∈ ticksOf fs := by
  obtain ⟨m, hm⟩ := List.exists_mem_of_ne_nil _ h
  unfold wantOf dueOf at hm
  rw [List.mem_filter, List.mem_filter] at hm
  exact (mem_ticksOf fs t).2 ⟨m, hm.1.1, by simpa using hm.2⟩

theorem wantOf_wf {a b c d : Int} {fs : List Fly} (h : ∀ m ∈ fs, m.wf) (t : Int) : ∀ m ∈ wantOf a b c d fs t, m.wf := by
  intro m hm
  unfold wantOf dueOf at hm
  rw [List.mem_filter, List.mem_filter] at hm
  exact h m hm.1.1

/-- How many of the first k ticks hold something. -/
def heldOf (f : Int → List Fly) (ts : List Int) : List Int := ts.filter (fun t => !(f t).isEmpty)

theorem heldOf_keys {a b c d : Int} {fs : List Fly} (k : Int) : k ∈ heldOf (wantOf a b c d fs) (ticksOf fs) ↔ wantOf a b c d fs k ≠ [] := by
  unfold heldOf
  rw [List.mem_filter]
  constructor
  · rintro ⟨_, h⟩ e
    rw [e] at h
    cases h
  · intro h
    refine ⟨wantOf_tick h, ?_⟩
    cases hf : wantOf a b c d fs k with
    | nil => exact absurd hf h
    | cons _ _ => rfl
theorem heldOf_nodup (f : Int → List Fly) {ts : List Int} (h : ts.Nodup) : (heldOf f ts).Nodup := h.filter _

theorem heldOf_le (f : Int → List Fly) (ts : List Int) (k : Nat) : (heldOf f (ts.take k)).length ≤ k := by
  have h1 := List.length_filter_le (fun t => !(f t).isEmpty) (ts.take k)
  have h2 := List.length_take_le k ts
  unfold heldOf
  omega
theorem heldOf_yes {f : Int → List Fly} {ts : List Int} {k : Nat} {t : Int} (ht : ts[k]? = some t) (h : f t ≠ []) : (heldOf f (ts.take (k + 1))).length = (heldOf f (ts.take k)).length + 1 := by
  unfold heldOf
  rw [List.take_add_one, ht, List.filter_append]
  have : (!(f t).isEmpty) = true := by cases hf : f t <;> simp_all
  simp [this]
theorem heldOf_no {f : Int → List Fly} {ts : List Int} {k : Nat} {t : Int} (ht : ts[k]? = some t) (h : f t = []) : (heldOf f (ts.take (k + 1))).length = (heldOf f (ts.take k)).length := by
  unfold heldOf
  rw [List.take_add_one, ht, List.filter_append]
  simp [h]

/-! ### the laws themselves -/
theorem dueOf_filter (fs : List Fly) (p : Fly → Bool) (t : Int) : (dueOf fs t).filter p = dueOf (fs.filter p) t := by
  unfold dueOf
  rw [List.filter_filter, List.filter_filter]
  congr 1
  funext m
  exact Bool.and_comm _ _

theorem lnk_comm (a b : Int) (m : Fly) : lnk a b m = lnk b a m := by
  unfold lnk
  rw [Bool.or_comm]

/-- Losing one link. -/
theorem one_link (a b : Int) (fs : List Fly) (t : Int) : (dueOf fs t).filter (keepL a b) = wantOf a b a b fs t := by
  rw [dueOf_filter]
  unfold wantOf
  congr 1
  refine List.filter_congr fun m _ => ?_
  unfold keepL wanted
  cases lnk a b m <;> rfl

/-- Losing a-b, then c-d. -/
theorem two_links (a b c d : Int) (fs : List Fly) (t : Int) : ((dueOf fs t).filter (keepL a b)).filter (keepL c d) = wantOf a b c d fs t := by
  rw [dueOf_filter, dueOf_filter]
  unfold wantOf
  congr 1
  rw [List.filter_filter]
  refine List.filter_congr fun m _ => ?_
  unfold keepL wanted
  cases lnk a b m <;> cases lnk c d m <;> rfl

/-- Losing c-d, then b-a, then a-b. -/
theorem three_links (a b c d : Int) (fs : List Fly) (t : Int) : (((dueOf fs t).filter (keepL c d)).filter (keepL b a)).filter (keepL a b) = wantOf a b c d fs t := by
  rw [dueOf_filter, dueOf_filter, dueOf_filter]
  unfold wantOf
  congr 1
  rw [List.filter_filter, List.filter_filter]
  refine List.filter_congr fun m _ => ?_
  unfold keepL wanted
  rw [lnk_comm b a]
  cases lnk a b m <;> cases lnk c d m <;> rfl
end Go.Proofs.Qxb6618980a
