/- Words for the second printer of walks: what is of other types than the blocks that turn stays as it is; elements of slices that are read; typed slices. -/
import Derived.Test.YtkjcedlgljeoiaaGx
import Derived.Test.YtkjcedlgljeoiaaPl
import Derived.Laws.StructEq
namespace Go.Proofs.Ytkjcedlgljeoiaa
open Go.RowKit Go.Lib
set_option linter.unusedVariables false
set_option linter.unusedSimpArgs false

/-- What a caller wants, shut. -/
def Post1 (Q : Ending → World → Prop) (e : Ending) (w : World) : Prop := Q e w
/-- The blocks of S are of other types than those of T. -/
def SApart (w : World) (S : Nat → Prop) (T : List TypeId) : Prop := ∀ k, k < w.heap.size → S k → ∃ cs t l, w.heap[k]? = some (.cells cs t l) ∧ t ∉ T
section
variable {w w' : World} {S S2 : Nat → Prop} {T : List TypeId} {g : Nat} {t e : TypeId} {c : Array Value}
theorem SApart.blk (h : Blk w g t c) (ht : t ∉ T) : SApart w (fun k => k = g) T := fun k _ hk => by
  subst hk
  exact ⟨_, _, _, h, ht⟩
theorem SApart.own {B : Nat} {sz n : Nat} {v : Value} {cs : List Value} (h : w.ownsRow B e sz v n cs) (ht : e ∉ T) : SApart w (fun k => v.ownBlock = some k) T := fun k _ hk => by
  obtain ⟨_, ⟨rfl, _⟩ | ⟨g, cap, cur, rfl, _, hh, _⟩⟩ := h
  · simp [Value.ownBlock] at hk
  · have : g = k := by simpa [Value.ownBlock] using hk
    subst this
    exact ⟨_, _, _, hh, ht⟩
theorem SApart.or (h : SApart w S T) (h2 : SApart w S2 T) : SApart w (fun k => S k ∨ S2 k) T := fun k hl hk => by
  rcases hk with hk | hk
  · exact h k hl hk
  · exact h2 k hl hk
theorem SApart.none : SApart w (fun _ => False) T := fun _ _ h => h.elim
theorem SApart.not (ha : SApart w S T) {k : Nat} {cs : Array Value} {l : Nat × Nat} (h : w.heap[k]? = some (.cells cs t l)) (ht : t ∈ T) : ¬ S k := fun hk => by
  have hl : k < w.heap.size := by
    rcases Nat.lt_or_ge k w.heap.size with hlt | hge
    · exact hlt
    · rw [Array.getElem?_eq_none hge] at h; cases h
  obtain ⟨_, t', _, h1, h2⟩ := ha k hl hk
  rw [h] at h1
  injection h1 with h1
  injection h1 with _ h1 _
  subst h1
  exact h2 ht
theorem SApart.mono {T2 : List TypeId} (ha : SApart w S T) (hs : ∀ t ∈ T2, t ∈ T) : SApart w S T2 := fun k hl hk => by
  obtain ⟨cs, t, l, h1, h2⟩ := ha k hl hk
  exact ⟨cs, t, l, h1, fun h => h2 (hs t h)⟩
theorem Blk.ap (h : Blk w g t c) (hx : GrX S w w') (ha : SApart w S T) (ht : t ∈ T) : Blk w' g t c := h.grx hx (ha.not h ht)
theorem own_ap {B : Nat} {sz n : Nat} {v : Value} {cs : List Value} (h : w.ownsRow B e sz v n cs) (hx : GrX S w w') (ha : SApart w S T) (ht : e ∈ T) : w'.ownsRow B e sz v n cs :=
  own_grx h hx (fun k hk => by
    obtain ⟨_, ⟨rfl, _⟩ | ⟨g, cap, cur, rfl, _, hh, _⟩⟩ := h
    · simp [Value.ownBlock] at hk
    · have : g = k := by simpa [Value.ownBlock] using hk
      subst this
      exact ha.not hh ht)
theorem GrX.drew {w w' : World} {S : Nat → Prop} (h : GrX S w w') : GrX S w w'.drew := ⟨h.os, h.tape, h.output, h.size, h.block⟩
/-- Block k is one of some types, and not elder than B. -/
def OfTy (w : World) (T : List TypeId) (B k : Nat) : Prop := B ≤ k ∧ ∃ cs t l, w.heap[k]? = some (.cells cs t l) ∧ t ∈ T
theorem heap_lt' {k : Nat} {o : Obj} (h : w.heap[k]? = some o) : k < w.heap.size := by
  rcases Nat.lt_or_ge k w.heap.size with hlt | hge
  · exact hlt
  · rw [Array.getElem?_eq_none hge] at h; cases h
theorem OfTy.apart {T2 : List TypeId} {B : Nat} (h : ∀ t ∈ T, t ∉ T2) : SApart w (OfTy w T B) T2 := fun k _ ⟨_, cs, t, l, h1, h2⟩ => ⟨cs, t, l, h1, h t h2⟩
theorem OfTy.nblk {B : Nat} (h : Blk w g t c) (ht : t ∉ T) : ¬ OfTy w T B g := fun ⟨_, cs, t', l, h1, h2⟩ => by
  unfold Blk at h
  rw [h] at h1
  injection h1 with h1
  injection h1 with _ h1 _
  subst h1
  exact ht h2
theorem OfTy.nown {B B' : Nat} {sz n : Nat} {v : Value} {cs : List Value} (h : w.ownsRow B e sz v n cs) (ht : e ∉ T) (k : Nat) (hk : v.ownBlock = some k) : ¬ OfTy w T B' k := fun ⟨_, cs2, t', l, h1, h2⟩ => by
  obtain ⟨_, ⟨rfl, _⟩ | ⟨g, cap, cur, rfl, _, hh, _⟩⟩ := h
  · simp [Value.ownBlock] at hk
  · have : g = k := by simpa [Value.ownBlock] using hk
    subst this
    rw [hh] at h1
    injection h1 with h1
    injection h1 with _ h1 _
    subst h1
    exact ht h2
theorem OfTy.back {B k : Nat} (h : GrX (OfTy w T B) w w') (hk : OfTy w' T B k) (hlt : k < w.heap.size) : OfTy w T B k := by
  obtain ⟨h1, cs, t, l, h2, h3⟩ := hk
  refine Classical.byContradiction fun hn => ?_
  rw [h.block k hlt hn] at h2
  exact hn ⟨h1, cs, t, l, h2, h3⟩
theorem OfTy.ofblk {B : Nat} (h : Blk w g t c) (ht : t ∈ T) (hB : B ≤ g) : OfTy w T B g := ⟨hB, _, _, _, h, ht⟩
theorem OfTy.ofown {B B' : Nat} {sz n : Nat} {v : Value} {cs : List Value} (h : w.ownsRow B e sz v n cs) (ht : e ∈ T) (hB : B' ≤ B) {k : Nat} (hk : v.ownBlock = some k) : OfTy w T B' k := by
  obtain ⟨_, ⟨rfl, _⟩ | ⟨g, cap, cur, rfl, hg, hh, _⟩⟩ := h
  · simp [Value.ownBlock] at hk
  · have : g = k := by simpa [Value.ownBlock] using hk
    subst this
    exact ⟨Nat.le_trans hB hg, _, _, _, hh, ht⟩
theorem OfTy.mono {T2 : List TypeId} {B B' k : Nat} (h : OfTy w T B k) (hT : ∀ t ∈ T, t ∈ T2) (hB : B' ≤ B) : OfTy w T2 B' k := by
  obtain ⟨h1, cs, t, l, h2, h3⟩ := h
  exact ⟨Nat.le_trans hB h1, cs, t, l, h2, hT t h3⟩
/-- A slice that is read, in a block of a type. -/
def TSl (w : World) (A : Option Addr) (e : TypeId) (cs : List Value) : Prop := Sl w A cs ∧ ∀ ad, A = some ad → cs ≠ [] → ∃ c l, w.heap[ad.block]? = some (.cells c e l)
theorem TSl.sl {A : Option Addr} {cs : List Value} (h : TSl w A e cs) : Sl w A cs := h.1
theorem TSl.nil {A : Option Addr} : TSl w A e [] := ⟨Sl.nil, fun _ _ h => absurd rfl h⟩
theorem heap_lt {k : Nat} {o : Obj} (h : w.heap[k]? = some o) : k < w.heap.size := by
  rcases Nat.lt_or_ge k w.heap.size with hlt | hge
  · exact hlt
  · rw [Array.getElem?_eq_none hge] at h; cases h
theorem TSl.below {A : Option Addr} {cs : List Value} (h : TSl w A e cs) (hb : Below w.heap.size w w') : TSl w' A e cs := ⟨h.1.below hb, fun ad h1 h2 => by
  obtain ⟨c, l, h3⟩ := h.2 ad h1 h2
  exact ⟨c, l, (hb.block _ (heap_lt h3)).trans h3⟩⟩
theorem TSl.ap {A : Option Addr} {cs : List Value} (h : TSl w A e cs) (hx : GrX S w w') (ha : SApart w S T) (ht : e ∈ T) : TSl w' A e cs := by
  by_cases h0 : cs = []
  · subst h0; exact TSl.nil
  · have hn : ∀ ad, A = some ad → ¬ S ad.block := fun ad h1 => by
      obtain ⟨c, l, h3⟩ := h.2 ad h1 h0
      exact ha.not h3 ht
    refine ⟨h.1.grx hx hn, fun ad h1 h2 => ?_⟩
    obtain ⟨c, l, h3⟩ := h.2 ad h1 h2
    exact ⟨c, l, (hx.block _ (heap_lt h3) (hn ad h1)).trans h3⟩
theorem own_tsl {B : Nat} {sz n c' : Nat} {A : Option Addr} {cs : List Value} (h : w.ownsRow B e sz (.slice A n c') n cs) (hn : n * sz ≤ 9223372036854775807) : TSl w A e cs := by
  obtain ⟨A', c2, e1, _, hs⟩ := own_slice h hn
  injection e1 with e1 e2 e3
  subst e1
  refine ⟨hs, fun ad h1 h2 => ?_⟩
  obtain ⟨_, ⟨h3, _⟩ | ⟨g, cap, cur, h3, _, hh, _⟩⟩ := h
  · injection h3 with h3; rw [h3] at h1; cases h1
  · injection h3 with h3
    rw [h3] at h1
    injection h1 with h1
    subst h1
    exact ⟨_, _, hh⟩
theorem Blk.tsl (h : Blk w g t c) (hl : c.size ≤ 9223372036854775807) : TSl w (some ⟨g, 0, none⟩) t c.toList := ⟨h.sl hl, fun ad h1 _ => by
  injection h1 with h1
  subst h1
  exact ⟨_, _, h⟩⟩
end
section
variable {w w' : World}
theorem Sl.addr {A : Option Addr} {cs : List Value} (h : Sl w A cs) (hn : 0 < cs.length) : ∃ ad, A = some ad := by
  obtain ⟨ad, e, _⟩ := h.2 hn
  exact ⟨ad, e⟩
theorem Sl.el {ad : Addr} {cs : List Value} (h : Sl w (some ad) cs) {j : Nat} {u : Value} (hu : cs[j]? = some u) : w.cell? (ad.add j) = some u := by
  obtain ⟨ad', e, hc⟩ := h.at_ hu
  injection e with e
  subst e
  exact hc
theorem Rows.addr {A : Option Addr} {C : Nat} {rows : List (List Value)} (h : Rows w A C rows) (hn : 0 < rows.length) : ∃ ad, A = some ad := by
  obtain ⟨ad, e, _⟩ := h.2 hn
  exact ⟨ad, e⟩
theorem Rows.el {ad : Addr} {C : Nat} {rows : List (List Value)} (h : Rows w (some ad) C rows) {j : Nat} {row : List Value} (hj : rows[j]? = some row) : ∀ i u, row[i]? = some u → w.cell? ((ad.add (j * C)).add i) = some u := by
  obtain ⟨ad', e, hc⟩ := h.at_ hj
  injection e with e
  subst e
  exact hc
theorem Rows.el1 {ad : Addr} {C : Nat} {rows : List (List Value)} (h : Rows w (some ad) C rows) {j i : Nat} {row : List Value} {u : Value} (hj : rows[j]? = some row) (hi : row[i]? = some u) : w.cell? ((ad.add (j * C)).add i) = some u := h.el hj i u hi
theorem own_fresh' {w : World} {base : Nat} {e : TypeId} {sz n : Nat} {v : Value} {cs : List Value} {g : Nat} (h : w.ownsRow base e sz v n cs) (hg : w.heap.size ≤ g) : v.ownBlock ≠ some g := fun h2 => by
  have := own_lt h g h2
  omega
theorem cell0 {a : Addr} {row : List Value} (h : ∀ i u, row[i]? = some u → w.cell? (a.add i) = some u) {u : Value} (hu : row[0]? = some u) : w.cell? a = some u := h 0 u hu
theorem cellj {a : Addr} {row : List Value} (h : ∀ i u, row[i]? = some u → w.cell? (a.add i) = some u) (j : Nat) {u : Value} (hu : row[j + 1]? = some u) : w.cell? ⟨a.block, a.off + (j + 1), none⟩ = some u := h (j + 1) u hu
theorem take_snoc {α : Type} {xs : List α} {k : Nat} (h : k < xs.length) : xs.take (k + 1) = xs.take k ++ [xs[k]] := List.take_succ_eq_append_getElem h
/-- A block of one's own, as a row. -/
theorem own_of_blk {g : Nat} {e : TypeId} {cs : Array Value} {B sz n : Nat} (h : Blk w g e cs) (hB : B ≤ g) (hn : cs.size = n * sz) (hm : n ≤ 9223372036854775807) : w.ownsRow B e sz (.slice (some ⟨g, 0, none⟩) n n) n cs.toList :=
  ⟨by simpa using hn, .inr ⟨g, n, cs, rfl, hB, h, Nat.le_refl _, by simp [maxLen]; omega, hn, by rw [← hn]; exact List.take_length⟩⟩
theorem own_max {e : TypeId} {B sz n : Nat} {v : Value} {cs : List Value} (h : w.ownsRow B e sz v n cs) : n ≤ 9223372036854775807 ∨ sz = 0 := by
  obtain ⟨h0, h | ⟨g, cap, cur, hv, _, _, h1, h2, _⟩⟩ := h
  · obtain ⟨_, rfl⟩ := h
    left; omega
  · left
    simp only [maxLen] at h2
    omega
theorem own_max1 {e : TypeId} {B sz n : Nat} {v : Value} {cs : List Value} (h : w.ownsRow B e (sz + 1) v n cs) : n ≤ 9223372036854775807 := (own_max h).resolve_right (by omega)
theorem nr_app {v v' : Value} {g : Nat} (h : v.ownBlock ≠ some g) (hat : v'.ownBlock = v.ownBlock ∨ v'.ownBlock = some w.heap.size) (hg : g < w.heap.size) : v'.ownBlock ≠ some g := fun e => by
  rcases hat with e1 | e1
  · exact h (e1 ▸ e)
  · rw [e1] at e
    injection e with e
    omega
theorem oo_app {v v' v2 : Value} {B : Nat} {e : TypeId} {sz n : Nat} {cs : List Value} (h : ∀ k, v.ownBlock = some k → v2.ownBlock ≠ some k) (hat : v'.ownBlock = v.ownBlock ∨ v'.ownBlock = some w.heap.size) (h2 : w.ownsRow B e sz v2 n cs) : ∀ k, v'.ownBlock = some k → v2.ownBlock ≠ some k := fun k h3 h4 => by
  rcases hat with e1 | e1
  · exact h k (e1 ▸ h3) h4
  · rw [e1] at h3
    injection h3 with h3
    have := own_lt h2 k h4
    omega
theorem oo_app' {v v' v2 : Value} {B : Nat} {e : TypeId} {sz n : Nat} {cs : List Value} (h : ∀ k, v2.ownBlock = some k → v.ownBlock ≠ some k) (hat : v'.ownBlock = v.ownBlock ∨ v'.ownBlock = some w.heap.size) (h2 : w.ownsRow B e sz v2 n cs) : ∀ k, v2.ownBlock = some k → v'.ownBlock ≠ some k :=
  fun k h3 h4 => oo_app (fun k a b => h k b a) hat h2 k h4 h3
/-- A row's block is the elder row's, or new. -/
def FoS (w : World) (v v' : Value) : Prop := ∀ k, v'.ownBlock = some k → k < w.heap.size → v.ownBlock = some k
theorem FoS.refl {v : Value} : FoS w v v := fun _ h _ => h
theorem FoS.app {v v' v0 : Value} {w0 : World} (h : FoS w0 v0 v) (hat : v'.ownBlock = v.ownBlock ∨ v'.ownBlock = some w.heap.size) (hs : w0.heap.size ≤ w.heap.size) : FoS w0 v0 v' := fun k hk hl => by
  rcases hat with e1 | e1
  · exact h k (e1 ▸ hk) hl
  · rw [e1] at hk
    injection hk with hk
    omega
theorem FoS.trans {v v' v0 : Value} {w0 : World} (h : FoS w0 v0 v) (h2 : FoS w v v') (hs : w0.heap.size ≤ w.heap.size) : FoS w0 v0 v' := fun k hk hl => h k (h2 k hk (by omega)) hl
theorem FoS.nr {v v' : Value} {g : Nat} (h : FoS w v v') (hn : v.ownBlock ≠ some g) (hg : g < w.heap.size) : v'.ownBlock ≠ some g := fun e => hn (h g e hg)
theorem FoS.oo {v v' v2 : Value} {B : Nat} {e : TypeId} {sz n : Nat} {cs : List Value} (h : FoS w v v') (hn : ∀ k, v.ownBlock = some k → v2.ownBlock ≠ some k) (h2 : w.ownsRow B e sz v2 n cs) : ∀ k, v'.ownBlock = some k → v2.ownBlock ≠ some k :=
  fun k h3 h4 => hn k (h k h3 (own_lt h2 k h4)) h4
theorem FoS.oo' {v v' v2 : Value} {B : Nat} {e : TypeId} {sz n : Nat} {cs : List Value} (h : FoS w v v') (hn : ∀ k, v2.ownBlock = some k → v.ownBlock ≠ some k) (h2 : w.ownsRow B e sz v2 n cs) : ∀ k, v2.ownBlock = some k → v'.ownBlock ≠ some k :=
  fun k h3 h4 => hn k h3 (h k h4 (own_lt h2 k h3))
/-- Rows that are read, as one run of cells. -/
theorem Rows.flat {α : Type} {f : α → List Value} {A : Option Addr} {C : Nat} {xs : List α} (h : Rows w A C (xs.map f)) (hC : 0 < C) (hf : ∀ x, (f x).length = C) (hn : xs.length * C ≤ 9223372036854775807) : Sl w A (flatC f xs) := by
  have hget : ∀ (xs : List α) (k : Nat) (u : Value), (flatC f xs)[k]? = some u → ∃ row, (xs.map f)[k / C]? = some row ∧ row[k % C]? = some u := by
    intro xs
    induction xs with
    | nil => intro k u hu; simp [flatC] at hu
    | cons x xs ih =>
      intro k u hu
      have e0 : flatC f (x :: xs) = f x ++ flatC f xs := by simp [flatC]
      rw [e0] at hu
      by_cases hk : k < C
      · rw [List.getElem?_append_left (by rw [hf]; exact hk)] at hu
        exact ⟨f x, by rw [Nat.div_eq_of_lt hk]; rfl, by rw [Nat.mod_eq_of_lt hk]; exact hu⟩
      · rw [List.getElem?_append_right (by rw [hf]; omega), hf] at hu
        obtain ⟨row, h1, h2⟩ := ih _ _ hu
        have e1 : k / C = (k - C) / C + 1 := by rw [← Nat.sub_add_cancel (show C ≤ k by omega), Nat.add_div_right _ hC]; simp
        have e2 : k % C = (k - C) % C := by rw [← Nat.sub_add_cancel (show C ≤ k by omega), Nat.add_mod_right]; simp
        exact ⟨row, by rw [e1, List.map_cons, List.getElem?_cons_succ]; exact h1, by rw [e2]; exact h2⟩
  have hlen : (flatC f xs).length = xs.length * C := by
    clear h hn
    induction xs with
    | nil => simp [flatC]
    | cons x xs ih =>
      have e0 : flatC f (x :: xs) = f x ++ flatC f xs := by simp [flatC]
      rw [e0, List.length_append, hf, ih, List.length_cons, Nat.succ_mul]; omega
  refine ⟨by omega, fun hp => ?_⟩
  have hp2 : 0 < xs.length := by
    rcases Nat.eq_zero_or_pos xs.length with h0 | h0
    · rw [hlen, h0, Nat.zero_mul] at hp; omega
    · exact h0
  obtain ⟨ad, rfl, hc⟩ := h.2 (by simpa using hp2)
  refine ⟨ad, rfl, fun k u hu => ?_⟩
  obtain ⟨row, h1, h2⟩ := hget xs k u hu
  have h3 := hc _ _ h1 _ _ h2
  rw [cadd_of_add, Nat.mul_comm, Nat.div_add_mod] at h3
  exact h3
theorem flatC_len {α : Type} {f : α → List Value} {C : Nat} {xs : List α} (hf : ∀ x, (f x).length = C) : (flatC f xs).length = xs.length * C := by
  induction xs with
  | nil => simp [flatC]
  | cons x xs ih =>
    have e0 : flatC f (x :: xs) = f x ++ flatC f xs := by simp [flatC]
    rw [e0, List.length_append, hf, ih, List.length_cons, Nat.succ_mul]; omega
theorem flatC_one {α : Type} {f : α → List Value} {xs : List α} (hf : ∀ x, ∀ u ∈ f x, u.oneCell' = true) : ∀ u ∈ flatC f xs, u.oneCell' = true := fun u hu => by
  simp only [flatC, List.mem_flatten, List.mem_map] at hu
  obtain ⟨l, ⟨x, _, rfl⟩, h⟩ := hu
  exact hf x u h
section
variable {α β : Type} {xs : List α} {k : Nat} {p : α → Bool}
theorem any_take (h : k < xs.length) : (xs.take (k + 1)).any p = ((xs.take k).any p || p xs[k]) := by rw [take_snoc h, List.any_append]; simp
theorem all_take (h : k < xs.length) : (xs.take (k + 1)).all p = ((xs.take k).all p && p xs[k]) := by rw [take_snoc h, List.all_append]; simp
theorem any_at (h : k < xs.length) (e : p xs[k] = true) : xs.any p = true := by rw [List.any_eq_true]; exact ⟨_, List.getElem_mem h, e⟩
theorem all_at (h : k < xs.length) (e : p xs[k] = false) : xs.all p = false := by rw [List.all_eq_false]; exact ⟨_, List.getElem_mem h, by simp [e]⟩
theorem filter_take (h : k < xs.length) : (xs.take (k + 1)).filter p = (xs.take k).filter p ++ if p xs[k] then [xs[k]] else [] := by
  rw [take_snoc h, List.filter_append]
  by_cases hq : p xs[k] = true <;> simp [hq]
theorem map_take' {f : α → β} (h : k < xs.length) : (xs.take (k + 1)).map f = (xs.take k).map f ++ [f xs[k]] := by rw [take_snoc h, List.map_append]; rfl
end
theorem ptrs_set (ps : List Nat) (k g : Nat) : ptrs (ps.set k g) = (ptrs ps).set k (.pointer (some ⟨g, 0, none⟩)) := by simp [ptrs, ptr, List.map_set]
theorem Pl.set {α : Type} {At : α → Nat → World → Prop} {ps : List Nat} {xs : List α} {k g : Nat} {x : α} (h : Pl At w ps xs) (hx : At x g w) : Pl At w (ps.set k g) (xs.set k x) :=
  ⟨by simp [h.1], fun j h1 h2 => by
    by_cases e : k = j
    · subst e; simpa using hx
    · rw [List.getElem_set_ne e, List.getElem_set_ne e]; exact h.2 j _ _⟩
theorem Pl.append {α : Type} {At : α → Nat → World → Prop} {ps qs : List Nat} {xs ys : List α} (h : Pl At w ps xs) (h2 : Pl At w qs ys) : Pl At w (ps ++ qs) (xs ++ ys) :=
  ⟨by simp [h.1, h2.1], fun j h3 h4 => by
    by_cases hj : j < xs.length
    · rw [List.getElem_append_left hj, List.getElem_append_left (by rw [h.1]; exact hj)]; exact h.2 j _ _
    · rw [List.getElem_append_right (by omega), List.getElem_append_right (by rw [h.1]; omega)]
      have := h2.2 (j - xs.length) (by rw [List.length_append] at h3; have := h.1; omega) (by rw [List.length_append] at h4; omega)
      simpa [h.1] using this⟩
theorem sl_one {g ge : Nat} {t : TypeId} (h : Blk w g t #[.pointer (some ⟨ge, 0, none⟩)]) : Sl w (some ⟨g, 0, none⟩) (ptrs [ge]) := h.sl (by simp)
theorem pl_one {α : Type} {At : α → Nat → World → Prop} {x : α} {g : Nat} (h : At x g w) : Pl At w [g] [x] := Pl.snoc (ps := []) (xs := []) Pl.nil h
theorem ptrs_append (ps qs : List Nat) : ptrs (ps ++ qs) = ptrs ps ++ ptrs qs := by simp [ptrs]
theorem bytes_eqd {s t : ByteArray} : (s.toList == t.toList) = decide (s = t) := by
  rw [ByteArray.toList_eq, ByteArray.toList_eq]
  by_cases h : s = t
  · subst h; simp
  · have h2 : ¬ s.data = t.data := fun e => h (ByteArray.ext e)
    simp [h, h2]
theorem bytes_eqc {s : ByteArray} {l : List UInt8} : (s.toList == l) = decide (s = ⟨l.toArray⟩) := by
  have h := bytes_eqd (s := s) (t := ⟨l.toArray⟩)
  rw [← h]
  congr 1
  rw [ByteArray.toList_eq]
end
section
variable {P : Program} {ops : Array Oper} {rest : List Oper} {o : Oper} {a : Act} {w : World} {Q : Exit → Act → World → Prop}
/-- '==' of structs. -/
theorem ev_eql (hgd : o.guard = none) (t ty2 : TypeId) (x y : Operand) (ho : o.op = .binOp .eql t x y ty2) (xs ys : Array Value) (hx : a.eval x = .agg xs) (hy : a.eval y = .agg ys) (hm : P.eqGuardType P.depth t = false) (b : Bool)
    (hr : (binOp .eql t (.agg xs) (.agg ys)).run P w = .ok (.bool b) w) (h : wpList P ops Q rest (a.put o.dst (.bool b)) w) : wpList P ops Q (o :: rest) a w := by
  refine ev_run hgd (w1 := w) (v := .bool b) ?_ h
  unfold execOp
  have e := run_eqGuard_agg (P := P) w .eql t x y xs ys hm
  simp only [ho, hx, hy, Sem.run_bind, e, hr, Result.andThen_ok, Sem.run_pure]
theorem gr_eql {p : Post} (t ty2 : TypeId) (x y : Operand) (ho : o.op = .binOp .eql t x y ty2) (xs ys : Array Value) (hx : a.eval x = .agg xs) (hy : a.eval y = .agg ys) (hm : P.eqGuardType P.depth t = false) (b : Bool)
    (hr : (binOp .eql t (.agg xs) (.agg ys)).run P w = .ok (.bool b) w) (h : p (.bool b) w) : grAt P o a w p := by
  refine gr_val (w1 := w) (v := .bool b) ?_ (Gr.refl w) h
  unfold execOp
  have e := run_eqGuard_agg (P := P) w .eql t x y xs ys hm
  simp only [ho, hx, hy, Sem.run_bind, e, hr, Result.andThen_ok, Sem.run_pure]
theorem gr_neq {p : Post} (t ty2 : TypeId) (x y : Operand) (ho : o.op = .binOp .neq t x y ty2) (xs ys : Array Value) (hx : a.eval x = .agg xs) (hy : a.eval y = .agg ys) (hm : P.eqGuardType P.depth t = false) (b : Bool)
    (hr : (binOp .neq t (.agg xs) (.agg ys)).run P w = .ok (.bool b) w) (h : p (.bool b) w) : grAt P o a w p := by
  refine gr_val (w1 := w) (v := .bool b) ?_ (Gr.refl w) h
  unfold execOp
  have e := run_eqGuard_agg (P := P) w .neq t x y xs ys hm
  simp only [ho, hx, hy, Sem.run_bind, e, hr, Result.andThen_ok, Sem.run_pure]
theorem ev_neq (hgd : o.guard = none) (t ty2 : TypeId) (x y : Operand) (ho : o.op = .binOp .neq t x y ty2) (xs ys : Array Value) (hx : a.eval x = .agg xs) (hy : a.eval y = .agg ys) (hm : P.eqGuardType P.depth t = false) (b : Bool)
    (hr : (binOp .neq t (.agg xs) (.agg ys)).run P w = .ok (.bool b) w) (h : wpList P ops Q rest (a.put o.dst (.bool b)) w) : wpList P ops Q (o :: rest) a w := by
  refine ev_run hgd (w1 := w) (v := .bool b) ?_ h
  unfold execOp
  have e := run_eqGuard_agg (P := P) w .neq t x y xs ys hm
  simp only [ho, hx, hy, Sem.run_bind, e, hr, Result.andThen_ok, Sem.run_pure]
end
end Go.Proofs.Ytkjcedlgljeoiaa
