/- Addresses of the web: what urlutil.URLJoin asks of them (UJ), and that those of the law have it. -/
import Derived.Test.YtkjcedlgljeoiaaU5
import Derived.Test.YtkjcedlgljeoiaaN5
namespace Go.Proofs.Ytkjcedlgljeoiaa
open Go.RowKit Go.Lib

abbrev bl (s : ByteArray) : List UInt8 := s.data.toList
theorem bl_inj {a b : ByteArray} (h : bl a = bl b) : a = b := ByteArray.ext (Array.toList_inj.1 h)
theorem bl_len (s : ByteArray) : (bl s).length = s.size := by simp [bl]
theorem bl_app (a b : ByteArray) : bl (a ++ b) = bl a ++ bl b := by simp [bl, ByteArray.data_append]
theorem bl_ext (s : ByteArray) (i j : Nat) : bl (s.extract i j) = ((bl s).drop i).take (j - i) := by
  simp only [bl, ByteArray.data_extract, Array.toList_extract, List.extract_eq_take_drop]
theorem bl_toList (s : ByteArray) : s.toList = bl s := by
  exact Go.ByteArray.toList_eq s
theorem ext_app_l (a b : ByteArray) {n m : Nat} (h : m ≤ a.size) : (a ++ b).extract n m = a.extract n m := by
  apply bl_inj
  rw [bl_ext, bl_ext, bl_app]
  rcases Nat.le_total n a.size with hn | hn
  · rw [List.drop_append_of_le_length (by rw [bl_len]; exact hn), List.take_append_of_le_length (by rw [List.length_drop, bl_len]; omega)]
  · rw [show m - n = 0 by omega]; simp
theorem ext_app_r (a b : ByteArray) {n m : Nat} (h : n = a.size) (hm : a.size + b.size ≤ m) : (a ++ b).extract n m = b := by
  apply bl_inj
  rw [bl_ext, bl_app, List.drop_append, bl_len, h, List.drop_of_length_le (by rw [bl_len]; omega), Nat.sub_self, List.drop_zero, List.nil_append, List.take_of_length_le (by rw [bl_len]; omega)]
theorem ext_all (a : ByteArray) {m : Nat} (hm : a.size ≤ m) : a.extract 0 m = a := by
  apply bl_inj
  rw [bl_ext, List.drop_zero, List.take_of_length_le (by rw [bl_len]; omega)]
theorem app_assoc (a b c : ByteArray) : a ++ b ++ c = a ++ (b ++ c) := by
  apply bl_inj; simp only [bl_app, List.append_assoc]
/-- a text stands at j: byte by byte -/
theorem here_head {s sub : ByteArray} {j : Nat} {c : UInt8} {r : List UInt8} (hs : bl sub = c :: r) (h : (bl s)[j]? ≠ some c) : hereB s sub j = false := by
  unfold hereB
  rw [bl_toList, bl_toList, bl_ext, hs]
  apply Bool.eq_false_iff.2
  intro h2
  have h2 := eq_of_beq h2
  have h3 : ((bl s).drop j)[0]? = some c := by
    have : (((bl s).drop j).take (j + sub.size - j))[0]? = some c := by rw [h2]; rfl
    rw [List.getElem?_take] at this
    split at this
    · exact this
    · cases this
  rw [List.getElem?_drop] at h3
  exact h (by simpa using h3)
theorem here_yes {s sub a b : ByteArray} (h : s = a ++ sub ++ b) : hereB s sub a.size = true := by
  unfold hereB
  rw [h, bl_toList, bl_toList, bl_ext, bl_app, bl_app, List.append_assoc, List.drop_append, bl_len, Nat.sub_self, List.drop_of_length_le (by rw [bl_len]; exact Nat.le_refl _), List.drop_zero, List.nil_append,
    show a.size + sub.size - a.size = (bl sub).length by rw [bl_len]; omega, List.take_left']
  · simp
  · rfl
theorem idxI_none {s sub : ByteArray} {c : UInt8} {r : List UInt8} (hs : bl sub = c :: r) (h : ∀ x ∈ bl s, x ≠ c) : idxI s sub = -1 := by
  unfold idxI idxO
  rw [firstN_none fun j _ => here_head hs fun e => h _ (List.mem_of_getElem? e) rfl]
theorem idxI_some {s sub a b : ByteArray} {c : UInt8} {r : List UInt8} (hs : bl sub = c :: r) (e : s = a ++ sub ++ b) (h : ∀ x ∈ bl a, x ≠ c) : idxI s sub = a.size := by
  have hz : s.size = a.size + sub.size + b.size := by rw [e, ByteArray.size_append, ByteArray.size_append]
  unfold idxI idxO
  rw [firstN_some (p := hereB s sub) (k := a.size) (by omega) (fun j hj => here_head hs fun e2 => ?_) (here_yes e)]
  rw [e, bl_app, bl_app, List.append_assoc, List.getElem?_append_left (by rw [bl_len]; exact hj)] at e2
  exact h _ (List.mem_of_getElem? e2) rfl
theorem pre_no {s p : ByteArray} {c : UInt8} {r : List UInt8} (hp : bl p = c :: r) (h : (bl s)[0]? ≠ some c) : hasPreB s p = false := by
  have := here_head hp h
  unfold hereB at this
  unfold hasPreB
  rw [Nat.zero_add] at this
  rw [this, Bool.and_false]
def UJ (pre path raw : ByteArray) : Prop :=
  (pre = ⟨#[]⟩ ∧ raw = path ∧ hasPreB path ⟨#[47, 47]⟩ = false ∧ idxI path ⟨#[58, 47, 47]⟩ = -1) ∨
  ∃ sc rest host : ByteArray, hasPreB raw ⟨#[47, 47]⟩ = false ∧ idxI raw ⟨#[58, 47, 47]⟩ = ↑sc.size ∧ sc.size + 3 + host.size ≤ raw.size ∧ rest.size + 3 + sc.size = raw.size ∧ host.size ≤ rest.size ∧
    raw.extract 0 sc.size = sc ∧ raw.extract (sc.size + 3) raw.size = rest ∧ rest.extract 0 host.size = host ∧ rest.extract host.size rest.size = path ∧ raw.extract 0 (sc.size + 3 + host.size) = pre ∧
    wordB sc ⟨#[]⟩ = true ∧ wordB host ⟨#[46, 45]⟩ = true ∧ ((lowF sc).toList == sc.toList) = true ∧ (∀ j, bt0 sc j ≤ 127) ∧ (∃ hr0 : 0 < raw.size, decide (((raw[0]'hr0).toNat : Int) < 65) = false) ∧ (pre.toList == (⟨#[]⟩ : ByteArray).toList) = false ∧
    (idxI rest ⟨#[47]⟩ = ↑host.size ∨ (idxI rest ⟨#[47]⟩ = -1 ∧ host.size = rest.size))
theorem urlJoin_any (raw path pre : ByteArray) (B : Option Addr) (d : Nat) (more : List ByteArray) (R : Ctx) (L : List SA) (w : World) (S : Sp R w (L)) (h0 : Rf R L fun w => Sl w (B) (strs more)) (hu : UJ pre path raw) (hraw : raw.size ≤ 1000)
    (hw : ∀ x ∈ [path] ++ more, (x.toList == (⟨#[]⟩ : ByteArray).toList) = true ∨ wordB x ⟨#[47, 46, 95, 45]⟩ = true) (hxs : ∀ x ∈ [path] ++ more, x.size ≤ 300) (hm : more.length ≤ 20) :
    Calls Try.prog 79 #[.string raw, .slice (B) (more.length) (d)] w fun e w' => e = .returned (.tuple #[.string (slashP pre (joinP ([path] ++ more))), .nilIface]) ∧ Sp R w' (L) := by
  rcases hu with ⟨e1, e2, h1, h2⟩ | ⟨sc, rest, host, h1, h2, h3, h4, h5, h6, h7, h8, h9, h10, h11, h12, h13, h14, ⟨h15, h16⟩, h17, h18 | ⟨h18, h19⟩⟩
  · subst e1; subst e2
    exact urlJoinA_any raw B d more R L w S h0 hraw h1 hw hxs hm h2
  · exact urlJoinB1_any raw path B d more sc rest host pre R L w S h0 hraw h1 hw hxs hm h2 h3 h4 h5 h6 h7 h8 h9 h10 h11 h12 h13 h14 h15 h16 h17 h18
  · exact urlJoinB2_any raw path B d more sc rest host pre R L w S h0 hraw h1 hw hxs hm h2 h3 h4 h5 h6 h7 h8 h9 h10 h11 h12 h13 h14 h15 h16 h17 h18 h19
theorem uj_http {q sc host path : ByteArray} (hq : q = sc ++ ⟨#[58, 47, 47]⟩) (hsc0 : ∀ x ∈ bl sc, x ≠ 58) (hsw : wordB sc ⟨#[]⟩ = true) (hsl : ((lowF sc).toList == sc.toList) = true) (hsa : ∀ j, bt0 sc j ≤ 127) (hs1 : ∃ h : 0 < sc.size, 65 ≤ sc[0].toNat ∧ sc[0] ≠ 47)
    (hh : ∀ x ∈ bl host, x ≠ 47) (hhw : wordB host ⟨#[46, 45]⟩ = true) (hp : path = ⟨#[]⟩ ∨ ∃ r, bl path = 47 :: r) : UJ (q ++ host) path (q ++ host ++ path) := by
  obtain ⟨hs0, hs65, hs47⟩ := hs1
  have h3 : (⟨#[58, 47, 47]⟩ : ByteArray).size = 3 := rfl
  have hqs : q.size = sc.size + 3 := by rw [hq, ByteArray.size_append, h3]
  have hz : (q ++ host ++ path).size = sc.size + 3 + host.size + path.size := by rw [ByteArray.size_append, ByteArray.size_append, hqs]
  have hrz : (host ++ path).size = host.size + path.size := ByteArray.size_append
  have hb0 : (bl (q ++ host ++ path))[0]? = some sc[0] := by
    rw [hq]
    simp only [bl_app, List.append_assoc]
    rw [List.getElem?_append_left (by rw [bl_len]; exact hs0), List.getElem?_eq_getElem (by rw [bl_len]; exact hs0)]
    rfl
  have hr : (q ++ host ++ path)[0]'(by rw [hz]; omega) = sc[0] := by
    have h := hb0
    rw [List.getElem?_eq_getElem (by rw [bl_len, hz]; omega)] at h
    exact Option.some.inj h
  refine .inr ⟨sc, host ++ path, host, ?_, ?_, by omega, by omega, by omega, ?_, ?_, ?_, ?_, ?_, hsw, hhw, hsl, hsa, ⟨by omega, ?_⟩, ?_, ?_⟩
  · exact pre_no (c := 47) (r := [47]) rfl (by rw [hb0]; exact fun e => hs47 (Option.some.inj e))
  · exact idxI_some (c := 58) (r := [47, 47]) (b := host ++ path) rfl (by rw [hq]; simp only [app_assoc]) hsc0
  · rw [hq, app_assoc, app_assoc, ext_app_l _ _ (Nat.le_refl _)]; exact ext_all _ (Nat.le_refl _)
  · rw [hz, app_assoc, ext_app_r _ _ hqs.symm (by rw [hrz, hqs]; omega)]
  · rw [ext_app_l _ _ (Nat.le_refl _)]; exact ext_all _ (Nat.le_refl _)
  · rw [ext_app_r _ _ rfl (by rw [hrz]; exact Nat.le_refl _)]
  · rw [ext_app_l _ _ (by rw [ByteArray.size_append, hqs]; exact Nat.le_refl _)]; exact ext_all _ (by rw [ByteArray.size_append, hqs]; exact Nat.le_refl _)
  · rw [hr]; simp only [decide_eq_false_iff_not]; omega
  · rw [bl_toList, bl_toList]
    apply Bool.eq_false_iff.2
    intro h
    have h := eq_of_beq h
    have h2 : (bl (q ++ host)).length = 0 := by rw [h]; rfl
    rw [bl_len, ByteArray.size_append] at h2
    omega
  · rcases hp with hp | ⟨r, hp⟩
    · subst hp
      refine .inr ⟨?_, by rw [hrz]; rfl⟩
      rw [show host ++ (⟨#[]⟩ : ByteArray) = host from by apply bl_inj; rw [bl_app]; exact List.append_nil _]
      exact idxI_none (c := 47) (r := []) rfl hh
    · refine .inl (idxI_some (c := 47) (r := []) (b := ⟨⟨r⟩⟩) rfl ?_ hh)
      apply bl_inj
      rw [bl_app, bl_app, bl_app, hp, List.append_assoc]
      rfl
/-- what the law says of host and path -/
theorem ok_word {s set set2 : ByteArray} (hset : ∀ x ∈ bl set, okU set2 x.toNat = true) (h : allB s set = true) : wordB s set2 = true := by
  unfold allB at h
  rw [Bool.and_eq_true, List.all_eq_true] at h
  unfold wordB
  rw [Bool.and_eq_true, List.all_eq_true]
  refine ⟨fun c hc => ?_, h.2⟩
  have h2 := h.1 c hc
  unfold okB at h2
  rw [Bool.or_eq_true] at h2
  rcases h2 with h2 | h2
  · unfold okU; rw [h2]; rfl
  · obtain ⟨x, hx, e⟩ := List.any_eq_true.1 h2
    have e := eq_of_beq e
    subst e
    exact hset _ hx
theorem all_ne {s set : ByteArray} {n : UInt8} (hn : okB set n = false) (h : allB s set = true) : ∀ x ∈ bl s, x ≠ n := by
  unfold allB at h
  rw [Bool.and_eq_true, List.all_eq_true] at h
  intro x hx e
  subst e
  rw [h.1 x hx] at hn
  cases hn
theorem nil_of {s : ByteArray} (h : (s.toList == (⟨#[]⟩ : ByteArray).toList) = true) : s = ⟨#[]⟩ := by
  rw [bl_toList, bl_toList] at h
  exact bl_inj (eq_of_beq h)
theorem bl_low (s : ByteArray) : bl (lowF s) = (bl s).map fun c => UInt8.ofNat (lowN c.toNat) := Array.toList_map
theorem here_eq : hereB = fun s sub j => ((bl s).drop j).take (j + sub.size - j) == bl sub := by
  funext s sub j
  unfold hereB
  rw [bl_toList, bl_toList, bl_ext]
theorem uj_law (b : Bool) {host path q : ByteArray} (hb : q = if b then ⟨#[104, 116, 116, 112, 115, 58, 47, 47]⟩ else ⟨#[104, 116, 116, 112, 58, 47, 47]⟩) (hh : allB host ⟨#[]⟩ = true) (hp : path = ⟨#[]⟩ ∨ ∃ h : 0 < path.size, ((path[0].toNat : Int) == 47) = true) : UJ (q ++ host) path (q ++ host ++ path) := by
  have h1 : ∀ x ∈ bl host, x ≠ 47 := all_ne (by decide) hh
  have h2 : wordB host ⟨#[46, 45]⟩ = true := ok_word (by simp [bl]) hh
  have h3 : path = ⟨#[]⟩ ∨ ∃ r, bl path = 47 :: r := by
    rcases hp with hp | ⟨h, e⟩
    · exact .inl hp
    · right
      have e : path[0] = 47 := UInt8.toNat_inj.1 (by have := eq_of_beq e; show path[0].toNat = 47; omega)
      cases hl : bl path with
      | nil => have := bl_len path; rw [hl] at this; simp at this; omega
      | cons c r =>
        have : (bl path)[0]? = some path[0] := by rw [List.getElem?_eq_getElem (by rw [bl_len]; exact h)]; rfl
        rw [hl, e] at this
        simp at this
        exact ⟨r, by rw [this]⟩
  have lo : ∀ s : ByteArray, (∀ x ∈ bl s, x.toNat ≤ 127) → ∀ j, bt0 s j ≤ 127 := fun s h j => by
    by_cases hj : j < s.size
    · rw [bt0_at hj]; exact h _ (Array.mem_toList_iff.2 (Array.getElem_mem _))
    · unfold bt0; rw [dif_neg hj]; exact Nat.zero_le _
  cases b
  · exact uj_http (sc := ⟨#[104, 116, 116, 112]⟩) (by rw [hb]; rfl) (by decide) (by decide) (by rw [bl_toList, bl_toList, bl_low]; decide) (lo _ (by decide)) ⟨by decide, by decide⟩ h1 h2 h3
  · exact uj_http (sc := ⟨#[104, 116, 116, 112, 115]⟩) (by rw [hb]; rfl) (by decide) (by decide) (by rw [bl_toList, bl_toList, bl_low]; decide) (lo _ (by decide)) ⟨by decide, by decide⟩ h1 h2 h3
theorem uj_nil {path : ByteArray} (h : (path.toList == (⟨#[]⟩ : ByteArray).toList) = true ∨ allB path ⟨#[47, 46, 45, 95]⟩ = true) (hp : path.size ≤ 1 ∨ ((path.extract 0 2).toList == (⟨#[47, 47]⟩ : ByteArray).toList) = false) : UJ ⟨#[]⟩ path ((⟨#[]⟩ : ByteArray) ++ path) := by
  refine .inl ⟨rfl, by apply bl_inj; rw [bl_app]; rfl, ?_, ?_⟩
  · unfold hasPreB
    rcases hp with hp | hp
    · have : decide (((⟨#[47, 47]⟩ : ByteArray).size : Int) ≤ path.size) = false := by
        have e : (⟨#[47, 47]⟩ : ByteArray).size = 2 := rfl
        rw [e, decide_eq_false_iff_not]; omega
      rw [this, Bool.false_and]
    · have e : (⟨#[47, 47]⟩ : ByteArray).size = 2 := rfl
      rw [e, hp, Bool.and_false]
  · rcases h with h | h
    · rw [nil_of h]; exact idxI_none (c := 58) (r := [47, 47]) rfl (by simp [bl])
    · exact idxI_none (c := 58) (r := [47, 47]) rfl (all_ne (by decide) h)
theorem all_word {x : ByteArray} (h : allB x ⟨#[47, 46, 45, 95]⟩ = true) : wordB x ⟨#[47, 46, 95, 45]⟩ = true := ok_word (by
  simp only [okU, idxO, firstN, here_eq]
  decide) h
end Go.Proofs.Ytkjcedlgljeoiaa
