/- The law FnHasExt: for every text of at most 2000 bytes that is ASCII the program's HasExt, the reference's HasExt and the search for a point behind the last slash agree; every other text is let through. No conditions beyond the statement's own bound on the text's size. -/
import Derived.Test.YtdlhalifbghhmaaPFnHasExtx2
namespace Go.Proofs.Ytdlhalifbghhmaa.Pure
open Go.RowKit Go.Proofs.Ytdlhalifbghhmaa.PFnHasExt Go.Proofs.YtdlhalifbghhmaaW.PrintWords Go.Proofs.YtdlhalifbghhmaaW.PrintLast

theorem wrap_small {x : Int} (h0 : -5 ≤ x) (h1 : x ≤ 5000) : wrap64 x = x := by unfold wrap64; omega

theorem ascii_some (s : ByteArray) (hn : s.size ≤ 2000) (d : Nat) : ∀ (k : Nat) (i : Int), 0 ≤ i → i ≤ s.size → (s.size : Int) - i = d → d < k →
    ∃ b, spec_Ascii.l0 k s i = some b := by
  induction d with
  | zero =>
    intro k i h0 h1 hd hk
    obtain ⟨k, rfl⟩ : ∃ m, k = m + 1 := ⟨k - 1, by omega⟩
    exact ⟨true, by simp only [spec_Ascii.l0]; rw [if_neg (by omega)]⟩
  | succ d ih =>
    intro k i h0 h1 hd hk
    obtain ⟨k, rfl⟩ : ∃ m, k = m + 1 := ⟨k - 1, by omega⟩
    have hlt : i < (s.size : Int) := by omega
    simp only [spec_Ascii.l0]; rw [if_pos hlt, if_pos h0]
    by_cases h : bt s i > 127
    · exact ⟨false, by rw [if_pos h]⟩
    · rw [if_neg h, wrap_small (by omega) (by omega)]
      exact ih k (i + 1) (by omega) (by omega) (by omega) (by omega)

/-- What 'the last slash' is. -/
def Last (s : ByteArray) (r : Int) : Prop := -1 ≤ r ∧ r < s.size ∧ (0 ≤ r → bt s r = 47) ∧ ∀ i : Int, r < i → i < s.size → bt s i ≠ 47

theorem Last.uniq {s : ByteArray} {a b : Int} (ha : Last s a) (hb : Last s b) : a = b := by
  obtain ⟨a0, a1, a2, a3⟩ := ha
  obtain ⟨b0, b1, b2, b3⟩ := hb
  rcases Int.lt_trichotomy a b with h | h | h
  · exact absurd (b2 (by omega)) (a3 b h b1)
  · exact h
  · exact absurd (a2 (by omega)) (b3 a h a1)

theorem slash_tells (s : ByteArray) (hn : s.size ≤ 2000) (d : Nat) : ∀ (k : Nat) (i : Int), -1 ≤ i → i < s.size → i + 1 = d → d < k →
    (∀ j : Int, i < j → j < s.size → bt s j ≠ 47) → ∃ r, spec_slashBefore.l0 k s i = some r ∧ Last s r := by
  induction d with
  | zero =>
    intro k i h0 h1 hd hk hall
    obtain ⟨k, rfl⟩ : ∃ m, k = m + 1 := ⟨k - 1, by omega⟩
    refine ⟨-1, by simp only [spec_slashBefore.l0]; rw [if_neg (by omega)], by omega, by omega, by omega, fun j a b => hall j (by omega) b⟩
  | succ d ih =>
    intro k i h0 h1 hd hk hall
    obtain ⟨k, rfl⟩ : ∃ m, k = m + 1 := ⟨k - 1, by omega⟩
    have hp : i ≥ 0 := by omega
    simp only [spec_slashBefore.l0]; rw [if_pos hp, if_pos hp, if_pos h1]
    by_cases h : bt s i = 47
    · exact ⟨i, by rw [if_pos h], h0, h1, fun _ => h, hall⟩
    · rw [if_neg h, wrap_small (by omega) (by omega)]
      refine ih k (i - 1) (by omega) (by omega) (by omega) (by omega) (fun j a b => ?_)
      by_cases e : j = i
      · rw [e]; exact h
      · exact hall j (by omega) b

theorem lastOf_tells (s : ByteArray) (hn : s.size ≤ 2000) (d : Nat) : ∀ (k : Nat) (at' i : Int), 0 ≤ i → i ≤ s.size → (s.size : Int) - i = d → d < k →
    -1 ≤ at' → at' < i → (0 ≤ at' → bt s at' = 47) → (∀ j : Int, at' < j → j < i → bt s j ≠ 47) → ∃ r, laws_lastOf.l0 k s 47 at' i = some r ∧ Last s r := by
  induction d with
  | zero =>
    intro k at' i h0 h1 hd hk a0 a1 a2 a3
    obtain ⟨k, rfl⟩ : ∃ m, k = m + 1 := ⟨k - 1, by omega⟩
    exact ⟨at', by simp only [laws_lastOf.l0]; rw [if_neg (by omega)], a0, by omega, a2, fun j b c => a3 j b (by omega)⟩
  | succ d ih =>
    intro k at' i h0 h1 hd hk a0 a1 a2 a3
    obtain ⟨k, rfl⟩ : ∃ m, k = m + 1 := ⟨k - 1, by omega⟩
    have hlt : i < (s.size : Int) := by omega
    simp only [laws_lastOf.l0]; rw [if_pos hlt, if_pos h0, wrap_small (by omega) (by omega)]
    by_cases h : bt s i = 47
    · rw [if_pos h]
      exact ih k i (i + 1) (by omega) (by omega) (by omega) (by omega) (by omega) (by omega) (fun _ => h) (fun j b c => by omega)
    · rw [if_neg h]
      refine ih k at' (i + 1) (by omega) (by omega) (by omega) (by omega) a0 (by omega) a2 (fun j b c => ?_)
      by_cases e : j = i
      · rw [e]; exact h
      · exact a3 j b (by omega)

/-- A point stands behind the last slash. -/
def Ext (s : ByteArray) (r : Int) : Prop := ∃ i : Int, r < i ∧ i < s.size ∧ bt s i = 46

theorem paths_tells (s : ByteArray) (hn : s.size ≤ 2000) (r : Int) (hr : Last s r) (d : Nat) : ∀ (k : Nat) (i : Int), r ≤ i → i < s.size → i + 1 = d → d < k →
    (∀ j : Int, i < j → j < s.size → bt s j ≠ 46) → ∃ b, paths_HasExt.l0 k s i = some b ∧ (b = true ↔ Ext s r) := by
  have hr' := hr
  obtain ⟨r0, r1, r2, r3⟩ := hr
  induction d with
  | zero =>
    intro k i h0 h1 hd hk hall
    obtain ⟨k, rfl⟩ : ∃ m, k = m + 1 := ⟨k - 1, by omega⟩
    refine ⟨false, by simp only [paths_HasExt.l0]; rw [if_neg (by omega)], ⟨fun h => (by cases h), fun ⟨j, a, b, c⟩ => absurd c (hall j (by omega) b)⟩⟩
  | succ d ih =>
    intro k i h0 h1 hd hk hall
    obtain ⟨k, rfl⟩ : ∃ m, k = m + 1 := ⟨k - 1, by omega⟩
    have hp : i ≥ 0 := by omega
    simp only [paths_HasExt.l0]; rw [if_pos hp, if_pos hp, if_pos h1]
    by_cases e : i = r
    · have h47 : bt s i = 47 := by rw [e]; exact r2 (by omega)
      rw [if_neg (by omega), if_pos h47]
      exact ⟨false, rfl, ⟨fun h => (by cases h), fun ⟨j, a, b, c⟩ => absurd c (hall j (by omega) b)⟩⟩
    · by_cases h : bt s i = 46
      · rw [if_pos h]
        exact ⟨true, rfl, ⟨fun _ => ⟨i, by omega, h1, h⟩, fun _ => rfl⟩⟩
      · rw [if_neg h, if_neg (r3 i (by omega) h1), wrap_small (by omega) (by omega)]
        refine ih k (i - 1) (by omega) (by omega) (by omega) (by omega) (fun j a b => ?_)
        by_cases e' : j = i
        · rw [e']; exact h
        · exact hall j (by omega) b

theorem bt_extract (s : ByteArray) (a : Nat) (i : Int) (h0 : 0 ≤ i) (h : (a : Int) + i < s.size) : bt (s.extract a s.size) i = bt s ((a : Int) + i) := by
  have hsz : (s.extract a s.size).size = s.size - a := by rw [ByteArray.size_extract]; omega
  have e : ((a : Int) + i).toNat = a + i.toNat := by omega
  unfold bt
  rw [dif_pos (by omega), dif_pos (by omega)]
  simp only [e]
  congr 2
  exact ByteArray.getElem_extract _

theorem spec_tells (t : ByteArray) (hn : t.size ≤ 2000) (d : Nat) : ∀ (k : Nat) (i : Int), 0 ≤ i → i ≤ t.size → (t.size : Int) - i = d → d < k →
    ∃ b, spec_HasExt.l0 k t i = some b ∧ (b = true ↔ ∃ j : Int, i ≤ j ∧ j < t.size ∧ bt t j = 46) := by
  induction d with
  | zero =>
    intro k i h0 h1 hd hk
    obtain ⟨k, rfl⟩ : ∃ m, k = m + 1 := ⟨k - 1, by omega⟩
    exact ⟨false, by simp only [spec_HasExt.l0]; rw [if_neg (by omega)], ⟨fun h => (by cases h), fun ⟨j, a, b, _⟩ => by omega⟩⟩
  | succ d ih =>
    intro k i h0 h1 hd hk
    obtain ⟨k, rfl⟩ : ∃ m, k = m + 1 := ⟨k - 1, by omega⟩
    have hlt : i < (t.size : Int) := by omega
    simp only [spec_HasExt.l0]; rw [if_pos hlt, if_pos h0]
    by_cases h : bt t i = 46
    · rw [if_pos h]; exact ⟨true, rfl, ⟨fun _ => ⟨i, by omega, hlt, h⟩, fun _ => rfl⟩⟩
    · rw [if_neg h, wrap_small (by omega) (by omega)]
      obtain ⟨b, hb, e⟩ := ih k (i + 1) (by omega) (by omega) (by omega) (by omega)
      refine ⟨b, hb, e.trans ⟨fun ⟨j, a, b, c⟩ => ⟨j, by omega, b, c⟩, fun ⟨j, a, b, c⟩ => ⟨j, ?_, b, c⟩⟩⟩
      by_cases e' : j = i
      · rw [e'] at c; exact absurd c h
      · omega

theorem one_byte (t : ByteArray) (i : Int) (h0 : 0 ≤ i) (h1 : i < t.size) : ((t.extract i.toNat (i + 1).toNat).toList = (⟨#[46]⟩ : ByteArray).toList) ↔ bt t i = 46 := by
  have e1 : (i + 1).toNat = i.toNat + 1 := by omega
  have hlt : i.toNat < t.size := by omega
  have es : (t.extract i.toNat (i.toNat + 1)).size = 1 := by rw [ByteArray.size_extract]; omega
  have ed : t.extract i.toNat (i.toNat + 1) = ⟨#[t[i.toNat]'hlt]⟩ := by
    apply ByteArray.ext_getElem (by rw [es]; rfl)
    intro j hj hj'
    obtain rfl : j = 0 := by omega
    rw [ByteArray.getElem_extract]
    rfl
  rw [e1, ed]
  unfold bt
  rw [dif_pos hlt]
  have l1 : ∀ x : UInt8, (⟨#[x]⟩ : ByteArray).toList = [x] := fun x => by
    rw [ByteArray.toList_eq]
  rw [l1, l1]
  constructor
  · intro h
    rw [List.cons.injEq] at h
    rw [h.1]; rfl
  · intro h
    have : t[i.toNat] = (46 : UInt8) := by
      apply UInt8.toNat_inj.mp
      have : ((46 : UInt8).toNat : Int) = 46 := rfl
      omega
    rw [this]

theorem holds_tells (t : ByteArray) (hn : t.size ≤ 2000) (d : Nat) : ∀ (k : Nat) (i : Int), 0 ≤ i → i ≤ t.size → (t.size : Int) - i = d → d < k →
    ∃ b, laws_holds.l0 k t (⟨#[46]⟩ : ByteArray) i = some b ∧ (b = true ↔ ∃ j : Int, i ≤ j ∧ j < t.size ∧ bt t j = 46) := by
  have one : (((⟨#[46]⟩ : ByteArray).size : Nat) : Int) = 1 := rfl
  induction d with
  | zero =>
    intro k i h0 h1 hd hk
    obtain ⟨k, rfl⟩ : ∃ m, k = m + 1 := ⟨k - 1, by omega⟩
    refine ⟨false, ?_, ⟨fun h => (by cases h), fun ⟨j, a, b, _⟩ => by omega⟩⟩
    simp only [laws_holds.l0]; rw [one, wrap_small (by omega) (by omega), if_neg (by omega)]
  | succ d ih =>
    intro k i h0 h1 hd hk
    obtain ⟨k, rfl⟩ : ∃ m, k = m + 1 := ⟨k - 1, by omega⟩
    have hlt : i < (t.size : Int) := by omega
    simp only [laws_holds.l0]; rw [one, wrap_small (x := i + 1) (by omega) (by omega), if_pos (by omega), if_pos h0, if_pos (by omega)]
    by_cases h : bt t i = 46
    · rw [if_pos ((one_byte t i h0 hlt).2 h)]; exact ⟨true, rfl, ⟨fun _ => ⟨i, by omega, hlt, h⟩, fun _ => rfl⟩⟩
    · rw [if_neg (fun e => h ((one_byte t i h0 hlt).1 e))]
      obtain ⟨b, hb, e⟩ := ih k (i + 1) (by omega) (by omega) (by omega) (by omega)
      refine ⟨b, hb, e.trans ⟨fun ⟨j, a, b, c⟩ => ⟨j, by omega, b, c⟩, fun ⟨j, a, b, c⟩ => ⟨j, ?_, b, c⟩⟩⟩
      by_cases e' : j = i
      · rw [e'] at c; exact absurd c h
      · omega

theorem tail_ext (s : ByteArray) (r : Int) (h0 : -1 ≤ r) (h1 : r < s.size) :
    (∃ j : Int, 0 ≤ j ∧ j < (s.extract (r + 1).toNat s.size).size ∧ bt (s.extract (r + 1).toNat s.size) j = 46) ↔ Ext s r := by
  have hsz : (s.extract (r + 1).toNat s.size).size = s.size - (r + 1).toNat := by rw [ByteArray.size_extract]; omega
  rw [hsz]
  constructor
  · rintro ⟨j, a, b, c⟩
    rw [bt_extract s _ j a (by omega)] at c
    exact ⟨_, by omega, by omega, c⟩
  · rintro ⟨i, a, b, c⟩
    refine ⟨i - (r + 1), by omega, by omega, ?_⟩
    rw [bt_extract s _ _ (by omega) (by omega)]
    have : ((r + 1).toNat : Int) + (i - (r + 1)) = i := by omega
    rw [this]; exact c

theorem both {a b : Bool} {P : Prop} (ha : a = true ↔ P) (hb : b = true ↔ P) : (a == b) = true := by
  cases a <;> cases b <;> simp_all

theorem FnHasExt : laws_FnHasExt.Pure := by
  intro s _
  refine ⟨2010, ?_⟩
  unfold laws_FnHasExt.f
  by_cases h1 : (s.size : Int) > 2147483647
  · rw [if_pos h1]
  rw [if_neg h1]
  by_cases h2 : (s.size : Int) > 2000
  · rw [if_pos h2]; simp [laws_FnHasExt.j0]
  rw [if_neg h2]
  have hn : s.size ≤ 2000 := by omega
  obtain ⟨w, hw⟩ := ascii_some s hn s.size 2010 0 (by omega) (by omega) (by omega) (by omega)
  have hw' : spec_WordKnown.f 2010 s = some w := by unfold spec_WordKnown.f spec_Ascii.f; rw [hw]; rfl
  rw [hw']; simp only [Option.bind_some]
  cases w with
  | false => simp [laws_FnHasExt.j0]
  | true =>
    obtain ⟨r, hr, hl⟩ := slash_tells s hn s.size 2009 ((s.size : Int) - 1) (by omega) (by omega) (by omega) (by omega) (fun j a b => by omega)
    obtain ⟨r', hr', hl'⟩ := lastOf_tells s hn s.size 2009 (-1) 0 (by omega) (by omega) (by omega) (by omega) (by omega) (by omega) (fun h => by omega) (fun j a b => by omega)
    obtain rfl := Last.uniq hl hl'
    have hb := hl
    obtain ⟨b0, b1, _, _⟩ := hb
    obtain ⟨p, hp, ep⟩ := paths_tells s hn r hl s.size 2009 ((s.size : Int) - 1) (by omega) (by omega) (by omega) (by omega) (fun j a b => by omega)
    have hsz : (s.extract (r + 1).toNat s.size).size = s.size - (r + 1).toNat := by rw [ByteArray.size_extract]; omega
    obtain ⟨q, hq, eq⟩ := spec_tells (s.extract (r + 1).toNat s.size) (by omega) (s.extract (r + 1).toNat s.size).size 2009 0 (by omega) (by omega) (by omega) (by omega)
    obtain ⟨z, hz, ez⟩ := holds_tells (s.extract (r + 1).toNat s.size) (by omega) (s.extract (r + 1).toNat s.size).size 2009 0 (by omega) (by omega) (by omega) (by omega)
    have i1 : impl_HasExt.f 2009 s = some p := by
      unfold impl_HasExt.f paths_HasExt.f; rw [wrap_small (by omega) (by omega), hp]; rfl
    have i2 : spec_HasExt.f 2009 s = some q := by
      unfold spec_HasExt.f spec_lastPart.f spec_slashBefore.f
      rw [wrap_small (by omega) (by omega), hr]; simp only [Option.bind_some]
      rw [wrap_small (x := r + 1) (by omega) (by omega), if_pos (by omega), if_pos (by omega)]; simp only [Option.bind_some]; exact hq
    have i3 : laws_lastOf.f 2009 s 47 = some r := by unfold laws_lastOf.f; exact hr'
    have i4 : laws_holds.f 2009 (s.extract (r + 1).toNat s.size) (⟨#[46]⟩ : ByteArray) = some z := by unfold laws_holds.f; exact hz
    have eq' := eq.trans (tail_ext s r b0 b1)
    have ez' := ez.trans (tail_ext s r b0 b1)
    simp only [laws_FnHasExt.j0, Bool.not_true, Bool.false_eq_true, if_false]
    rw [i1, i2, i3]; simp only [Option.bind_some]
    rw [if_pos (both ep eq'), wrap_small (x := r + 1) (by omega) (by omega), if_pos (by omega), if_pos (by omega), i4]
    simp only [Option.bind_some]
    rw [both ep ez']

end Go.Proofs.Ytdlhalifbghhmaa.Pure
