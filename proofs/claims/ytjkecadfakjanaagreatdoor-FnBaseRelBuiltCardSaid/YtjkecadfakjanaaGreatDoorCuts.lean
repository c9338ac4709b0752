/- The points that part a name's words: the package's way to find them (all points but those within a wrapper) and the reference's are the same. Plain Lean; no program here; no condition. -/
import Derived.Test.YtjkecadfakjanaaGreatDoorPathM
set_option linter.unusedVariables false
set_option linter.unusedSimpArgs false
namespace Go.Proofs.YtjkecadfakjanaaGreatDoor

/-- s is something, and behind it the name, which has no slash. -/
structure Tail (s name : Str) (n0 : Nat) : Prop where
 len : s.length = n0 + name.length
 get : ∀ j : Nat, s[n0 + j]? = name[j]?
 one : ∀ j : Nat, name[j]? ≠ some 47

theorem wrapEndI_eq {s name : Str} {n0 : Nat} (h : Tail s name n0) : ∀ (n j : Nat), wrapEndI s n (n0 + j) = (wrapEnd name n j).map (n0 + ·)
 | 0, j => rfl
 | n + 1, j => by
  have hl := h.len
  unfold wrapEndI wrapEnd
  rw [h.get j, if_neg (h.one j), show n0 + j + 1 = n0 + (j + 1) by omega, h.get (j + 1)]
  by_cases h1 : name[j]? = some 95
  ·have hlt : j < name.length := by
    rcases Nat.lt_or_ge j name.length with e | e
    ·exact e
    ·rw [List.getElem?_eq_none e] at h1; cases h1
   by_cases h2 : name.length = j + 1 \/ name[j + 1]? = some 46
   ·rw [if_pos ⟨h1, h2.imp (fun e => by omega) id⟩, if_pos ⟨h1, h2⟩]; rfl
   ·rw [if_neg (fun e => h2 (e.2.imp (fun a => by omega) id)), if_neg (fun e => h2 e.2)]
    exact wrapEndI_eq h n (j + 1)
  ·rw [if_neg (fun e => h1 e.1), if_neg (fun e => h1 e.1)]
   exact wrapEndI_eq h n (j + 1)

theorem wrapEnd_spec {name : Str} : ∀ (n k : Nat) {e : Nat}, wrapEnd name n k = some e -> k <= e /\ e < k + n /\ name[e]? = some 95
 | 0, k, e, h => by cases h
 | n + 1, k, e, h => by
  unfold wrapEnd at h
  split at h
  ·rename_i hc
   obtain rfl := Option.some.inj h
   exact ⟨Nat.le_refl _, by omega, hc.1⟩
  ·obtain ⟨a, b, c⟩ := wrapEnd_spec n (k + 1) h
   exact ⟨by omega, by omega, c⟩

theorem dotsIn_mem {s : Str} : ∀ (n j x : Nat), x ∈ dotsIn s n j ↔ j <= x /\ x < j + n /\ s[x]? = some 46
 | 0, j, x => by simp [dotsIn]; omega
 | n + 1, j, x => by
  unfold dotsIn
  have ih := dotsIn_mem (s := s) n (j + 1) x
  split
  ·rename_i hd
   rw [List.mem_cons, ih]
   constructor
   ·rintro (rfl | ⟨a, b, c⟩)
    ·exact ⟨Nat.le_refl _, by omega, hd⟩
    ·exact ⟨by omega, by omega, c⟩
   ·rintro ⟨a, b, c⟩
    rcases Nat.eq_or_lt_of_le a with e | e
    ·exact .inl e.symm
    ·exact .inr ⟨e, by omega, c⟩
  ·rename_i hd
   rw [ih]
   constructor
   ·rintro ⟨a, b, c⟩; exact ⟨by omega, by omega, c⟩
   ·rintro ⟨a, b, c⟩
    rcases Nat.eq_or_lt_of_le a with e | e
    ·rw [e] at hd; exact absurd c hd
    ·exact ⟨e, by omega, c⟩

theorem skips_ge {s : Str} : ∀ (n i x : Nat), x ∈ skipsFrom s n i -> i <= x
 | 0, i, x, h => by simp [skipsFrom] at h
 | n + 1, i, x, h => by
  unfold skipsFrom at h
  split at h
  ·simp at h
  ·split at h
   ·split at h
    ·rename_i e he
     rw [List.mem_append] at h
     rcases h with h | h
     ·have := ((dotsIn_mem _ _ _).1 h).1; omega
     ·have hb : i + 2 <= e := by
       clear h
       have : ∀ (n k : Nat) {e : Nat}, wrapEndI s n k = some e -> k <= e := by
        intro n
        induction n with
        | zero => intro k e h; cases h
        | succ n ih =>
         intro k e h
         unfold wrapEndI at h
         split at h
         ·cases h
         ·split at h
          ·have := Option.some.inj h; omega
          ·have := ih _ h; omega
       exact this _ _ he
      have := skips_ge n (e + 1) x h
      omega
    ·have := skips_ge n (i + 1) x h; omega
   ·have := skips_ge n (i + 1) x h; omega

/-- A name's place is a point that parts words. -/
def isCut (name : Str) (n0 : Nat) (skips : List Nat) (j : Nat) : Bool := name[j]? == some 46 && !skips.contains (n0 + j)

theorem range_cut (i k len : Nat) (h1 : i <= k) (h2 : k <= len) : List.range' i (len - i) = List.range' i (k - i) ++ List.range' k (len - k) := by
 rw [show len - i = (k - i) + (len - k) by omega, List.range'_append_1 |>.symm]
 rw [show i + (k - i) = k by omega]

theorem cuts_filter {s name : Str} {n0 : Nat} (h : Tail s name n0) : ∀ (n m i : Nat), name.length <= i + n -> name.length <= i + m -> ∀ pre : List Nat, (∀ x ∈ pre, x < n0 + i) ->
  cutsFrom name n i = (List.range' i (name.length - i)).filter (isCut name n0 (pre ++ skipsFrom s m (n0 + i)))
 | 0, m, i, hn, hm, pre, hp => by
  rw [show name.length - i = 0 by omega]; rfl
 | n + 1, m, i, hn, hm, pre, hp => by
  have hl := h.len
  by_cases hle : name.length <= i
  ·rw [show name.length - i = 0 by omega]
   unfold cutsFrom
   rw [if_pos hle]; rfl
  ·obtain ⟨m, rfl⟩ : ∃ m', m = m' + 1 := ⟨m - 1, by omega⟩
   have hr : List.range' i (name.length - i) = i :: List.range' (i + 1) (name.length - (i + 1)) := by
    rw [show name.length - i = (name.length - (i + 1)) + 1 by omega]; rfl
   have ih1 := cuts_filter h n m (i + 1) (by omega) (by omega) pre (fun x hx => by have := hp x hx; omega)
   have nin : ∀ (l : List Nat), (∀ x ∈ l, n0 + i < x) -> (pre ++ l).contains (n0 + i) = false := by
    intro l hx
    rw [Bool.eq_false_iff]
    intro e
    rw [List.contains_iff_mem, List.mem_append] at e
    rcases e with e | e
    ·have := hp _ e; omega
    ·have := hx _ e; omega
   unfold cutsFrom skipsFrom
   rw [if_neg hle, if_neg (show ¬ s.length <= n0 + i by omega), h.get i, show n0 + i + 1 = n0 + (i + 1) by omega, h.get (i + 1)]
   by_cases hd : name[i]? = some 46
   ·rw [if_neg (by simpa using hd)]
    have cont : isCut name n0 (pre ++ skipsFrom s m (n0 + (i + 1))) i = true := by
     unfold isCut
     rw [nin _ (fun x hx => by have := skips_ge _ _ _ hx; omega), hd]; rfl
    have plain : i :: cutsFrom name n (i + 1) = (List.range' i (name.length - i)).filter (isCut name n0 (pre ++ skipsFrom s m (n0 + (i + 1)))) := by
     rw [hr, List.filter_cons_of_pos cont, ih1]
    by_cases h95 : name[i + 1]? = some 95
    ·rw [if_neg (by simpa using h95)]
     by_cases h2 : n0 + i + 2 < s.length
     ·rw [if_pos ⟨h2, hd, h95⟩, show s.length - (n0 + i + 2) = name.length - (i + 2) by omega, show n0 + i + 2 = n0 + (i + 2) by omega, wrapEndI_eq h]
      cases hw : wrapEnd name (name.length - (i + 2)) (i + 2) with
      | none => exact plain
      | some k =>
       obtain ⟨a, b, c⟩ := wrapEnd_spec _ _ hw
       have hk : k < name.length := by omega
       show i :: cutsFrom name n (k + 1) = (List.range' i (name.length - i)).filter (isCut name n0 (pre ++ (dotsIn s (n0 + k - (n0 + (i + 2))) (n0 + (i + 2)) ++ skipsFrom s m (n0 + k + 1))))
       rw [<- List.append_assoc, show n0 + k + 1 = n0 + (k + 1) by omega]
       rw [cuts_filter h n m (k + 1) (by omega) (by omega) (pre ++ dotsIn s (n0 + k - (n0 + (i + 2))) (n0 + (i + 2))) (by
        intro x hx
        rw [List.mem_append] at hx
        rcases hx with hx | hx
        ·have := hp x hx; omega
        ·have := ((dotsIn_mem _ _ _).1 hx).2.1; omega)]
       rw [hr, List.filter_cons_of_pos (by
        unfold isCut
        rw [List.append_assoc, nin _ (fun x hx => by
         rw [List.mem_append] at hx
         rcases hx with hx | hx
         ·have := ((dotsIn_mem _ _ _).1 hx).1; omega
         ·have := skips_ge _ _ _ hx; omega), hd]; rfl)]
       rw [range_cut (i + 1) (k + 1) name.length (by omega) (by omega), List.filter_append]
       rw [show (List.range' (i + 1) (k + 1 - (i + 1))).filter (isCut name n0 (pre ++ dotsIn s (n0 + k - (n0 + (i + 2))) (n0 + (i + 2)) ++ skipsFrom s m (n0 + (k + 1)))) = [] from ?_]
       ·rfl
       ·rw [List.filter_eq_nil_iff]
        intro j hj
        rw [List.mem_range'_1] at hj
        unfold isCut
        by_cases hjd : name[j]? = some 46
        ·have j1 : j ≠ i + 1 := fun e => by rw [e, h95] at hjd; simp at hjd
         have j2 : j ≠ k := fun e => by rw [e, c] at hjd; simp at hjd
         have : n0 + j ∈ pre ++ dotsIn s (n0 + k - (n0 + (i + 2))) (n0 + (i + 2)) ++ skipsFrom s m (n0 + (k + 1)) := by
          rw [List.mem_append, List.mem_append]
          refine .inl (.inr ((dotsIn_mem _ _ _).2 ⟨by omega, by omega, ?_⟩))
          rw [h.get j]; exact hjd
         rw [List.contains_iff_mem.2 this]
         simp
        ·have : (name[j]? == some 46) = false := by simpa using hjd
         rw [this]; simp
     ·rw [if_neg (fun e => h2 e.1), show name.length - (i + 2) = 0 by omega]
      exact plain
    ·rw [if_pos (by simpa using h95), if_neg (fun e => h95 e.2.2)]
     exact plain
   ·rw [if_pos (by simpa using hd), if_neg (fun e => hd e.2.1)]
    have cont : ¬ isCut name n0 (pre ++ skipsFrom s m (n0 + (i + 1))) i = true := by
     unfold isCut
     have : (name[i]? == some 46) = false := by simpa using hd
     rw [this]; simp
    rw [hr, List.filter_cons_of_neg cont, ih1]

/-! ### How many -/
def dotsUp (name : Str) (i n : Nat) : Nat := ((List.range' i n).filter fun j => name[j]? == some 46).length

theorem dotsIn_len {s name : Str} {n0 : Nat} (h : Tail s name n0) : ∀ (n j : Nat), (dotsIn s n (n0 + j)).length = dotsUp name j n
 | 0, j => rfl
 | n + 1, j => by
  have ih := dotsIn_len h n (j + 1)
  unfold dotsUp at ih |-
  rw [List.range'_succ]
  unfold dotsIn
  rw [h.get j]
  by_cases hd : name[j]? = some 46
  ·rw [if_pos hd, List.filter_cons_of_pos (by simpa using hd), List.length_cons, List.length_cons, show n0 + j + 1 = n0 + (j + 1) by omega, ih]
  ·rw [if_neg hd, List.filter_cons_of_neg (by simpa using hd), show n0 + j + 1 = n0 + (j + 1) by omega, ih]

theorem dotsUp_cut (name : Str) (i k len : Nat) (h1 : i <= k) (h2 : k <= len) : dotsUp name i (len - i) = dotsUp name i (k - i) + dotsUp name k (len - k) := by
 unfold dotsUp
 rw [range_cut i k len h1 h2, List.filter_append, List.length_append]
theorem dotsUp_yes {name : Str} {i n : Nat} (h : name[i]? = some 46) : dotsUp name i (n + 1) = dotsUp name (i + 1) n + 1 := by
 unfold dotsUp
 rw [List.range'_succ, List.filter_cons_of_pos (by simpa using h), List.length_cons]
theorem dotsUp_no {name : Str} {i n : Nat} (h : name[i]? ≠ some 46) : dotsUp name i (n + 1) = dotsUp name (i + 1) n := by
 unfold dotsUp
 rw [List.range'_succ, List.filter_cons_of_neg (by simpa using h)]

theorem cuts_count {s name : Str} {n0 : Nat} (h : Tail s name n0) : ∀ (n m i : Nat), name.length <= i + n -> name.length <= i + m ->
  (cutsFrom name n i).length + (skipsFrom s m (n0 + i)).length = dotsUp name i (name.length - i)
 | 0, m, i, hn, hm => by
  have hl := h.len
  rw [show name.length - i = 0 by omega]
  have : skipsFrom s m (n0 + i) = [] := by
   cases m with
   | zero => rfl
   | succ m => unfold skipsFrom; rw [if_pos (by omega)]
  rw [this]; rfl
 | n + 1, m, i, hn, hm => by
  have hl := h.len
  by_cases hle : name.length <= i
  ·have : skipsFrom s m (n0 + i) = [] := by
    cases m with
    | zero => rfl
    | succ m => unfold skipsFrom; rw [if_pos (by omega)]
   rw [this, show name.length - i = 0 by omega]
   unfold cutsFrom
   rw [if_pos hle]; rfl
  ·obtain ⟨m, rfl⟩ : ∃ m', m = m' + 1 := ⟨m - 1, by omega⟩
   have ih1 := cuts_count h n m (i + 1) (by omega) (by omega)
   have hone : name.length - i = (name.length - (i + 1)) + 1 := by omega
   unfold cutsFrom skipsFrom
   rw [if_neg hle, if_neg (show ¬ s.length <= n0 + i by omega), h.get i, show n0 + i + 1 = n0 + (i + 1) by omega, h.get (i + 1)]
   by_cases hd : name[i]? = some 46
   ·rw [if_neg (by simpa using hd)]
    have plain : (i :: cutsFrom name n (i + 1)).length + (skipsFrom s m (n0 + (i + 1))).length = dotsUp name i (name.length - i) := by
     rw [hone, dotsUp_yes hd, List.length_cons]; omega
    by_cases h95 : name[i + 1]? = some 95
    ·rw [if_neg (by simpa using h95)]
     by_cases h2 : n0 + i + 2 < s.length
     ·rw [if_pos ⟨h2, hd, h95⟩, show s.length - (n0 + i + 2) = name.length - (i + 2) by omega, show n0 + i + 2 = n0 + (i + 2) by omega, wrapEndI_eq h]
      cases hw : wrapEnd name (name.length - (i + 2)) (i + 2) with
      | none => exact plain
      | some k =>
       obtain ⟨a, b, c⟩ := wrapEnd_spec _ _ hw
       have hk : k < name.length := by omega
       show (i :: cutsFrom name n (k + 1)).length + (dotsIn s (n0 + k - (n0 + (i + 2))) (n0 + (i + 2)) ++ skipsFrom s m (n0 + k + 1)).length = _
       have ih2 := cuts_count h n m (k + 1) (by omega) (by omega)
       rw [hone, dotsUp_yes hd, List.length_cons, List.length_append, dotsIn_len h, show n0 + k + 1 = n0 + (k + 1) by omega]
       rw [dotsUp_cut name (i + 1) (k + 1) name.length (by omega) (by omega), show k + 1 - (i + 1) = (k - (i + 1)) + 1 by omega, dotsUp_no (by rw [h95]; simp)]
       have e1 : dotsUp name (i + 2) (k - (i + 1)) = dotsUp name (i + 2) (k - (i + 2)) + dotsUp name k 1 := by
        have := dotsUp_cut name (i + 2) k (k + 1) (by omega) (by omega)
        rw [show k + 1 - (i + 2) = k - (i + 1) by omega, show k + 1 - k = 1 by omega] at this
        exact this
       have e2 : dotsUp name k 1 = 0 := by rw [dotsUp_no (by rw [c]; simp)]; rfl
       have e3 : n0 + k - (n0 + (i + 2)) = k - (i + 2) := by omega
       rw [e3]
       show _ = dotsUp name (i + 2) (k - (i + 1)) + dotsUp name (k + 1) (name.length - (k + 1)) + 1
       omega
     ·rw [if_neg (fun e => h2 e.1), show name.length - (i + 2) = 0 by omega]
      exact plain
    ·rw [if_pos (by simpa using h95), if_neg (fun e => h95 e.2.2)]
     exact plain
   ·rw [if_pos (by simpa using hd), if_neg (fun e => hd e.2.1), hone, dotsUp_no hd]
    exact ih1

theorem dotsUp_count (l : Str) : ∀ k, k <= l.length -> dotsUp l 0 k = (l.take k).countP (· == 46)
 | 0, _ => by simp [dotsUp]
 | k + 1, h => by
  have ih := dotsUp_count l k (by omega)
  have hk : k < l.length := by omega
  unfold dotsUp at ih |-
  rw [List.range'_concat, List.filter_append, List.length_append, ih, List.take_succ_eq_append_getElem hk, List.countP_append]
  congr 1
  simp [List.getElem?_eq_getElem hk, List.countP_cons, List.filter_cons]
  by_cases e : l[k] = 46 <;> simp [e]

end Go.Proofs.YtjkecadfakjanaaGreatDoor
