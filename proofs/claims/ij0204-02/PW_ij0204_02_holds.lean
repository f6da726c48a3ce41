import PyProof.Rows.All
import Wide.All
import OpenK.AllK
import Wide.FinOn
import Lean
import PySem.Challenge.RW_ij0204_02
open PySem PySem.W PyProof.Rows PySem.Calls
set_option Elab.async false
set_option maxRecDepth 100000
set_option maxHeartbeats 4000000
set_option linter.unusedVariables false
namespace Mine
local macro_rules | `(tactic| omega) => `(tactic| lia)
-- S1
noncomputable def gallopM : Bool → Keyed → Array Keyed → Nat → Nat → Nat → StateT SortSt Sem (Option Nat) := sortPriv% PySem.Builtin.gallop
noncomputable def Beyond (left : Bool) (key : Keyed) (arr : Array Keyed) (base : Nat) (i : Nat) : StateT SortSt Sem (Option Bool) := do
  let x ← elem' arr (base + i)
  if left = true then lt' x key else do
    let r ← lt' key x
    pure (Option.map (fun x => !x) r)
section
variable {prog : Program} {w : World} {A : Around} {E : Value → Shared → Prop} {s : Shared}
theorem bool_ne {b : Bool} (h : ¬ b = true) : b = false := by simpa using h
theorem wpS_ite {α : Type} {c : Prop} [Decidable c] {t e : StateT SortSt Sem α} {Q : α → SortSt → Prop} {st : SortSt} (h1 : c → wpS (model prog w) A E s t Q st) (h2 : ¬ c → wpS (model prog w) A E s e Q st) : wpS (model prog w) A E s (if c then t else e) Q st := by
  split
  · exact h1 ‹_›
  · exact h2 ‹_›
theorem halves {l r n x : Nat} (h : ¬ l ≥ r) (hm : r - l ≤ n - x) (hx : x < n) : (l + (r - l) / 2 < r ∧ l ≤ l + (r - l) / 2) ∧ l + (r - l) / 2 - l ≤ n - (x + 1) ∧ r - (l + (r - l) / 2 + 1) ≤ n - (x + 1) := by
  have h1 : (r - l) / 2 < r - l := Nat.div_lt_self (Nat.sub_pos_of_lt (Nat.lt_of_not_le h)) (Nat.lt_succ_self 1)
  have h2 : l + (r - l) / 2 < r := Nat.add_lt_of_lt_sub' h1
  have h3 : r - l - 1 ≤ n - (x + 1) := Nat.sub_le_sub_right hm 1
  refine ⟨⟨h2, Nat.le_add_right _ _⟩, ?_, ?_⟩
  · rw [Nat.add_sub_cancel_left]
    exact Nat.le_trans (Nat.le_sub_one_of_lt h1) h3
  · refine Nat.le_trans ?_ h3
    rw [← Nat.sub_sub]
    exact Nat.sub_le_sub_right (Nat.sub_le_sub_left (Nat.le_add_right _ _) _) 1
structure Bt (P : Nat → Bool) (n l r : Nat) : Prop where
  h1 : l ≤ r
  h2 : r ≤ n
  low : ∀ i, i < l → P i = true
  upp : ∀ i, r ≤ i → i < n → P i = false
theorem wpS_gallop {left : Bool} {key : Keyed} {arr : Array Keyed} {base n hint : Nat} {st : SortSt} {Q : Option Nat → SortSt → Prop} (P : Nat → Bool)
    (hB : ∀ i, i < n → ∀ Q' : Option Bool → SortSt → Prop, Q' (some (P i)) st → wpS (model prog w) A E s (Beyond left key arr base i) Q' st) (hm : ∀ i j, i ≤ j → j < n → P j = true → P i = true) (hh : hint < n)
    (h : ∀ k, k ≤ n → (∀ i, i < k → P i = true) → (∀ i, k ≤ i → i < n → P i = false) → Q (some k) st) : wpS (model prog w) A E s (gallopM left key arr base n hint) Q st := by
  have hm' : ∀ i j, i ≤ j → j < n → P i = false → P j = false := fun i j h1 h2 h3 => Bool.eq_false_iff.mpr fun q => by rw [hm i j h1 h2 q] at h3; cases h3
  unfold gallopM
  refine wpS_bind (hB hint hh _ ?_)
  dsimp -zeta only
  extract_lets -merge jp
  have J : ∀ a b l r, Bt P n l r → wpS (model prog w) A E s (jp () a b l r) Q st := fun _ _ l r B => by
    refine wpS_bind (wpS_mono (wpS_forRange (I := fun x c st' => c.1 = none ∧ st' = st ∧ Bt P n c.2.1 c.2.2 ∧ c.2.2 - c.2.1 ≤ n - x) (Q := fun c st' => c.1 = none ∧ st' = st ∧ Bt P n c.2.2 c.2.2) (fun x c st' _ hx hI => ?_) (fun c st' hI => ⟨hI.1, hI.2.1, ?_⟩)
      ⟨rfl, rfl, B, Nat.le_trans (Nat.sub_le _ _) B.h2⟩) fun c st' hQ => ?_)
    · obtain rfl := hI.2.1
      extract_lets -merge _ l r m l1
      have B : Bt P n l r := hI.2.2.1
      refine wpS_ite (fun q => wpS_pure ⟨rfl, rfl, by rw [show l = r from Nat.le_antisymm B.h1 q] at B; exact B⟩) fun q => ?_
      have hv := halves q hI.2.2.2 hx
      have mn : m < n := Nat.lt_of_lt_of_le hv.1.1 B.h2
      refine wpS_bind (hB m mn _ ?_)
      refine wpS_ite (fun z => wpS_pure ⟨rfl, rfl, ⟨hv.1.1, B.h2, fun i a => hm i m (Nat.le_of_lt_succ a) mn z, B.upp⟩, hv.2.2⟩) fun z => wpS_pure ⟨rfl, rfl, ⟨hv.1.2, Nat.le_of_lt mn, B.low, fun i a b => hm' m i a b (Bool.eq_false_iff.mpr z)⟩, hv.2.1⟩
    · have B := hI.2.2.1
      have := hI.2.2.2
      rw [Nat.max_eq_right (Nat.zero_le _), Nat.sub_self] at this
      rw [Nat.le_antisymm B.h1 (Nat.le_of_sub_eq_zero (Nat.le_zero.mp this))] at B
      exact B
    · obtain rfl := hQ.2.1
      extract_lets -merge rr _ hi
      rw [show rr = none from hQ.1]
      exact wpS_pure (h _ hQ.2.2.h2 hQ.2.2.low hQ.2.2.upp)
  clear_value jp
  refine wpS_ite (fun q => ?_) fun q => ?_
  · extract_lets -merge mx
    refine wpS_bind (wpS_mono (wpS_forRange (I := fun x c st' => c.1 = none ∧ st' = st ∧ (x < c.2.2 ∧ c.2.1 < c.2.2) ∧ c.2.1 < n - hint ∧ P (hint + c.2.1) = true) (Q := fun c st' => c.1 = none ∧ st' = st ∧ c.2.1 < c.2.2 ∧ (c.2.1 < n - hint ∧ P (hint + c.2.1) = true) ∧ (c.2.2 < n - hint → P (hint + c.2.2) = false))
      (fun x c st' _ hx hI => ?_) (fun c st' hI => ⟨hI.1, hI.2.1, hI.2.2.1.2, hI.2.2.2, fun z => absurd hI.2.2.1.1 (by rw [Nat.max_eq_right (Nat.zero_le _)]; omega)⟩) ⟨rfl, rfl, ⟨Nat.zero_lt_one, Nat.zero_lt_one⟩, Nat.sub_pos_of_lt hh, (by exact q : P (hint + 0) = true)⟩) fun c st' hQ => ?_)
    · obtain rfl := hI.2.1
      extract_lets -merge _ l o o1
      refine wpS_ite (fun z => wpS_pure ⟨rfl, rfl, hI.2.2.1.2, hI.2.2.2, fun y => absurd y (Nat.not_lt.mpr z)⟩) fun z => ?_
      have ho : o < n - hint := Nat.lt_of_not_le z
      refine wpS_bind (hB (hint + o) (Nat.add_lt_of_lt_sub' ho) _ ?_)
      refine wpS_ite (fun y => wpS_pure ⟨rfl, rfl, hI.2.2.1.2, hI.2.2.2, fun _ => by simpa using y⟩) fun y => wpS_pure ⟨rfl, rfl, ⟨?_, ?_⟩, ho, by simpa using y⟩
      · have := hI.2.2.1.1
        show x + 1 < 2 * c.2.2 + 1
        omega
      · show o < 2 * o + 1
        omega
    · obtain rfl := hQ.2.1
      extract_lets -merge rr _ l o lo hi
      rw [show rr = none from hQ.1]
      have ho : l < o := hQ.2.2.1
      have hl : l < n - hint := hQ.2.2.2.1.1
      have hl' : hint + l < n := Nat.add_lt_of_lt_sub' hl
      refine J _ _ _ _ ⟨?_, ?_, fun i a => hm i (hint + l) (Nat.le_of_lt_succ a) hl' hQ.2.2.2.1.2, fun i a b => ?_⟩
      · show hint + l + 1 ≤ hint + min o (n - hint)
        exact Nat.add_le_add_left (Nat.le_min.mpr ⟨ho, hl⟩) _
      · show hint + min o (n - hint) ≤ n
        exact Nat.le_trans (Nat.add_le_add_left (Nat.min_le_right _ _) _) (Nat.le_of_eq (Nat.add_sub_cancel' (Nat.le_of_lt hh)))
      · have a : hint + min o (n - hint) ≤ i := a
        have ox : o < n - hint := by omega
        rw [Nat.min_eq_left (Nat.le_of_lt ox)] at a
        exact hm' (hint + o) i a b (hQ.2.2.2.2 ox)
  · have q : P hint = false := Bool.eq_false_iff.mpr q
    refine wpS_bind (wpS_mono (wpS_forRange (I := fun x c st' => c.1 = none ∧ st' = st ∧ (x < c.2.2 ∧ c.2.1 < c.2.2) ∧ c.2.1 < hint + 1 ∧ P (hint - c.2.1) = false) (Q := fun c st' => c.1 = none ∧ st' = st ∧ c.2.1 < c.2.2 ∧ (c.2.1 < hint + 1 ∧ P (hint - c.2.1) = false) ∧ (c.2.2 < hint + 1 → P (hint - c.2.2) = true))
      (fun x c st' _ hx hI => ?_) (fun c st' hI => ⟨hI.1, hI.2.1, hI.2.2.1.2, hI.2.2.2, fun z => absurd hI.2.2.1.1 (by rw [Nat.max_eq_right (Nat.zero_le _)]; omega)⟩) ⟨rfl, rfl, ⟨Nat.zero_lt_one, Nat.zero_lt_one⟩, Nat.succ_pos _, (by exact q : P (hint - 0) = false)⟩) fun c st' hQ => ?_)
    · obtain rfl := hI.2.1
      extract_lets -merge _ l o o1
      refine wpS_ite (fun z => wpS_pure ⟨rfl, rfl, hI.2.2.1.2, hI.2.2.2, fun y => absurd y (Nat.not_lt.mpr z)⟩) fun z => ?_
      have ho : o < hint + 1 := Nat.lt_of_not_le z
      refine wpS_bind (hB (hint - o) (Nat.lt_of_le_of_lt (Nat.sub_le _ _) hh) _ ?_)
      refine wpS_ite (fun y => wpS_pure ⟨rfl, rfl, hI.2.2.1.2, hI.2.2.2, fun _ => y⟩) fun y => wpS_pure ⟨rfl, rfl, ⟨?_, ?_⟩, ho, Bool.eq_false_iff.mpr y⟩
      · have := hI.2.2.1.1
        show x + 1 < 2 * c.2.2 + 1
        omega
      · show o < 2 * o + 1
        omega
    · obtain rfl := hQ.2.1
      extract_lets -merge rr _ l o lo hi
      rw [show rr = none from hQ.1]
      have ho : l < o := hQ.2.2.1
      have hl : l < hint + 1 := hQ.2.2.2.1.1
      refine J _ _ _ _ ⟨?_, ?_, fun i a => ?_, fun i a b => hm' (hint - l) i a b hQ.2.2.2.1.2⟩
      · show hint + 1 - min o (hint + 1) ≤ hint - l
        have := Nat.le_min.mpr ⟨ho, hl⟩
        omega
      · exact Nat.le_trans (Nat.sub_le _ _) (Nat.le_of_lt hh)
      · have a : i < hint + 1 - min o (hint + 1) := a
        have ox : o < hint + 1 := by omega
        rw [Nat.min_eq_left (Nat.le_of_lt ox)] at a
        exact hm i (hint - o) (by omega) (Nat.lt_of_le_of_lt (Nat.sub_le _ _) hh) (hQ.2.2.2.2 ox)
end
-- S2
noncomputable def mergeLoM : Array Keyed → Array Keyed → StateT SortSt Sem (Array Keyed) := sortPriv% PySem.Builtin.mergeLo
structure SameS (st st' : SortSt) : Prop where
  kind : PyProof.Rows.kindOf st' = PyProof.Rows.kindOf st
  arr : arrOf st' = arrOf st
  pend : pendingOf st' = pendingOf st
  failed : failedOf st' = failedOf st
theorem SameS.refl (st : SortSt) : SameS st st := ⟨rfl, rfl, rfl, rfl⟩
theorem SameS.trans {a b c : SortSt} (x : SameS a b) (y : SameS b c) : SameS a c := ⟨y.kind.trans x.kind, y.arr.trans x.arr, y.pend.trans x.pend, y.failed.trans x.failed⟩
noncomputable def leK (O : KeyOrd) (key : Keyed → O.α) (x y : Keyed) : Prop := O.kle (key x) (key y)
noncomputable def Srt (O : KeyOrd) (key : Keyed → O.α) (l : List Keyed) : Prop := l.Pairwise (leK O key)
noncomputable def LtOk (prog : Program) (w : World) (A : Around) (E : Value → Shared → Prop) (s : Shared) (O : KeyOrd) (key : Keyed → O.α) (el : Keyed → Prop) (κ : SortKind) : Prop :=
  ∀ st, PyProof.Rows.kindOf st = κ → ∀ x y, el x → el y → ∀ Q' : Option Bool → SortSt → Prop, Q' (some (O.blt (key x) (key y))) st → wpS (model prog w) A E s (lt' x y) Q' st
section
variable {O : KeyOrd} {key : Keyed → O.α}
theorem leK.refl (x : Keyed) : leK O key x x := KeyOrd.kle_refl _
theorem leK.trans {x y z : Keyed} (h1 : leK O key x y) (h2 : leK O key y z) : leK O key x z := KeyOrd.kle_trans h1 h2
theorem leK.of_lt {x y : Keyed} (h : O.blt (key x) (key y) = true) : leK O key x y := KeyOrd.kle_of_klt h
theorem leK.of_not {x y : Keyed} (h : O.blt (key x) (key y) = false) : leK O key y x := h
theorem lt_of_lt_le {x y z : Keyed} (h : O.blt (key x) (key y) = true) (h2 : leK O key y z) : O.blt (key x) (key z) = true := KeyOrd.klt_of_klt_of_kle h h2
theorem lt_of_le_lt {x y z : Keyed} (h : leK O key x y) (h2 : O.blt (key y) (key z) = true) : O.blt (key x) (key z) = true := KeyOrd.klt_of_kle_of_klt h h2
structure Mg (O : KeyOrd) (key : Keyed → O.α) (al bl out : List Keyed) (ia ib : Nat) : Prop where
  ha : ia ≤ al.length
  hb : ib ≤ bl.length
  srt : Srt O key out
  perm : out.Perm (al.take ia ++ bl.take ib)
  le : ∀ o ∈ out, ∀ r, r ∈ al.drop ia ∨ r ∈ bl.drop ib → leK O key o r
theorem Srt.append {l₁ l₂ : List Keyed} (h1 : Srt O key l₁) (h2 : Srt O key l₂) (h : ∀ a ∈ l₁, ∀ b ∈ l₂, leK O key a b) : Srt O key (l₁ ++ l₂) := List.pairwise_append.mpr ⟨h1, h2, h⟩
theorem Srt.drop {l : List Keyed} (h : Srt O key l) (n : Nat) : Srt O key (l.drop n) := List.Pairwise.drop h
theorem Srt.take {l : List Keyed} (h : Srt O key l) (n : Nat) : Srt O key (l.take n) := List.Pairwise.take h
theorem Srt.split {l : List Keyed} (h : Srt O key l) (n : Nat) : ∀ a ∈ l.take n, ∀ b ∈ l.drop n, leK O key a b := by
  have : Srt O key (l.take n ++ l.drop n) := by rw [List.take_append_drop]; exact h
  exact (List.pairwise_append.mp this).2.2
theorem take_more (l : List Keyed) (i k : Nat) : l.take (i + k) = l.take i ++ (l.drop i).take k := List.take_add
theorem Mg.stepB {al bl out : List Keyed} {ia ib k : Nat} (m : Mg O key al bl out ia ib) (sb : Srt O key bl) (hk : ib + k ≤ bl.length) (h : ∀ x ∈ (bl.drop ib).take k, ∀ r ∈ al.drop ia, leK O key x r) :
    Mg O key al bl (out ++ (bl.drop ib).take k) ia (ib + k) where
  ha := m.ha
  hb := hk
  srt := m.srt.append ((sb.drop ib).take k) fun a ha b hb => m.le a ha b (.inr (List.mem_of_mem_take hb))
  perm := by rw [take_more, ← List.append_assoc]; exact m.perm.append_right _
  le := fun o ho r hr => by
    rw [← List.drop_drop] at hr
    rcases List.mem_append.mp ho with h1 | h1
    · exact m.le o h1 r (hr.imp id fun q => List.mem_of_mem_drop q)
    · rcases hr with q | q
      · exact h o h1 r q
      · exact (sb.drop ib).split k o h1 r q
theorem Mg.stepA {al bl out : List Keyed} {ia ib k : Nat} (m : Mg O key al bl out ia ib) (sa : Srt O key al) (hk : ia + k ≤ al.length) (h : ∀ x ∈ (al.drop ia).take k, ∀ r ∈ bl.drop ib, leK O key x r) :
    Mg O key al bl (out ++ (al.drop ia).take k) (ia + k) ib where
  ha := hk
  hb := m.hb
  srt := m.srt.append ((sa.drop ia).take k) fun a ha b hb => m.le a ha b (.inl (List.mem_of_mem_take hb))
  perm := by
    rw [take_more, List.append_assoc]
    refine (m.perm.append_right _).trans ?_
    rw [List.append_assoc]
    exact List.Perm.append_left _ List.perm_append_comm
  le := fun o ho r hr => by
    rw [← List.drop_drop] at hr
    rcases List.mem_append.mp ho with h1 | h1
    · exact m.le o h1 r (hr.imp (fun q => List.mem_of_mem_drop q) id)
    · rcases hr with q | q
      · exact (sa.drop ia).split k o h1 r q
      · exact h o h1 r q
noncomputable def Good (O : KeyOrd) (key : Keyed → O.α) (al bl r : List Keyed) : Prop := r.Perm (al ++ bl) ∧ Srt O key r
theorem Mg.all {al bl out : List Keyed} {ia ib : Nat} (m : Mg O key al bl out ia ib) (sa : Srt O key al) (sb : Srt O key bl) (h : ∀ x ∈ al.drop ia, ∀ y ∈ bl.drop ib, leK O key x y) : Good O key al bl (out ++ al.drop ia ++ bl.drop ib) := by
  refine ⟨?_, ?_⟩
  · rw [List.append_assoc]
    refine (m.perm.append_right _).trans ?_
    have e : (al.take ia ++ bl.take ib ++ (al.drop ia ++ bl.drop ib)).Perm ((al.take ia ++ al.drop ia) ++ (bl.take ib ++ bl.drop ib)) := by
      rw [List.append_assoc, List.append_assoc]
      refine List.Perm.append_left _ ?_
      rw [← List.append_assoc, ← List.append_assoc]
      exact List.perm_append_comm.append_right _
    rw [List.take_append_drop, List.take_append_drop] at e
    exact e
  · refine (m.srt.append (sa.drop ia) fun a ha b hb => m.le a ha b (.inl hb)).append (sb.drop ib) fun a ha b hb => ?_
    rcases List.mem_append.mp ha with q | q
    · exact m.le a q b (.inr hb)
    · exact h a q b hb
theorem Mg.all' {al bl out : List Keyed} {ia ib : Nat} (m : Mg O key al bl out ia ib) (sa : Srt O key al) (sb : Srt O key bl) (h : ∀ x ∈ bl.drop ib, ∀ y ∈ al.drop ia, leK O key x y) : Good O key al bl (out ++ bl.drop ib ++ al.drop ia) := by
  refine ⟨?_, ?_⟩
  · rw [List.append_assoc]
    refine (m.perm.append_right _).trans ?_
    have e : (al.take ia ++ bl.take ib ++ (bl.drop ib ++ al.drop ia)).Perm ((al.take ia ++ al.drop ia) ++ (bl.take ib ++ bl.drop ib)) := by
      rw [List.append_assoc, List.append_assoc]
      refine List.Perm.append_left _ ?_
      rw [← List.append_assoc]
      exact List.perm_append_comm
    rw [List.take_append_drop, List.take_append_drop] at e
    exact e
  · refine (m.srt.append (sb.drop ib) fun a ha b hb => m.le a ha b (.inr hb)).append (sa.drop ia) fun a ha b hb => ?_
    rcases List.mem_append.mp ha with q | q
    · exact m.le a q b (.inl hb)
    · exact h a q b hb
theorem mem_drop_get {l : List Keyed} {i : Nat} {x : Keyed} (h : x ∈ l.drop i) : ∃ j, i ≤ j ∧ l[j]? = some x := by
  obtain ⟨j, hj⟩ := List.mem_iff_getElem?.mp h
  rw [List.getElem?_drop] at hj
  exact ⟨i + j, by omega, hj⟩
theorem mem_chunk_get {l : List Keyed} {i k : Nat} {x : Keyed} (h : x ∈ (l.drop i).take k) : ∃ j, j < k ∧ l[i + j]? = some x := by
  obtain ⟨j, hj⟩ := List.mem_iff_getElem?.mp h
  rw [List.getElem?_take] at hj
  split at hj
  · rw [List.getElem?_drop] at hj; exact ⟨j, by assumption, hj⟩
  · cases hj
theorem Srt.get {l : List Keyed} (h : Srt O key l) {i j : Nat} (hij : i ≤ j) {x y : Keyed} (hx : l[i]? = some x) (hy : l[j]? = some y) : leK O key x y := by
  by_cases e : i = j
  · subst e; rw [hx] at hy; cases hy; exact leK.refl _
  · obtain ⟨h1, rfl⟩ := List.getElem?_eq_some_iff.mp hx
    obtain ⟨h2, rfl⟩ := List.getElem?_eq_some_iff.mp hy
    exact List.pairwise_iff_getElem.mp h i j h1 h2 (by omega)
end
section
variable {prog : Program} {w : World} {A : Around} {E : Value → Shared → Prop} {s : Shared} {O : KeyOrd} {key : Keyed → O.α} {el : Keyed → Prop} {κ : SortKind}
theorem wpS_elem {arr : Array Keyed} {i : Nat} {x : Keyed} {st : SortSt} {Q : Keyed → SortSt → Prop} (hx : arr.toList[i]? = some x) (h : Q x st) : wpS (model prog w) A E s (elem' arr i) Q st := by
  rw [elem'_eq]
  rw [Array.getElem?_toList] at hx
  rw [hx]; exact wpS_pure h
theorem gallop_ok {left : Bool} {k : Keyed} {arr : Array Keyed} {base n hint : Nat} {st : SortSt} {Q : Option Nat → SortSt → Prop} (LO : LtOk prog w A E s O key el κ) (hk : PyProof.Rows.kindOf st = κ) (ek : el k) (ea : ∀ x ∈ arr.toList, el x)
    (srt : Srt O key ((arr.toList.drop base).take n)) (hn : base + n ≤ arr.toList.length) (hh : hint < n)
    (h : ∀ j, j ≤ n → (∀ i x, i < j → arr.toList[base + i]? = some x → (if left then O.blt (key x) (key k) = true else O.blt (key k) (key x) = false)) →
      (∀ i x, j ≤ i → i < n → arr.toList[base + i]? = some x → (if left then O.blt (key x) (key k) = false else O.blt (key k) (key x) = true)) → Q (some j) st) :
    wpS (model prog w) A E s (gallopM left k arr base n hint) Q st := by
  have hget : ∀ i, i < n → ∃ x, arr.toList[base + i]? = some x := fun i hi => ⟨_, List.getElem?_eq_getElem (by omega)⟩
  have hsl : ∀ i, i < n → ((arr.toList.drop base).take n)[i]? = arr.toList[base + i]? := fun i hi => by rw [List.getElem?_take, if_pos hi, List.getElem?_drop]
  let P : Nat → Bool := fun i => match arr.toList[base + i]? with
    | some x => if left then O.blt (key x) (key k) else !O.blt (key k) (key x)
    | none => false
  have hP : ∀ i x, arr.toList[base + i]? = some x → P i = if left then O.blt (key x) (key k) else !O.blt (key k) (key x) := fun i x hx => by show (match arr.toList[base + i]? with | some x => _ | none => _) = _; rw [hx]
  refine wpS_gallop P (fun i hi Q' hq => ?_) (fun i j hij hj hp => ?_) hh fun j hj h1 h2 => h j hj (fun i x hi hx => ?_) fun i x hi hin hx => ?_
  · obtain ⟨x, hx⟩ := hget i hi
    have ex : el x := ea x (List.mem_of_getElem? hx)
    rw [hP i x hx] at hq
    unfold Beyond
    refine wpS_bind (wpS_elem hx ?_)
    cases left with
    | true => rw [if_pos rfl] at hq ⊢; exact LO st hk x k ex ek Q' hq
    | false => rw [if_neg (by simp)] at hq ⊢; exact wpS_bind (LO st hk k x ek ex _ (wpS_pure hq))
  · obtain ⟨x, hx⟩ := hget i (by omega)
    obtain ⟨y, hy⟩ := hget j hj
    have hle : leK O key x y := srt.get hij (by rw [hsl i (by omega)]; exact hx) (by rw [hsl j hj]; exact hy)
    rw [hP j y hy] at hp
    rw [hP i x hx]
    cases left with
    | true => exact lt_of_le_lt hle hp
    | false =>
      rw [if_neg (by simp)] at hp ⊢
      cases q : O.blt (key k) (key x) with
      | false => rfl
      | true => rw [lt_of_lt_le q hle] at hp; cases hp
  · have := h1 i hi
    rw [hP i x hx] at this
    cases left with
    | true => exact this
    | false => simpa using this
  · have := h2 i hi hin
    rw [hP i x hx] at this
    cases left with
    | true => exact this
    | false => simpa using this
end
-- S3
section
variable {prog : Program} {w : World} {A : Around} {E : Value → Shared → Prop} {s : Shared} {O : KeyOrd} {key : Keyed → O.α} {el : Keyed → Prop} {κ : SortKind}
theorem Mg.toGood {al bl out : List Keyed} {ia ib : Nat} (m : Mg O key al bl out ia ib) (sa : Srt O key al) (sb : Srt O key bl) (h : ib = bl.length ∨ ia = al.length) : Good O key al bl (out ++ al.drop ia ++ bl.drop ib) := by
  refine m.all sa sb fun x hx y hy => ?_
  rcases h with h | h
  · rw [h, List.drop_length] at hy; cases hy
  · rw [h, List.drop_length] at hx; cases hx
theorem Mg.toGood' {al bl out : List Keyed} {ia ib : Nat} (m : Mg O key al bl out ia ib) (sa : Srt O key al) (sb : Srt O key bl) (h : ia + 1 = al.length) (hl : ∀ x, al.getLast? = some x → ∀ y ∈ bl, leK O key y x) : Good O key al bl (out ++ bl.drop ib ++ al.drop ia) := by
  refine m.all' sa sb fun x hx y hy => ?_
  obtain ⟨j, hj, e⟩ := mem_drop_get hy
  have hlt : j < al.length := (List.getElem?_eq_some_iff.mp e).1
  have : j = al.length - 1 := by omega
  subst this
  exact hl y (by rw [List.getLast?_eq_getElem?]; exact e) x (List.mem_of_mem_drop hx)
theorem ext_drop (xs : Array Keyed) (i : Nat) : (xs.extract i).toList = xs.toList.drop i := by
  rw [Array.toList_extract, List.extract_eq_take_drop, List.take_of_length_le (by simp)]
theorem ext_chunk (xs : Array Keyed) (i k : Nat) : (xs.extract i (i + k)).toList = (xs.toList.drop i).take k := by
  rw [Array.toList_extract, List.extract_eq_take_drop]; congr 1; omega
theorem drop_head {l : List Keyed} {i : Nat} (h : i < l.length) : (l.drop i).take 1 = [l[i]] := by
  rw [List.drop_eq_getElem_cons h]; rfl
noncomputable def setMGM : Nat → StateT SortSt Sem Unit := sortPriv% PySem.Builtin.setMinGallop
theorem wpS_setMG {g : Nat} {st : SortSt} {Q : Unit → SortSt → Prop} (h : ∀ st', SameS st st' → Q () st') : wpS (model prog w) A E s (setMGM g) Q st := by
  unfold setMGM
  exact wpS_modify (h _ ⟨rfl, rfl, rfl, rfl⟩)
structure Ab (O : KeyOrd) (key : Keyed → O.α) (el : Keyed → Prop) (a b : Array Keyed) : Prop where
  ea : ∀ x ∈ a.toList, el x
  eb : ∀ x ∈ b.toList, el x
  sa : Srt O key a.toList
  sb : Srt O key b.toList
  hl : ∀ x, a.toList.getLast? = some x → ∀ y ∈ b.toList, leK O key y x
noncomputable abbrev MgA (O : KeyOrd) (key : Keyed → O.α) (a b out : Array Keyed) (ia ib : Nat) : Prop := Mg O key a.toList b.toList out.toList ia ib
structure Lo (O : KeyOrd) (key : Keyed → O.α) (a b out : Array Keyed) (ia ib n : Nat) : Prop where
  m : MgA O key a b out ia ib
  hia : ia + 1 < a.size
  hib : ib < b.size
  hp : n ≤ ia + ib
noncomputable abbrev GoodA (O : KeyOrd) (key : Keyed → O.α) (a b r : Array Keyed) : Prop := Good O key a.toList b.toList r.toList
section
variable {a b out : Array Keyed} {ia ib n k : Nat}
theorem ge (h : ia < a.size) : a.toList[ia]? = some a[ia] := by rw [Array.getElem?_toList]; exact Array.getElem?_eq_getElem h
theorem mem_ge (h : ia < a.size) : a[ia] ∈ a.toList := List.mem_of_getElem? (ge h)
theorem MgA.dn (m : MgA O key a b out ia ib) (x : Ab O key el a b) (h : ib = b.size ∨ ia = a.size) : GoodA O key a b (out ++ a.extract ia ++ b.extract ib) := by
  have := m.toGood x.sa x.sb (by rw [Array.length_toList, Array.length_toList]; exact h)
  unfold GoodA
  rw [Array.toList_append, Array.toList_append, ext_drop, ext_drop]; exact this
theorem MgA.la (m : MgA O key a b out ia ib) (x : Ab O key el a b) (h : ia + 1 = a.size) : GoodA O key a b (out ++ b.extract ib ++ a.extract ia) := by
  have := m.toGood' x.sa x.sb (by rw [Array.length_toList]; exact h) x.hl
  unfold GoodA
  rw [Array.toList_append, Array.toList_append, ext_drop, ext_drop]; exact this
theorem MgA.putB (m : MgA O key a b out ia ib) (x : Ab O key el a b) (hb : ib < b.size) (h : ∀ z, a.toList[ia]? = some z → leK O key b[ib] z) : MgA O key a b (out.push b[ib]) ia (ib + 1) := by
  have hl : ib < b.toList.length := by rw [Array.length_toList]; exact hb
  have := m.stepB (k := 1) x.sb hl fun z hz r hr => by
    rw [drop_head hl] at hz
    obtain rfl := List.mem_singleton.mp hz
    obtain ⟨j, hj, e⟩ := mem_drop_get hr
    have ha : ia < a.toList.length := Nat.lt_of_le_of_lt hj (List.getElem?_eq_some_iff.mp e).1
    exact (h _ (List.getElem?_eq_getElem ha)).trans (x.sa.get hj (List.getElem?_eq_getElem ha) e)
  rw [drop_head hl] at this
  unfold MgA
  rw [Array.toList_push]; exact this
theorem MgA.putA (m : MgA O key a b out ia ib) (x : Ab O key el a b) (ha : ia < a.size) (h : ∀ z, b.toList[ib]? = some z → leK O key a[ia] z) : MgA O key a b (out.push a[ia]) (ia + 1) ib := by
  have hl : ia < a.toList.length := by rw [Array.length_toList]; exact ha
  have := m.stepA (k := 1) x.sa hl fun z hz r hr => by
    rw [drop_head hl] at hz
    obtain rfl := List.mem_singleton.mp hz
    obtain ⟨j, hj, e⟩ := mem_drop_get hr
    have hb : ib < b.toList.length := Nat.lt_of_le_of_lt hj (List.getElem?_eq_some_iff.mp e).1
    exact (h _ (List.getElem?_eq_getElem hb)).trans (x.sb.get hj (List.getElem?_eq_getElem hb) e)
  rw [drop_head hl] at this
  unfold MgA
  rw [Array.toList_push]; exact this
theorem MgA.runA (m : MgA O key a b out ia ib) (x : Ab O key el a b) (hk : ia + k ≤ a.size) (hb : ib < b.size) (h : ∀ i z, i < k → a.toList[ia + i]? = some z → leK O key z b[ib]) : MgA O key a b (out ++ a.extract ia (ia + k)) (ia + k) ib := by
  have := m.stepA (k := k) x.sa (by rw [Array.length_toList]; exact hk) fun z hz r hr => by
    obtain ⟨i, hi, e⟩ := mem_chunk_get hz
    obtain ⟨j, hj, e'⟩ := mem_drop_get hr
    exact (h i z hi e).trans (x.sb.get hj (ge hb) e')
  unfold MgA
  rw [Array.toList_append, ext_chunk]; exact this
theorem MgA.runB (m : MgA O key a b out ia ib) (x : Ab O key el a b) (hk : ib + k ≤ b.size) (ha : ia < a.size) (h : ∀ i z, i < k → b.toList[ib + i]? = some z → leK O key z a[ia]) : MgA O key a b (out ++ b.extract ib (ib + k)) ia (ib + k) := by
  have := m.stepB (k := k) x.sb (by rw [Array.length_toList]; exact hk) fun z hz r hr => by
    obtain ⟨i, hi, e⟩ := mem_chunk_get hz
    obtain ⟨j, hj, e'⟩ := mem_drop_get hr
    exact (h i z hi e).trans (x.sa.get hj (ge ha) e')
  unfold MgA
  rw [Array.toList_append, ext_chunk]; exact this
theorem Lo.nextA (L : Lo O key a b out ia ib n) {out' : Array Keyed} (m : MgA O key a b out' (ia + 1) ib) (e : ¬ (ia + 1 + 1 == a.size) = true) : Lo O key a b out' (ia + 1) ib (n + 1) :=
  ⟨m, Nat.lt_of_le_of_ne L.hia fun q => e (beq_iff_eq.mpr q), L.hib, by rw [Nat.add_right_comm]; exact Nat.succ_le_succ L.hp⟩
theorem Lo.nextB (L : Lo O key a b out ia ib n) {out' : Array Keyed} (m : MgA O key a b out' ia (ib + 1)) (e : ¬ (ib + 1 == b.size) = true) : Lo O key a b out' ia (ib + 1) n :=
  ⟨m, L.hia, Nat.lt_of_le_of_ne L.hib fun q => e (beq_iff_eq.mpr q), Nat.le_trans L.hp (by omega)⟩
end
theorem wpS_el {arr : Array Keyed} {i : Nat} {st : SortSt} {Q : Keyed → SortSt → Prop} (hi : i < arr.size) (h : Q arr[i] st) : wpS (model prog w) A E s (elem' arr i) Q st := wpS_elem (ge hi) h
theorem Lo.mono (L : Lo O key a b out ia ib n) {n' : Nat} (h : n' ≤ n) : Lo O key a b out ia ib n' := ⟨L.m, L.hia, L.hib, Nat.le_trans h L.hp⟩
theorem if_jp {α β : Type} {c : Prop} [Decidable c] {jp : β → StateT SortSt Sem α} {x y : β} {Q : α → SortSt → Prop} {st : SortSt} (J : ∀ z, wpS (model prog w) A E s (jp z) Q st) : wpS (model prog w) A E s (if c then jp x else jp y) Q st :=
  wpS_ite (fun _ => J _) fun _ => J _
theorem if_jp2 {α β γ : Type} {c : Prop} [Decidable c] {jp : β → γ → StateT SortSt Sem α} {t : StateT SortSt Sem α} {x : β} {y : γ} {Q : α → SortSt → Prop} {st : SortSt} (P : β → γ → Prop) (J : ∀ x y, P x y → wpS (model prog w) A E s (jp x y) Q st)
    (h1 : c → (∀ x y, P x y → wpS (model prog w) A E s (jp x y) Q st) → wpS (model prog w) A E s t Q st) (h2 : ¬ c → P x y) : wpS (model prog w) A E s (if c then t else jp x y) Q st := wpS_ite (fun q => h1 q J) fun q => J _ _ (h2 q)
theorem gallopR {k : Keyed} {arr : Array Keyed} {base n hint : Nat} {st : SortSt} {Q : Option Nat → SortSt → Prop} (LO : LtOk prog w A E s O key el κ) (hk : PyProof.Rows.kindOf st = κ) (ek : el k) (ea : ∀ x ∈ arr.toList, el x) (sr : Srt O key arr.toList) (hn : base + n ≤ arr.size) (hh : hint < n)
    (h : ∀ j, j ≤ n → (∀ i z, i < j → arr.toList[base + i]? = some z → leK O key z k) → (∀ z, j < n → arr.toList[base + j]? = some z → O.blt (key k) (key z) = true) → Q (some j) st) : wpS (model prog w) A E s (gallopM false k arr base n hint) Q st :=
  gallop_ok LO hk ek ea ((sr.drop base).take n) (by rw [Array.length_toList]; exact hn) hh fun j hj lo hi => h j hj (fun i z a e => leK.of_not (by simpa using lo i z a e)) fun z a e => by simpa using hi j z (Nat.le_refl j) a e
theorem gallopL {k : Keyed} {arr : Array Keyed} {base n hint : Nat} {st : SortSt} {Q : Option Nat → SortSt → Prop} (LO : LtOk prog w A E s O key el κ) (hk : PyProof.Rows.kindOf st = κ) (ek : el k) (ea : ∀ x ∈ arr.toList, el x) (sr : Srt O key arr.toList) (hn : base + n ≤ arr.size) (hh : hint < n)
    (h : ∀ j, j ≤ n → (∀ i z, i < j → arr.toList[base + i]? = some z → O.blt (key z) (key k) = true) → (∀ z, j < n → arr.toList[base + j]? = some z → leK O key k z) → Q (some j) st) : wpS (model prog w) A E s (gallopM true k arr base n hint) Q st :=
  gallop_ok LO hk ek ea ((sr.drop base).take n) (by rw [Array.length_toList]; exact hn) hh fun j hj lo hi => h j hj (fun i z a e => by simpa using lo i z a e) fun z a e => leK.of_not (by simpa using hi j z (Nat.le_refl j) a e)
theorem wpS_mergeLo {a b : Array Keyed} {st : SortSt} {Q : Array Keyed → SortSt → Prop} (LO : LtOk prog w A E s O key el κ) (hk : PyProof.Rows.kindOf st = κ) (x : Ab O key el a b) (ha0 : 0 < a.size) (hb0 : 0 < b.size) (h0 : O.blt (key b[0]) (key a[0]) = true)
    (h : ∀ r st', SameS st st' → GoodA O key a b r → Q r st') : wpS (model prog w) A E s (mergeLoM a b) Q st := by
  unfold mergeLoM
  refine wpS_bind (wpS_lift (wpAny_rule ⟨rfl, ?_⟩))
  extract_lets -merge total dn la i0 i1
  refine wpS_bind (wpS_el hb0 ?_)
  have m0 : MgA O key a b #[b[0]] 0 1 := MgA.putB (out := #[]) (ia := 0) ⟨Nat.zero_le _, Nat.zero_le _, List.Pairwise.nil, .refl _, fun o ho => nomatch ho⟩ x hb0 fun z hz => by
    rw [ge ha0] at hz; cases hz; exact leK.of_lt h0
  refine wpS_ite (fun e => wpS_pure (h _ _ (.refl _) (m0.dn x (.inl (beq_iff_eq.mp e))))) fun e1 => ?_
  refine wpS_ite (fun e => wpS_pure (h _ _ (.refl _) (m0.la x (beq_iff_eq.mp e)))) fun e2 => ?_
  have l0 : Lo O key a b #[b[0]] 0 1 1 := ⟨m0, Nat.lt_of_le_of_ne ha0 fun q => e2 (beq_iff_eq.mpr q), Nat.lt_of_le_of_ne hb0 fun q => e1 (beq_iff_eq.mpr q), Nat.le_refl _⟩
  refine wpS_bind (wpS_get ?_)
  refine wpS_bind (wpS_mono (wpS_forRange (I := fun y c st' => c.1 = none ∧ SameS st st' ∧ Lo O key a b c.2.1 c.2.2.1 c.2.2.2.1 (y + 1))
    (Q := fun c st' => SameS st st' ∧ ∃ r, c.1 = some r ∧ GoodA O key a b r) (fun y c st1 _ hy hI => ?_) (fun c st' hI => ?_) ⟨rfl, .refl _, l0⟩) fun c st' hQ => ?_)
  · extract_lets -merge _ out _ ia _ ib mg mg'
    have L : Lo O key a b out ia ib (y + 1) := hI.2.2
    refine wpS_bind (wpS_mono (wpS_forRange (I := fun _ c st' => c.1 = none ∧ SameS st st' ∧ Lo O key a b c.2.1 c.2.2.1 c.2.2.2.1 (y + 1))
      (Q := fun c st' => SameS st st' ∧ (c.1 = none ∧ Lo O key a b c.2.1 c.2.2.1 c.2.2.2.1 (y + 1) ∨ ∃ r, c.1 = some r ∧ GoodA O key a b r)) (fun z c st2 _ hz hI => ?_) (fun c st' hI => ⟨hI.2.1, .inl ⟨hI.1, hI.2.2⟩⟩) ⟨rfl, hI.2.1, L⟩) fun c st2 hQ => ?_)
    · extract_lets -merge _ out _ ia _ ib _ ac bc
      have L : Lo O key a b out ia ib (y + 1) := hI.2.2
      refine wpS_bind (wpS_el L.hib (wpS_bind (wpS_el (Nat.lt_of_succ_lt L.hia) ?_)))
      refine wpS_bind (LO _ (hI.2.1.kind.trans hk) _ _ (x.eb _ (mem_ge L.hib)) (x.ea _ (mem_ge (Nat.lt_of_succ_lt L.hia))) _ ?_)
      refine wpS_ite (fun q => wpS_bind (wpS_el L.hib ?_)) fun q => wpS_bind (wpS_el (Nat.lt_of_succ_lt L.hia) ?_)
      · have m := L.m.putB x L.hib fun z hz => by
          rw [ge (Nat.lt_of_succ_lt L.hia)] at hz; cases hz; exact leK.of_lt q
        refine wpS_ite (fun e => wpS_pure ⟨hI.2.1, .inr ⟨_, rfl, m.dn x (.inl (beq_iff_eq.mp e))⟩⟩) fun e => ?_
        have L' := L.nextB m e
        exact wpS_ite (fun _ => wpS_pure ⟨hI.2.1, .inl ⟨rfl, L'⟩⟩) fun _ => wpS_pure ⟨rfl, hI.2.1, L'⟩
      · have m := L.m.putA x (Nat.lt_of_succ_lt L.hia) fun z hz => by
          rw [ge L.hib] at hz; cases hz; exact leK.of_not (Bool.eq_false_iff.mpr q)
        refine wpS_ite (fun e => wpS_pure ⟨hI.2.1, .inr ⟨_, rfl, m.la x (beq_iff_eq.mp e)⟩⟩) fun e => ?_
        have L' := (L.nextA m e).mono (Nat.le_succ _)
        exact wpS_ite (fun _ => wpS_pure ⟨hI.2.1, .inl ⟨rfl, L'⟩⟩) fun _ => wpS_pure ⟨rfl, hI.2.1, L'⟩
    · extract_lets -merge rr _ out _ ia _ ib _ ac bc
      refine hQ.2.elim (fun q => ?_) fun q => ?_
      · rw [show rr = none from q.1]
        have L : Lo O key a b out ia ib (y + 1) := q.2
        refine wpS_bind (wpS_lift (wpAny_rule ⟨rfl, ?_⟩))
        refine wpS_bind (wpS_mono (wpS_forRange (I := fun z c st' => c.1 = none ∧ SameS st st' ∧ Lo O key a b c.2.1 c.2.2.1 c.2.2.2.1 (y + 1 + z))
          (Q := fun c st' => SameS st st' ∧ (c.1 = none ∧ Lo O key a b c.2.1 c.2.2.1 c.2.2.2.1 (y + 2) ∨ ∃ r, c.1 = some r ∧ GoodA O key a b r)) (fun z c st3 _ hz hI => ?_) (fun c st' hI => ⟨hI.2.1, .inl ⟨hI.1, hI.2.2.mono ?_⟩⟩) ⟨rfl, hQ.1, L⟩) fun c st4 hR => ?_)
        · extract_lets -merge _ out _ ia _ ib _ mg _ ac bc ib1 jp1
          have L : Lo O key a b out ia ib (y + 1 + z) := hI.2.2
          refine if_jp (jp := jp1 ()) fun g => ?_
          refine wpS_bind (wpS_setMG fun st5 hs5 => ?_)
          have hs := hI.2.1.trans hs5
          refine wpS_bind (wpS_el L.hib ?_)
          refine wpS_bind (gallopR LO (hs.kind.trans hk) (x.eb _ (mem_ge L.hib)) x.ea x.sa (by have := L.hia; omega) (by have := L.hia; omega) fun k hk1 klo khi => ?_)
          dsimp -zeta only
          extract_lets -merge ac' jp2
          refine if_jp2 (jp := jp2 ()) (fun out ia => Lo O key a b out ia ib (y + 1 + z) ∧ ∀ z, a.toList[ia]? = some z → leK O key (b[ib]'L.hib) z) (fun out ia L2 => ?_) (fun _ J => ?_) fun k0 => ?_
          · have m := L2.1.m.putB x L.hib L2.2
            refine wpS_bind (wpS_el L.hib ?_)
            refine wpS_ite (fun e => wpS_pure ⟨hs, .inr ⟨_, rfl, m.dn x (.inl (beq_iff_eq.mp e))⟩⟩) fun e => ?_
            have L3 := L2.1.nextB m e
            have la1 := Nat.lt_of_succ_lt L3.hia
            refine wpS_bind (wpS_el la1 ?_)
            refine wpS_bind (gallopL LO (hs.kind.trans hk) (x.ea _ (mem_ge la1)) x.eb x.sb (by have := L3.hib; omega) (by have := L3.hib; omega) fun j hj1 jlo jhi => ?_)
            dsimp -zeta only
            extract_lets -merge bc' ia1 jp3
            refine if_jp2 (jp := jp3 ()) (fun out ib => Lo O key a b out ia ib (y + 1 + z) ∧ ∀ z, b.toList[ib]? = some z → leK O key (a[ia]'la1) z) (fun out ib L4 => ?_) (fun _ J => ?_) fun j0 => ?_
            · have m := L4.1.m.putA x la1 L4.2
              refine wpS_bind (wpS_el la1 ?_)
              refine wpS_ite (fun e => wpS_pure ⟨hs, .inr ⟨_, rfl, m.la x (beq_iff_eq.mp e)⟩⟩) fun e => ?_
              have L' := L4.1.nextA m e
              exact wpS_ite (fun _ => wpS_pure ⟨hs, .inl ⟨rfl, L'.mono (by omega)⟩⟩) fun _ => wpS_pure ⟨rfl, hs, L'⟩
            · have m := L3.m.runB (k := j) x (by have := L3.hib; omega) la1 fun i z hi e => leK.of_lt (jlo i z hi e)
              refine wpS_ite (fun e => wpS_pure ⟨hs, .inr ⟨_, rfl, m.dn x (.inl (beq_iff_eq.mp e))⟩⟩) fun e => ?_
              have lt : ib + 1 + j < b.size := Nat.lt_of_le_of_ne (by have := L3.hib; omega) fun q => e (beq_iff_eq.mpr q)
              exact J _ _ ⟨⟨m, L3.hia, lt, Nat.le_trans L3.hp (by omega)⟩, fun z e => jhi z (by omega) e⟩
            · obtain rfl : j = 0 := Nat.eq_zero_of_not_pos j0
              exact ⟨L3, fun z e => jhi z (by have := L3.hib; omega) e⟩
          · have m := L.m.runA (k := k) x (by have := L.hia; omega) L.hib klo
            refine wpS_ite (fun e => wpS_pure ⟨hs, .inr ⟨_, rfl, m.la x (beq_iff_eq.mp e)⟩⟩) fun e => ?_
            refine wpS_ite (fun e => wpS_pure ⟨hs, .inr ⟨_, rfl, m.dn x (.inr (beq_iff_eq.mp e))⟩⟩) fun e' => ?_
            have n1 : ¬ ia + k + 1 = a.size := fun q => e (beq_iff_eq.mpr q)
            have n2 : ¬ ia + k = a.size := fun q => e' (beq_iff_eq.mpr q)
            have lt : k < a.size - ia ∧ ia + k + 1 < a.size := by have := L.hia; omega
            exact J _ _ ⟨⟨m, lt.2, L.hib, Nat.le_trans L.hp (by omega)⟩, fun z e => leK.of_lt (khi z lt.1 e)⟩
          · obtain rfl : k = 0 := Nat.eq_zero_of_not_pos k0
            exact ⟨L, fun z e => leK.of_lt (khi z (by have := L.hia; omega) e)⟩
        · have := L.hia
          show y + 2 ≤ y + 1 + max 0 (a.size + b.size)
          omega
        · extract_lets -merge rr _ out _ ia _ ib _ mg mg'
          refine hR.2.elim (fun q => ?_) fun q => ?_
          · rw [show rr = none from q.1]
            exact wpS_bind (wpS_setMG fun st5 hs5 => wpS_pure ⟨rfl, hR.1.trans hs5, q.2⟩)
          · obtain ⟨r, e, hg⟩ := q
            rw [show rr = some r from e]
            exact wpS_pure ⟨hR.1, r, rfl, hg⟩
      · obtain ⟨r, e, hg⟩ := q
        rw [show rr = some r from e]
        exact wpS_pure ⟨hQ.1, r, rfl, hg⟩
  · have L := hI.2.2
    have h1 := L.hp
    have h2 := L.hia
    have h3 := L.hib
    have h4 : max 0 (a.size + b.size) + 1 ≤ c.2.2.1 + c.2.2.2.1 := h1
    omega
  · obtain ⟨r, e, hg⟩ := hQ.2
    extract_lets -merge rr
    rw [show rr = some r from e]
    exact wpS_pure (h _ _ hQ.1 hg)
end
-- S4
noncomputable def mergeHiM : Array Keyed → Array Keyed → StateT SortSt Sem (Array Keyed) := sortPriv% PySem.Builtin.mergeHi
section
variable {O : KeyOrd} {key : Keyed → O.α}
structure Mh (O : KeyOrd) (key : Keyed → O.α) (al bl ro : List Keyed) (na nb : Nat) : Prop where
  ha : na ≤ al.length
  hb : nb ≤ bl.length
  srt : Srt O key ro
  perm : ro.Perm (al.drop na ++ bl.drop nb)
  le : ∀ o ∈ ro, ∀ r, r ∈ al.take na ∨ r ∈ bl.take nb → leK O key r o
theorem drop_less (l : List Keyed) {i k : Nat} (h : i + k ≤ l.length) : l.drop i = (l.take (i + k)).drop i ++ l.drop (i + k) := by
  have : l.drop i = (l.take (i + k) ++ l.drop (i + k)).drop i := by rw [List.take_append_drop]
  rw [List.drop_append_of_le_length (by rw [List.length_take]; omega)] at this
  exact this
theorem take_sub {l : List Keyed} {i k : Nat} {x : Keyed} (h : x ∈ l.take i) : x ∈ l.take (i + k) := by rw [take_more]; exact List.mem_append_left _ h
theorem mem_take_get {l : List Keyed} {i : Nat} {x : Keyed} (h : x ∈ l.take i) : ∃ j, j < i ∧ l[j]? = some x := by
  obtain ⟨j, hj⟩ := List.mem_iff_getElem?.mp h
  rw [List.getElem?_take] at hj
  split at hj
  · exact ⟨j, by assumption, hj⟩
  · cases hj
theorem mem_tail_get {l : List Keyed} {i k : Nat} {x : Keyed} (h : x ∈ (l.take (i + k)).drop i) : ∃ j, i ≤ j ∧ j < i + k ∧ l[j]? = some x := by
  obtain ⟨j, hj, e⟩ := mem_drop_get h
  rw [List.getElem?_take] at e
  split at e
  · exact ⟨j, hj, by assumption, e⟩
  · cases e
theorem Mh.stepA {al bl ro : List Keyed} {na nb k : Nat} (m : Mh O key al bl ro (na + k) nb) (sa : Srt O key al) (h : ∀ x ∈ (al.take (na + k)).drop na, ∀ r ∈ bl.take nb, leK O key r x) :
    Mh O key al bl ((al.take (na + k)).drop na ++ ro) na nb where
  ha := by have := m.ha; omega
  hb := m.hb
  srt := ((sa.take _).drop _).append m.srt fun a ha b hb => m.le b hb a (.inl (List.mem_of_mem_drop ha))
  perm := by rw [drop_less al m.ha, List.append_assoc]; exact List.Perm.append_left _ m.perm
  le := fun o ho r hr => by
    rcases List.mem_append.mp ho with h1 | h1
    · rcases hr with q | q
      · obtain ⟨i, hi, e⟩ := mem_take_get q
        obtain ⟨j, hj, _, e'⟩ := mem_tail_get h1
        exact sa.get (by omega) e e'
      · exact h o h1 r q
    · exact m.le o h1 r (hr.imp take_sub id)
theorem Mh.stepB {al bl ro : List Keyed} {na nb k : Nat} (m : Mh O key al bl ro na (nb + k)) (sb : Srt O key bl) (h : ∀ x ∈ (bl.take (nb + k)).drop nb, ∀ r ∈ al.take na, leK O key r x) :
    Mh O key al bl ((bl.take (nb + k)).drop nb ++ ro) na nb where
  ha := m.ha
  hb := by have := m.hb; omega
  srt := ((sb.take _).drop _).append m.srt fun a ha b hb => m.le b hb a (.inr (List.mem_of_mem_drop ha))
  perm := by
    rw [drop_less bl m.hb]
    refine (List.Perm.append_left _ m.perm).trans ?_
    rw [← List.append_assoc, ← List.append_assoc]
    exact List.perm_append_comm.append_right _
  le := fun o ho r hr => by
    rcases List.mem_append.mp ho with h1 | h1
    · rcases hr with q | q
      · exact h o h1 r q
      · obtain ⟨i, hi, e⟩ := mem_take_get q
        obtain ⟨j, hj, _, e'⟩ := mem_tail_get h1
        exact sb.get (by omega) e e'
    · exact m.le o h1 r (hr.imp id take_sub)
theorem tail_one {l : List Keyed} {i : Nat} (h : i < l.length) : (l.take (i + 1)).drop i = [l[i]] := by
  rw [List.drop_take, Nat.add_sub_cancel_left, drop_head h]
theorem Mh.moveA {al bl ro : List Keyed} {n nb i : Nat} (m : Mh O key al bl ro n nb) (sa : Srt O key al) (hi : i ≤ n) (h : ∀ x ∈ (al.take n).drop i, ∀ r ∈ bl.take nb, leK O key r x) :
    Mh O key al bl ((al.take n).drop i ++ ro) i nb := by
  obtain ⟨k, rfl⟩ : ∃ k, n = i + k := ⟨n - i, by omega⟩
  exact m.stepA sa h
theorem Mh.moveB {al bl ro : List Keyed} {na n i : Nat} (m : Mh O key al bl ro na n) (sb : Srt O key bl) (hi : i ≤ n) (h : ∀ x ∈ (bl.take n).drop i, ∀ r ∈ al.take na, leK O key r x) :
    Mh O key al bl ((bl.take n).drop i ++ ro) na i := by
  obtain ⟨k, rfl⟩ : ∃ k, n = i + k := ⟨n - i, by omega⟩
  exact m.stepB sb h
theorem tail_pred {l : List Keyed} {n : Nat} (h0 : 0 < n) (h : n - 1 < l.length) : (l.take n).drop (n - 1) = [l[n - 1]] := by
  rw [List.drop_take, show n - (n - 1) = 1 by omega, drop_head h]
theorem mem_tail_get' {l : List Keyed} {i n : Nat} {x : Keyed} (h : x ∈ (l.take n).drop i) : ∃ j, i ≤ j ∧ j < n ∧ l[j]? = some x := by
  obtain ⟨j, hj, e⟩ := mem_drop_get h
  rw [List.getElem?_take] at e
  split at e
  · exact ⟨j, hj, by assumption, e⟩
  · cases e
theorem perm4 (a₁ a₂ b₁ b₂ : List Keyed) : (a₁ ++ b₁ ++ (a₂ ++ b₂)).Perm ((a₁ ++ a₂) ++ (b₁ ++ b₂)) := by
  rw [List.append_assoc, List.append_assoc]
  refine List.Perm.append_left _ ?_
  rw [← List.append_assoc, ← List.append_assoc]
  exact List.perm_append_comm.append_right _
theorem Mh.toGood {al bl ro : List Keyed} {na nb : Nat} (m : Mh O key al bl ro na nb) (sa : Srt O key al) (sb : Srt O key bl) (h : na = 0 ∨ nb = 0) : Good O key al bl (al.take na ++ bl.take nb ++ ro) := by
  refine ⟨?_, ?_⟩
  · refine (List.Perm.append_left _ m.perm).trans ?_
    have e := perm4 (al.take na) (al.drop na) (bl.take nb) (bl.drop nb)
    rw [List.take_append_drop, List.take_append_drop] at e
    exact e
  · refine ((sa.take na).append (sb.take nb) fun x hx y hy => ?_).append m.srt fun x hx y hy => m.le y hy x (List.mem_append.mp hx)
    rcases h with h | h
    · rw [h, List.take_zero] at hx; cases hx
    · rw [h, List.take_zero] at hy; cases hy
theorem Mh.toGood' {al bl ro : List Keyed} {na nb : Nat} (m : Mh O key al bl ro na nb) (sa : Srt O key al) (sb : Srt O key bl) (h : nb = 1) (hf : ∀ x, bl[0]? = some x → ∀ y ∈ al, leK O key x y) : Good O key al bl (bl.take nb ++ al.take na ++ ro) := by
  refine ⟨?_, ?_⟩
  · refine (List.Perm.append_left _ m.perm).trans ?_
    have e := perm4 (al.take na) (al.drop na) (bl.take nb) (bl.drop nb)
    rw [List.take_append_drop, List.take_append_drop] at e
    exact (List.perm_append_comm.append_right _).trans e
  · refine ((sb.take nb).append (sa.take na) fun x hx y hy => ?_).append m.srt fun x hx y hy => m.le y hy x (List.mem_append.mp hx).symm
    obtain ⟨j, hj, e⟩ := mem_take_get hx
    have : j = 0 := by omega
    subst this
    exact hf x e y (List.mem_of_mem_take hy)
theorem ext_take (xs : Array Keyed) (i : Nat) : (xs.extract 0 i).toList = xs.toList.take i := by
  rw [Array.toList_extract, List.extract_eq_take_drop]; simp
theorem ext_tail (xs : Array Keyed) (i k : Nat) : (xs.extract i (i + k)).toList = (xs.toList.take (i + k)).drop i := by
  rw [Array.toList_extract, List.extract_eq_take_drop, ← List.drop_take]
theorem ext_tail' (xs : Array Keyed) (i n : Nat) : (xs.extract i n).toList = (xs.toList.take n).drop i := by
  rw [Array.toList_extract, List.extract_eq_take_drop, ← List.drop_take]
end
section
variable {prog : Program} {w : World} {A : Around} {E : Value → Shared → Prop} {s : Shared} {O : KeyOrd} {key : Keyed → O.α} {el : Keyed → Prop} {κ : SortKind}
theorem rev_push (out : Array Keyed) (x : Keyed) : (out.push x).reverse.toList = [x] ++ out.reverse.toList := by simp
theorem rev_app (out c : Array Keyed) : (out ++ c.reverse).reverse.toList = c.toList ++ out.reverse.toList := by simp
noncomputable abbrev MhA (O : KeyOrd) (key : Keyed → O.α) (a b out : Array Keyed) (na nb : Nat) : Prop := Mh O key a.toList b.toList out.reverse.toList na nb
structure Hi (O : KeyOrd) (key : Keyed → O.α) (a b out : Array Keyed) (na nb n : Nat) : Prop where
  m : MhA O key a b out na nb
  hna : 0 < na
  hnb : 1 < nb
  hp : na + nb + n ≤ a.size + b.size
section
variable {a b out : Array Keyed} {na nb n i k : Nat}
theorem MhA.la (m : MhA O key a b out na nb) : na ≤ a.size := by rw [← Array.length_toList]; exact m.ha
theorem MhA.lb (m : MhA O key a b out na nb) : nb ≤ b.size := by rw [← Array.length_toList]; exact m.hb
theorem MhA.dn (m : MhA O key a b out na nb) (x : Ab O key el a b) (h : na = 0 ∨ nb = 0) : GoodA O key a b (a.extract 0 na ++ b.extract 0 nb ++ out.reverse) := by
  have := m.toGood x.sa x.sb h
  unfold GoodA
  rw [Array.toList_append, Array.toList_append, ext_take, ext_take]; exact this
theorem MhA.fb (m : MhA O key a b out na nb) (x : Ab O key el a b) (hf : ∀ x, b.toList[0]? = some x → ∀ y ∈ a.toList, leK O key x y) (h : nb = 1) : GoodA O key a b (b.extract 0 nb ++ a.extract 0 na ++ out.reverse) := by
  have := m.toGood' x.sa x.sb h hf
  unfold GoodA
  rw [Array.toList_append, Array.toList_append, ext_take, ext_take]; exact this
theorem lt_pred (h0 : 0 < na) (h : na ≤ n) : na - 1 < n := Nat.lt_of_lt_of_le (Nat.sub_one_lt_of_lt h0) h
theorem MhA.putA (m : MhA O key a b out na nb) (x : Ab O key el a b) (h0 : 0 < na) (hb : 0 < nb) (h : ∀ z, b.toList[nb - 1]? = some z → leK O key z (a[na - 1]'(lt_pred h0 m.la))) : MhA O key a b (out.push (a[na - 1]'(lt_pred h0 m.la))) (na - 1) nb := by
  have hl : na - 1 < a.toList.length := lt_pred h0 m.ha
  have := m.moveA (i := na - 1) x.sa (Nat.sub_le _ _) fun z hz r hr => by
    rw [tail_pred h0 hl] at hz
    obtain rfl := List.mem_singleton.mp hz
    obtain ⟨j, hj, e⟩ := mem_take_get hr
    have hb' : nb - 1 < b.toList.length := lt_pred hb m.hb
    exact (x.sb.get (Nat.le_sub_one_of_lt hj) e (List.getElem?_eq_getElem hb')).trans (h _ (List.getElem?_eq_getElem hb'))
  rw [tail_pred h0 hl, ← rev_push] at this
  exact this
theorem MhA.putB (m : MhA O key a b out na nb) (x : Ab O key el a b) (h0 : 0 < nb) (ha : 0 < na) (h : ∀ z, a.toList[na - 1]? = some z → leK O key z (b[nb - 1]'(lt_pred h0 m.lb))) : MhA O key a b (out.push (b[nb - 1]'(lt_pred h0 m.lb))) na (nb - 1) := by
  have hl : nb - 1 < b.toList.length := lt_pred h0 m.hb
  have := m.moveB (i := nb - 1) x.sb (Nat.sub_le _ _) fun z hz r hr => by
    rw [tail_pred h0 hl] at hz
    obtain rfl := List.mem_singleton.mp hz
    obtain ⟨j, hj, e⟩ := mem_take_get hr
    have ha' : na - 1 < a.toList.length := lt_pred ha m.ha
    exact (x.sa.get (Nat.le_sub_one_of_lt hj) e (List.getElem?_eq_getElem ha')).trans (h _ (List.getElem?_eq_getElem ha'))
  rw [tail_pred h0 hl, ← rev_push] at this
  exact this
theorem MhA.runA (m : MhA O key a b out na nb) (x : Ab O key el a b) (hi : i ≤ na) (hb : 0 < nb) (h : ∀ j z, i ≤ j → j < na → a.toList[j]? = some z → leK O key (b[nb - 1]'(lt_pred hb m.lb)) z) : MhA O key a b (out ++ (a.extract i na).reverse) i nb := by
  have := m.moveA (i := i) x.sa hi fun z hz r hr => by
    obtain ⟨j, h1, h2, e⟩ := mem_tail_get' hz
    obtain ⟨t, ht, e'⟩ := mem_take_get hr
    exact (x.sb.get (Nat.le_sub_one_of_lt ht) e' (ge (lt_pred hb m.lb))).trans (h j z h1 h2 e)
  unfold MhA
  rw [rev_app, ext_tail']; exact this
theorem MhA.runB (m : MhA O key a b out na nb) (x : Ab O key el a b) (hi : i ≤ nb) (ha : 0 < na) (h : ∀ j z, i ≤ j → j < nb → b.toList[j]? = some z → leK O key (a[na - 1]'(lt_pred ha m.la)) z) : MhA O key a b (out ++ (b.extract i nb).reverse) na i := by
  have := m.moveB (i := i) x.sb hi fun z hz r hr => by
    obtain ⟨j, h1, h2, e⟩ := mem_tail_get' hz
    obtain ⟨t, ht, e'⟩ := mem_take_get hr
    exact (x.sa.get (Nat.le_sub_one_of_lt ht) e' (ge (lt_pred ha m.la))).trans (h j z h1 h2 e)
  unfold MhA
  rw [rev_app, ext_tail']; exact this
theorem Hi.nextA (L : Hi O key a b out na nb n) {out' : Array Keyed} (m : MhA O key a b out' (na - 1) nb) (e : ¬ (na - 1 == 0) = true) : Hi O key a b out' (na - 1) nb (n + 1) :=
  ⟨m, Nat.pos_of_ne_zero fun q => e (beq_iff_eq.mpr q), L.hnb, by have := L.hp; have := L.hna; omega⟩
theorem Hi.nextB (L : Hi O key a b out na nb n) {out' : Array Keyed} (m : MhA O key a b out' na (nb - 1)) (e : ¬ (nb - 1 == 1) = true) : Hi O key a b out' na (nb - 1) n :=
  ⟨m, L.hna, Nat.lt_of_le_of_ne (Nat.le_sub_one_of_lt L.hnb) fun q => e (beq_iff_eq.mpr q.symm), Nat.le_trans (Nat.add_le_add_right (Nat.add_le_add_left (Nat.sub_le _ _) _) _) L.hp⟩
theorem Hi.mono (L : Hi O key a b out na nb n) {n' : Nat} (h : n' ≤ n) : Hi O key a b out na nb n' := ⟨L.m, L.hna, L.hnb, Nat.le_trans (Nat.add_le_add_left h _) L.hp⟩
theorem Hi.la (L : Hi O key a b out na nb n) : na - 1 < a.size := lt_pred L.hna L.m.la
theorem Hi.lb (L : Hi O key a b out na nb n) : nb - 1 < b.size := lt_pred (Nat.lt_of_succ_lt L.hnb) L.m.lb
end
theorem backR {k : Keyed} {arr : Array Keyed} {n : Nat} {st : SortSt} {Q : Option Nat → SortSt → Prop} (LO : LtOk prog w A E s O key el κ) (hk : PyProof.Rows.kindOf st = κ) (ek : el k) (ea : ∀ x ∈ arr.toList, el x) (sr : Srt O key arr.toList) (hn : n ≤ arr.size) (h0 : 0 < n)
    (h : ∀ j, j ≤ n → (∀ z, 0 < j → arr.toList[j - 1]? = some z → leK O key z k) → (∀ i z, j ≤ i → i < n → arr.toList[i]? = some z → leK O key k z) → Q (some j) st) : wpS (model prog w) A E s (gallopM false k arr 0 n (n - 1)) Q st :=
  gallop_ok LO hk ek ea ((sr.drop 0).take n) (by rw [Array.length_toList, Nat.zero_add]; exact hn) (Nat.sub_one_lt_of_lt h0) fun j hj lo hi =>
    h j hj (fun z a e => leK.of_not (by simpa using lo (j - 1) z (Nat.sub_one_lt_of_lt a) (by rw [Nat.zero_add]; exact e))) fun i z a b e => leK.of_lt (by simpa using hi i z a b (by rw [Nat.zero_add]; exact e))
theorem backL {k : Keyed} {arr : Array Keyed} {n : Nat} {st : SortSt} {Q : Option Nat → SortSt → Prop} (LO : LtOk prog w A E s O key el κ) (hk : PyProof.Rows.kindOf st = κ) (ek : el k) (ea : ∀ x ∈ arr.toList, el x) (sr : Srt O key arr.toList) (hn : n ≤ arr.size) (h0 : 0 < n)
    (h : ∀ j, j ≤ n → (∀ z, 0 < j → arr.toList[j - 1]? = some z → leK O key z k) → (∀ i z, j ≤ i → i < n → arr.toList[i]? = some z → leK O key k z) → Q (some j) st) : wpS (model prog w) A E s (gallopM true k arr 0 n (n - 1)) Q st :=
  gallop_ok LO hk ek ea ((sr.drop 0).take n) (by rw [Array.length_toList, Nat.zero_add]; exact hn) (Nat.sub_one_lt_of_lt h0) fun j hj lo hi =>
    h j hj (fun z a e => leK.of_lt (by simpa using lo (j - 1) z (Nat.sub_one_lt_of_lt a) (by rw [Nat.zero_add]; exact e))) fun i z a b e => leK.of_not (by simpa using hi i z a b (by rw [Nat.zero_add]; exact e))
theorem wpS_mergeHi {a b : Array Keyed} {st : SortSt} {Q : Array Keyed → SortSt → Prop} (LO : LtOk prog w A E s O key el κ) (hk : PyProof.Rows.kindOf st = κ) (x : Ab O key el a b) (ha0 : 0 < a.size) (hb0 : 0 < b.size) (hf : ∀ x, b.toList[0]? = some x → ∀ y ∈ a.toList, leK O key x y)
    (h : ∀ r st', SameS st st' → GoodA O key a b r → Q r st') : wpS (model prog w) A E s (mergeHiM a b) Q st := by
  unfold mergeHiM
  refine wpS_bind (wpS_lift (wpAny_rule ⟨rfl, ?_⟩))
  extract_lets -merge total dn fb n0 n1
  have mm : MhA O key a b #[] a.size b.size := ⟨by rw [Array.length_toList]; exact Nat.le_refl _, by rw [Array.length_toList]; exact Nat.le_refl _, List.Pairwise.nil, by rw [List.drop_of_length_le (by simp), List.drop_of_length_le (by simp)]; exact .refl _, fun o ho => nomatch ho⟩
  have la : a.size - 1 < a.size := Nat.sub_one_lt_of_lt ha0
  refine wpS_bind (wpS_el la ?_)
  have m0 : MhA O key a b #[a[a.size - 1]] (a.size - 1) b.size := mm.putA x ha0 hb0 fun z hz => x.hl _ (by rw [List.getLast?_eq_getElem?, Array.length_toList]; exact ge la) z (List.mem_of_getElem? hz)
  refine wpS_ite (fun e => wpS_pure (h _ _ (.refl _) (m0.dn x (.inl (beq_iff_eq.mp e))))) fun e1 => ?_
  refine wpS_ite (fun e => wpS_pure (h _ _ (.refl _) (m0.fb x hf (beq_iff_eq.mp e)))) fun e2 => ?_
  have l0 : Hi O key a b #[a[a.size - 1]] (a.size - 1) b.size 1 := ⟨m0, Nat.pos_of_ne_zero fun q => e1 (beq_iff_eq.mpr q), Nat.lt_of_le_of_ne hb0 fun q => e2 (beq_iff_eq.mpr q.symm), by omega⟩
  refine wpS_bind (wpS_get ?_)
  refine wpS_bind (wpS_mono (wpS_forRange (I := fun y c st' => c.1 = none ∧ SameS st st' ∧ Hi O key a b c.2.2.2.1 c.2.1 c.2.2.1 (y + 1))
    (Q := fun c st' => SameS st st' ∧ ∃ r, c.1 = some r ∧ GoodA O key a b r) (fun y c st1 _ hy hI => ?_) (fun c st' hI => ?_) ⟨rfl, .refl _, l0⟩) fun c st' hQ => ?_)
  · extract_lets -merge _ na _ nb _ out mg mg'
    have L : Hi O key a b out na nb (y + 1) := hI.2.2
    refine wpS_bind (wpS_mono (wpS_forRange (I := fun _ c st' => c.1 = none ∧ SameS st st' ∧ Hi O key a b c.2.2.2.1 c.2.1 c.2.2.1 (y + 1))
      (Q := fun c st' => SameS st st' ∧ (c.1 = none ∧ Hi O key a b c.2.2.2.1 c.2.1 c.2.2.1 (y + 1) ∨ ∃ r, c.1 = some r ∧ GoodA O key a b r)) (fun z c st2 _ hz hI => ?_) (fun c st' hI => ⟨hI.2.1, .inl ⟨hI.1, hI.2.2⟩⟩) ⟨rfl, hI.2.1, L⟩) fun c st2 hQ => ?_)
    · extract_lets -merge _ na _ nb _ out _ ac bc
      have L : Hi O key a b out na nb (y + 1) := hI.2.2
      refine wpS_bind (wpS_el L.lb (wpS_bind (wpS_el L.la ?_)))
      refine wpS_bind (LO _ (hI.2.1.kind.trans hk) _ _ (x.eb _ (mem_ge L.lb)) (x.ea _ (mem_ge L.la)) _ ?_)
      refine wpS_ite (fun q => wpS_bind (wpS_el L.la ?_)) fun q => wpS_bind (wpS_el L.lb ?_)
      · have m := L.m.putA x L.hna (Nat.lt_of_succ_lt L.hnb) fun z hz => by
          rw [ge L.lb] at hz; cases hz; exact leK.of_lt q
        refine wpS_ite (fun e => wpS_pure ⟨hI.2.1, .inr ⟨_, rfl, m.dn x (.inl (beq_iff_eq.mp e))⟩⟩) fun e => ?_
        have L' := (L.nextA m e).mono (Nat.le_succ _)
        exact wpS_ite (fun _ => wpS_pure ⟨hI.2.1, .inl ⟨rfl, L'⟩⟩) fun _ => wpS_pure ⟨rfl, hI.2.1, L'⟩
      · have m := L.m.putB x (Nat.lt_of_succ_lt L.hnb) L.hna fun z hz => by
          rw [ge L.la] at hz; cases hz; exact leK.of_not (Bool.eq_false_iff.mpr q)
        refine wpS_ite (fun e => wpS_pure ⟨hI.2.1, .inr ⟨_, rfl, m.fb x hf (beq_iff_eq.mp e)⟩⟩) fun e => ?_
        have L' := L.nextB m e
        exact wpS_ite (fun _ => wpS_pure ⟨hI.2.1, .inl ⟨rfl, L'⟩⟩) fun _ => wpS_pure ⟨rfl, hI.2.1, L'⟩
    · extract_lets -merge rr _ na _ nb _ out _ ac bc
      refine hQ.2.elim (fun q => ?_) fun q => ?_
      · rw [show rr = none from q.1]
        have L : Hi O key a b out na nb (y + 1) := q.2
        refine wpS_bind (wpS_lift (wpAny_rule ⟨rfl, ?_⟩))
        refine wpS_bind (wpS_mono (wpS_forRange (I := fun z c st' => c.1 = none ∧ SameS st st' ∧ Hi O key a b c.2.2.2.1 c.2.1 c.2.2.1 (y + 1 + z))
          (Q := fun c st' => SameS st st' ∧ (c.1 = none ∧ Hi O key a b c.2.2.2.1 c.2.1 c.2.2.1 (y + 2) ∨ ∃ r, c.1 = some r ∧ GoodA O key a b r)) (fun z c st3 _ hz hI => ?_) (fun c st' hI => ⟨hI.2.1, .inl ⟨hI.1, hI.2.2.mono ?_⟩⟩) ⟨rfl, hQ.1, L⟩) fun c st4 hR => ?_)
        · extract_lets -merge _ na _ nb _ out _ mg _ ac bc nb1 jp1
          have L : Hi O key a b out na nb (y + 1 + z) := hI.2.2
          have nb0 := Nat.lt_of_succ_lt L.hnb
          refine if_jp (jp := jp1 ()) fun g => ?_
          refine wpS_bind (wpS_setMG fun st5 hs5 => ?_)
          have hs := hI.2.1.trans hs5
          refine wpS_bind (wpS_el L.lb ?_)
          refine wpS_bind (backR LO (hs.kind.trans hk) (x.eb _ (mem_ge L.lb)) x.ea x.sa L.m.la L.hna fun k hk1 klo khi => ?_)
          dsimp -zeta only
          extract_lets -merge k' ac' jp2
          refine if_jp2 (jp := jp2 ()) (fun na out => Hi O key a b out na nb (y + 1 + z) ∧ ∀ z, a.toList[na - 1]? = some z → leK O key z (b[nb - 1]'L.lb)) (fun na out L2 => ?_) (fun _ J => ?_) fun k0 => ?_
          · have m := L2.1.m.putB x nb0 L2.1.hna L2.2
            refine wpS_bind (wpS_el L2.1.lb ?_)
            refine wpS_ite (fun e => wpS_pure ⟨hs, .inr ⟨_, rfl, m.fb x hf (beq_iff_eq.mp e)⟩⟩) fun e => ?_
            have L3 := L2.1.nextB m e
            refine wpS_bind (wpS_el L3.la ?_)
            refine wpS_bind (backL LO (hs.kind.trans hk) (x.ea _ (mem_ge L3.la)) x.eb x.sb L3.m.lb (Nat.lt_of_succ_lt L3.hnb) fun j hj1 jlo jhi => ?_)
            dsimp -zeta only
            extract_lets -merge j' bc' na1 jp3
            refine if_jp2 (jp := jp3 ()) (fun nb out => Hi O key a b out na nb (y + 1 + z) ∧ ∀ z, b.toList[nb - 1]? = some z → leK O key z (a[na - 1]'L3.la)) (fun nb out L4 => ?_) (fun _ J => ?_) fun j0 => ?_
            · have m := L4.1.m.putA x L4.1.hna (Nat.lt_of_succ_lt L4.1.hnb) L4.2
              refine wpS_bind (wpS_el L4.1.la ?_)
              refine wpS_ite (fun e => wpS_pure ⟨hs, .inr ⟨_, rfl, m.dn x (.inl (beq_iff_eq.mp e))⟩⟩) fun e => ?_
              have L' := L4.1.nextA m e
              exact wpS_ite (fun _ => wpS_pure ⟨hs, .inl ⟨rfl, L'.mono (by omega)⟩⟩) fun _ => wpS_pure ⟨rfl, hs, L'⟩
            · have m := L3.m.runB (i := j) x hj1 L3.hna jhi
              refine wpS_ite (fun e => wpS_pure ⟨hs, .inr ⟨_, rfl, m.fb x hf (beq_iff_eq.mp e)⟩⟩) fun e => ?_
              refine wpS_ite (fun e => wpS_pure ⟨hs, .inr ⟨_, rfl, m.dn x (.inr (beq_iff_eq.mp e))⟩⟩) fun e' => ?_
              have n1 : ¬ j = 1 := fun q => e (beq_iff_eq.mpr q)
              have n2 : ¬ j = 0 := fun q => e' (beq_iff_eq.mpr q)
              exact J _ _ ⟨⟨m, L3.hna, by omega, Nat.le_trans (Nat.add_le_add_right (Nat.add_le_add_left hj1 _) _) L3.hp⟩, fun z e => jlo z (Nat.pos_of_ne_zero n2) e⟩
            · have ej : j = nb - 1 := Nat.le_antisymm hj1 (Nat.le_of_sub_eq_zero (Nat.eq_zero_of_not_pos j0))
              subst ej
              exact ⟨L3, fun z e => jlo z (Nat.lt_of_succ_lt L3.hnb) e⟩
          · have m := L.m.runA (i := k) x hk1 nb0 khi
            refine wpS_ite (fun e => wpS_pure ⟨hs, .inr ⟨_, rfl, m.dn x (.inl (beq_iff_eq.mp e))⟩⟩) fun e => ?_
            have n1 : ¬ k = 0 := fun q => e (beq_iff_eq.mpr q)
            exact J _ _ ⟨⟨m, Nat.pos_of_ne_zero n1, L.hnb, Nat.le_trans (Nat.add_le_add_right (Nat.add_le_add_right hk1 _) _) L.hp⟩, fun z e => klo z (Nat.pos_of_ne_zero n1) e⟩
          · have ek : k = na := Nat.le_antisymm hk1 (Nat.le_of_sub_eq_zero (Nat.eq_zero_of_not_pos k0))
            subst ek
            exact ⟨L, fun z e => klo z L.hna e⟩
        · have := L.la
          show y + 2 ≤ y + 1 + max 0 (a.size + b.size)
          omega
        · extract_lets -merge rr _ na _ nb _ out _ mg mg'
          refine hR.2.elim (fun q => ?_) fun q => ?_
          · rw [show rr = none from q.1]
            exact wpS_bind (wpS_setMG fun st5 hs5 => wpS_pure ⟨rfl, hR.1.trans hs5, q.2⟩)
          · obtain ⟨r, e, hg⟩ := q
            rw [show rr = some r from e]
            exact wpS_pure ⟨hR.1, r, rfl, hg⟩
      · obtain ⟨r, e, hg⟩ := q
        rw [show rr = some r from e]
        exact wpS_pure ⟨hQ.1, r, rfl, hg⟩
  · have L := hI.2.2
    have h1 := L.hp
    have h2 := L.hna
    have h3 : c.2.1 + c.2.2.1 + (max 0 (a.size + b.size) + 1) ≤ a.size + b.size := h1
    omega
  · obtain ⟨r, e, hg⟩ := hQ.2
    extract_lets -merge rr
    rw [show rr = some r from e]
    exact wpS_pure (h _ _ hQ.1 hg)
end
-- S5
noncomputable def countRunM : Nat → Nat → StateT SortSt Sem (Option Nat) := sortPriv% PySem.Builtin.countRun
noncomputable def G0 (xs : Array Keyed) (i : Nat) : Keyed := (xs[i]?).getD (Value.none, Value.none)
section
variable {O : KeyOrd} {key : Keyed → O.α}
noncomputable def KG (O : KeyOrd) (key : Keyed → O.α) (xs : Array Keyed) (i : Nat) : O.α := key (G0 xs i)
noncomputable def RunK (O : KeyOrd) (R : O.α → O.α → Prop) (key : Keyed → O.α) (xs : Array Keyed) (lo hi : Nat) : Prop := ∀ i j, lo ≤ i → i ≤ j → j < hi → R (KG O key xs i) (KG O key xs j)
noncomputable abbrev Asc (O : KeyOrd) (key : Keyed → O.α) (xs : Array Keyed) (lo hi : Nat) : Prop := RunK O O.kle key xs lo hi
noncomputable abbrev Dsc (O : KeyOrd) (key : Keyed → O.α) (xs : Array Keyed) (lo hi : Nat) : Prop := RunK O (fun a b => O.kle b a) key xs lo hi
theorem KG_mirror {xs : Array Keyed} {i j : Nat} (hj : j ≤ xs.size) (k : Nat) : KG O key (mirror xs i j ((j - i) / 2)) k = if i ≤ k ∧ k < j then KG O key xs (i + j - 1 - k) else KG O key xs k := by
  unfold KG G0
  rw [getElem?_mirror_all hj]
  split <;> rfl
theorem KG_mirror_eq {xs : Array Keyed} {i j : Nat} (hj : j ≤ xs.size) (h : ∀ k, i ≤ k → k < j → KG O key xs k = KG O key xs (j - 1)) (k : Nat) : KG O key (mirror xs i j ((j - i) / 2)) k = KG O key xs k := by
  rw [KG_mirror hj]
  split
  · rw [h _ (by omega) (by omega), h k (by omega) (by omega)]
  · rfl
theorem RunK.one {R : O.α → O.α → Prop} (rf : ∀ a, R a a) {xs : Array Keyed} {lo : Nat} : RunK O R key xs lo (lo + 1) := fun i j h1 h2 h3 => by
  obtain rfl := Nat.le_antisymm h2 (Nat.le_trans (Nat.le_of_lt_succ h3) h1)
  exact rf _
theorem RunK.more {R : O.α → O.α → Prop} (rf : ∀ a, R a a) (tr : ∀ {a b c}, R a b → R b c → R a c) {xs : Array Keyed} {lo hi : Nat} (h : RunK O R key xs lo hi) (h1 : lo < hi) (hx : R (KG O key xs (hi - 1)) (KG O key xs hi)) : RunK O R key xs lo (hi + 1) := fun i j a b c => by
  rcases Nat.lt_or_ge j hi with q | q
  · exact h i j a b q
  · obtain rfl := Nat.le_antisymm (Nat.le_of_lt_succ c) q
    rcases Nat.lt_or_ge i j with z | z
    · exact tr (h i (j - 1) a (Nat.le_sub_one_of_lt z) (Nat.sub_one_lt_of_lt z)) hx
    · obtain rfl := Nat.le_antisymm b z
      exact rf _
theorem Asc.more {xs : Array Keyed} {lo hi : Nat} (h : Asc O key xs lo hi) (h1 : lo < hi) (hx : O.kle (KG O key xs (hi - 1)) (KG O key xs hi)) : Asc O key xs lo (hi + 1) := RunK.more (R := O.kle) KeyOrd.kle_refl KeyOrd.kle_trans h h1 hx
theorem Dsc.more {xs : Array Keyed} {lo hi : Nat} (h : Dsc O key xs lo hi) (h1 : lo < hi) (hx : O.kle (KG O key xs hi) (KG O key xs (hi - 1))) : Dsc O key xs lo (hi + 1) := RunK.more (R := fun a b => O.kle b a) (fun a => KeyOrd.kle_refl a) (fun x y => KeyOrd.kle_trans y x) h h1 hx
theorem RunK.congr {R : O.α → O.α → Prop} {xs ys : Array Keyed} {lo hi : Nat} (h : RunK O R key xs lo hi) (e : ∀ k, KG O key ys k = KG O key xs k) : RunK O R key ys lo hi := fun i j a b c => by rw [e, e]; exact h i j a b c
theorem Dsc.mirror {xs : Array Keyed} {lo hi : Nat} (h : Dsc O key xs lo hi) (hs : hi ≤ xs.size) : Asc O key (mirror xs lo hi ((hi - lo) / 2)) lo hi := fun i j a b c => by
  rw [KG_mirror hs, KG_mirror hs, if_pos ⟨a, Nat.lt_of_le_of_lt b c⟩, if_pos ⟨Nat.le_trans a b, c⟩]
  exact h _ _ (by omega) (by omega) (by omega)
noncomputable def FlatK (O : KeyOrd) (key : Keyed → O.α) (xs : Array Keyed) (lo m q : Nat) : Prop := q + 1 ≤ m ∧ ∀ k, lo + m - (q + 1) ≤ k → k < lo + m → KG O key xs k = KG O key xs (lo + m - 1)
theorem FlatK.zero {xs : Array Keyed} {lo m : Nat} (h : 1 ≤ m) : FlatK O key xs lo m 0 := ⟨h, fun k a b => by rw [show k = lo + m - 1 by omega]⟩
theorem FlatK.more {xs : Array Keyed} {lo m q : Nat} (f : FlatK O key xs lo m q) (e : KG O key xs (lo + m) = KG O key xs (lo + m - 1)) : FlatK O key xs lo (m + 1) (q + 1) := ⟨Nat.succ_le_succ f.1, fun k a b => by
  show KG O key xs k = KG O key xs (lo + m)
  rcases Nat.lt_or_ge k (lo + m) with z | z
  · rw [f.2 k (by omega) z, e]
  · rw [Nat.le_antisymm (Nat.le_of_lt_succ b) z]; rfl⟩
structure Kp (lo hi : Nat) (st st' : SortSt) : Prop where
  kind : PyProof.Rows.kindOf st' = PyProof.Rows.kindOf st
  pend : pendingOf st' = pendingOf st
  failed : failedOf st' = failedOf st
  perm : (arrOf st').Perm (arrOf st)
  out : ∀ k, k < lo ∨ hi ≤ k → (arrOf st')[k]? = (arrOf st)[k]?
theorem Kp.refl {lo hi : Nat} (st : SortSt) : Kp lo hi st st := ⟨rfl, rfl, rfl, .refl _, fun _ _ => rfl⟩
theorem Kp.trans {lo hi : Nat} {a b c : SortSt} (x : Kp lo hi a b) (y : Kp lo hi b c) : Kp lo hi a c :=
  ⟨y.kind.trans x.kind, y.pend.trans x.pend, y.failed.trans x.failed, y.perm.trans x.perm, fun k h => (y.out k h).trans (x.out k h)⟩
theorem Kp.size {lo hi : Nat} {a b : SortSt} (x : Kp lo hi a b) : (arrOf b).size = (arrOf a).size := x.perm.size_eq
theorem Kp.rev {lo hi i j : Nat} (st : SortSt) (h1 : lo ≤ i) (h2 : j ≤ hi) (hj : j ≤ (arrOf st).size) : Kp lo hi st (setArr st (mirror (arrOf st) i j ((j - i) / 2))) :=
  ⟨rfl, rfl, rfl, mirror_perm _ _ _ _, fun k hk => by show (mirror _ _ _ _)[k]? = _; rw [getElem?_mirror_all hj, if_neg (by omega)]⟩
end
section
variable {prog : Program} {w : World} {A : Around} {E : Value → Shared → Prop} {s : Shared} {O : KeyOrd} {key : Keyed → O.α} {el : Keyed → Prop} {κ : SortKind}
theorem G0_get {xs : Array Keyed} {i : Nat} (h : i < xs.size) : xs.toList[i]? = some (G0 xs i) := by
  unfold G0; rw [Array.getElem?_toList, Array.getElem?_eq_getElem h]; rfl
theorem wpS_ltG {st : SortSt} {i j : Nat} {Q : Option Bool → SortSt → Prop} (LO : LtOk prog w A E s O key el κ) (hk : PyProof.Rows.kindOf st = κ) (ea : ∀ x ∈ (arrOf st).toList, el x) (hi : i < (arrOf st).size) (hj : j < (arrOf st).size)
    (h : Q (some (O.blt (KG O key (arrOf st) i) (KG O key (arrOf st) j))) st) : wpS (model prog w) A E s (ltAt' i j) Q st := by
  rw [ltAt'_eq]
  refine wpS_bind (wpS_get (wpS_bind (wpS_elem (G0_get hi) (wpS_bind (wpS_elem (G0_get hj) ?_)))))
  exact LO st hk _ _ (ea _ (List.mem_of_getElem? (G0_get hi))) (ea _ (List.mem_of_getElem? (G0_get hj))) _ h
theorem wpS_rev {st : SortSt} {i j : Nat} {Q : Unit → SortSt → Prop} (h : Q () (setArr st (mirror (arrOf st) i j ((j - i) / 2)))) : wpS (model prog w) A E s (reverseSlice' i j) Q st := by
  rw [reverseSlice'_eq]; exact wpS_modify h
theorem Kp.els {lo hi : Nat} {a b : SortSt} (x : Kp lo hi a b) (h : ∀ y ∈ (arrOf a).toList, el y) : ∀ y ∈ (arrOf b).toList, el y := fun y hy => h y ((Array.perm_iff_toList_perm.mp x.perm).mem_iff.mp hy)
theorem rev_asc {st : SortSt} {lo hi : Nat} (hd : Dsc O key (arrOf st) lo hi) (hs : hi ≤ (arrOf st).size) : Asc O key (arrOf (setArr st (mirror (arrOf st) lo hi ((hi - lo) / 2)))) lo hi := hd.mirror hs
theorem blt_dec {b : Bool} {P : Prop} (h1 : b = true → P) (h2 : b = false → P) : P := by cases b; exact h2 rfl; exact h1 rfl
structure Cn (O : KeyOrd) (key : Keyed → O.α) (el : Keyed → Prop) (κ : SortKind) (lo hi : Nat) (st st' : SortSt) : Prop where
  kp : Kp lo hi st st'
  kd : PyProof.Rows.kindOf st' = κ
  ea : ∀ x ∈ (arrOf st').toList, el x
  sz : hi ≤ (arrOf st').size
theorem Cn.rev {lo hi i j : Nat} {st st' : SortSt} (B : Cn O key el κ lo hi st st') (h1 : lo ≤ i) (h2 : j ≤ hi) : Cn O key el κ lo hi st (setArr st' (mirror (arrOf st') i j ((j - i) / 2))) :=
  have k := Kp.rev (lo := lo) (hi := hi) st' h1 h2 (Nat.le_trans h2 B.sz)
  ⟨B.kp.trans k, k.kind.trans B.kd, k.els B.ea, by rw [k.size]; exact B.sz⟩
structure AscE (O : KeyOrd) (key : Keyed → O.α) (lo nrem : Nat) (n : Nat) (st' : SortSt) : Prop where
  h1 : 1 ≤ n
  h2 : n ≤ nrem
  asc : Asc O key (arrOf st') lo (lo + n)
theorem wpS_count {st : SortSt} {lo nrem : Nat} {Q : Option Nat → SortSt → Prop} (LO : LtOk prog w A E s O key el κ) (hk : PyProof.Rows.kindOf st = κ) (ea : ∀ x ∈ (arrOf st).toList, el x) (hn : 1 ≤ nrem) (hs : lo + nrem ≤ (arrOf st).size)
    (h : ∀ n st', Kp lo (lo + nrem) st st' → 1 ≤ n → n ≤ nrem → Asc O key (arrOf st') lo (lo + n) → Q (some n) st') : wpS (model prog w) A E s (countRunM lo nrem) Q st := by
  have lt1 : ∀ {n}, 1 ≤ n → lo < lo + n := fun h => Nat.lt_add_of_pos_right h
  have ix : ∀ {n}, n < nrem → lo + n < lo + nrem := fun h => Nat.add_lt_add_left h _
  unfold countRunM
  refine wpS_bind (wpS_mono (wpS_forRange (I := fun x c st' => c.1 = none ∧ c.2 = x ∧ Cn O key el κ lo (lo + nrem) st st' ∧ AscE O key lo nrem c.2 st')
    (Q := fun c st' => c.1 = none ∧ Cn O key el κ lo (lo + nrem) st st' ∧ AscE O key lo nrem c.2 st' ∧ (c.2 < nrem → O.klt (KG O key (arrOf st') (lo + c.2)) (KG O key (arrOf st') (lo + c.2 - 1))))
    (fun x c st' _ hx hI => ?_) (fun c st' hI => ⟨hI.1, hI.2.2.1, hI.2.2.2, fun q => absurd q (by rw [hI.2.1]; omega)⟩) ⟨rfl, rfl, ⟨.refl _, hk, ea, hs⟩, Nat.le_refl _, hn, .one KeyOrd.kle_refl⟩) fun c st' hQ => ?_)
  · extract_lets -merge n n1
    have U : AscE O key lo nrem n st' := hI.2.2.2
    have B := hI.2.2.1
    have hx : n < nrem := by rw [show n = x from hI.2.1]; exact hx
    have bd := Nat.lt_of_lt_of_le (ix hx) B.sz
    refine wpS_bind (wpS_ltG LO B.kd B.ea bd (Nat.lt_of_le_of_lt (Nat.sub_le _ _) bd) ?_)
    exact wpS_ite (fun q => wpS_pure ⟨rfl, B, U, fun _ => q⟩) fun q => wpS_pure ⟨rfl, congrArg (· + 1) hI.2.1, B, Nat.succ_le_succ (Nat.zero_le _), hx, Asc.more U.asc (lt1 U.h1) (Bool.eq_false_iff.mpr q)⟩
  extract_lets -merge rr n n1 q0 q1 jp
  rw [show rr = none from hQ.1]
  have U : AscE O key lo nrem n st' := hQ.2.2.1
  have B := hQ.2.1
  refine wpS_ite (fun e => wpS_pure (h n _ B.kp U.h1 U.h2 U.asc)) fun e1 => ?_
  have hx : n < nrem := Nat.lt_of_le_of_ne U.h2 fun q => e1 (beq_iff_eq.mpr q)
  have lt := hQ.2.2.2 hx
  have bd := Nat.lt_of_lt_of_le (ix hx) B.sz
  have J : ∀ st2, Cn O key el κ lo (lo + nrem) st st2 → Dsc O key (arrOf st2) lo (lo + (n + 1)) → wpS (model prog w) A E s (jp ()) Q st2 := fun st2 B D => by
    refine wpS_bind (wpS_lift (wpAny_rule ⟨rfl, ?_⟩))
    refine wpS_bind (wpS_mono (wpS_forRange (I := fun x c st' => c.1 = none ∧ c.2.1 = x ∧ Cn O key el κ lo (lo + nrem) st st' ∧ Dsc O key (arrOf st') lo (lo + c.2.1) ∧ FlatK O key (arrOf st') lo c.2.1 c.2.2)
      (Q := fun c st' => c.1 = none ∧ Cn O key el κ lo (lo + nrem) st st' ∧ (c.2.1 ≤ nrem ∧ Dsc O key (arrOf st') lo (lo + c.2.1)) ∧ FlatK O key (arrOf st') lo c.2.1 c.2.2)
      (fun x c st' _ hx hI => ?_) (fun c st' hI => ⟨hI.1, hI.2.2.1, ⟨by rw [hI.2.1]; omega, hI.2.2.2.1⟩, hI.2.2.2.2⟩) ⟨rfl, rfl, B, D, .zero (Nat.succ_le_succ (Nat.zero_le _))⟩) fun c st3 hQ => ?_)
    · extract_lets -merge _ n q
      have B := hI.2.2.1
      have D : Dsc O key (arrOf st') lo (lo + n) := hI.2.2.2.1
      have F : FlatK O key (arrOf st') lo n q := hI.2.2.2.2
      have hx : n < nrem := by rw [show n = x from hI.2.1]; exact hx
      have bd := Nat.lt_of_lt_of_le (ix hx) B.sz
      have bd' := Nat.lt_of_le_of_lt (Nat.sub_le (lo + n) 1) bd
      have n1 : 1 ≤ n := Nat.le_trans (Nat.succ_le_succ (Nat.zero_le _)) F.1
      have en : n + 1 = x + 1 := congrArg (· + 1) hI.2.1
      refine wpS_bind (wpS_ltG LO B.kd B.ea bd bd' ?_)
      refine wpS_ite (fun l => ?_) fun l => wpS_bind (wpS_ltG LO B.kd B.ea bd' bd ?_)
      · have D' := Dsc.more D (lt1 n1) (KeyOrd.kle_of_klt l)
        refine wpS_ite (fun z => wpS_bind (wpS_rev (wpS_pure ⟨rfl, en, B.rev (by have := F.1; omega) (Nat.le_of_lt (ix hx)), D'.congr (KG_mirror_eq (Nat.le_of_lt bd) F.2), .zero (Nat.succ_le_succ (Nat.zero_le _))⟩))) fun z => wpS_pure ⟨rfl, en, B, D', .zero (Nat.succ_le_succ (Nat.zero_le _))⟩
      · have l : O.kle (KG O key (arrOf st') (lo + n - 1)) (KG O key (arrOf st') (lo + n)) := Bool.eq_false_iff.mpr l
        refine wpS_ite (fun z => wpS_pure ⟨rfl, B, ⟨Nat.le_of_lt hx, D⟩, F⟩) fun z => ?_
        have l' : O.kle (KG O key (arrOf st') (lo + n)) (KG O key (arrOf st') (lo + n - 1)) := Bool.eq_false_iff.mpr z
        exact wpS_pure ⟨rfl, en, B, Dsc.more D (lt1 n1) l', F.more (KeyOrd.kle_antisymm l' l)⟩
    · extract_lets -merge rr _ n q jp3
      rw [show rr = none from hQ.1]
      have D : n ≤ nrem ∧ Dsc O key (arrOf st3) lo (lo + n) := hQ.2.2.1
      have F : FlatK O key (arrOf st3) lo n q := hQ.2.2.2
      have hb : lo + n ≤ lo + nrem := Nat.add_le_add_left D.1 _
      have J3 : ∀ st4, Cn O key el κ lo (lo + nrem) st st4 → Dsc O key (arrOf st4) lo (lo + n) → wpS (model prog w) A E s (jp3 ()) Q st4 := fun st4 B D => by
        refine wpS_bind (wpS_rev ?_)
        refine wpS_bind (wpS_mono (wpS_forRange (I := fun x c st' => c.1 = none ∧ c.2 = x ∧ Cn O key el κ lo (lo + nrem) st st' ∧ AscE O key lo nrem c.2 st') (Q := fun c st' => c.1 = none ∧ Cn O key el κ lo (lo + nrem) st st' ∧ AscE O key lo nrem c.2 st')
          (fun x c st' _ hx hI => ?_) (fun c st' hI => ⟨hI.1, hI.2.2⟩) ⟨rfl, rfl, B.rev (Nat.le_refl _) hb, Nat.le_trans (Nat.succ_le_succ (Nat.zero_le _)) F.1, hQ.2.2.1.1, D.mirror (Nat.le_trans hb B.sz)⟩) fun c st' hR => ?_)
        · extract_lets -merge n n1
          have U : AscE O key lo nrem n st' := hI.2.2.2
          have B := hI.2.2.1
          have hx : n < nrem := by rw [show n = x from hI.2.1]; exact hx
          have bd := Nat.lt_of_lt_of_le (ix hx) B.sz
          refine wpS_bind (wpS_ltG LO B.kd B.ea bd (Nat.lt_of_le_of_lt (Nat.sub_le _ _) bd) ?_)
          exact wpS_ite (fun q => wpS_pure ⟨rfl, B, U⟩) fun q => wpS_pure ⟨rfl, congrArg (· + 1) hI.2.1, B, Nat.succ_le_succ (Nat.zero_le _), hx, Asc.more U.asc (lt1 U.h1) (Bool.eq_false_iff.mpr q)⟩
        · extract_lets -merge rr n
          rw [show rr = none from hR.1]
          exact wpS_pure (h _ _ hR.2.1.kp hR.2.2.h1 hR.2.2.h2 hR.2.2.asc)
      exact wpS_ite (fun z => wpS_bind (wpS_rev (J3 _ (hQ.2.1.rev (by have := F.1; omega) hb) (D.2.congr (KG_mirror_eq (Nat.le_trans hb hQ.2.1.sz) F.2))))) fun z => J3 _ hQ.2.1 D.2
  refine wpS_ite (fun g => wpS_bind (wpS_ltG LO B.kd B.ea (Nat.lt_of_le_of_lt (Nat.le_add_right _ _) bd) (Nat.lt_of_le_of_lt (Nat.sub_le _ _) bd) ?_)) fun g => J _ B ?_
  · refine wpS_ite (fun q => wpS_pure (h n _ B.kp U.h1 U.h2 U.asc)) fun q => wpS_bind (wpS_rev (J _ (B.rev (Nat.le_refl _) (Nat.le_of_lt (ix hx))) ?_))
    have all : ∀ k, lo ≤ k → k < lo + n → KG O key (arrOf st') k = KG O key (arrOf st') (lo + n - 1) := fun k a b =>
      KeyOrd.kle_antisymm (U.asc k (lo + n - 1) a (Nat.le_sub_one_of_lt b) (Nat.sub_one_lt_of_lt b)) (KeyOrd.kle_trans (Bool.eq_false_iff.mpr q) (U.asc lo k (Nat.le_refl _) a b))
    refine RunK.congr (Dsc.more (fun i j a b c => ?_) (lt1 U.h1) (KeyOrd.kle_of_klt lt)) (KG_mirror_eq (Nat.le_of_lt bd) all)
    rw [all i a (Nat.lt_of_le_of_lt b c), all j (Nat.le_trans a b) c]; exact KeyOrd.kle_refl _
  · have e : n = 1 := Nat.le_antisymm (Nat.le_of_not_lt g) U.h1
    refine Dsc.more ?_ (lt1 U.h1) (KeyOrd.kle_of_klt lt)
    rw [e]
    exact RunK.one (R := fun a b => O.kle b a) fun a => KeyOrd.kle_refl a
end
-- S6
noncomputable def binarySortM : Nat → Nat → Nat → StateT SortSt Sem Bool := sortPriv% PySem.Builtin.binarySort
section
variable {prog : Program} {w : World} {A : Around} {E : Value → Shared → Prop} {s : Shared} {O : KeyOrd} {key : Keyed → O.α} {el : Keyed → Prop} {κ : SortKind}
theorem KG_bubble {xs : Array Keyed} {src d : Nat} (hs : src < xs.size) (hd : d ≤ src) (k : Nat) :
    KG O key (bubble xs src d) k = if k = src - d then KG O key xs src else if src - d < k ∧ k ≤ src then KG O key xs (k - 1) else KG O key xs k := by
  unfold KG G0
  rw [getElem?_bubble hs d hd k]
  split
  · rfl
  · split <;> rfl
theorem Kp.move {lo hi src dst : Nat} (st : SortSt) (h1 : lo ≤ dst) (h3 : dst ≤ src) (h2 : src < hi) (hj : src < (arrOf st).size) : Kp lo hi st (setArr st (bubble (arrOf st) src (src - dst))) :=
  ⟨rfl, rfl, rfl, bubble_perm _ _ _, fun k hk => by show (bubble _ _ _)[k]? = _; rw [getElem?_bubble hj _ (by omega), if_neg (by omega), if_neg (by omega)]⟩
theorem wpS_move {st : SortSt} {i j : Nat} {Q : Unit → SortSt → Prop} (h : Q () (setArr st (bubble (arrOf st) i (i - j)))) : wpS (model prog w) A E s (moveDown' i j) Q st := by
  rw [moveDown'_eq]; exact wpS_modify h
theorem Cn.move {lo hi src dst : Nat} {st st' : SortSt} (B : Cn O key el κ lo hi st st') (h1 : lo ≤ dst) (h3 : dst ≤ src) (h2 : src < hi) : Cn O key el κ lo hi st (setArr st' (bubble (arrOf st') src (src - dst))) :=
  have k := Kp.move (lo := lo) (hi := hi) st' h1 h3 h2 (Nat.lt_of_lt_of_le h2 B.sz)
  ⟨B.kp.trans k, k.kind.trans B.kd, k.els B.ea, by rw [k.size]; exact B.sz⟩
theorem midp {l r : Nat} (h : ¬ l ≥ r) : l ≤ (l + r) / 2 ∧ (l + r) / 2 < r := by omega
theorem midp1 {l r k x : Nat} (h : ¬ l ≥ r) (hm : r - l ≤ k - x) (hx : x < k) : (l + r) / 2 - l ≤ k - (x + 1) := by omega
theorem midp2 {l r k x : Nat} (h : ¬ l ≥ r) (hm : r - l ≤ k - x) (hx : x < k) : r - ((l + r) / 2 + 1) ≤ k - (x + 1) := by omega
structure Pl (O : KeyOrd) (key : Keyed → O.α) (xs : Array Keyed) (lo k l r : Nat) : Prop where
  h1 : l ≤ r
  h2 : r ≤ k
  low : ∀ i, i < l → O.kle (KG O key xs (lo + i)) (KG O key xs (lo + k))
  upp : ∀ i, r ≤ i → i < k → O.kle (KG O key xs (lo + k)) (KG O key xs (lo + i))
theorem Asc.put {xs : Array Keyed} {lo k l : Nat} (h : Asc O key xs lo (lo + k)) (p : Pl O key xs lo k l l) (hk : lo + k < xs.size) : Asc O key (bubble xs (lo + k) (lo + k - (lo + l))) lo (lo + (k + 1)) := fun i j a b c => by
  have eb := fun t => KG_bubble (O := O) (key := key) hk (Nat.sub_le (lo + k) (lo + l)) t
  have es : lo + k - (lo + k - (lo + l)) = lo + l := Nat.sub_sub_self (Nat.add_le_add_left p.h2 _)
  rw [es] at eb
  have up : ∀ t, lo + l ≤ t → t < lo + k → O.kle (KG O key xs (lo + k)) (KG O key xs t) := fun t x y => by
    have := p.upp (t - lo) (by omega) (by omega)
    rwa [Nat.add_sub_cancel' (Nat.le_trans (Nat.le_add_right _ _) x)] at this
  rw [eb, eb]
  by_cases ei : i = lo + l
  · rw [if_pos ei]
    by_cases ej : j = lo + l
    · rw [if_pos ej]; exact KeyOrd.kle_refl _
    · rw [if_neg ej, if_pos (by omega)]; exact up _ (by omega) (by omega)
  · rw [if_neg ei]
    by_cases li : lo + l < i
    · rw [if_pos ⟨li, by omega⟩, if_neg (by omega), if_pos (by omega)]; exact h _ _ (by omega) (Nat.sub_le_sub_right b 1) (by omega)
    · rw [if_neg (fun q => li q.1)]
      by_cases ej : j = lo + l
      · rw [if_pos ej]
        have := p.low (i - lo) (by omega)
        rwa [Nat.add_sub_cancel' a] at this
      · rw [if_neg ej]
        split
        · exact h _ _ a (by omega) (by omega)
        · exact h _ _ a b (by omega)
theorem wpS_binary {st : SortSt} {lo n ok : Nat} {Q : Bool → SortSt → Prop} (LO : LtOk prog w A E s O key el κ) (hk : PyProof.Rows.kindOf st = κ) (ea : ∀ x ∈ (arrOf st).toList, el x) (h1 : 1 ≤ ok) (hn : ok ≤ n) (hs : lo + n ≤ (arrOf st).size)
    (ha : Asc O key (arrOf st) lo (lo + ok)) (h : ∀ st', Kp lo (lo + n) st st' → Asc O key (arrOf st') lo (lo + n) → Q true st') : wpS (model prog w) A E s (binarySortM lo n ok) Q st := by
  unfold binarySortM
  have e0 : max ok 1 = ok := Nat.max_eq_left h1
  refine wpS_bind (wpS_mono (wpS_forRange (I := fun k c st' => c.1 = none ∧ Cn O key el κ lo (lo + n) st st' ∧ Asc O key (arrOf st') lo (lo + k)) (Q := fun c st' => c.1 = none ∧ Cn O key el κ lo (lo + n) st st' ∧ Asc O key (arrOf st') lo (lo + n))
    (fun k c st' _ hx hI => ?_) (fun c st' hI => ⟨hI.1, hI.2.1, by have := hI.2.2; rwa [e0, Nat.max_eq_right hn] at this⟩) ⟨rfl, ⟨.refl _, hk, ea, hs⟩, by rw [e0]; exact ha⟩) fun c st' hQ => ?_)
  · extract_lets -merge l0 r0
    have B := hI.2.1
    have hb : lo + k < lo + n := Nat.add_lt_add_left hx _
    have bd := Nat.lt_of_lt_of_le hb B.sz
    refine wpS_bind (wpS_mono (wpS_forRange (I := fun x c st2 => c.1 = none ∧ st2 = st' ∧ Pl O key (arrOf st') lo k c.2.1 c.2.2 ∧ c.2.2 - c.2.1 ≤ k - x) (Q := fun c st2 => c.1 = none ∧ st2 = st' ∧ Pl O key (arrOf st') lo k c.2.1 c.2.1)
      (fun x c st2 _ hx hJ => ?_) (fun c st2 hJ => ⟨hJ.1, hJ.2.1, ?_⟩) ⟨rfl, rfl, ⟨Nat.zero_le _, Nat.le_refl _, fun i q => absurd q (Nat.not_lt_zero _), fun i q q' => absurd q' (Nat.not_lt.mpr q)⟩, Nat.le_refl _⟩) fun c st2 hR => ?_)
    · obtain rfl := hJ.2.1
      extract_lets -merge _ l r m l1
      have p : Pl O key (arrOf st2) lo k l r := hJ.2.2.1
      have hm : r - l ≤ k - x := hJ.2.2.2
      refine wpS_ite (fun q => wpS_pure ⟨rfl, rfl, by rw [show r = l from Nat.le_antisymm q p.h1] at p; exact p⟩) fun q => ?_
      have hlt : l ≤ m ∧ m < r := midp q
      refine wpS_bind (wpS_ltG LO B.kd B.ea bd (Nat.lt_trans (Nat.add_lt_add_left (Nat.lt_of_lt_of_le hlt.2 p.h2) _) bd) ?_)
      refine wpS_ite (fun z => wpS_pure ⟨rfl, rfl, ⟨hlt.1, Nat.le_trans (Nat.le_of_lt hlt.2) p.h2, p.low, fun i a b => ?_⟩, midp1 q hm hx⟩) fun z => wpS_pure ⟨rfl, rfl, ⟨hlt.2, p.h2, fun i a => ?_, p.upp⟩, midp2 q hm hx⟩
      · exact KeyOrd.kle_trans (KeyOrd.kle_of_klt z) (hI.2.2 _ _ (Nat.le_add_right _ _) (Nat.add_le_add_left a _) (Nat.add_lt_add_left b _))
      · exact KeyOrd.kle_trans (hI.2.2 _ (lo + m) (Nat.le_add_right _ _) (Nat.add_le_add_left (Nat.le_of_lt_succ a) _) (Nat.add_lt_add_left (Nat.lt_of_lt_of_le hlt.2 p.h2) _)) (Bool.eq_false_iff.mpr z)
    · have p := hJ.2.2.1
      have := hJ.2.2.2
      rw [Nat.max_eq_right (Nat.zero_le _), Nat.sub_self] at this
      rw [Nat.le_antisymm (Nat.le_of_sub_eq_zero (Nat.le_zero.mp this)) p.h1] at p
      exact p
    · obtain rfl := hR.2.1
      extract_lets -merge rr _ l
      rw [show rr = none from hR.1]
      have p : Pl O key (arrOf st2) lo k l l := hR.2.2
      exact wpS_bind (wpS_move (wpS_pure ⟨rfl, B.move (Nat.le_add_right _ _) (Nat.add_le_add_left p.h2 _) hb, Asc.put hI.2.2 p bd⟩))
  · extract_lets -merge rr
    rw [show rr.1 = none from hQ.1]
    exact wpS_pure (h _ hQ.2.1.kp hQ.2.2)
end
-- S7
section
variable {O : KeyOrd} {key : Keyed → O.α}
theorem Asc.srt {xs : Array Keyed} {lo hi : Nat} (h : Asc O key xs lo hi) (hs : hi ≤ xs.size) : Srt O key ((xs.toList.take hi).drop lo) := by
  refine List.pairwise_iff_getElem.mpr fun i j hi' hj' hij => ?_
  have e : ∀ (t : Nat) (ht : t < ((xs.toList.take hi).drop lo).length), ((xs.toList.take hi).drop lo)[t] = G0 xs (lo + t) := fun t ht => by
    have ht' := ht
    simp only [List.length_drop, List.length_take] at ht'
    have := G0_get (xs := xs) (i := lo + t) (by omega)
    rw [List.getElem_drop, List.getElem_take]
    rw [List.getElem?_eq_getElem (by simp; omega)] at this
    exact Option.some.inj this
  rw [e i, e j]
  simp only [List.length_drop, List.length_take] at hj'
  exact h _ _ (by omega) (by omega) (by omega)
noncomputable def putAt (sa : Nat) (l : List Keyed) (xs : Array Keyed) : Array Keyed := l.zipIdx.foldl (fun a (p : Keyed × Nat) => a.setIfInBounds (sa + p.2) p.1) xs
theorem putAt_go : ∀ (l : List Keyed) (i sa : Nat) (xs : Array Keyed), sa + i + l.length ≤ xs.size → ((l.zipIdx i).foldl (fun a (p : Keyed × Nat) => a.setIfInBounds (sa + p.2) p.1) xs).toList = xs.toList.take (sa + i) ++ l ++ xs.toList.drop (sa + i + l.length)
  | [], i, sa, xs, _ => by simp
  | x :: l, i, sa, xs, h => by
    rw [List.length_cons] at h
    rw [List.zipIdx_cons, List.foldl_cons, putAt_go l (i + 1) sa _ (by rw [Array.size_setIfInBounds]; omega)]
    rw [Array.toList_setIfInBounds]
    have hlt : sa + i < xs.toList.length := by rw [Array.length_toList]; omega
    rw [List.set_eq_take_append_cons_drop, if_pos hlt]
    have h1 : (xs.toList.take (sa + i)).length = sa + i := by rw [List.length_take]; omega
    have t1 : (xs.toList.take (sa + i) ++ x :: xs.toList.drop (sa + i + 1)).take (sa + (i + 1)) = xs.toList.take (sa + i) ++ [x] := by
      have := List.take_length_add_append (l₁ := xs.toList.take (sa + i)) (l₂ := x :: xs.toList.drop (sa + i + 1)) 1
      rw [h1] at this
      exact this
    have t2 : (xs.toList.take (sa + i) ++ x :: xs.toList.drop (sa + i + 1)).drop (sa + (i + 1) + l.length) = xs.toList.drop (sa + i + (x :: l).length) := by
      have := List.drop_length_add_append (l₁ := xs.toList.take (sa + i)) (l₂ := x :: xs.toList.drop (sa + i + 1)) (1 + l.length)
      rw [h1, show sa + i + (1 + l.length) = sa + (i + 1) + l.length by omega] at this
      rw [this, show 1 + l.length = l.length + 1 by omega, List.drop_succ_cons, List.drop_drop, List.length_cons]
      congr 1; omega
    rw [t1, t2]
    simp
theorem putAt_list {sa : Nat} {l : List Keyed} {xs : Array Keyed} (h : sa + l.length ≤ xs.size) : (putAt sa l xs).toList = xs.toList.take sa ++ l ++ xs.toList.drop (sa + l.length) := by
  have := putAt_go l 0 sa xs (by omega)
  simpa [putAt] using this
theorem G0_of {xs : Array Keyed} {i : Nat} {x : Keyed} (h : xs.toList[i]? = some x) : x = G0 xs i := by
  rw [Array.getElem?_toList] at h
  unfold G0; rw [h]; rfl
theorem mem_ix {xs : Array Keyed} {a c : Nat} {x : Keyed} (h : x ∈ (xs.extract a c).toList) : ∃ i, a ≤ i ∧ i < c ∧ x = G0 xs i := by
  rw [ext_tail'] at h
  obtain ⟨i, h1, h2, e⟩ := mem_tail_get' h
  exact ⟨i, h1, h2, G0_of e⟩
theorem ext_get {xs : Array Keyed} {a c i : Nat} (h : a + i < c) (hc : c ≤ xs.size) : (xs.extract a c)[i]'(by rw [Array.size_extract]; omega) = G0 xs (a + i) := by
  rw [Array.getElem_extract]
  unfold G0
  rw [Array.getElem?_eq_getElem (by omega)]; rfl
structure Cut (O : KeyOrd) (key : Keyed → O.α) (xs : Array Keyed) (n1 n2 k m : Nat) : Prop where
  hs : xs.size = n1 + n2
  h1 : k < n1
  h2 : 0 < m
  h3 : m ≤ n2
  oA : Asc O key xs 0 n1
  oB : Asc O key xs n1 (n1 + n2)
  klo : ∀ i, i < k → O.kle (KG O key xs i) (KG O key xs n1)
  khi : O.blt (KG O key xs n1) (KG O key xs k) = true
  nlo : ∀ i, i < m → O.kle (KG O key xs (n1 + i)) (KG O key xs (n1 - 1))
  nhi : ∀ i, m ≤ i → i < n2 → O.kle (KG O key xs (n1 - 1)) (KG O key xs (n1 + i))
section
variable {xs : Array Keyed} {n1 n2 k m : Nat}
theorem Asc.ext {lo hi a c : Nat} (h : Asc O key xs lo hi) (h1 : lo ≤ a) (h2 : c ≤ hi) (h3 : hi ≤ xs.size) : Srt O key (xs.extract a c).toList := by
  refine List.pairwise_iff_getElem.mpr fun i j hi hj hij => ?_
  have hz : ∀ t, t < (xs.extract a c).toList.length → a + t < c := fun t ht => by rw [Array.length_toList, Array.size_extract] at ht; omega
  have e : ∀ t (ht : t < (xs.extract a c).toList.length), (xs.extract a c).toList[t] = G0 xs (a + t) := fun t ht => by
    rw [Array.getElem_toList, ext_get (hz t ht) (Nat.le_trans h2 h3)]
  rw [e i hi, e j hj]
  exact h _ _ (Nat.le_add_right_of_le h1) (Nat.add_le_add_left (Nat.le_of_lt hij) _) (Nat.lt_of_lt_of_le (hz j hj) h2)
theorem Cut.cross (x : Cut O key xs n1 n2 k m) {i j : Nat} (h : (i < k ∧ k ≤ j ∧ j < n1 + m) ∨ (i < n1 + m ∧ n1 + m ≤ j ∧ j < n1 + n2)) : O.kle (KG O key xs i) (KG O key xs j) := by
  have h1 := x.h1; have h2 := x.h2; have h3 := x.h3
  rcases Nat.lt_or_ge j n1 with a | a
  · exact x.oA i j (Nat.zero_le _) (by omega) a
  rcases h with ⟨b, _, c⟩ | ⟨b, c, d⟩
  · exact KeyOrd.kle_trans (x.klo i b) (x.oB n1 j (Nat.le_refl _) a (by omega))
  rcases Nat.lt_or_ge i n1 with e | e
  · have := x.nhi (j - n1) (by omega) (by omega)
    rw [Nat.add_sub_cancel' a] at this
    exact KeyOrd.kle_trans (x.oA i (n1 - 1) (Nat.zero_le _) (by omega) (by omega)) this
  · exact x.oB i j e (by omega) d
theorem Cut.sA (x : Cut O key xs n1 n2 k m) : Srt O key (xs.extract k n1).toList := x.oA.ext (Nat.zero_le _) (Nat.le_refl _) (by have := x.hs; omega)
theorem Cut.sB (x : Cut O key xs n1 n2 k m) : Srt O key (xs.extract n1 (n1 + m)).toList := x.oB.ext (Nat.le_refl _) (by have := x.h3; omega) (by have := x.hs; omega)
theorem Cut.szA (x : Cut O key xs n1 n2 k m) : (xs.extract k n1).size = n1 - k := by rw [Array.size_extract]; have := x.hs; omega
theorem Cut.szB (x : Cut O key xs n1 n2 k m) : (xs.extract n1 (n1 + m)).size = m := by rw [Array.size_extract]; have := x.hs; have := x.h3; omega
theorem Cut.ab (x : Cut O key xs n1 n2 k m) (ea : ∀ y ∈ xs.toList, el y) : Ab O key el (xs.extract k n1) (xs.extract n1 (n1 + m)) where
  ea := fun y hy => ea y (by rw [ext_tail'] at hy; exact List.mem_of_mem_take (List.mem_of_mem_drop hy))
  eb := fun y hy => ea y (by rw [ext_tail'] at hy; exact List.mem_of_mem_take (List.mem_of_mem_drop hy))
  sa := x.sA
  sb := x.sB
  hl := fun y hy z hz => by
    have h1 := x.h1
    rw [List.getLast?_eq_getElem?, Array.length_toList, x.szA, Array.getElem?_toList, Array.getElem?_eq_getElem (by rw [x.szA]; omega), ext_get (by omega) (by have := x.hs; omega), show k + (n1 - k - 1) = n1 - 1 by omega] at hy
    obtain rfl := Option.some.inj hy
    obtain ⟨i, a, b, rfl⟩ := mem_ix hz
    have := x.nlo (i - n1) (by omega)
    rw [Nat.add_sub_cancel' a] at this
    exact this
theorem Cut.put (x : Cut O key xs n1 n2 k m) {r : Array Keyed} (g : GoodA O key (xs.extract k n1) (xs.extract n1 (n1 + m)) r) : (putAt k r.toList xs).Perm xs ∧ Srt O key (putAt k r.toList xs).toList := by
  have h1 := x.h1; have h3 := x.h3; have hs := x.hs
  have rl : r.toList.length = n1 - k + m := by rw [g.1.length_eq, List.length_append, Array.length_toList, Array.length_toList, x.szA, x.szB]
  have pl : (putAt k r.toList xs).toList = xs.toList.take k ++ r.toList ++ xs.toList.drop (n1 + m) := by
    rw [putAt_list (by rw [rl, hs]; omega), rl, show k + (n1 - k + m) = n1 + m by omega]
  refine ⟨Array.perm_iff_toList_perm.mpr ?_, ?_⟩ <;> rw [pl]
  · have e : xs.toList = xs.toList.take k ++ ((xs.extract k n1).toList ++ (xs.extract n1 (n1 + m)).toList) ++ xs.toList.drop (n1 + m) := by
      have q1 : xs.toList.take k ++ (xs.toList.take n1).drop k = xs.toList.take n1 := by
        have := List.take_append_drop k (xs.toList.take n1)
        rwa [List.take_take, Nat.min_eq_left (Nat.le_of_lt h1)] at this
      rw [ext_tail', ext_chunk, ← List.append_assoc, q1, ← take_more, List.take_append_drop]
    conv => rhs; rw [e]
    exact (List.Perm.append_left _ g.1).append_right _
  · have tk : ∀ y ∈ xs.toList.take k, ∃ i, i < k ∧ y = G0 xs i := fun y hy => let ⟨i, a, e⟩ := mem_take_get hy; ⟨i, a, G0_of e⟩
    have md : ∀ y ∈ r.toList, ∃ i, k ≤ i ∧ i < n1 + m ∧ y = G0 xs i := fun y hy => by
      rcases List.mem_append.mp (g.1.mem_iff.mp hy) with q | q
      · obtain ⟨i, a, b, e⟩ := mem_ix q; exact ⟨i, a, Nat.lt_add_right _ b, e⟩
      · obtain ⟨i, a, b, e⟩ := mem_ix q; exact ⟨i, Nat.le_trans (Nat.le_of_lt h1) a, b, e⟩
    have dr : ∀ y ∈ xs.toList.drop (n1 + m), ∃ i, n1 + m ≤ i ∧ i < n1 + n2 ∧ y = G0 xs i := fun y hy => by
      obtain ⟨i, a, e⟩ := mem_drop_get hy
      have := (List.getElem?_eq_some_iff.mp e).1
      rw [Array.length_toList, hs] at this
      exact ⟨i, a, this, G0_of e⟩
    have s1 : Srt O key (xs.toList.take k) := by
      have := x.oA.ext (a := 0) (c := k) (Nat.le_refl _) (Nat.le_of_lt h1) (by omega)
      rwa [ext_take] at this
    have s3 : Srt O key (xs.toList.drop (n1 + m)) := by
      have := x.oB.ext (a := n1 + m) (c := n1 + n2) (Nat.le_add_right _ _) (Nat.le_refl _) (by omega)
      rwa [← hs, ext_drop] at this
    refine (s1.append g.2 fun y hy z hz => ?_).append s3 fun y hy z hz => ?_
    · obtain ⟨i, a, rfl⟩ := tk y hy
      obtain ⟨j, b, c, rfl⟩ := md z hz
      exact x.cross (.inl ⟨a, b, c⟩)
    · obtain ⟨j, c, d, rfl⟩ := dr z hz
      rcases List.mem_append.mp hy with q | q
      · obtain ⟨i, a, rfl⟩ := tk y q
        exact x.cross (.inr ⟨by omega, c, d⟩)
      · obtain ⟨i, _, b, rfl⟩ := md y q
        exact x.cross (.inr ⟨b, c, d⟩)
end
end
noncomputable def mergeAtM : Nat → StateT SortSt Sem Bool := mergeAt'
section
variable {prog : Program} {w : World} {A : Around} {E : Value → Shared → Prop} {s : Shared} {O : KeyOrd} {key : Keyed → O.α} {el : Keyed → Prop} {κ : SortKind}
theorem wpS_set {st st1 : SortSt} {Q : PUnit → SortSt → Prop} (h : Q ⟨⟩ st1) : wpS (model prog w) A E s (set st1 : StateT SortSt Sem PUnit) Q st := by
  unfold wpS; rw [StateT.run_set]; exact wpAny_pure ⟨rfl, h⟩
theorem wpS_set' {st st1 : SortSt} {Q : PUnit → SortSt → Prop} (h : ∀ st2, st2 = st1 → Q ⟨⟩ st2) : wpS (model prog w) A E s (set st1 : StateT SortSt Sem PUnit) Q st := wpS_set (h st1 rfl)
theorem G0_ge {xs : Array Keyed} {i : Nat} (h : i < xs.size) : xs[i] = G0 xs i := G0_of (ge h)
theorem run_srt {arr : Array Keyed} {base n : Nat} (hn : base + n ≤ arr.size) (sr : Asc O key arr base (base + n)) : Srt O key ((arr.toList.drop base).take n) := by
  have := sr.ext (a := base) (c := base + n) (Nat.le_refl _) (Nat.le_refl _) hn
  rwa [ext_chunk] at this
theorem gg {arr : Array Keyed} {base n i : Nat} (hn : base + n ≤ arr.size) (hi : i < n) : arr.toList[base + i]? = some (G0 arr (base + i)) := by
  have : base + i < arr.size := Nat.lt_of_lt_of_le (Nat.add_lt_add_left hi _) hn
  rw [← G0_ge this]; exact ge this
theorem galR {k : Keyed} {arr : Array Keyed} {base n hint : Nat} {st : SortSt} {Q : Option Nat → SortSt → Prop} (LO : LtOk prog w A E s O key el κ) (hk : PyProof.Rows.kindOf st = κ) (ek : el k) (ea : ∀ x ∈ arr.toList, el x) (hn : base + n ≤ arr.size) (sr : Asc O key arr base (base + n)) (hh : hint < n)
    (h : ∀ j, j ≤ n → (∀ i, i < j → O.kle (KG O key arr (base + i)) (key k)) → (∀ i, j ≤ i → i < n → O.blt (key k) (KG O key arr (base + i)) = true) → Q (some j) st) : wpS (model prog w) A E s (gallopM false k arr base n hint) Q st :=
  gallop_ok LO hk ek ea (run_srt hn sr) (by rw [Array.length_toList]; exact hn) hh fun j hj lo hi => h j hj (fun i a => lo i _ a (gg hn (Nat.lt_of_lt_of_le a hj))) fun i a b => hi i _ a b (gg hn b)
theorem galL {k : Keyed} {arr : Array Keyed} {base n hint : Nat} {st : SortSt} {Q : Option Nat → SortSt → Prop} (LO : LtOk prog w A E s O key el κ) (hk : PyProof.Rows.kindOf st = κ) (ek : el k) (ea : ∀ x ∈ arr.toList, el x) (hn : base + n ≤ arr.size) (sr : Asc O key arr base (base + n)) (hh : hint < n)
    (h : ∀ j, j ≤ n → (∀ i, i < j → O.blt (KG O key arr (base + i)) (key k) = true) → (∀ i, j ≤ i → i < n → O.kle (key k) (KG O key arr (base + i))) → Q (some j) st) : wpS (model prog w) A E s (gallopM true k arr base n hint) Q st :=
  gallop_ok LO hk ek ea (run_srt hn sr) (by rw [Array.length_toList]; exact hn) hh fun j hj lo hi => h j hj (fun i a => lo i _ a (gg hn (Nat.lt_of_lt_of_le a hj))) fun i a b => hi i _ a b (gg hn b)
theorem wpS_mergeAt {st : SortSt} {n1 n2 p q : Nat} {Q : Bool → SortSt → Prop} (LO : LtOk prog w A E s O key el κ) (hk : PyProof.Rows.kindOf st = κ) (ea : ∀ x ∈ (arrOf st).toList, el x) (h1 : 1 ≤ n1) (h2 : 1 ≤ n2) (hs : (arrOf st).size = n1 + n2)
    (hp : pendingOf st = #[(0, n1, p), (n1, n2, q)]) (hf : failedOf st = none) (a1 : Asc O key (arrOf st) 0 n1) (a2 : Asc O key (arrOf st) n1 (n1 + n2))
    (h : ∀ st', PyProof.Rows.kindOf st' = κ → failedOf st' = none → pendingOf st' = #[(0, n1 + n2, p)] → (arrOf st').Perm (arrOf st) → Srt O key (arrOf st').toList → Q true st') : wpS (model prog w) A E s (mergeAtM 0) Q st := by
  unfold mergeAtM mergeAt'
  refine wpS_bind (wpS_get ?_)
  have e1 : (pendingOf st)[0]? = some (0, n1, p) := by rw [hp]; rfl
  have e2 : (pendingOf st)[0 + 1]? = some (n1, n2, q) := by rw [hp]; rfl
  rw [e1, e2]
  dsimp only
  refine wpS_bind (wpS_set' fun st1 hst1 => ?_)
  have hpd : ((pendingOf st).setIfInBounds 0 (0, n1 + n2, p)).eraseIdxIfInBounds (0 + 1) = #[(0, n1 + n2, p)] := by rw [hp]; apply Array.toList_inj.mp; simp [Array.eraseIdxIfInBounds]
  have k1 : PyProof.Rows.kindOf st1 = κ := by rw [hst1]; exact hk
  have f1 : failedOf st1 = none := by rw [hst1]; exact hf
  have p1 : pendingOf st1 = #[(0, n1 + n2, p)] := by rw [hst1]; exact hpd
  have r1 : arrOf st1 = arrOf st := by rw [hst1]
  clear hst1 hpd e1 e2 hp hf hk
  have hB : n1 < (arrOf st).size := by rw [hs]; exact Nat.lt_add_of_pos_right h2
  have hA : n1 - 1 < (arrOf st).size := Nat.lt_of_le_of_lt (Nat.sub_le _ _) hB
  have whole : (∀ i j, i < n1 → n1 ≤ j → j < n1 + n2 → O.kle (KG O key (arrOf st) i) (KG O key (arrOf st) j)) → Q true st1 := fun c => h st1 k1 f1 p1 (by rw [r1]) (by
    rw [r1]
    have : Asc O key (arrOf st) 0 (n1 + n2) := fun i j a b d => by
      rcases Nat.lt_or_ge j n1 with e | e
      · exact a1 i j a b e
      · rcases Nat.lt_or_ge i n1 with f | f
        · exact c i j f e d
        · exact a2 i j f b d
    have := this.ext (a := 0) (c := n1 + n2) (Nat.le_refl _) (Nat.le_refl _) (Nat.le_of_eq hs.symm)
    rwa [← hs, Array.extract_size] at this)
  refine wpS_bind (wpS_el hB ?_)
  rw [G0_ge hB]
  refine wpS_bind (galR LO k1 (by rw [← G0_ge hB]; exact ea _ (mem_ge hB)) ea (by rw [Nat.zero_add, hs]; exact Nat.le_add_right _ _) (by rw [Nat.zero_add]; exact a1) h1 fun k hk klo khi => ?_)
  simp only [Nat.zero_add] at klo khi
  refine wpS_ite (fun e => wpS_pure (whole fun i j x y z => KeyOrd.kle_trans (klo i (by have := beq_iff_eq.mp e; omega)) (a2 n1 j (Nat.le_refl _) y z))) fun e => ?_
  have c1 : k < n1 := by have : ¬ n1 - k = 0 := fun q => e (beq_iff_eq.mpr q); omega
  rw [Nat.zero_add k, Nat.add_sub_cancel' (Nat.le_of_lt c1)]
  refine wpS_bind (wpS_el hA ?_)
  rw [G0_ge hA]
  refine wpS_bind (galL LO k1 (by rw [← G0_ge hA]; exact ea _ (mem_ge hA)) ea (Nat.le_of_eq hs.symm) a2 (Nat.sub_one_lt_of_lt h2) fun m hm nlo nhi => ?_)
  refine wpS_ite (fun e => wpS_pure (whole fun i j x y z => ?_)) fun e => ?_
  · obtain rfl := beq_iff_eq.mp e
    have := nhi (j - n1) (Nat.zero_le _) (by omega)
    rw [Nat.add_sub_cancel' y] at this
    exact KeyOrd.kle_trans (a1 i (n1 - 1) (Nat.zero_le _) (Nat.le_sub_one_of_lt x) (Nat.sub_one_lt_of_lt h1)) this
  have x : Cut O key (arrOf st) n1 n2 k m := ⟨hs, c1, Nat.pos_of_ne_zero fun q => e (beq_iff_eq.mpr q), hm, a1, a2, klo, khi k (Nat.le_refl _) c1, fun i hi => KeyOrd.kle_of_klt (nlo i hi), nhi⟩
  have fin : ∀ (r : Array Keyed) st2, SameS st1 st2 → GoodA O key ((arrOf st).extract k n1) ((arrOf st).extract n1 (n1 + m)) r → Q (failedOf st2).isNone (setArr st2 (putAt k r.toList (arrOf st2))) := fun r st2 ss g => by
    have := x.put g
    rw [← ss.arr.trans r1] at this
    rw [ss.failed, f1]
    exact h _ (ss.kind.trans k1) (ss.failed.trans f1) (ss.pend.trans p1) (by rw [← ss.arr.trans r1]; exact this.1) this.2
  have zA : 0 < ((arrOf st).extract k n1).size := by rw [x.szA]; exact Nat.sub_pos_of_lt c1
  have zB : 0 < ((arrOf st).extract n1 (n1 + m)).size := by rw [x.szB]; exact x.h2
  have eA := ext_get (xs := arrOf st) (a := k) (c := n1) (i := 0) c1 (Nat.le_of_lt hB)
  have eB := ext_get (xs := arrOf st) (a := n1) (c := n1 + m) (i := 0) (Nat.lt_add_of_pos_right x.h2) (by rw [hs]; exact Nat.add_le_add_left hm _)
  refine wpS_ite (fun c => wpS_bind (wpS_mergeLo LO k1 (x.ab ea) zA zB (by rw [eA, eB]; exact x.khi) fun r st2 ss g => ?_)) fun c => wpS_bind (wpS_mergeHi LO k1 (x.ab ea) zA zB (fun y hy z hz => ?_) fun r st2 ss g => ?_)
  · exact wpS_bind (wpS_modify (wpS_bind (wpS_get (wpS_pure (fin r st2 ss g)))))
  · rw [ge zB, eB] at hy
    obtain rfl := Option.some.inj hy
    obtain ⟨i, a, b, rfl⟩ := mem_ix hz
    exact KeyOrd.kle_of_klt (khi i a b)
  · exact wpS_bind (wpS_modify (wpS_bind (wpS_get (wpS_pure (fin r st2 ss g)))))
end
-- S8
section
variable {prog : Program} {w : World} {A : Around} {E : Value → Shared → Prop} {s : Shared} {O : KeyOrd} {key : Keyed → O.α} {el : Keyed → Prop} {κ : SortKind}
theorem minRun_small {n : Nat} (h0 : 0 < n) (h : n < 64) : minRun' n n 0 = n := by
  obtain ⟨f, rfl⟩ : ∃ f, n = f + 1 := ⟨n - 1, by omega⟩
  rw [minRun'_succ, if_pos h]
theorem minRun_64 : minRun' 64 64 0 = 32 := by decide
structure Rn (a₀ : Array Keyed) (κ : SortKind) (st : SortSt) : Prop where
  kind : PyProof.Rows.kindOf st = κ
  failed : failedOf st = none
  perm : (arrOf st).Perm a₀
theorem Rn.kp {a₀ : Array Keyed} {st st' : SortSt} {lo hi : Nat} (r : Rn a₀ κ st) (k : Kp lo hi st st') : Rn a₀ κ st' := ⟨k.kind.trans r.kind, k.failed.trans r.failed, k.perm.trans r.perm⟩
theorem Rn.els {a₀ : Array Keyed} {st : SortSt} (r : Rn a₀ κ st) (h : ∀ y ∈ a₀.toList, el y) : ∀ y ∈ (arrOf st).toList, el y := fun y hy => h y ((Array.perm_iff_toList_perm.mp r.perm).mem_iff.mp hy)
theorem Asc.kp {st st' : SortSt} {lo hi a b : Nat} (h : Asc O key (arrOf st) a b) (k : Kp lo hi st st') (hb : b ≤ lo) : Asc O key (arrOf st') a b := fun i j h1 h2 h3 => by
  have e : ∀ t, t < b → KG O key (arrOf st') t = KG O key (arrOf st) t := fun t ht => by unfold KG G0; rw [k.out t (.inl (by omega))]
  rw [e i (by omega), e j h3]; exact h i j h1 h2 h3
noncomputable def Runs (O : KeyOrd) (key : Keyed → O.α) (N : Nat) (st : SortSt) : Prop :=
  (pendingOf st = #[(0, N, 0)] ∧ Asc O key (arrOf st) 0 N) ∨ ∃ n1 n2 p q, n1 + n2 = N ∧ 1 ≤ n1 ∧ 1 ≤ n2 ∧ pendingOf st = #[(0, n1, p), (n1, n2, q)] ∧ Asc O key (arrOf st) 0 n1 ∧ Asc O key (arrOf st) n1 (n1 + n2)
theorem Asc.srtAll {xs : Array Keyed} (h : Asc O key xs 0 xs.size) : Srt O key xs.toList := by
  have := h.srt (Nat.le_refl _)
  rwa [List.drop_zero, List.take_of_length_le (by rw [Array.length_toList]; exact Nat.le_refl _)] at this
noncomputable def StepQ {β : Type} (I Q : β → SortSt → Prop) (r : ForInStep β) (st : SortSt) : Prop := match r with | .done c => Q c st | .yield c => I c st
inductive Ph (O : KeyOrd) (key : Keyed → O.α) (N mr x lo : Nat) (st : SortSt) : Prop where
  | start : x = 0 → lo = 0 → pendingOf st = #[] → Ph O key N mr x lo st
  | one : x = 1 → lo < N → N = 64 → mr = 32 → 32 ≤ lo → pendingOf st = #[(0, lo, 0)] → Asc O key (arrOf st) 0 lo → Ph O key N mr x lo st
  | all : 1 ≤ x → lo = N → Runs O key N st → Ph O key N mr x lo st
theorem Runs.srt1 {N : Nat} {st : SortSt} (h : Asc O key (arrOf st) 0 N) (hs : (arrOf st).size = N) : Srt O key (arrOf st).toList := Asc.srtAll (by rw [hs]; exact h)
theorem wpS_runs {a₀ : Array Keyed} {st : SortSt} {Q : Unit → SortSt → Prop} (LO : LtOk prog w A E s O key el κ) (r0 : Rn a₀ κ st) (hp0 : pendingOf st = #[]) (ea : ∀ x ∈ a₀.toList, el x) (h2 : 2 ≤ a₀.size) (h64 : a₀.size ≤ 64)
    (h : ∀ st', (arrOf st').Perm a₀ → failedOf st' = none → Srt O key (arrOf st').toList → Q () st') : wpS (model prog w) A E s sortRuns' Q st := by
  rw [sortRuns'_eq]
  refine wpS_bind (wpS_get ?_)
  have hsz : ∀ {st'}, Rn a₀ κ st' → (arrOf st').size = a₀.size := fun r => r.perm.size_eq
  rw [show (arrOf st).size = a₀.size from hsz r0]
  extract_lets -merge N mr lo0
  have hN : N = a₀.size := rfl
  have h0 : 0 < N := Nat.lt_of_lt_of_le Nat.zero_lt_two h2
  have hmr : (N < 64 ∧ mr = N) ∨ (N = 64 ∧ mr = 32) := by
    rcases Nat.lt_or_ge N 64 with q | q
    · exact .inl ⟨q, minRun_small h0 q⟩
    · have : N = 64 := Nat.le_antisymm h64 q
      exact .inr ⟨this, by show minRun' N N 0 = 32; rw [this]; exact minRun_64⟩
  clear_value mr
  rw [← hN] at hsz
  clear_value N
  clear hN h2 h64
  refine wpS_bind (wpS_mono (wpS_forRange (I := fun x c st' => c.1 = none ∧ Rn a₀ κ st' ∧ Ph O key N mr x c.2 st') (Q := fun c st' => c.1 = none ∧ Rn a₀ κ st' ∧ Runs O key N st')
    (fun x c st' _ hx hI => ?_) (fun c st' hI => ⟨hI.1, hI.2.1, ?_⟩) ⟨rfl, r0, .start rfl rfl hp0⟩) fun c st' hQ => ?_)
  · extract_lets -merge lo jp force n'
    have r := hI.2.1
    have p : Ph O key N mr x lo st' := hI.2.2
    clear_value lo
    cases p with
    | all h1 h2 h3 => exact wpS_ite (fun _ => wpS_pure ⟨rfl, r, h3⟩) fun q => absurd (Nat.le_of_eq h2.symm) q
    | start hx0 hl hp =>
      subst hl
      refine wpS_ite (fun q => absurd h0 (Nat.not_lt.mpr q)) fun _ => ?_
      refine wpS_bind (wpS_count LO r.kind (r.els ea) h0 (by rw [hsz r, Nat.zero_add]; exact Nat.le_refl _) fun m st2 kp hm1 hm2 ha2 => ?_)
      rw [Nat.zero_add] at ha2
      rw [Nat.sub_zero] at hm2
      have r2 := r.kp kp
      dsimp -zeta only
      extract_lets -merge n
      have J : ∀ n st3, Rn a₀ κ st3 → pendingOf st3 = #[] → 1 ≤ n → n ≤ N → (n = N ∨ (N = 64 ∧ mr = 32 ∧ 32 ≤ n)) → Asc O key (arrOf st3) 0 n → wpS (model prog w) A E s (jp () n) (StepQ (fun c st' => c.1 = none ∧ Rn a₀ κ st' ∧ Ph O key N mr (x + 1) c.2 st') (fun c st' => c.1 = none ∧ Rn a₀ κ st' ∧ Runs O key N st')) st3 := fun n st3 r3 p3 n1 n2 n3 a3 => by
        refine wpS_bind (wpS_get ?_)
        rw [show (pendingOf st3).back? = none from by rw [p3]; rfl]
        refine wpS_bind (wpS_modify (wpS_pure ?_))
        have pe : pendingOf (setPending st3 ((pendingOf st3).push (0, n, 0))) = #[(0, n, 0)] := by show (pendingOf st3).push _ = _; rw [p3]; rfl
        refine ⟨rfl, ⟨r3.kind, r3.failed, r3.perm⟩, ?_⟩
        show Ph O key N mr (x + 1) (0 + n) _
        rw [Nat.zero_add]
        rcases Nat.lt_or_ge n N with q | q
        · obtain ⟨q1, q2, q3⟩ := n3.resolve_left (Nat.ne_of_lt q)
          exact .one (by rw [hx0]) q q1 q2 q3 pe a3
        · have e := Nat.le_antisymm n2 q
          exact .all (Nat.succ_le_succ (Nat.zero_le _)) e (.inl ⟨by rw [pe, e], by rw [← e]; exact a3⟩)
      refine wpS_ite (fun hlt => wpS_bind (wpS_lift (wpAny_rule ⟨rfl, ?_⟩))) fun hlt => J _ _ r2 (kp.pend.trans hp) hm1 hm2 (by omega) ha2
      refine wpS_bind (wpS_binary LO r2.kind (r2.els ea) hm1 (by show m ≤ min (N - 0) mr; omega) (by show 0 + min (N - 0) mr ≤ _; rw [hsz r2]; omega) (by rw [Nat.zero_add]; exact ha2) fun st3 kp3 ha3 => ?_)
      rw [Nat.zero_add] at ha3
      refine wpS_ite (fun q => absurd q (by simp)) fun _ => J _ _ (r2.kp kp3) (kp3.pend.trans (kp.pend.trans hp)) (by show 1 ≤ min (N - 0) mr; omega) (by show min (N - 0) mr ≤ N; omega) (by show min (N - 0) mr = N ∨ _ ∧ _ ∧ 32 ≤ min (N - 0) mr; omega) ha3
    | one hx1 hlo h64' hm32 h32 hp ha =>
      refine wpS_ite (fun q => absurd hlo (Nat.not_lt.mpr q)) fun _ => ?_
      have eN : lo + (N - lo) = N := Nat.add_sub_cancel' (Nat.le_of_lt hlo)
      refine wpS_bind (wpS_count LO r.kind (r.els ea) (Nat.sub_pos_of_lt hlo) (by rw [hsz r, eN]; exact Nat.le_refl _) fun m st2 kp hm1 hm2 ha2 => ?_)
      have r2 := r.kp kp
      have hal2 := ha.kp kp (Nat.le_refl _)
      have hp2 := kp.pend.trans hp
      dsimp -zeta only
      extract_lets -merge n
      have J : ∀ n st3, Rn a₀ κ st3 → pendingOf st3 = #[(0, lo, 0)] → n = N - lo → Asc O key (arrOf st3) 0 lo → Asc O key (arrOf st3) lo (lo + n) → wpS (model prog w) A E s (jp () n) (StepQ (fun c st' => c.1 = none ∧ Rn a₀ κ st' ∧ Ph O key N mr (x + 1) c.2 st') (fun c st' => c.1 = none ∧ Rn a₀ κ st' ∧ Runs O key N st')) st3 := fun n st3 r3 p3 n1 a3 b3 => by
        refine wpS_bind (wpS_get ?_)
        rw [show (pendingOf st3).back? = some (0, lo, 0) from by rw [p3]; rfl]
        refine wpS_bind (wpS_mono (wpS_forRange (I := fun _ c s' => s' = st3 ∧ c = (none, ())) (Q := fun c s' => s' = st3 ∧ c = (none, ())) (fun y c s' _ _ hK => ?_) (fun _ _ hh => hh) ⟨rfl, rfl⟩) fun c s' hK => ?_)
        · obtain ⟨rfl, rfl⟩ := hK
          refine wpS_bind (wpS_get ?_)
          rw [p3]
          exact wpS_pure ⟨rfl, rfl⟩
        · obtain ⟨rfl, rfl⟩ := hK
          refine wpS_bind (wpS_modify (wpS_bind (wpS_modify (wpS_pure ⟨rfl, ⟨r3.kind, r3.failed, r3.perm⟩, .all (Nat.succ_le_succ (Nat.zero_le _)) (by rw [n1]; exact eN) (.inr ⟨lo, n, power' N (2 * 0 + lo) (2 * 0 + lo + lo + n) N, 0, by rw [n1]; exact eN, Nat.le_trans (by decide) h32, by rw [n1]; exact Nat.sub_pos_of_lt hlo, ?_, a3, b3⟩)⟩))))
          show ((pendingOf _).modify _ _).push _ = _
          rw [p3]
          apply Array.toList_inj.mp
          simp
      refine wpS_ite (fun hlt => wpS_bind (wpS_lift (wpAny_rule ⟨rfl, ?_⟩))) fun hlt => J _ _ r2 hp2 (by show m = N - lo; omega) hal2 ha2
      have ef : force = N - lo := by show min (N - lo) mr = N - lo; omega
      refine wpS_bind (wpS_binary LO r2.kind (r2.els ea) hm1 (by rw [ef]; exact hm2) (by rw [ef, hsz r2, eN]; exact Nat.le_refl _) ha2 fun st3 kp3 ha3 => ?_)
      exact wpS_ite (fun q => absurd q (by simp)) fun _ => J _ _ (r2.kp kp3) (kp3.pend.trans hp2) ef (hal2.kp kp3 (Nat.le_refl _)) ha3
  · have hx : max 0 N = N := Nat.max_eq_right (Nat.zero_le _)
    cases hI.2.2 with
    | start a b c => exact absurd a (by rw [hx]; omega)
    | one a b c d e f g => exact absurd a (by rw [hx]; omega)
    | all a b c => exact c
  · extract_lets -merge rr lo
    rw [show rr = none from hQ.1]
    have r := hQ.2.1
    have sz : (arrOf st').size = N := hsz r
    refine hQ.2.2.elim (fun q => ?_) fun q => ?_
    · refine wpS_bind (wpS_mono (wpS_forRange (I := fun _ c st'' => st'' = st' ∧ c = (none, ())) (Q := fun c st'' => st'' = st' ∧ c = (none, ())) (fun x c st'' _ _ hK => ?_) (fun _ _ hh => hh) ⟨rfl, rfl⟩) fun c st'' hK => ?_)
      · obtain ⟨rfl, rfl⟩ := hK
        refine wpS_bind (wpS_get ?_)
        rw [q.1]
        exact wpS_pure ⟨rfl, rfl⟩
      · obtain ⟨rfl, rfl⟩ := hK
        exact wpS_pure (h _ r.perm r.failed (Runs.srt1 q.2 sz))
    · obtain ⟨n1, n2, p, q, hn, i1, i2, hp, ha1, ha2⟩ := q
      refine wpS_bind (wpS_mono (wpS_forRange (I := fun x c st'' => c = (none, ()) ∧ ((x = 0 ∧ st'' = st') ∨ (1 ≤ x ∧ Rn a₀ κ st'' ∧ pendingOf st'' = #[(0, n1 + n2, p)] ∧ Srt O key (arrOf st'').toList)))
        (Q := fun c st'' => c = (none, ()) ∧ Rn a₀ κ st'' ∧ Srt O key (arrOf st'').toList) (fun x c st'' _ hx hK => ?_) (fun c st'' hK => ?_) ⟨rfl, .inl ⟨rfl, rfl⟩⟩) fun c st'' hK => ?_)
      · obtain ⟨rfl, ⟨rfl, rfl⟩ | ⟨h1, r1, p1, s1⟩⟩ := hK
        · refine wpS_bind (wpS_get ?_)
          rw [hp]
          refine wpS_bind (wpS_mergeAt LO r.kind (r.els ea) i1 i2 (by rw [sz, hn]) hp r.failed ha1 ha2 fun st3 k3 f3 p3 pm3 s3 => ?_)
          exact wpS_pure ⟨rfl, .inr ⟨Nat.le_refl _, ⟨k3, f3, pm3.trans r.perm⟩, p3, s3⟩⟩
        · refine wpS_bind (wpS_get ?_)
          rw [p1]
          exact wpS_pure ⟨rfl, r1, s1⟩
      · obtain ⟨rfl, ⟨hx, _⟩ | ⟨_, r1, _, s1⟩⟩ := hK
        · exact absurd hx (by rw [Nat.max_eq_right (Nat.zero_le _)]; omega)
        · exact ⟨rfl, r1, s1⟩
      · obtain ⟨rfl, r1, s1⟩ := hK
        exact wpS_pure (h _ r1.perm r1.failed s1)
end
-- Fw
/-! ## data -/
inductive D where
  | none | bool (b : Bool) | int (i : Int) | str (s : List Nat) | tup (ds : List D) | lst (ds : List D) | rng (a b c : Int) | app (a : Addr) | fn | val (v : Value)
noncomputable abbrev Sto := List (Addr × List D)
noncomputable abbrev Loc := List (Str × D)
noncomputable def own (σ : Sto) (a : Addr) : Prop := a ∈ σ.map Prod.fst
noncomputable abbrev listObj (vs : List Value) (n : Nat) : Obj := { cls := .type "list", data := .seq vs.toArray n }
noncomputable abbrev tupObj (vs : List Value) (n : Nat) : Obj := { cls := .type "tuple", data := .seq vs.toArray n }
noncomputable abbrev rngObj (a b c : Int) (t u v : Tok) : Obj := { cls := .type "range", dict := none, data := .fields #[.int a t, .int b u, .int c v], slots := #[] }
noncomputable abbrev fnObj (fd : FuncData) : Obj := { cls := .type "function", data := .func fd }
noncomputable abbrev bmObj (id : String) (self : Value) : Obj := { cls := .type "builtin_function_or_method", data := .fields #[.builtin id, self] }
mutual
inductive Rd (h : Heap) (o : Addr → Prop) : Value → D → Prop
  | none : Rd h o .none .none
  | bool (b : Bool) : Rd h o (.bool b) (.bool b)
  | int (i : Int) (t : Tok) : Rd h o (.int i t) (.int i)
  | str (s : List Nat) (t : Tok) : Rd h o (.str ⟨s.toArray⟩ t) (.str s)
  | val (v : Value) : Rd h o v (.val v)
  | tup (a : Addr) (vs : List Value) (n : Nat) (ds : List D) : h.get? a = some (tupObj vs n) → RdL h o vs ds → Rd h o (.ref a) (.tup ds)
  | lst (a : Addr) (vs : List Value) (n : Nat) (ds : List D) : h.get? a = some (listObj vs n) → ¬ o a → RdL h o vs ds → Rd h o (.ref a) (.lst ds)
  | rng (r : Addr) (a b c : Int) (t u v : Tok) : h.get? r = some (rngObj a b c t u v) → Rd h o (.ref r) (.rng a b c)
  | fn (m : Addr) (fd : FuncData) : h.get? m = some (fnObj fd) → Rd h o (.ref m) .fn
  | app (m a : Addr) : h.get? m = some (bmObj "list.append" (.ref a)) → Rd h o (.ref m) (.app a)
inductive RdL (h : Heap) (o : Addr → Prop) : List Value → List D → Prop
  | nil : RdL h o [] []
  | cons {v : Value} {d : D} {vs : List Value} {ds : List D} : Rd h o v d → RdL h o vs ds → RdL h o (v :: vs) (d :: ds)
end
inductive Fix (o : Addr → Prop) (b : Addr) : Obj → Prop
  | tup (vs n) : Fix o b (tupObj vs n)
  | lst (vs n) : ¬ o b → Fix o b (listObj vs n)
  | rng (x y z t u v) : Fix o b (rngObj x y z t u v)
  | app (a) : Fix o b (bmObj "list.append" (.ref a))
  | fn (fd) : Fix o b (fnObj fd)
mutual
theorem Rd.mono {h h' : Heap} {o o' : Addr → Prop} (hk : ∀ b ob, h.get? b = some ob → Fix o b ob → h'.get? b = some ob)
    (ho : ∀ b ob, h.get? b = some ob → o' b → o b) : ∀ {v : Value} {d : D}, Rd h o v d → Rd h' o' v d
  | _, _, .none => .none
  | _, _, .bool b => .bool b
  | _, _, .int i t => .int i t
  | _, _, .str s t => .str s t
  | _, _, .val v => .val v
  | _, _, .tup a vs n ds e r => .tup a vs n ds (hk a _ e (.tup vs n)) (RdL.mono hk ho r)
  | _, _, .lst a vs n ds e q r => .lst a vs n ds (hk a _ e (.lst vs n q)) (fun x => q (ho a _ e x)) (RdL.mono hk ho r)
  | _, _, .rng r a b c t u v e => .rng r a b c t u v (hk r _ e (.rng ..))
  | _, _, .app m a e => .app m a (hk m _ e (.app ..))
  | _, _, .fn m fd e => .fn m fd (hk m _ e (.fn ..))
theorem RdL.mono {h h' : Heap} {o o' : Addr → Prop} (hk : ∀ b ob, h.get? b = some ob → Fix o b ob → h'.get? b = some ob)
    (ho : ∀ b ob, h.get? b = some ob → o' b → o b) : ∀ {vs : List Value} {ds : List D}, RdL h o vs ds → RdL h' o' vs ds
  | _, _, .nil => .nil
  | _, _, .cons a r => .cons (Rd.mono hk ho a) (RdL.mono hk ho r)
end
section
variable {h : Heap} {o : Addr → Prop} {v : Value}
theorem Rd.noneE (r : Rd h o v .none) : v = .none := by cases r; rfl
theorem Rd.boolE {b : Bool} (r : Rd h o v (.bool b)) : v = .bool b := by cases r; rfl
theorem Rd.intE {i : Int} (r : Rd h o v (.int i)) : ∃ t, v = .int i t := by cases r; exact ⟨_, rfl⟩
theorem Rd.strE {s : List Nat} (r : Rd h o v (.str s)) : ∃ t, v = .str ⟨s.toArray⟩ t := by cases r; exact ⟨_, rfl⟩
theorem Rd.valE {u : Value} (r : Rd h o v (.val u)) : v = u := by cases r; rfl
theorem Rd.tupE {ds : List D} (r : Rd h o v (.tup ds)) : ∃ a vs n, v = .ref a ∧ h.get? a = some (tupObj vs n) ∧ RdL h o vs ds := by cases r; exact ⟨_, _, _, rfl, by assumption, by assumption⟩
theorem Rd.lstE {ds : List D} (r : Rd h o v (.lst ds)) : ∃ a vs n, v = .ref a ∧ h.get? a = some (listObj vs n) ∧ ¬ o a ∧ RdL h o vs ds := by cases r; exact ⟨_, _, _, rfl, by assumption, by assumption, by assumption⟩
theorem Rd.rngE {a b c : Int} (r : Rd h o v (.rng a b c)) : ∃ x t u w, v = .ref x ∧ h.get? x = some (rngObj a b c t u w) := by cases r; exact ⟨_, _, _, _, rfl, by assumption⟩
theorem Rd.appE {a : Addr} (r : Rd h o v (.app a)) : ∃ m, v = .ref m ∧ h.get? m = some (bmObj "list.append" (.ref a)) := by cases r; exact ⟨_, rfl, by assumption⟩
theorem Rd.fnE (r : Rd h o v .fn) : ∃ m fd, v = .ref m ∧ h.get? m = some (fnObj fd) := by cases r; exact ⟨_, _, rfl, by assumption⟩
theorem RdL.nilE {vs : List Value} (r : RdL h o vs []) : vs = [] := by cases r; rfl
theorem RdL.consE {vs : List Value} {d : D} {ds : List D} (r : RdL h o vs (d :: ds)) : ∃ v us, vs = v :: us ∧ Rd h o v d ∧ RdL h o us ds := by cases r; exact ⟨_, _, rfl, by assumption, by assumption⟩
end
theorem RdL.length {h : Heap} {o : Addr → Prop} : ∀ {vs : List Value} {ds : List D}, RdL h o vs ds → vs.length = ds.length
  | _, _, .nil => rfl
  | _, _, .cons _ r => congrArg Nat.succ r.length
theorem RdL.append {h : Heap} {o : Addr → Prop} : ∀ {vs : List Value} {ds : List D} {vs' : List Value} {ds' : List D}, RdL h o vs ds → RdL h o vs' ds' → RdL h o (vs ++ vs') (ds ++ ds')
  | _, _, _, _, .nil, q => q
  | _, _, _, _, .cons a r, q => .cons a (r.append q)
theorem RdL.get {h : Heap} {o : Addr → Prop} : ∀ {vs : List Value} {ds : List D}, RdL h o vs ds → ∀ (i : Nat) (d : D), ds[i]? = some d → ∃ v, vs[i]? = some v ∧ Rd h o v d
  | _, _, .cons a _, 0, _, e => by simp at e; subst e; exact ⟨_, rfl, a⟩
  | _, _, .cons _ r, i + 1, d, e => by simp at e; obtain ⟨v, h1, h2⟩ := r.get i d e; exact ⟨v, by simpa using h1, h2⟩
theorem RdL.get' {h : Heap} {o : Addr → Prop} : ∀ {vs : List Value} {ds : List D}, RdL h o vs ds → ∀ (i : Nat) (v : Value), vs[i]? = some v → ∃ d, ds[i]? = some d ∧ Rd h o v d
  | _, _, .cons a _, 0, _, e => by simp at e; subst e; exact ⟨_, rfl, a⟩
  | _, _, .cons _ r, i + 1, d, e => by simp at e; obtain ⟨v, h1, h2⟩ := r.get' i d e; exact ⟨v, by simpa using h1, h2⟩
theorem RdL.set {h : Heap} {o : Addr → Prop} {v : Value} {d : D} (q : Rd h o v d) : ∀ {vs : List Value} {ds : List D}, RdL h o vs ds → ∀ (i : Nat), RdL h o (vs.set i v) (ds.set i d)
  | _, _, .nil, _ => .nil
  | _, _, .cons _ r, 0 => .cons q r
  | _, _, .cons a r, i + 1 => .cons a (r.set q i)
theorem RdL.take {h : Heap} {o : Addr → Prop} : ∀ {vs : List Value} {ds : List D}, RdL h o vs ds → ∀ n, RdL h o (vs.take n) (ds.take n)
  | _, _, .nil, n => by simp; exact .nil
  | _, _, .cons a r, 0 => .nil
  | _, _, .cons a r, n + 1 => .cons a (r.take n)
theorem RdL.drop {h : Heap} {o : Addr → Prop} : ∀ {vs : List Value} {ds : List D}, RdL h o vs ds → ∀ n, RdL h o (vs.drop n) (ds.drop n)
  | _, _, .nil, n => by simp; exact .nil
  | _, _, .cons a r, 0 => .cons a r
  | _, _, .cons a r, n + 1 => r.drop n
theorem RdL.eraseIdx {h : Heap} {o : Addr → Prop} : ∀ {vs : List Value} {ds : List D}, RdL h o vs ds → ∀ n, RdL h o (vs.eraseIdx n) (ds.eraseIdx n)
  | _, _, .nil, n => by simp; exact .nil
  | _, _, .cons a r, 0 => r
  | _, _, .cons a r, n + 1 => .cons a (r.eraseIdx n)
/-! ## the ground, the frames, the state -/
structure G where
  prog : Program
  w : World
  H0 : Heap
  K : Frag
  mg : Str → Option Value
  mb : Str → Option Value
  tc : Addr
  tp : Addr
structure GOk (g : G) : Prop where
  gns : g.H0.Ns mainGlobals g.mg
  bns : g.H0.Ns builtinsNs g.mb
  bi : ∀ x : Str, x ≠ "__name__" → g.mb x = bootBuiltins x
  nolimit : g.H0.NoLimit
  inK : g.K.In g.H0
  noP : g.H0.get? g.tp = none
  code : CodeHd g.H0 g.tc g.tp
  bat : g.H0.BuiltinsAt g.mg g.tp
  apart : mainGlobals ≠ g.tp
structure Fm where
  env : Env
  vol : Addr → Prop
  k : Nat
noncomputable def TabOk (g : G) (h : Heap) : Prop := ∃ ps, h.get? g.tp = some (tabObj ps) ∧ TriplesOk ps.toList
structure Base (g : G) (s : Shared) (σ : Sto) : Prop where
  ok : GOk g
  keep0 : ∀ b o, g.H0.get? b = some o → s.heap.get? b = some o
  cells : ∀ a ds, (a, ds) ∈ σ → ∃ vs n, s.heap.get? a = some (listObj vs n) ∧ RdL s.heap (own σ) vs ds ∧ g.H0.get? a = none
  nodup : (σ.map Prod.fst).Nodup
  tab : TabOk g s.heap
  gens : AllBare s.gens
noncomputable def VarIs (env : Env) (h : Heap) (x : Str) (v : Value) : Prop :=
  (env.kindOf x = some .local ∧ ∃ m, h.Ns env.locals m ∧ m x = some v) ∨
  ((env.kindOf x = some .cell ∨ env.kindOf x = some .free) ∧ ∃ c, env.cells.lookup x = some c ∧ h.IsCell c (some v))
structure St (g : G) (f : Fm) (s : Shared) (ρ : Loc) (σ : Sto) : Prop where
  base : Base g s σ
  kind : f.env.scope.kind = .function
  globals : f.env.globals = mainGlobals
  builtins : f.env.builtins = builtinsNs
  vols : ∀ b, f.vol b → g.H0.get? b = none ∧ ((∃ m, s.heap.Ns b m) ∨ (∃ v, s.heap.IsCell b v))
  loc : f.vol f.env.locals
  ns : ∃ m, s.heap.Ns f.env.locals m
  cell : ∀ x, f.env.kindOf x = some .cell → ∃ c, f.env.cells.lookup x = some c ∧ f.vol c ∧ ∃ v, s.heap.IsCell c v
  apart : f.env.cells.Pairwise fun x y => x.2 ≠ y.2
  vars : ∀ x d, ρ.lookup x = some d → ∃ v, VarIs f.env s.heap x v ∧ Rd s.heap (own σ) v d
noncomputable abbrev rest (s : Shared) := (s.os, s.gens)
structure Step (g : G) (vol : Addr → Prop) (σ : Sto) (s s' : Shared) (σ' : Sto) : Prop where
  keep : ∀ b o, s.heap.get? b = some o → ¬ vol b → ¬ own σ b → b ≠ g.tp → s'.heap.get? b = some o
  dom : ∀ b, own σ' b → own σ b ∨ s.heap.get? b = none
  alive : ∀ b o, s.heap.get? b = some o → ∃ o', s'.heap.get? b = some o'
  os : rest s' = rest s
theorem Fix.not_vol {o : Addr → Prop} {h : Heap} {b : Addr} {ob : Obj} (q : Fix o b ob) (e : h.get? b = some ob) : ¬ ((∃ m, h.Ns b m) ∨ ∃ v, h.IsCell b v) := by
  rintro (⟨m, o', es, ep, e', hd', _⟩ | ⟨v, o', e', hd'⟩)
  · rw [e] at e'; cases e'; cases q <;> cases hd'
  · rw [e] at e'; cases e'; cases q <;> cases hd'
theorem Fix.free {o : Addr → Prop} {b : Addr} : ∀ {ob : Obj}, Fix o b ob → ob.cls = .type "list" → ¬ o b
  | _, .tup .., e => absurd e (by simp)
  | _, .lst _ _ q, _ => q
  | _, .rng .., e => absurd e (by simp)
  | _, .app .., e => absurd e (by simp)
  | _, .fn .., e => absurd e (by simp)
theorem Fix.cls {o : Addr → Prop} {b : Addr} : ∀ {ob : Obj}, Fix o b ob → ob.cls ≠ .none
  | _, .tup .., e => by cases e
  | _, .lst .., e => by cases e
  | _, .rng .., e => by cases e
  | _, .app .., e => by cases e
  | _, .fn .., e => by cases e
theorem Rd.step {g : G} {f : Fm} {σ σ' : Sto} {s s' : Shared} (vols : ∀ b, f.vol b → (∃ m, s.heap.Ns b m) ∨ (∃ v, s.heap.IsCell b v)) (B : Base g s σ) (S : Step g f.vol σ s s' σ') {v : Value} {d : D}
    (r : Rd s.heap (own σ) v d) : Rd s'.heap (own σ') v d := by
  refine r.mono (fun b ob e q => S.keep b ob e (fun hb => q.not_vol e (vols b hb)) ?_ ?_) fun b ob e q => ?_
  · intro ho
    obtain ⟨p, hp, rfl⟩ := List.mem_map.mp ho
    obtain ⟨vs, n, e', _⟩ := B.cells p.1 p.2 hp
    rw [e] at e'; cases e'
    exact q.free rfl ho
  · rintro rfl
    obtain ⟨ps, e', _⟩ := B.tab
    rw [e] at e'; cases e'; exact q.cls rfl
  · exact (S.dom b q).elim id fun h => by rw [h] at e; cases e
-- Fw2
theorem RdL.step {g : G} {f : Fm} {σ σ' : Sto} {s s' : Shared} (vols : ∀ b, f.vol b → (∃ m, s.heap.Ns b m) ∨ (∃ v, s.heap.IsCell b v)) (B : Base g s σ) (S : Step g f.vol σ s s' σ') :
    ∀ {vs : List Value} {ds : List D}, RdL s.heap (own σ) vs ds → RdL s'.heap (own σ') vs ds
  | _, _, .nil => .nil
  | _, _, .cons a r => .cons (a.step vols B S) (r.step vols B S)
theorem St.vols' {g : G} {f : Fm} {s : Shared} {ρ : Loc} {σ : Sto} (S : St g f s ρ σ) : ∀ b, f.vol b → (∃ m, s.heap.Ns b m) ∨ (∃ v, s.heap.IsCell b v) := fun b hb => (S.vols b hb).2
theorem Step.refl {g : G} {vol : Addr → Prop} {σ : Sto} {s : Shared} : Step g vol σ s s σ := ⟨fun _ _ e _ _ _ => e, fun _ h => .inl h, fun _ o e => ⟨o, e⟩, rfl⟩
theorem Step.trans {g : G} {vol : Addr → Prop} {σ₁ σ₂ σ₃ : Sto} {s₁ s₂ s₃ : Shared} (x : Step g vol σ₁ s₁ s₂ σ₂) (y : Step g vol σ₂ s₂ s₃ σ₃) : Step g vol σ₁ s₁ s₃ σ₃ where
  keep := fun b o e h1 h2 h3 => y.keep b o (x.keep b o e h1 h2 h3) h1 (fun h => (x.dom b h).elim h2 fun q => by rw [q] at e; cases e) h3
  dom := fun b h => (y.dom b h).elim (x.dom b) fun q => by
    cases e : s₁.heap.get? b with
    | none => exact .inr rfl
    | some o => obtain ⟨o', e'⟩ := x.alive b o e; rw [q] at e'; cases e'
  alive := fun b o e => let ⟨o', e'⟩ := x.alive b o e; y.alive b o' e'
  os := y.os.trans x.os
theorem Base.tok {g : G} {s : Shared} {σ : Sto} (B : Base g s σ) (t : Nat) : Base g { s with toks := t } σ := ⟨B.ok, B.keep0, B.cells, B.nodup, B.tab, B.gens⟩
theorem St.tok {g : G} {f : Fm} {s : Shared} {ρ : Loc} {σ : Sto} (S : St g f s ρ σ) (t : Nat) : St g f { s with toks := t } ρ σ :=
  ⟨S.base.tok t, S.kind, S.globals, S.builtins, S.vols, S.loc, S.ns, S.cell, S.apart, S.vars⟩
theorem Step.tok {g : G} {vol : Addr → Prop} {σ : Sto} {s : Shared} (t : Nat) : Step g vol σ s { s with toks := t } σ := ⟨fun _ _ e _ _ _ => e, fun _ h => .inl h, fun _ o e => ⟨o, e⟩, rfl⟩
theorem Base.grow {g : G} {s : Shared} {σ : Sto} (B : Base g s σ) {h' : Heap} (hk : ∀ b o, s.heap.get? b = some o → h'.get? b = some o) (hs : s.heap.objs.size ≤ h'.objs.size) (t : Nat) : Base g { s with heap := h', toks := t } σ where
  ok := B.ok
  keep0 := fun b o e => hk b o (B.keep0 b o e)
  cells := fun a ds h => let ⟨vs, n, e, r, l⟩ := B.cells a ds h; ⟨vs, n, hk _ _ e, r.mono (fun b ob e _ => hk b ob e) fun _ _ _ q => q, l⟩
  nodup := B.nodup
  tab := let ⟨ps, e, r⟩ := B.tab; ⟨ps, hk _ _ e, r⟩
  gens := B.gens
theorem VarIs.keeps {env : Env} {h h' : Heap} {x : Str} {v : Value} (V : VarIs env h x v) (hk : ∀ b o, h.get? b = some o → h'.get? b = some o) : VarIs env h' x v :=
  V.imp (fun ⟨k, m, a, b⟩ => ⟨k, m, a.keeps hk, b⟩) fun ⟨k, c, a, b⟩ => ⟨k, c, a, b.keeps hk⟩
theorem St.grow {g : G} {f : Fm} {s : Shared} {ρ : Loc} {σ : Sto} (S : St g f s ρ σ) {h' : Heap} (hk : ∀ b o, s.heap.get? b = some o → h'.get? b = some o) (hs : s.heap.objs.size ≤ h'.objs.size) (t : Nat) : St g f { s with heap := h', toks := t } ρ σ where
  base := S.base.grow hk hs t
  kind := S.kind
  globals := S.globals
  builtins := S.builtins
  vols := fun b hb => ⟨(S.vols b hb).1, (S.vols b hb).2.imp (fun ⟨m, x⟩ => ⟨m, x.keeps hk⟩) fun ⟨v, x⟩ => ⟨v, x.keeps hk⟩⟩
  loc := S.loc
  ns := let ⟨m, x⟩ := S.ns; ⟨m, x.keeps hk⟩
  cell := fun x hx => let ⟨c, a, b, v, d⟩ := S.cell x hx; ⟨c, a, b, v, d.keeps hk⟩
  apart := S.apart
  vars := fun x d h => let ⟨v, a, r⟩ := S.vars x d h; ⟨v, a.keeps hk, r.mono (fun b ob e _ => hk b ob e) fun _ _ _ q => q⟩
theorem Step.grow {g : G} {vol : Addr → Prop} {σ : Sto} {s : Shared} {h' : Heap} (hk : ∀ b o, s.heap.get? b = some o → h'.get? b = some o) (hs : s.heap.objs.size ≤ h'.objs.size) (t : Nat) : Step g vol σ s { s with heap := h', toks := t } σ :=
  ⟨fun b o e _ _ _ => hk b o e, fun _ h => .inl h, fun b o e => ⟨o, hk b o e⟩, rfl⟩
theorem push_keeps (h : Heap) (o : Obj) : ∀ b ob, h.get? b = some ob → (h.push o).get? b = some ob := fun _ _ e => Heap.get?_push_of_some o e
theorem push_size (h : Heap) (o : Obj) : h.objs.size ≤ (h.push o).objs.size := by rw [Heap.size_push]; omega
/-! ## triples -/
noncomputable def AOk (k : Nat) (A : Around) : Prop := A.handled = none ∧ A.depth + k < recursionLimit ∧ A.units + 20 * k + 100 < cLine
inductive Fl where
  | next | brk | cont | ret (d : D)
inductive RdF (h : Heap) (o : Addr → Prop) : Flow → Fl → Prop
  | next : RdF h o .next .next
  | brk : RdF h o .brk .brk
  | cont : RdF h o .cont .cont
  | ret {v : Value} {d : D} : Rd h o v d → RdF h o (.ret v) (.ret d)
noncomputable def TE (g : G) (f : Fm) {α β : Type} (R : Heap → (Addr → Prop) → α → β → Prop) (t : Sem α) (ρ : Loc) (σ : Sto) (Q : β → Sto → Prop) : Prop :=
  ∀ (A : Around) (s : Shared) (Q' : α → Shared → Prop), AOk f.k A → St g f s ρ σ →
    (∀ a b s' σ', Q b σ' → St g f s' ρ σ' → R s'.heap (own σ') a b → Step g f.vol σ s s' σ' → Q' a s') → wpAny (model g.prog g.w) A t Q' (fun _ _ => False) s
noncomputable def RB (_ : Heap) (_ : Addr → Prop) (a b : Bool) : Prop := a = b
noncomputable def TS (g : G) (f : Fm) {α β : Type} (R : Heap → (Addr → Prop) → α → β → Prop) (t : Sem α) (ρ : Loc) (σ : Sto) (Q : β → Loc → Sto → Prop) : Prop :=
  ∀ (A : Around) (s : Shared) (Q' : α → Shared → Prop), AOk f.k A → St g f s ρ σ →
    (∀ a b s' ρ' σ', Q b ρ' σ' → St g f s' ρ' σ' → R s'.heap (own σ') a b → Step g f.vol σ s s' σ' → Q' a s') → wpAny (model g.prog g.w) A t Q' (fun _ _ => False) s
noncomputable abbrev WE (g : G) (f : Fm) (e : Expr) (ρ : Loc) (σ : Sto) (Q : D → Sto → Prop) : Prop := TE g f Rd (eval e f.env) ρ σ Q
noncomputable abbrev WT (g : G) (f : Fm) (e : Expr) (ρ : Loc) (σ : Sto) (Q : Bool → Sto → Prop) : Prop := TE g f RB (isTrue e f.env (eval e f.env)) ρ σ Q
noncomputable abbrev WL (g : G) (f : Fm) (es : List Expr) (pos : Pos) (ρ : Loc) (σ : Sto) (Q : List D → Sto → Prop) : Prop := TE g f RdL (spliced (backTo pos (starEach es f.env))) ρ σ Q
noncomputable abbrev WS (g : G) (f : Fm) (st : Stmt) (ρ : Loc) (σ : Sto) (Q : Fl → Loc → Sto → Prop) : Prop := TS g f RdF (exec st f.env) ρ σ Q
noncomputable abbrev WSs (g : G) (f : Fm) (sts : List Stmt) (ρ : Loc) (σ : Sto) (Q : Fl → Loc → Sto → Prop) : Prop := TS g f RdF (execs sts f.env) ρ σ Q
noncomputable def O1 (g : G) (f : Fm) {α β : Type} (R : Heap → (Addr → Prop) → α → β → Prop) (t : Value → Sem α) (d : D) (ρ : Loc) (σ : Sto) (Q : β → Sto → Prop) : Prop :=
  ∀ (A : Around) (s : Shared) (v : Value) (Q' : α → Shared → Prop), AOk f.k A → St g f s ρ σ → Rd s.heap (own σ) v d →
    (∀ a b s' σ', Q b σ' → St g f s' ρ σ' → R s'.heap (own σ') a b → Step g f.vol σ s s' σ' → Q' a s') → wpAny (model g.prog g.w) A (t v) Q' (fun _ _ => False) s
noncomputable def O2 (g : G) (f : Fm) {α β : Type} (R : Heap → (Addr → Prop) → α → β → Prop) (t : Value → Value → Sem α) (d e : D) (ρ : Loc) (σ : Sto) (Q : β → Sto → Prop) : Prop :=
  ∀ (A : Around) (s : Shared) (v u : Value) (Q' : α → Shared → Prop), AOk f.k A → St g f s ρ σ → Rd s.heap (own σ) v d → Rd s.heap (own σ) u e →
    (∀ a b s' σ', Q b σ' → St g f s' ρ σ' → R s'.heap (own σ') a b → Step g f.vol σ s s' σ' → Q' a s') → wpAny (model g.prog g.w) A (t v u) Q' (fun _ _ => False) s
noncomputable def OL (g : G) (f : Fm) {α β : Type} (R : Heap → (Addr → Prop) → α → β → Prop) (t : List Value → Sem α) (ds : List D) (ρ : Loc) (σ : Sto) (Q : β → Sto → Prop) : Prop :=
  ∀ (A : Around) (s : Shared) (vs : List Value) (Q' : α → Shared → Prop), AOk f.k A → St g f s ρ σ → RdL s.heap (own σ) vs ds →
    (∀ a b s' σ', Q b σ' → St g f s' ρ σ' → R s'.heap (own σ') a b → Step g f.vol σ s s' σ' → Q' a s') → wpAny (model g.prog g.w) A (t vs) Q' (fun _ _ => False) s
noncomputable abbrev KB2 (g : G) (f : Fm) (u : Value → Value → Sem Value) (a : D) (ρ : Loc) (Q : D → Sto → Prop) : D → Sto → Prop := fun b σ₂ => O2 g f Rd u a b ρ σ₂ Q
noncomputable abbrev KB (g : G) (f : Fm) (r : Expr) (u : Value → Value → Sem Value) (ρ : Loc) (Q : D → Sto → Prop) : D → Sto → Prop := fun a σ₁ => WE g f r ρ σ₁ (KB2 g f u a ρ Q)
noncomputable abbrev K1 (g : G) (f : Fm) (u : Value → Sem Value) (ρ : Loc) (Q : D → Sto → Prop) : D → Sto → Prop := fun a σ₁ => O1 g f Rd u a ρ σ₁ Q
noncomputable abbrev KTr (g : G) (f : Fm) (ρ : Loc) (Q : Bool → Sto → Prop) : D → Sto → Prop := fun d σ₁ => O1 g f RB truthy d ρ σ₁ Q
noncomputable abbrev KBo (Q : Bool → Sto → Prop) : D → Sto → Prop := fun d σ₃ => ∃ c, d = .bool c ∧ Q c σ₃
noncomputable abbrev KIfE (g : G) (f : Fm) (a b : Expr) (ρ : Loc) (Q : D → Sto → Prop) : Bool → Sto → Prop := fun c σ₁ => if c = true then WE g f a ρ σ₁ Q else WE g f b ρ σ₁ Q
section
variable {g : G} {f : Fm} {ρ : Loc} {σ : Sto}
theorem TE.mono {α β : Type} {R : Heap → (Addr → Prop) → α → β → Prop} {t : Sem α} {Q Q₁ : β → Sto → Prop} (h : TE g f R t ρ σ Q) (k : ∀ b σ', Q b σ' → Q₁ b σ') : TE g f R t ρ σ Q₁ :=
  fun A s Q' hA hS post => h A s Q' hA hS fun a b s' σ' q => post a b s' σ' (k b σ' q)
theorem TS.mono {α β : Type} {R : Heap → (Addr → Prop) → α → β → Prop} {t : Sem α} {Q Q₁ : β → Loc → Sto → Prop} (h : TS g f R t ρ σ Q) (k : ∀ b ρ' σ', Q b ρ' σ' → Q₁ b ρ' σ') : TS g f R t ρ σ Q₁ :=
  fun A s Q' hA hS post => h A s Q' hA hS fun a b s' ρ' σ' q => post a b s' ρ' σ' (k b ρ' σ' q)
theorem TE.then1 {α β : Type} {R : Heap → (Addr → Prop) → α → β → Prop} {t : Sem Value} {u : Value → Sem α} {Q : β → Sto → Prop}
    (h : TE g f Rd t ρ σ fun d σ₁ => O1 g f R u d ρ σ₁ Q) (A : Around) (s : Shared) (Q' : α → Shared → Prop) (hA : AOk f.k A) (hS : St g f s ρ σ)
    (post : ∀ a b s' σ', Q b σ' → St g f s' ρ σ' → R s'.heap (own σ') a b → Step g f.vol σ s s' σ' → Q' a s') :
    wpAny (model g.prog g.w) A t (fun v s₁ => wpAny (model g.prog g.w) A (u v) Q' (fun _ _ => False) s₁) (fun _ _ => False) s :=
  h A s _ hA hS fun v d s₁ σ₁ q S₁ r₁ p₁ => q A s₁ v Q' hA S₁ r₁ fun a b s' σ' q' S' r' p' => post a b s' σ' q' S' r' (p₁.trans p')
theorem TE.then2 {α β : Type} {R : Heap → (Addr → Prop) → α → β → Prop} {t : Sem Value} {t₂ : Sem Value} {u : Value → Value → Sem α} {Q : β → Sto → Prop}
    (h : TE g f Rd t ρ σ fun d σ₁ => TE g f Rd t₂ ρ σ₁ fun e σ₂ => O2 g f R u d e ρ σ₂ Q) (A : Around) (s : Shared) (Q' : α → Shared → Prop) (hA : AOk f.k A) (hS : St g f s ρ σ)
    (post : ∀ a b s' σ', Q b σ' → St g f s' ρ σ' → R s'.heap (own σ') a b → Step g f.vol σ s s' σ' → Q' a s') :
    wpAny (model g.prog g.w) A t (fun v s₁ => wpAny (model g.prog g.w) A t₂ (fun v₂ s₂ => wpAny (model g.prog g.w) A (u v v₂) Q' (fun _ _ => False) s₂) (fun _ _ => False) s₁) (fun _ _ => False) s :=
  h A s _ hA hS fun v d s₁ σ₁ q S₁ r₁ p₁ => q A s₁ _ hA S₁ fun v₂ e s₂ σ₂ q₂ S₂ r₂ p₂ => q₂ A s₂ v v₂ Q' hA S₂ (r₁.step S₁.vols' S₁.base p₂) r₂
    fun a b s' σ' q' S' r' p' => post a b s' σ' q' S' r' ((p₁.trans p₂).trans p')
/-! ### constants, names -/
theorem WE_int {i : Int} {k pos} {Q : D → Sto → Prop} (h : Q (.int i) σ) : WE g f (.Constant (.int i) k pos) ρ σ Q :=
  fun _ s _ _ hS post => wpAny_Constant_int (post _ _ _ _ h (hS.tok _) (.int ..) (.tok _))
theorem WE_str {x : Str} {k pos} {Q : D → Sto → Prop} (h : Q (.str x.cps.toList) σ) : WE g f (.Constant (.str x) k pos) ρ σ Q :=
  fun _ s _ _ hS post => wpAny_Constant_str (post _ _ _ _ h (hS.tok _) (.str x.cps.toList _) (.tok _))
theorem WE_none {k pos} {Q : D → Sto → Prop} (h : Q .none σ) : WE g f (.Constant .none k pos) ρ σ Q :=
  fun _ s _ _ hS post => wpAny_Constant_none (post _ _ _ _ h hS .none .refl)
theorem WE_bool {b : Bool} {k pos} {Q : D → Sto → Prop} (h : Q (.bool b) σ) : WE g f (.Constant (.bool b) k pos) ρ σ Q :=
  fun _ s _ _ hS post => wpAny_Constant_bool (post _ _ _ _ h hS (.bool b) .refl)
theorem loadVar {M : Model} {A : Around} {E : Value → Shared → Prop} {s : Shared} {env : Env} {x : Str} {v : Value} {Q : Value → Shared → Prop} (hk : env.scope.kind = .function) (V : VarIs env s.heap x v) (h : Q v s)
    (hn : (x == ("__classdict__" : Str)) = false) : wpAny M A (loadName env x) Q E s := by
  rcases V with ⟨k, m, a, b⟩ | ⟨k | k, c, a, b⟩
  · exact wpAny_loadName_local hk k a b h
  · exact wpAny_loadName_cell hk k a b h
  · exact wpAny_loadName_free hk k a b h hn
theorem WE_var {x : Str} {pos : Pos} {d : D} {Q : D → Sto → Prop} (hx : ρ.lookup x = some d) (h : Q d σ) (hd : ((x == ("__debug__" : Str)) || (x == ("__classdict__" : Str))) = false := by decide) : WE g f (.Name x pos) ρ σ Q :=
  fun A s Q' hA hS post => by
    obtain ⟨v, V, r⟩ := hS.vars x d hx
    rw [Bool.or_eq_false_iff] at hd
    exact wpAny_Name (loadVar hS.kind V (post v d s σ h hS r .refl) hd.2) hd.1
theorem WE_glob {x : Str} {pos : Pos} {v : Value} {d : D} {Q : D → Sto → Prop} (hg : g.mg x = some v) (r : ∀ h o, Rd h o v d) (h : Q d σ)
    (hx : f.env.kindOf x = some .globalImplicit := by with_unfolding_all rfl) (hd : (x == ("__debug__" : Str)) = false := by decide) : WE g f (.Name x pos) ρ σ Q :=
  fun A s Q' hA hS post => Name_function_global hS.kind hx (loadGlobal_global (by rw [hS.globals]; exact hS.base.ok.gns.keeps hS.base.keep0) hg (post v d s σ h hS (r _ _) .refl)) hd
theorem WE_builtin {x : Str} {pos : Pos} {v : Value} {Q : D → Sto → Prop} (hg : g.mg x = none) (hv : bootBuiltins x = some v) (h : Q (.val v) σ)
    (hx : f.env.kindOf x = some .globalImplicit := by with_unfolding_all rfl) (hn : x ≠ "__name__" := by decide) (hd : (x == ("__debug__" : Str)) = false := by decide) : WE g f (.Name x pos) ρ σ Q :=
  fun A s Q' hA hS post => Name_function_global hS.kind hx (loadGlobal_builtin (by rw [hS.globals]; exact hS.base.ok.gns.keeps hS.base.keep0) hg (by rw [hS.builtins]; exact hS.base.ok.bns.keeps hS.base.keep0)
    ((hS.base.ok.bi x hn).trans hv) (post v _ s σ h hS (.val v) .refl)) hd
/-! ### expressions -/
theorem WE_BinOp {l r : Expr} {op : Operator} {pos : Pos} {Q : D → Sto → Prop} (h : WE g f l ρ σ (KB g f r (binaryOp op) ρ Q)) : WE g f (.BinOp l op r pos) ρ σ Q :=
  fun A s Q' hA hS post => wpAny_BinOp (TE.then2 h A s Q' hA hS post)
theorem WE_Compare {l r : Expr} {op : CmpOp} {pos : Pos} {Q : D → Sto → Prop} (h : WE g f l ρ σ (KB g f r (compareOp op) ρ Q))
    (hm : behindInMarks op r = false := by with_unfolding_all rfl) : WE g f (.Compare l [op] [r] pos) ρ σ Q :=
  fun A s Q' hA hS post => wpAny_Compare1 (TE.then2 h A s Q' hA hS post) hm
theorem WE_Unary {x : Expr} {op : UnaryOp} {pos : Pos} {Q : D → Sto → Prop} (h : WE g f x ρ σ (K1 g f (unaryOp op) ρ Q)) : WE g f (.UnaryOp op x pos) ρ σ Q :=
  fun A s Q' hA hS post => wpAny_UnaryOp (TE.then1 h A s Q' hA hS post)
theorem WE_IfExp {t a b : Expr} {pos : Pos} {Q : D → Sto → Prop} (h : WT g f t ρ σ (KIfE g f a b ρ Q)) : WE g f (.IfExp t a b pos) ρ σ Q :=
  fun A s Q' hA hS post => wpAny_IfExp (h A s _ hA hS fun c c' s₁ σ₁ q S₁ r₁ p₁ => by
    cases r₁
    cases c
    · exact q A s₁ Q' hA S₁ fun a b s' σ' q' S' r' p' => post a b s' σ' q' S' r' (p₁.trans p')
    · exact q A s₁ Q' hA S₁ fun a b s' σ' q' S' r' p' => post a b s' σ' q' S' r' (p₁.trans p'))
/-! ### tests -/
theorem WT_value {e : Expr} {Q : Bool → Sto → Prop} (h : WE g f e ρ σ (KTr g f ρ Q))
    (he : isTrue e f.env (eval e f.env) = (do let v ← eval e f.env; standAt e.pos; holding [v] (truthy v)) := by with_unfolding_all rfl) : WT g f e ρ σ Q :=
  fun A s Q' hA hS post => wpAny_isTrue_value (TE.then1 h A s Q' hA hS post) he
theorem WT_Compare {l r : Expr} {op : CmpOp} {pos : Pos} {Q : Bool → Sto → Prop} (h : WE g f l ρ σ (KB g f r (compareOp op) ρ (KBo Q)))
    (hm : behindInMarks op r = false := by with_unfolding_all rfl) : WT g f (.Compare l [op] [r] pos) ρ σ Q :=
  fun A s Q' hA hS post => wpAny_isTrue_Compare1 (h A s _ hA hS fun v d s₁ σ₁ q S₁ r₁ p₁ => q A s₁ _ hA S₁ fun v₂ e s₂ σ₂ q₂ S₂ r₂ p₂ =>
    q₂ A s₂ v v₂ _ hA S₂ (r₁.step S₁.vols' S₁.base p₂) r₂ fun w d s' σ' q S' r' p' => by
      obtain ⟨c, rfl, q⟩ := q
      obtain rfl := r'.boolE
      exact wpAny_truthy_bool (post c c s' σ' q S' rfl ((p₁.trans p₂).trans p'))) hm
end
-- Fw3
noncomputable def setL : Loc → Str → D → Loc
  | [], x, d => [(x, d)]
  | p :: r, x, d => match x == p.1 with
    | true => (x, d) :: r
    | false => p :: setL r x d
theorem setL_lookup (x : Str) (d : D) (y : Str) : ∀ ρ : Loc, (setL ρ x d).lookup y = if y = x then some d else ρ.lookup y
  | [] => by
    unfold setL
    rw [List.lookup_cons, List.lookup_nil]
    by_cases h : y = x
    · subst h; simp
    · rw [if_neg h, show (y == x) = false from by simpa using h]
  | (k, e) :: r => by
    unfold setL
    show List.lookup y (match x == k with | true => (x, d) :: r | false => (k, e) :: setL r x d) = _
    cases h : x == k with
    | true =>
      have e := beq_iff_eq.mp h
      subst e
      show List.lookup y ((x, d) :: r) = _
      rw [List.lookup_cons, List.lookup_cons]
      by_cases q : y = x
      · subst q; simp
      · rw [if_neg q, show (y == x) = false from by simpa using q]
    | false =>
      show List.lookup y ((k, e) :: setL r x d) = _
      rw [List.lookup_cons, List.lookup_cons, setL_lookup x d y r]
      by_cases q : y = x
      · subst q; rw [if_pos rfl, h]; simp
      · rw [if_neg q]; simp [q]
theorem vol_ne_fix {h : Heap} {o : Addr → Prop} {b a : Addr} {ob : Obj} (hb : (∃ m, h.Ns b m) ∨ ∃ v, h.IsCell b v) (e : h.get? a = some ob) (q : Fix o a ob) : a ≠ b := fun x => q.not_vol e (x ▸ hb)
theorem vol_get {h : Heap} {b : Addr} (hb : (∃ m, h.Ns b m) ∨ ∃ v, h.IsCell b v) : ∃ o, h.get? b = some o ∧ ((∃ es n, o.data = .dict es n) ∨ ∃ v, o.data = .cell v) := by
  rcases hb with ⟨m, o, es, ep, e, d, _⟩ | ⟨v, o, e, d⟩
  · exact ⟨o, e, .inl ⟨es, ep, d⟩⟩
  · exact ⟨o, e, .inr ⟨v, d⟩⟩
theorem vol_ne_list {h : Heap} {b a : Addr} {vs : List Value} {n : Nat} (hb : (∃ m, h.Ns b m) ∨ ∃ v, h.IsCell b v) (e : h.get? a = some (listObj vs n)) : a ≠ b := by
  rintro rfl
  obtain ⟨o, e', d⟩ := vol_get hb
  rw [e] at e'; cases e'
  rcases d with ⟨_, _, d⟩ | ⟨_, d⟩ <;> cases d
theorem vol_ne_tab {h : Heap} {b a : Addr} {ps : Array Value} (hb : (∃ m, h.Ns b m) ∨ ∃ v, h.IsCell b v) (e : h.get? a = some (tabObj ps)) : a ≠ b := by
  rintro rfl
  obtain ⟨o, e', d⟩ := vol_get hb
  rw [e] at e'; cases e'
  rcases d with ⟨_, _, d⟩ | ⟨_, d⟩ <;> cases d
theorem Ns_ne_cell {h : Heap} {a c : Addr} {m : Str → Option Value} {v : Option Value} (x : h.Ns a m) (y : h.IsCell c v) : a ≠ c := by
  rintro rfl
  obtain ⟨o, es, ep, e, d, _⟩ := x
  obtain ⟨o', e', d'⟩ := y
  rw [e] at e'; cases e'
  rw [d] at d'; cases d'
theorem Base.vol {g : G} {s : Shared} {σ : Sto} {b : Addr} {h' : Heap} (B : Base g s σ) (hb : (∃ m, s.heap.Ns b m) ∨ ∃ v, s.heap.IsCell b v) (hge : g.H0.get? b = none) (hs : Heap.SameBut b s.heap h') (t : Nat) :
    Base g { s with heap := h', toks := t } σ where
  ok := B.ok
  keep0 := fun a o e => (hs.2 a (fun q => by rw [q, hge] at e; cases e)).trans (B.keep0 a o e)
  cells := fun a ds h => let ⟨vs, n, e, r, l⟩ := B.cells a ds h; ⟨vs, n, (hs.2 a (vol_ne_list hb e)).trans e, r.mono (fun c ob e q => (hs.2 c (vol_ne_fix hb e q)).trans e) fun _ _ _ q => q, l⟩
  nodup := B.nodup
  tab := let ⟨ps, e, r⟩ := B.tab; ⟨ps, (hs.2 _ (vol_ne_tab hb e)).trans e, r⟩
  gens := B.gens
theorem Heap.Ns.get {h : Heap} {b : Addr} {m : Str → Option Value} (x : h.Ns b m) : ∃ o, h.get? b = some o := let ⟨o, _, _, e, _⟩ := x; ⟨o, e⟩
theorem Heap.IsCell.get {h : Heap} {b : Addr} {v : Option Value} (x : h.IsCell b v) : ∃ o, h.get? b = some o := let ⟨o, e, _⟩ := x; ⟨o, e⟩
theorem vol_alive {h h' : Heap} {b : Addr} (hs : Heap.SameBut b h h') (hb : ∃ o, h'.get? b = some o) : ∀ a o, h.get? a = some o → ∃ o', h'.get? a = some o' := fun a o e => by
  by_cases q : a = b
  · exact q ▸ hb
  · exact ⟨o, (hs.2 a q).trans e⟩
section
variable {g : G} {f : Fm} {ρ : Loc} {σ : Sto}
theorem store_ok {M : Model} {A : Around} {s : Shared} {x : Str} {v : Value} {d : D} {Q' : Unit → Shared → Prop} {E : Value → Shared → Prop} (hS : St g f s ρ σ) (r : Rd s.heap (own σ) v d)
    (hx : f.env.kindOf x = some .local ∨ f.env.kindOf x = some .cell)
    (post : ∀ s', St g f s' (setL ρ x d) σ → Step g f.vol σ s s' σ → (∀ b o, s.heap.get? b = some o → ¬ f.vol b → s'.heap.get? b = some o) → Q' () s') : wpAny M A (storeName f.env x v) Q' E s := by
  rcases hx with hx | hx
  · obtain ⟨m, hm⟩ := hS.ns
    refine wpAny_storeName_local hx hm (fun h' hn hs => post _ ?_ ?_ ?_) (by rw [hS.kind]; rfl)
    · have hb : (∃ m, s.heap.Ns f.env.locals m) ∨ ∃ v, s.heap.IsCell f.env.locals v := .inl ⟨m, hm⟩
      have rr : ∀ {v d}, Rd s.heap (own σ) v d → Rd h' (own σ) v d := fun r => r.mono (fun c ob e q => (hs.2 c (vol_ne_fix hb e q)).trans e) fun _ _ _ q => q
      refine ⟨hS.base.vol hb (hS.vols _ hS.loc).1 hs _, hS.kind, hS.globals, hS.builtins, fun b h => ⟨(hS.vols b h).1, ?_⟩, hS.loc, ⟨_, hn⟩, fun y hy => ?_, hS.apart, fun y e he => ?_⟩
      · by_cases q : b = f.env.locals
        · subst q; exact .inl ⟨_, hn⟩
        · exact (hS.vols b h).2.imp (fun ⟨m, x⟩ => ⟨m, x.sameBut hs q⟩) fun ⟨v, x⟩ => ⟨v, x.sameBut hs q⟩
      · obtain ⟨c, a, b, v, w⟩ := hS.cell y hy
        exact ⟨c, a, b, v, w.sameBut hs (Ne.symm (Ns_ne_cell hm w))⟩
      · rw [setL_lookup] at he
        by_cases q : y = x
        · rw [if_pos q] at he; cases he; subst q
          exact ⟨v, .inl ⟨hx, _, hn, by simp⟩, rr r⟩
        · rw [if_neg q] at he
          obtain ⟨u, V, w⟩ := hS.vars y e he
          refine ⟨u, ?_, rr w⟩
          rcases V with ⟨k, m', a, b⟩ | ⟨k, c, a, b⟩
          · exact .inl ⟨k, _, hn, by rw [if_neg q]; exact (Heap.Ns.agree hm a y).trans b⟩
          · exact .inr ⟨k, c, a, b.sameBut hs (Ne.symm (Ns_ne_cell hm b))⟩
    · exact ⟨fun b o e h1 _ _ => (hs.2 b (fun q => h1 (q ▸ hS.loc))).trans e, fun _ h => .inl h, vol_alive hs (by first | exact Heap.Ns.get hn | exact Heap.IsCell.get hn), rfl⟩
    · exact fun b o e h1 => (hs.2 b (fun q => h1 (q ▸ hS.loc))).trans e
  · obtain ⟨c, hc, hcv, v₀, hv⟩ := hS.cell x hx
    refine wpAny_storeName_cell hS.kind hx hc hv fun h' hn hs => post _ ?_ ?_ ?_
    · have hb : (∃ m, s.heap.Ns c m) ∨ ∃ v, s.heap.IsCell c v := .inr ⟨_, hv⟩
      have rr : ∀ {v d}, Rd s.heap (own σ) v d → Rd h' (own σ) v d := fun r => r.mono (fun c ob e q => (hs.2 c (vol_ne_fix hb e q)).trans e) fun _ _ _ q => q
      refine ⟨hS.base.vol hb (hS.vols _ hcv).1 hs _, hS.kind, hS.globals, hS.builtins, fun b h => ⟨(hS.vols b h).1, ?_⟩, hS.loc, ?_, fun y hy => ?_, hS.apart, fun y e he => ?_⟩
      · by_cases q : b = c
        · subst q; exact .inr ⟨_, hn⟩
        · exact (hS.vols b h).2.imp (fun ⟨m, x⟩ => ⟨m, x.sameBut hs q⟩) fun ⟨v, x⟩ => ⟨v, x.sameBut hs q⟩
      · obtain ⟨m, hm⟩ := hS.ns
        exact ⟨m, hm.sameBut hs (Ns_ne_cell hm hv)⟩
      · obtain ⟨c', a, b, v, w⟩ := hS.cell y hy
        by_cases q : c' = c
        · exact ⟨c', a, b, _, q ▸ hn⟩
        · exact ⟨c', a, b, v, w.sameBut hs q⟩
      · rw [setL_lookup] at he
        by_cases q : y = x
        · rw [if_pos q] at he; cases he; subst q
          exact ⟨v, .inr ⟨.inl hx, c, hc, hn⟩, rr r⟩
        · rw [if_neg q] at he
          obtain ⟨u, V, w⟩ := hS.vars y e he
          refine ⟨u, ?_, rr w⟩
          rcases V with ⟨k, m', a, b⟩ | ⟨k, c', a, b⟩
          · exact .inl ⟨k, _, a.sameBut hs (Ns_ne_cell a hv), b⟩
          · exact .inr ⟨k, c', a, b.sameBut hs fun e => q (name_of_addr hS.apart (e ▸ mem_of_lookup a) (mem_of_lookup hc))⟩
    · exact ⟨fun b o e h1 _ _ => (hs.2 b (fun q => h1 (q ▸ hcv))).trans e, fun _ h => .inl h, vol_alive hs (by first | exact Heap.Ns.get hn | exact Heap.IsCell.get hn), rfl⟩
    · exact fun b o e h1 => (hs.2 b (fun q => h1 (q ▸ hcv))).trans e
/-! ### statements -/
noncomputable abbrev KNx (g : G) (f : Fm) (rest : List Stmt) (Q : Fl → Loc → Sto → Prop) : Fl → Loc → Sto → Prop := fun fl ρ₁ σ₁ => match fl with | .next => WSs g f rest ρ₁ σ₁ Q | fl => Q fl ρ₁ σ₁
noncomputable abbrev KAs (x : Str) (ρ : Loc) (Q : Fl → Loc → Sto → Prop) : D → Sto → Prop := fun d σ₁ => Q .next (setL ρ x d) σ₁
noncomputable abbrev KRet (ρ : Loc) (Q : Fl → Loc → Sto → Prop) : D → Sto → Prop := fun d σ₁ => Q (.ret d) ρ σ₁
noncomputable abbrev KIf (g : G) (f : Fm) (a b : List Stmt) (ρ : Loc) (Q : Fl → Loc → Sto → Prop) : Bool → Sto → Prop := fun c σ₁ => if c = true then WSs g f a ρ σ₁ Q else WSs g f b ρ σ₁ Q
noncomputable abbrev KEx (ρ : Loc) (Q : Fl → Loc → Sto → Prop) : D → Sto → Prop := fun d σ₁ => d = .none ∧ Q .next ρ σ₁
noncomputable abbrev KAss (ρ : Loc) (Q : Fl → Loc → Sto → Prop) : Bool → Sto → Prop := fun c σ₁ => c = true ∧ Q .next ρ σ₁
noncomputable abbrev KNot (Q : Bool → Sto → Prop) : Bool → Sto → Prop := fun c σ₁ => Q (!c) σ₁
theorem WSs_nil {Q : Fl → Loc → Sto → Prop} (h : Q .next ρ σ) : WSs g f [] ρ σ Q :=
  fun A s Q' hA hS post => wpAny_execs_nil (post _ _ _ _ _ h hS .next .refl)
theorem WSs_cons {st : Stmt} {rest : List Stmt} {Q : Fl → Loc → Sto → Prop}
    (h : WS g f st ρ σ (KNx g f rest Q)) : WSs g f (st :: rest) ρ σ Q :=
  fun A s Q' hA hS post => wpAny_execs_cons (h A s _ hA hS fun fl fd s₁ ρ₁ σ₁ q S₁ r₁ p₁ => by
    cases r₁ with
    | next => exact q A s₁ Q' hA S₁ fun a b s' ρ' σ' q' S' r' p' => post a b s' ρ' σ' q' S' r' (p₁.trans p')
    | brk => exact post _ _ _ _ _ q S₁ .brk p₁
    | cont => exact post _ _ _ _ _ q S₁ .cont p₁
    | ret r => exact post _ _ _ _ _ q S₁ (.ret r) p₁)
theorem WS_Assign {x : Str} {px pos : Pos} {e : Expr} {Q : Fl → Loc → Sto → Prop} (h : WE g f e ρ σ (KAs x ρ Q))
    (hx : f.env.kindOf x = some .local ∨ f.env.kindOf x = some .cell := by with_unfolding_all first | exact .inl rfl | exact .inr rfl)
    (hs : swapsWith e (some (.Name x px)) pos.line f.env = pure false := by with_unfolding_all rfl) : WS g f (.Assign [.Name x px] e pos) ρ σ Q :=
  fun A s Q' hA hS post => wpAny_Assign_Name (h A s _ hA hS fun v d s₁ σ₁ q S₁ r₁ p₁ => store_ok S₁ r₁ hx fun s₂ S₂ p₂ _ => post _ _ _ _ _ q S₂ .next (p₁.trans p₂)) hs
theorem WS_Return {e : Expr} {pos : Pos} {Q : Fl → Loc → Sto → Prop} (h : WE g f e ρ σ (KRet ρ Q)) : WS g f (.Return (some e) pos) ρ σ Q :=
  fun A s Q' hA hS post => wpAny_Return_some (h A s _ hA hS fun v d s₁ σ₁ q S₁ r₁ p₁ => post _ _ _ _ _ q S₁ (.ret r₁) p₁)
theorem WS_If {t : Expr} {a b : List Stmt} {pos : Pos} {Q : Fl → Loc → Sto → Prop} (h : WT g f t ρ σ (KIf g f a b ρ Q)) : WS g f (.If t a b pos) ρ σ Q :=
  fun A s Q' hA hS post => wpAny_If (h A s _ hA hS fun c c' s₁ σ₁ q S₁ r₁ p₁ => by
    cases r₁
    cases c
    · exact q A s₁ Q' hA S₁ fun a b s' ρ' σ' q' S' r' p' => post a b s' ρ' σ' q' S' r' (p₁.trans p')
    · exact q A s₁ Q' hA S₁ fun a b s' ρ' σ' q' S' r' p' => post a b s' ρ' σ' q' S' r' (p₁.trans p'))
theorem WS_Expr {e : Expr} {pos : Pos} {Q : Fl → Loc → Sto → Prop} (h : WE g f e ρ σ (KEx ρ Q))
    (hi : interactive f.env = false := by with_unfolding_all rfl) (hs : swapsWith e none pos.line f.env = pure false := by with_unfolding_all rfl) : WS g f (.Expr e pos) ρ σ Q :=
  fun A s Q' hA hS post => wpAny_Expr (h A s _ hA hS fun v d s₁ σ₁ q S₁ r₁ p₁ => by
    obtain ⟨rfl, q⟩ := q
    obtain rfl := r₁.noneE
    exact post _ _ _ _ _ q S₁ .next p₁) hi hs
theorem WS_Break {pos : Pos} {Q : Fl → Loc → Sto → Prop} (h : Q .brk ρ σ) : WS g f (.Break pos) ρ σ Q := fun A s Q' hA hS post => wpAny_Break (post _ _ _ _ _ h hS .brk .refl)
theorem WS_Assert {t : Expr} {m : Option Expr} {pos : Pos} {Q : Fl → Loc → Sto → Prop} (h : WT g f t ρ σ (KAss ρ Q)) : WS g f (.Assert t m pos) ρ σ Q :=
  fun A s Q' hA hS post => wpAny_Assert_holds (h A s _ hA hS fun c c' s₁ σ₁ q S₁ r₁ p₁ => by
    cases r₁
    exact ⟨q.1, post _ _ _ _ _ q.2 S₁ .next p₁⟩)
theorem WS_Aug {x : Str} {px pos : Pos} {op : Operator} {e : Expr} {old : D} {Q : Fl → Loc → Sto → Prop} (hx : ρ.lookup x = some old)
    (h : WE g f e ρ σ (KB2 g f (inplaceOp op) old ρ (KAs x ρ Q)))
    (hk : f.env.kindOf x = some .local ∨ f.env.kindOf x = some .cell := by with_unfolding_all first | exact .inl rfl | exact .inr rfl) (hn : (x == ("__classdict__" : Str)) = false := by decide) : WS g f (.AugAssign (.Name x px) op e pos) ρ σ Q :=
  fun A s Q' hA hS post => wpAny_AugAssign_Name (by
    obtain ⟨v, V, r⟩ := hS.vars x old hx
    exact loadVar hS.kind V (h A s _ hA hS fun v₂ d s₁ σ₁ q S₁ r₁ p₁ => q A s₁ v v₂ _ hA S₁ (r.step hS.vols' hS.base p₁) r₁ fun w n s₂ σ₂ q₂ S₂ r₂ p₂ =>
      store_ok S₂ r₂ hk fun s₃ S₃ p₃ _ => post _ _ _ _ _ q₂ S₃ .next ((p₁.trans p₂).trans p₃)) hn)
/-! ### more tests, bool values -/
theorem WT_Not {x : Expr} {pos : Pos} {Q : Bool → Sto → Prop} (h : WT g f x ρ σ (KNot Q)) : WT g f (.UnaryOp .Not x pos) ρ σ Q :=
  fun A s Q' hA hS post => wpAny_isTrue_Not (h A s _ hA hS fun c c' s₁ σ₁ q S₁ r₁ p₁ => by cases r₁; exact post _ _ _ _ q S₁ rfl p₁)
noncomputable abbrev WAll (g : G) (f : Fm) (op : BoolOp) (es : List Expr) (ρ : Loc) (σ : Sto) (Q : Bool → Sto → Prop) : Prop := TE g f RB (allTrue op es f.env) ρ σ Q
noncomputable abbrev KAnd (g : G) (f : Fm) (r : List Expr) (ρ : Loc) (Q : Bool → Sto → Prop) : Bool → Sto → Prop := fun c σ₁ => if c = true then WAll g f .And r ρ σ₁ Q else Q false σ₁
noncomputable abbrev KOr (g : G) (f : Fm) (r : List Expr) (ρ : Loc) (Q : Bool → Sto → Prop) : Bool → Sto → Prop := fun c σ₁ => if c = true then Q true σ₁ else WAll g f .Or r ρ σ₁ Q
noncomputable abbrev KAn2 (g : G) (f : Fm) (y : Expr) (ρ : Loc) (Q : D → Sto → Prop) : D → Sto → Prop := fun d σ₁ => O1 g f RB truthy d ρ σ₁ fun c σ₂ => if c = true then WE g f y ρ σ₂ Q else Q d σ₂
noncomputable abbrev KOr2 (g : G) (f : Fm) (y : Expr) (ρ : Loc) (Q : D → Sto → Prop) : D → Sto → Prop := fun d σ₁ => O1 g f RB truthy d ρ σ₁ fun c σ₂ => if c = true then Q d σ₂ else WE g f y ρ σ₂ Q
noncomputable abbrev KL2 (d : D) (Q : List D → Sto → Prop) : List D → Sto → Prop := fun ds σ₂ => Q (d :: ds) σ₂
noncomputable abbrev KL (g : G) (f : Fm) (r : List Expr) (pos : Pos) (ρ : Loc) (Q : List D → Sto → Prop) : D → Sto → Prop := fun d σ₁ => WL g f r pos ρ σ₁ (KL2 d Q)
noncomputable abbrev KTup (Q : D → Sto → Prop) : List D → Sto → Prop := fun ds σ₁ => ds.length ≤ sizeLine ∧ Q (.tup ds) σ₁
noncomputable abbrev KLst (Q : D → Sto → Prop) : List D → Sto → Prop := fun ds σ₁ => ds.length ≤ sizeLine ∧ Q (.lst ds) σ₁
theorem WT_BoolOp {op : BoolOp} {es : List Expr} {pos : Pos} {Q : Bool → Sto → Prop} (h : WAll g f op es ρ σ Q) : WT g f (.BoolOp op es pos) ρ σ Q :=
  fun A s Q' hA hS post => wpAny_isTrue_BoolOp (h A s Q' hA hS post)
theorem WAll_nil {op : BoolOp} {Q : Bool → Sto → Prop} (h : Q (op == .And) σ) : WAll g f op [] ρ σ Q :=
  fun A s Q' hA hS post => by rw [arm_allTrue_nil]; exact wpAny_pure (post _ _ _ _ h hS rfl .refl)
theorem WAll_nilA {Q : Bool → Sto → Prop} (h : Q true σ) : WAll g f .And [] ρ σ Q := WAll_nil h
theorem WAll_nilO {Q : Bool → Sto → Prop} (h : Q false σ) : WAll g f .Or [] ρ σ Q := WAll_nil h
theorem WAll_and {x : Expr} {r : List Expr} {Q : Bool → Sto → Prop} (h : WT g f x ρ σ (KAnd g f r ρ Q)) : WAll g f .And (x :: r) ρ σ Q :=
  fun A s Q' hA hS post => wpAny_allTrue_And_cons (h A s _ hA hS fun c c' s₁ σ₁ q S₁ r₁ p₁ => by
    cases r₁
    cases c
    · exact post _ _ _ _ q S₁ rfl p₁
    · exact q A s₁ Q' hA S₁ fun a b s' σ' q' S' r' p' => post a b s' σ' q' S' r' (p₁.trans p'))
theorem WAll_or {x : Expr} {r : List Expr} {Q : Bool → Sto → Prop} (h : WT g f x ρ σ (KOr g f r ρ Q)) : WAll g f .Or (x :: r) ρ σ Q :=
  fun A s Q' hA hS post => wpAny_allTrue_Or_cons (h A s _ hA hS fun c c' s₁ σ₁ q S₁ r₁ p₁ => by
    cases r₁
    cases c
    · exact q A s₁ Q' hA S₁ fun a b s' σ' q' S' r' p' => post a b s' σ' q' S' r' (p₁.trans p')
    · exact post _ _ _ _ q S₁ rfl p₁)
theorem WE_And2 {x y : Expr} {pos : Pos} {Q : D → Sto → Prop} (h : WE g f x ρ σ (KAn2 g f y ρ Q)) : WE g f (.BoolOp .And [x, y] pos) ρ σ Q :=
  fun A s Q' hA hS post => wpAny_And2 (h A s _ hA hS fun v d s₁ σ₁ q S₁ r₁ p₁ => q A s₁ v _ hA S₁ r₁ fun c c' s₂ σ₂ q₂ S₂ r₂ p₂ => by
    cases r₂
    cases c
    · exact post v d s₂ σ₂ q₂ S₂ (r₁.step S₁.vols' S₁.base p₂) (p₁.trans p₂)
    · exact q₂ A s₂ Q' hA S₂ fun a b s' σ' q' S' r' p' => post a b s' σ' q' S' r' ((p₁.trans p₂).trans p'))
theorem WE_Or2 {x y : Expr} {pos : Pos} {Q : D → Sto → Prop} (h : WE g f x ρ σ (KOr2 g f y ρ Q)) : WE g f (.BoolOp .Or [x, y] pos) ρ σ Q :=
  fun A s Q' hA hS post => wpAny_Or2 (h A s _ hA hS fun v d s₁ σ₁ q S₁ r₁ p₁ => q A s₁ v _ hA S₁ r₁ fun c c' s₂ σ₂ q₂ S₂ r₂ p₂ => by
    cases r₂
    cases c
    · exact q₂ A s₂ Q' hA S₂ fun a b s' σ' q' S' r' p' => post a b s' σ' q' S' r' ((p₁.trans p₂).trans p')
    · exact post v d s₂ σ₂ q₂ S₂ (r₁.step S₁.vols' S₁.base p₂) (p₁.trans p₂))
/-! ### displays -/
theorem WL_nil {pos : Pos} {Q : List D → Sto → Prop} (h : Q [] σ) : WL g f [] pos ρ σ Q := fun A s Q' hA hS post => wpAny_items_nil (post _ _ _ _ h hS .nil .refl)
theorem WL_cons {pos : Pos} {e : Expr} {r : List Expr} {Q : List D → Sto → Prop} (h : WE g f e ρ σ (KL g f r pos ρ Q))
    (he : starEach (e :: r) f.env = (false, eval e f.env) :: starEach r f.env := by with_unfolding_all rfl) : WL g f (e :: r) pos ρ σ Q :=
  fun A s Q' hA hS post => wpAny_items_cons (h A s _ hA hS fun v d s₁ σ₁ q S₁ r₁ p₁ => q A s₁ _ hA S₁ fun vs ds s₂ σ₂ q₂ S₂ r₂ p₂ =>
    post _ _ _ _ q₂ S₂ (.cons (r₁.step S₁.vols' S₁.base p₂) r₂) (p₁.trans p₂)) he
theorem alloc_tup {s : Shared} {vs : List Value} {ds : List D} (hS : St g f s ρ σ) (r : RdL s.heap (own σ) vs ds) :
    St g f { s with heap := s.heap.push (tupObj vs 0) } ρ σ ∧ Rd (s.heap.push (tupObj vs 0)) (own σ) (.ref s.heap.objs.size) (.tup ds) ∧ Step g f.vol σ s { s with heap := s.heap.push (tupObj vs 0) } σ :=
  ⟨hS.grow (push_keeps _ _) (push_size _ _) _, .tup _ vs 0 ds (Heap.get?_push_size _ rfl) (r.mono (fun b ob e _ => push_keeps _ _ b ob e) fun _ _ _ q => q), .grow (push_keeps _ _) (push_size _ _) _⟩
theorem fresh_own {s : Shared} (hB : Base g s σ) : ¬ own σ s.heap.objs.size := fun h => by
  obtain ⟨p, hp, e⟩ := List.mem_map.mp h
  obtain ⟨vs, n, e', _⟩ := hB.cells p.1 p.2 hp
  exact absurd (Heap.lt_size e') (by rw [e]; exact Nat.lt_irrefl _)
theorem alloc_lst {s : Shared} {vs : List Value} {ds : List D} (hS : St g f s ρ σ) (r : RdL s.heap (own σ) vs ds) :
    St g f { s with heap := s.heap.push (listObj vs 0) } ρ σ ∧ Rd (s.heap.push (listObj vs 0)) (own σ) (.ref s.heap.objs.size) (.lst ds) ∧ Step g f.vol σ s { s with heap := s.heap.push (listObj vs 0) } σ :=
  ⟨hS.grow (push_keeps _ _) (push_size _ _) _, .lst _ vs 0 ds (Heap.get?_push_size _ rfl) (fresh_own hS.base) (r.mono (fun b ob e _ => push_keeps _ _ b ob e) fun _ _ _ q => q), .grow (push_keeps _ _) (push_size _ _) _⟩
theorem WE_Tuple {es : List Expr} {k : Nat} {pos : Pos} {Q : D → Sto → Prop} (h : WL g f es pos ρ σ (KTup Q)) : WE g f (.Tuple es k pos) ρ σ Q :=
  fun A s Q' hA hS post => wpAny_Tuple (h A s _ hA hS fun vs ds s₁ σ₁ q S₁ r₁ p₁ => ⟨by rw [r₁.length]; exact q.1, by
    obtain ⟨a, b, c⟩ := alloc_tup S₁ r₁
    exact post _ _ _ _ q.2 a b (p₁.trans c)⟩)
theorem WE_List {es : List Expr} {pos : Pos} {Q : D → Sto → Prop} (h : WL g f es pos ρ σ (KLst Q)) : WE g f (.List es pos) ρ σ Q :=
  fun A s Q' hA hS post => wpAny_List (h A s _ hA hS fun vs ds s₁ σ₁ q S₁ r₁ p₁ => ⟨by rw [r₁.length]; exact q.1, by
    obtain ⟨a, b, c⟩ := alloc_lst S₁ r₁
    exact post _ _ _ _ q.2 a b (p₁.trans c)⟩)
end
-- Fw4
noncomputable def FnAt (g : G) (name : Str) (params : Arguments) (body : List Stmt) (scope : Scope) : Prop :=
  ∃ a o pm code doc, g.mg name = some (.ref a) ∧ g.H0.get? a = some o ∧ o.data = .func (docDef name params body scope pm code doc) ∧ g.H0.CodeRec code name
noncomputable def FnAtC (g : G) (code : Value) (name : Str) (params : Arguments) (body : List Stmt) (scope : Scope) : Prop :=
  ∃ a o pm doc, g.mg name = some (.ref a) ∧ g.H0.get? a = some o ∧ o.data = .func (docDef name params body scope pm code doc) ∧ g.H0.CodeRec code name
theorem FnAtC.at {g : G} {code : Value} {name : Str} {params : Arguments} {body : List Stmt} {scope : Scope} (h : FnAtC g code name params body scope) : FnAt g name params body scope :=
  let ⟨a, o, pm, doc, r⟩ := h; ⟨a, o, pm, code, doc, r⟩
noncomputable def Fn (g : G) (k : Nat) (name : Str) (ds : List D) (σ : Sto) (Q : D → Sto → Prop) : Prop :=
  ∀ a, g.mg name = some (.ref a) → ∀ (A : Around) (s : Shared) (vs : List Value) (Q' : Value → Shared → Prop), AOk k A → Base g s σ → RdL s.heap (own σ) vs ds →
    (∀ v d s' σ', Q d σ' → Base g s' σ' → Rd s'.heap (own σ') v d → Step g (fun _ => False) σ s s' σ' → Q' v s') → wpAny (model g.prog g.w) A (call (.ref a) vs) Q' (fun _ _ => False) s
theorem Fn.mono {g : G} {k : Nat} {name : Str} {ds : List D} {σ : Sto} {Q Q₁ : D → Sto → Prop} (h : Fn g k name ds σ Q) (hq : ∀ d σ', Q d σ' → Q₁ d σ') : Fn g k name ds σ Q₁ :=
  fun a ha A s vs Q' hA B r post => h a ha A s vs Q' hA B r fun v d s' σ' q => post v d s' σ' (hq d σ' q)
theorem AOk.mono {k k' : Nat} {A : Around} (h : AOk k A) (hk : k' ≤ k) : AOk k' A := ⟨h.1, by have := h.2.1; omega, by have := h.2.2; omega⟩
theorem Fn.deep {g : G} {k k' : Nat} {name : Str} {ds : List D} {σ : Sto} {Q : D → Sto → Prop} (h : Fn g k name ds σ Q) (hk : k ≤ k') : Fn g k' name ds σ Q :=
  fun a ha A s vs Q' hA B r post => h a ha A s vs Q' (hA.mono hk) B r post
section
variable {g : G} {f : Fm} {ρ : Loc} {σ : Sto}
theorem St.after {s s' : Shared} {σ' : Sto} (S : St g f s ρ σ) (B : Base g s' σ') (p : Step g (fun _ => False) σ s s' σ') : St g f s' ρ σ' := by
  have hv : ∀ b, ((∃ m, s.heap.Ns b m) ∨ ∃ v, s.heap.IsCell b v) → ∀ o, s.heap.get? b = some o → s'.heap.get? b = some o := fun b hb o e => by
    refine p.keep b o e (fun h => h) (fun ho => ?_) ?_
    · obtain ⟨q, hq, rfl⟩ := List.mem_map.mp ho
      obtain ⟨vs, n, e', _⟩ := S.base.cells q.1 q.2 hq
      exact vol_ne_list hb e' rfl
    · obtain ⟨ps, e', _⟩ := S.base.tab
      exact fun q => vol_ne_tab hb e' q.symm
  have hns : ∀ {b m}, s.heap.Ns b m → s'.heap.Ns b m := fun {b m} x => by
    obtain ⟨o, es, ep, e, r⟩ := id x
    exact ⟨o, es, ep, hv b (.inl ⟨m, x⟩) o e, r⟩
  have hce : ∀ {b v}, s.heap.IsCell b v → s'.heap.IsCell b v := fun {b v} x => by
    obtain ⟨o, e, r⟩ := id x
    exact ⟨o, hv b (.inr ⟨v, x⟩) o e, r⟩
  refine ⟨B, S.kind, S.globals, S.builtins, fun b h => ⟨(S.vols b h).1, (S.vols b h).2.imp (fun ⟨m, x⟩ => ⟨m, hns x⟩) fun ⟨v, x⟩ => ⟨v, hce x⟩⟩, S.loc, ?_, fun x hx => ?_, S.apart, fun x d h => ?_⟩
  · obtain ⟨m, x⟩ := S.ns; exact ⟨m, hns x⟩
  · obtain ⟨c, a, b, v, w⟩ := S.cell x hx; exact ⟨c, a, b, v, hce w⟩
  · obtain ⟨v, V, r⟩ := S.vars x d h
    refine ⟨v, V.imp (fun ⟨k, m, a, b⟩ => ⟨k, m, hns a, b⟩) fun ⟨k, c, a, b⟩ => ⟨k, c, a, hce b⟩, ?_⟩
    exact Rd.step (f := { env := f.env, vol := fun _ => False, k := 0 }) (fun _ h => h.elim) S.base p r
theorem Step.weaken {vol : Addr → Prop} {s s' : Shared} {σ' : Sto} (p : Step g (fun _ => False) σ s s' σ') : Step g vol σ s s' σ' :=
  ⟨fun b o e _ h2 h3 => p.keep b o e (fun h => h) h2 h3, p.dom, p.alive, p.os⟩
noncomputable abbrev KFn (g : G) (k : Nat) (name : Str) (Q : D → Sto → Prop) : List D → Sto → Prop := fun ds σ₁ => Fn g k name ds σ₁ Q
theorem WE_CallF {name : Str} {np pos : Pos} {e : Expr} {rest : List Expr} {params : Arguments} {body : List Stmt} {scope : Scope} {Q : D → Sto → Prop} (hF : FnAt g name params body scope)
    (h : WL g f (e :: rest) pos ρ σ (KFn g f.k name Q))
    (hx : f.env.kindOf name = some .globalImplicit := by with_unfolding_all rfl) (hd : (name == ("__debug__" : Str)) = false := by decide)
    (he : starEach (e :: rest) f.env = (false, eval e f.env) :: starEach rest f.env := by with_unfolding_all rfl) : WE g f (.Call (.Name name np) (e :: rest) [] pos) ρ σ Q :=
  fun A s Q' hA hS post => by
    obtain ⟨a, o, pm, code, doc, h1, h2, h3, h4⟩ := hF
    refine Call_ ?_ rfl
    refine Name_function_global hS.kind hx (loadGlobal_global (by rw [hS.globals]; exact hS.base.ok.gns.keeps hS.base.keep0) h1 ?_) hd
    refine callWith_def h3 ?_ he
    refine h A s _ hA hS fun vs ds s₁ σ₁ q S₁ r₁ p₁ => ⟨S₁.base.keep0 a o h2, ?_⟩
    exact q a h1 A s₁ vs Q' hA S₁.base r₁ fun v d s' σ' q' B' r' p' => post v d s' σ' q' (S₁.after B' p') r' (p₁.trans p'.weaken)
theorem cellsFrom_look : ∀ (names : List (Str × NameKind)) (n : Nat) (acc : List (Str × Addr)) (x : Str), (names.lookup x = some .cell ∨ (acc.lookup x).isSome = true) → ((cellsFrom n names acc).lookup x).isSome = true
  | [], n, acc, x, h => by rcases h with h | h; cases h; exact h
  | (y, k) :: r, n, acc, x, h => by
    unfold cellsFrom
    split
    · rename_i hk
      refine cellsFrom_look r _ _ x ?_
      by_cases q : x = y
      · subst q; right; simp
      · have e : (x == y) = false := by simpa using q
        rcases h with h | h
        · left; rw [List.lookup_cons, e] at h; exact h
        · right; rw [List.lookup_cons, e]; exact h
    · rename_i hk
      refine cellsFrom_look r _ _ x ?_
      rcases h with h | h
      · rw [List.lookup_cons] at h
        cases e : x == y with
        | true => rw [e] at h; cases h; simp at hk
        | false => rw [e] at h; exact .inl h
      · exact .inr h
theorem bindL_look {kindOf : Str → Option NameKind} : ∀ (binds : List (Str × Value)) (m : Str → Option Value) (x : Str) (v : Value), kindOf x = some .local → (binds.map Prod.fst).Nodup →
    (binds.lookup x = some v ∨ (x ∉ binds.map Prod.fst ∧ m x = some v)) → bindL kindOf binds m x = some v
  | [], m, x, v, hk, hn, h => by rcases h with h | h; cases h; exact h.2
  | (y, u) :: r, m, x, v, hk, hn, h => by
    unfold bindL
    have hn' : y ∉ r.map Prod.fst ∧ (r.map Prod.fst).Nodup := by simpa using hn
    refine bindL_look r _ x v hk hn'.2 ?_
    by_cases q : x = y
    · subst q
      right
      refine ⟨hn'.1, ?_⟩
      rcases h with h | h
      · rw [List.lookup_cons] at h; simp at h; subst h; rw [if_pos hk]; simp
      · simp at h
    · have e : (x == y) = false := by simpa using q
      rcases h with h | h
      · left; rw [List.lookup_cons, e] at h; exact h
      · right
        refine ⟨fun z => h.1 (List.mem_cons_of_mem _ z), ?_⟩
        split
        · show (if x = y then some u else m x) = some v; rw [if_neg q]; exact h.2
        · exact h.2
theorem bindC_look {kindOf : Str → Option NameKind} : ∀ (binds : List (Str × Value)) (m : Str → Option Value) (x : Str) (v : Value), kindOf x ≠ some .local → (binds.map Prod.fst).Nodup →
    (binds.lookup x = some v ∨ (x ∉ binds.map Prod.fst ∧ m x = some v)) → bindC kindOf binds m x = some v
  | [], m, x, v, hk, hn, h => by rcases h with h | h; cases h; exact h.2
  | (y, u) :: r, m, x, v, hk, hn, h => by
    unfold bindC
    have hn' : y ∉ r.map Prod.fst ∧ (r.map Prod.fst).Nodup := by simpa using hn
    refine bindC_look r _ x v hk hn'.2 ?_
    by_cases q : x = y
    · subst q
      right
      refine ⟨hn'.1, ?_⟩
      rcases h with h | h
      · rw [List.lookup_cons] at h; simp at h; subst h; rw [if_neg hk]; simp
      · simp at h
    · have e : (x == y) = false := by simpa using q
      rcases h with h | h
      · left; rw [List.lookup_cons, e] at h; exact h
      · right
        refine ⟨fun z => h.1 (List.mem_cons_of_mem _ z), ?_⟩
        split
        · exact h.2
        · show (if x = y then some u else m x) = some v; rw [if_neg q]; exact h.2
noncomputable def mkFm (name : Str) (scope : Scope) (L a : Addr) (cd : Value) (k : Nat) : Fm :=
  { env := envOfC name scope L a cd, vol := fun b => b = L ∨ ∃ n, (cellsFrom (L + 1) scope.names []).lookup n = some b, k := k }
theorem zip_look {h : Heap} {o : Addr → Prop} : ∀ (ns : List Str) (vs : List Value) (ds : List D), RdL h o vs ds → ∀ x d, (ns.zip ds).lookup x = some d → ∃ v, (ns.zip vs).lookup x = some v ∧ Rd h o v d
  | [], _, _, _, x, d, e => by simp at e
  | n :: ns, _, _, .nil, x, d, e => by simp at e
  | n :: ns, _, _, .cons (v := v) (d := d') (vs := vs) (ds := ds) a r, x, d, e => by
    rw [List.zip_cons_cons, List.lookup_cons] at e
    rw [List.zip_cons_cons, List.lookup_cons]
    cases q : x == n with
    | true => rw [q] at e; cases e; exact ⟨v, rfl, a⟩
    | false => rw [q] at e; exact zip_look ns vs ds r x d e
theorem lookup_mem_fst {α : Type} : ∀ {l : List (Str × α)} {x : Str} {v : α}, l.lookup x = some v → x ∈ l.map Prod.fst := fun h => List.mem_map.mpr ⟨_, mem_of_lookup h, rfl⟩
noncomputable def Drop (Q : D → Sto → Prop) (d : D) (σ' : Sto) : Prop := ∃ l σ'', σ' = l ++ σ'' ∧ Q d σ''
noncomputable abbrev KEnd (Q : D → Sto → Prop) : Fl → Loc → Sto → Prop := fun fl _ σ' => match fl with | .ret d => Drop Q d σ' | _ => Drop Q .none σ'
theorem Drop.same {Q : D → Sto → Prop} {d : D} {σ : Sto} (h : Q d σ) : Drop Q d σ := ⟨[], σ, rfl, h⟩
theorem Drop.one {Q : D → Sto → Prop} {d : D} {σ : Sto} {p : Addr × List D} (h : Q d σ) : Drop Q d (p :: σ) := ⟨[p], σ, rfl, h⟩
theorem Drop.two {Q : D → Sto → Prop} {d : D} {σ : Sto} {p q : Addr × List D} (h : Q d σ) : Drop Q d (p :: q :: σ) := ⟨[p, q], σ, rfl, h⟩
theorem Drop.three {Q : D → Sto → Prop} {d : D} {σ : Sto} {p q r : Addr × List D} (h : Q d σ) : Drop Q d (p :: q :: r :: σ) := ⟨[p, q, r], σ, rfl, h⟩
theorem own_drop {l σ : Sto} {a : Addr} (h : own σ a) : own (l ++ σ) a := by unfold own at *; rw [List.map_append]; exact List.mem_append_right _ h
theorem Base.drop {s : Shared} {l : Sto} (B : Base g s (l ++ σ)) : Base g s σ where
  ok := B.ok
  keep0 := B.keep0
  cells := fun a ds h => let ⟨vs, n, e, r, z⟩ := B.cells a ds (List.mem_append_right _ h); ⟨vs, n, e, r.mono (fun _ _ e _ => e) fun _ _ _ q => own_drop q, z⟩
  nodup := by have := B.nodup; rw [List.map_append, List.nodup_append] at this; exact this.2.1
  tab := B.tab
  gens := B.gens
theorem Fn_enterC {code : Value} {k : Nat} {name : Str} {params : Arguments} {body : List Stmt} {scope : Scope} {ds : List D} {Q : D → Sto → Prop} (hF : FnAtC g code name params body scope)
    (h : ∀ L a, WSs g (mkFm name scope L a code k) body ((params.args.map (·.arg)).zip ds) σ (KEnd Q))
    (hbind : ∀ pm code doc, ∀ vs : List Value, vs.length = ds.length → bindArgs (docDef name params body scope pm code doc) ⟨vs, []⟩ = pure ((params.args.map (·.arg)).zip vs))
    (hkind : ((params.args.map (·.arg)).all fun x => scope.names.lookup x == some .local || scope.names.lookup x == some .cell) = true)
    (hnd : (params.args.map (·.arg)).Nodup)
    (hco : scope.isCoroutine = false := by with_unfolding_all rfl) (hgen : scope.isGenerator = false := by with_unfolding_all rfl) (hk : scope.kind = .function := by with_unfolding_all rfl) : Fn g (k + 1) name ds σ Q := by
  intro a ha A s vs Q' hA B r post
  obtain ⟨a', o, pm, doc, h1, h2, h3, h4⟩ := hF
  rw [ha] at h1; cases h1
  have hkind' : ∀ x ∈ params.args.map (·.arg), scope.names.lookup x = some .local ∨ scope.names.lookup x = some .cell := fun x hx => by
    have := List.all_eq_true.mp hkind x hx
    simpa using this
  have hlen : vs.length = ds.length := r.length
  refine wpAny_call (codeAny_call_cells (body := body) (by have := hA.2.1; omega) (B.keep0 a o h2) h3 (B.ok.nolimit.keeps B.keep0) (h4.keeps B.keep0) rfl (hbind pm code doc vs hlen) rfl ?_ ?_ hco hgen hk)
  · intro x hx
    have hx' : x.1 ∈ params.args.map (·.arg) := (List.of_mem_zip hx).1
    rcases hkind' _ hx' with q | q
    · exact .inl q
    · exact .inr ⟨q, cellsFrom_look _ _ _ _ (.inl q)⟩
  · intro s₁ X
    obtain ⟨h₁, tk, e₁⟩ := X.toInCall.same
    have hk1 : ∀ b o, s.heap.get? b = some o → s₁.heap.get? b = some o := X.toInCall.keep
    have hs1 : s.heap.objs.size ≤ s₁.heap.objs.size := Nat.le_trans X.toInCall.fresh (Nat.le_of_lt X.toInCall.ns.lt)
    have hnone : ∀ b, s.heap.objs.size ≤ b → g.H0.get? b = none := fun b hb => by
      cases e : g.H0.get? b with
      | none => rfl
      | some o => exact absurd (Heap.lt_size (B.keep0 b o e)) (Nat.not_lt.mpr hb)
    have hB₁ : Base g s₁ σ := by
      subst e₁
      exact B.grow hk1 hs1 tk
    have hr₁ : RdL s₁.heap (own σ) vs ds := r.mono (fun b ob e _ => hk1 b ob e) fun _ _ _ q => q
    have hL : (callEnvC (docDef name params body scope pm code doc) s.heap.objs.size a).locals = s.heap.objs.size := rfl
    have hcells : (callEnvC (docDef name params body scope pm code doc) s.heap.objs.size a).cells = cellsFrom (s.heap.objs.size + 1) scope.names [] := rfl
    have hnds : (((params.args.map (·.arg)).zip vs).map Prod.fst).Nodup := by
      have : ∀ (ns : List Str) (vs : List Value), ns.Nodup → ((ns.zip vs).map Prod.fst).Nodup := by
        intro ns
        induction ns with
        | nil => intro vs _; simp
        | cons n ns ih =>
          intro vs hn
          cases vs with
          | nil => simp
          | cons v vs =>
            have hn' : n ∉ ns ∧ ns.Nodup := by simpa using hn
            simp only [List.zip_cons_cons, List.map_cons, List.nodup_cons]
            exact ⟨fun q => by obtain ⟨p, hp, rfl⟩ := List.mem_map.mp q; exact hn'.1 (List.of_mem_zip hp).1, ih vs hn'.2⟩
      exact this _ _ hnd
    have S₁ : St g (mkFm name scope s.heap.objs.size a code k) s₁ ((params.args.map (·.arg)).zip ds) σ := by
      refine ⟨hB₁, hk, rfl, rfl, ?_, .inl rfl, ⟨_, X.toInCall.ns⟩, fun x hx => ?_, X.apart, fun x d hx => ?_⟩
      · rintro b (rfl | ⟨n, hn⟩)
        · exact ⟨hnone _ (Nat.le_refl _), .inl ⟨_, X.toInCall.ns⟩⟩
        · exact ⟨hnone _ (Nat.le_of_lt (X.above n b (mem_of_lookup hn))), .inr ⟨_, X.cell n b hn⟩⟩
      · have hx' : scope.names.lookup x = some .cell := hx
        obtain ⟨c, hc⟩ := Option.isSome_iff_exists.mp (cellsFrom_look scope.names (s.heap.objs.size + 1) [] x (.inl hx'))
        exact ⟨c, hc, .inr ⟨x, hc⟩, _, X.cell x c hc⟩
      · obtain ⟨v, hv, rv⟩ := zip_look _ _ _ hr₁ x d hx
        refine ⟨v, ?_, rv⟩
        have hxm : x ∈ params.args.map (·.arg) := by
          have := mem_of_lookup hx
          exact (List.of_mem_zip this).1
        rcases hkind' x hxm with q | q
        · exact .inl ⟨q, _, X.toInCall.ns, bindL_look _ _ _ _ q hnds (.inl hv)⟩
        · obtain ⟨c, hc⟩ := Option.isSome_iff_exists.mp (cellsFrom_look scope.names (s.heap.objs.size + 1) [] x (.inl q))
          refine .inr ⟨.inl q, c, hc, ?_⟩
          have := X.cell x c hc
          rw [bindC_look (kindOf := (callEnvC (docDef name params body scope pm code doc) s.heap.objs.size a).kindOf) _ _ _ _ (by show scope.names.lookup x ≠ _; rw [q]; decide) hnds (.inl hv)] at this
          exact this
    have hA₁ : AOk k (A.deeper (callEnvC (docDef name params body scope pm code doc) s.heap.objs.size a)) := ⟨hA.1, by show A.depth + 1 + k < _; have := hA.2.1; omega, by show A.units + 3 + 20 * k + 100 < _; have := hA.2.2; omega⟩
    refine wpAny_mono (h s.heap.objs.size a _ s₁ (fun fl s' => match (Except.ok (Flow.ret (match fl with | .ret v => v | _ => .none)) : Result) with | .ok (.ret v) => Q' v s' | .ok _ => False | .error e => False) hA₁ S₁ ?_) (fun _ _ y => y) fun _ _ y => y.elim
    intro fl fd s' ρ' σ' q S' rf p'
    have hstep : Step g (fun _ => False) σ s s' σ' := by
      refine ⟨fun b o e _ h2 h3 => p'.keep b o (hk1 b o e) ?_ h2 h3, fun b hb => (p'.dom b hb).imp id fun z => ?_, fun b o e => p'.alive b o (hk1 b o e), ?_⟩
      · rintro (rfl | ⟨n, hn⟩)
        · exact absurd (Heap.lt_size e) (Nat.lt_irrefl _)
        · exact absurd (Heap.lt_size e) (Nat.not_lt.mpr (Nat.le_of_lt (X.above n b (mem_of_lookup hn))))
      · cases e : s.heap.get? b with
        | none => rfl
        | some o => rw [hk1 b o e] at z; cases z
      · rw [p'.os, e₁]
    have fin : ∀ v d, Rd s'.heap (own σ') v d → Drop Q d σ' → Q' v s' := by
      rintro v d rv ⟨l, σ'', rfl, hq⟩
      exact post v d s' σ'' hq S'.base.drop (rv.mono (fun _ _ e _ => e) fun _ _ _ z => own_drop z) ⟨hstep.keep, fun b hb => hstep.dom b (own_drop hb), hstep.alive, hstep.os⟩
    cases rf with
    | next => exact fin _ _ .none q
    | brk => exact fin _ _ .none q
    | cont => exact fin _ _ .none q
    | ret rv => exact fin _ _ rv q
theorem Fn_enter {k : Nat} {name : Str} {params : Arguments} {body : List Stmt} {scope : Scope} {ds : List D} {Q : D → Sto → Prop} (hF : FnAt g name params body scope)
    (h : ∀ L a cd, WSs g (mkFm name scope L a cd k) body ((params.args.map (·.arg)).zip ds) σ (KEnd Q))
    (hbind : ∀ pm code doc, ∀ vs : List Value, vs.length = ds.length → bindArgs (docDef name params body scope pm code doc) ⟨vs, []⟩ = pure ((params.args.map (·.arg)).zip vs))
    (hkind : ((params.args.map (·.arg)).all fun x => scope.names.lookup x == some .local || scope.names.lookup x == some .cell) = true)
    (hnd : (params.args.map (·.arg)).Nodup)
    (hco : scope.isCoroutine = false := by with_unfolding_all rfl) (hgen : scope.isGenerator = false := by with_unfolding_all rfl) (hk : scope.kind = .function := by with_unfolding_all rfl) : Fn g (k + 1) name ds σ Q := by
  obtain ⟨a, o, pm, code, doc, h1, h2, h3, h4⟩ := hF
  exact Fn_enterC ⟨a, o, pm, doc, h1, h2, h3, h4⟩ (fun L a => h L a code) hbind hkind hnd hco hgen hk
end
-- Fw5
noncomputable def Away (g : G) (vol : Addr → Prop) (σ : Sto) (h : Heap) (b : Addr) : Prop := ¬ vol b ∧ ¬ own σ b ∧ b ≠ g.tp ∧ ∃ o, h.get? b = some o
section
variable {g : G} {f : Fm} {ρ : Loc} {σ : Sto}
theorem Away.step {vol : Addr → Prop} {s s' : Shared} {σ' : Sto} {b : Addr} (x : Away g vol σ s.heap b) (p : Step g vol σ s s' σ') : Away g vol σ' s'.heap b := by
  obtain ⟨a1, a2, a3, o, e⟩ := x
  exact ⟨a1, fun h => (p.dom b h).elim a2 fun q => (by rw [q] at e; cases e), a3, o, p.keep b o e a1 a2 a3⟩
theorem Away.same {vol : Addr → Prop} {s s' : Shared} {σ' : Sto} {b : Addr} (x : Away g vol σ s.heap b) (p : Step g vol σ s s' σ') : ∀ o, s.heap.get? b = some o → s'.heap.get? b = some o :=
  fun o e => p.keep b o e x.1 x.2.1 x.2.2.1
/-! ### while -/
noncomputable def LW (g : G) (f : Fm) (test : Expr) (body : List Stmt) (ρ : Loc) (σ : Sto) (Q : Fl → Loc → Sto → Prop) : Prop :=
  ∀ (A : Around) (s : Shared) (R : Result → Shared → Prop), AOk f.k A → St g f s ρ σ →
    (∀ a b s' ρ' σ', Q b ρ' σ' → St g f s' ρ' σ' → RdF s'.heap (own σ') a b → Step g f.vol σ s s' σ' → R (.ok a) s') → codeAny (model g.prog g.w) A (.whileLoop test body [] f.env) R s
noncomputable abbrev KWb (g : G) (f : Fm) (test : Expr) (body : List Stmt) (Q : Fl → Loc → Sto → Prop) : Fl → Loc → Sto → Prop := fun fl ρ₂ σ₂ => match fl with | .next | .cont => LW g f test body ρ₂ σ₂ Q | .brk => Q .next ρ₂ σ₂ | .ret d => Q (.ret d) ρ₂ σ₂
noncomputable abbrev KW (g : G) (f : Fm) (test : Expr) (body : List Stmt) (ρ : Loc) (Q : Fl → Loc → Sto → Prop) : Bool → Sto → Prop := fun c σ₁ => if c = true then WSs g f body ρ σ₁ (KWb g f test body Q) else Q .next ρ σ₁
theorem LW_step {test : Expr} {body : List Stmt} {Q : Fl → Loc → Sto → Prop}
    (h : WT g f test ρ σ (KW g f test body ρ Q)) :
    LW g f test body ρ σ Q := by
  intro A s R hA hS post
  refine codeAny_of_tree ?_
  rw [show A.under (.whileLoop test body [] f.env) = A from Around.under_of_weight rfl rfl]
  show wpAny _ A ((whileTurn test body [] f.env).onRaise (fun x => do noteFrame x f.env; theTreesLotGoes x)) _ _ s
  refine wpAny_noted ?_
  refine wpAny_mono (Q := fun fin s' => match fin with | .done fl => R (.ok fl) s' | .again c' => c'.quiet = true ∧ codeAny (model g.prog g.w) A c' R s') (E := fun _ _ => False) ?_ (fun _ _ y => y) fun _ _ y => y.elim
  unfold whileTurn
  refine wpAny_bind (h A s _ hA hS fun c c' s₁ σ₁ q S₁ r₁ p₁ => ?_)
  cases r₁
  cases c with
  | false => exact wpAny_bind (wpAny_execs_nil (wpAny_pure (post _ _ _ _ _ q S₁ .next p₁)))
  | true =>
    refine wpAny_bind (q A s₁ _ hA S₁ fun fl fd s₂ ρ₂ σ₂ q₂ S₂ r₂ p₂ => ?_)
    have p := p₁.trans p₂
    cases r₂ with
    | next => exact wpAny_pure ⟨rfl, q₂ A s₂ R hA S₂ fun a b s' ρ' σ' q' S' r' p' => post a b s' ρ' σ' q' S' r' (p.trans p')⟩
    | cont => exact wpAny_pure ⟨rfl, q₂ A s₂ R hA S₂ fun a b s' ρ' σ' q' S' r' p' => post a b s' ρ' σ' q' S' r' (p.trans p')⟩
    | brk => exact wpAny_pure (post _ _ _ _ _ q₂ S₂ .next p)
    | ret r => exact wpAny_pure (post _ _ _ _ _ q₂ S₂ (.ret r) p)
theorem WS_While {test : Expr} {body : List Stmt} {pos : Pos} {Q : Fl → Loc → Sto → Prop} (h : LW g f test body ρ σ Q) : WS g f (.While test body [] pos) ρ σ Q :=
  fun A s Q' hA hS post => wpAny_While (h A s _ hA hS fun a b s' ρ' σ' q S r p => post a b s' ρ' σ' q S r p)
/-! ### iterators -/
noncomputable def iterClasses : List String := ["list_iterator", "tuple_iterator", "range_iterator", "str_ascii_iterator", "str_iterator"]
noncomputable def IterLike (o : Obj) : Prop := ∃ c vs, o.cls = .type c ∧ o.data = .fields vs ∧ iterClasses.contains c = true
structure IterAt (g : G) (vol : Addr → Prop) (σ : Sto) (h : Heap) (items : List D) (I : Addr) (fp : List Addr) (n : Nat) (P : Nat → Value → Prop) (St : Nat → Heap → Prop) (i : Nat) : Prop where
  walks : ∀ A : Around, A.handled = none → Walks g.prog g.w A I fp [I] n P St
  st : St i h
  len : i + items.length = n
  away : ∀ b ∈ fp, Away g vol σ h b
  item : ∀ j v d, items[j]? = some d → P (i + j) v → Rd h (own σ) v d
  kind : ∀ i h, St i h → ∃ o, h.get? I = some o ∧ IterLike o
  big : g.H0.get? I = none
noncomputable def Iter (g : G) (vol : Addr → Prop) (σ : Sto) (h : Heap) (I : Addr) (items : List D) : Prop := ∃ fp n P St i, IterAt g vol σ h items I fp n P St i
theorem Iter.step {s s' : Shared} {σ' : Sto} {I : Addr} {items : List D} (vols : ∀ b, f.vol b → (∃ m, s.heap.Ns b m) ∨ (∃ v, s.heap.IsCell b v)) (B : Base g s σ) (p : Step g f.vol σ s s' σ')
    (x : Iter g f.vol σ s.heap I items) : Iter g f.vol σ' s'.heap I items := by
  obtain ⟨fp, n, P, St, i, X⟩ := x
  exact ⟨fp, n, P, St, i, X.walks, (X.walks callerA rfl).frame i _ _ X.st (fun b hb o e => (X.away b hb).same p o e), X.len, fun b hb => (X.away b hb).step p,
    fun j v d h1 h2 => (X.item j v d h1 h2).step vols B p, X.kind, X.big⟩
theorem Fix.not_iter {o : Addr → Prop} {b : Addr} {ob : Obj} (q : Fix o b ob) (h : IterLike ob) : False := by
  obtain ⟨c, vs, hc, _, h⟩ := h
  cases q <;> (cases hc; revert h; decide)
theorem big_own {s : Shared} {b : Addr} (B : Base g s σ) (h : own σ b) : ∃ vs n, s.heap.get? b = some (listObj vs n) := by
  obtain ⟨p, hp, rfl⟩ := List.mem_map.mp h
  obtain ⟨vs, n, e, _⟩ := B.cells p.1 p.2 hp
  exact ⟨vs, n, e⟩
theorem notIter_data {o : Obj} (h : ∀ vs, o.data ≠ .fields vs) : ¬ IterLike o := fun ⟨_, vs, _, d, _⟩ => h vs d
theorem notIter_none {o : Obj} (h : o.cls = .none) : ¬ IterLike o := fun ⟨_, _, c, _⟩ => by rw [h] at c; cases c
theorem St.iter {s : Shared} {h' : Heap} {tk : Nat} (hS : St g f s ρ σ) (h0 : ∀ b ob, g.H0.get? b = some ob → h'.get? b = some ob)
    (hk : ∀ b ob, s.heap.get? b = some ob → ¬ IterLike ob → h'.get? b = some ob) :
    St g f { s with heap := h', toks := tk } ρ σ ∧ (∀ v d, Rd s.heap (own σ) v d → Rd h' (own σ) v d) := by
  have fx : ∀ b ob, s.heap.get? b = some ob → Fix (own σ) b ob → h'.get? b = some ob := fun b ob e q => hk b ob e fun z => q.not_iter z
  have rr : ∀ {v d}, Rd s.heap (own σ) v d → Rd h' (own σ) v d := fun r => r.mono fx fun _ _ _ q => q
  have hns : ∀ {b m}, s.heap.Ns b m → h'.Ns b m := fun {b m} x => by
    obtain ⟨o, es, ep, e, d, r⟩ := x
    exact ⟨o, es, ep, hk b o e (notIter_data fun vs q => by rw [d] at q; cases q), d, r⟩
  have hce : ∀ {b v}, s.heap.IsCell b v → h'.IsCell b v := fun {b v} x => by
    obtain ⟨o, e, d⟩ := x
    exact ⟨o, hk b o e (notIter_data fun vs q => by rw [d] at q; cases q), d⟩
  refine ⟨⟨⟨hS.base.ok, h0, fun a ds h => ?_, hS.base.nodup, ?_, hS.base.gens⟩, hS.kind, hS.globals, hS.builtins, fun b h => ⟨(hS.vols b h).1, (hS.vols b h).2.imp (fun ⟨m, x⟩ => ⟨m, hns x⟩) fun ⟨v, x⟩ => ⟨v, hce x⟩⟩, hS.loc, ?_, fun x hx => ?_, hS.apart, fun x d h => ?_⟩, fun v d => rr⟩
  · obtain ⟨vs, n, e, r, l⟩ := hS.base.cells a ds h
    exact ⟨vs, n, hk _ _ e (notIter_data fun vs q => by cases q), r.mono fx fun _ _ _ q => q, l⟩
  · obtain ⟨ps, e, r⟩ := hS.base.tab
    exact ⟨ps, hk _ _ e (notIter_none rfl), r⟩
  · obtain ⟨m, x⟩ := hS.ns; exact ⟨m, hns x⟩
  · obtain ⟨c, a, b, v, w⟩ := hS.cell x hx; exact ⟨c, a, b, v, hce w⟩
  · obtain ⟨v, V, r⟩ := hS.vars x d h
    exact ⟨v, V.imp (fun ⟨k, m, a, b⟩ => ⟨k, m, hns a, b⟩) fun ⟨k, c, a, b⟩ => ⟨k, c, a, hce b⟩, rr r⟩
theorem Step.draw {vol : Addr → Prop} {σ₀ : Sto} {s₀ s s' : Shared} {I : Addr} (p : Step g vol σ₀ s₀ s σ) (hI : s₀.heap.get? I = none) (hk : ∀ b o, b ≠ I → s.heap.get? b = some o → s'.heap.get? b = some o)
    (ho : rest s' = rest s) : Step g vol σ₀ s₀ s' σ :=
  ⟨fun b o e h1 h2 h3 => hk b o (fun q => by rw [q, hI] at e; cases e) (p.keep b o e h1 h2 h3), p.dom, fun b o e => by
    obtain ⟨o', e'⟩ := p.alive b o e
    by_cases q : b = I
    · subst q; rw [hI] at e; cases e
    · exact ⟨o', hk b o' q e'⟩, ho.trans p.os⟩
theorem Iter.next {A : Around} {s : Shared} {I : Addr} {d : D} {items : List D} {Q' : Option Value → Shared → Prop} {E : Value → Shared → Prop} (hA : A.handled = none) (hS : St g f s ρ σ) (x : Iter g f.vol σ s.heap I (d :: items))
    (post : ∀ v s', St g f s' ρ σ → Rd s'.heap (own σ) v d → (∀ b o, b ≠ I → s.heap.get? b = some o → s'.heap.get? b = some o) → rest s' = rest s → Iter g f.vol σ s'.heap I items →
      (∃ o, s'.heap.get? I = some o ∧ IterLike o) → Q' (some v) s') :
    wpAny (model g.prog g.w) A (pyNext (.ref I)) Q' E s := by
  obtain ⟨fp, n, P, St, i, X⟩ := x
  have hn := X.len
  rw [List.length_cons] at hn
  have sub := (X.walks A hA).sub I (by simp)
  obtain ⟨oI, hoI, likeI⟩ := X.kind i _ X.st
  refine (X.walks A hA).item i s Q' E (by omega) X.st fun v h' tk hv hst hk => ?_
  have hk' : ∀ b o, b ≠ I → s.heap.get? b = some o → h'.get? b = some o := fun b o q e => hk b o (by simpa using q) e
  obtain ⟨S', rr⟩ := hS.iter (h' := h') (tk := tk) (fun b ob e => hk' b ob (fun q => by rw [q, X.big] at e; cases e) (hS.base.keep0 b ob e)) (fun b ob e nl => hk' b ob (fun z => by subst z; rw [hoI] at e; cases e; exact nl likeI) e)
  have hr : Rd h' (own σ) v d := rr _ _ (X.item 0 v d rfl hv)
  refine post v _ S' hr hk' rfl ⟨fp, n, P, St, i + 1, X.walks, hst, by omega, fun b hb => ?_, fun j v e h1 h2 => rr _ _ (X.item (j + 1) v e h1 (by rw [show i + (j + 1) = i + 1 + j by omega]; exact h2)), X.kind, X.big⟩ (X.kind _ _ hst)
  obtain ⟨a1, a2, a3, o, e⟩ := X.away b hb
  by_cases q : b = I
  · subst q
    obtain ⟨o', e', _⟩ := X.kind _ _ hst
    exact ⟨a1, a2, a3, o', e'⟩
  · exact ⟨a1, a2, a3, o, hk' b o q e⟩
theorem Iter.done {A : Around} {s : Shared} {I : Addr} {Q' : Option Value → Shared → Prop} {E : Value → Shared → Prop} (hA : A.handled = none) (hS : St g f s ρ σ) (x : Iter g f.vol σ s.heap I [])
    (post : ∀ s', St g f s' ρ σ → (∀ v d, Rd s.heap (own σ) v d → Rd s'.heap (own σ) v d) → (∀ b o, b ≠ I → s.heap.get? b = some o → s'.heap.get? b = some o) → rest s' = rest s → Q' none s') :
    wpAny (model g.prog g.w) A (pyNext (.ref I)) Q' E s := by
  obtain ⟨fp, n, P, St, i, X⟩ := x
  have hn : i = n := X.len
  obtain ⟨oI, hoI, likeI⟩ := X.kind i _ X.st
  refine (X.walks A hA).done s Q' E (hn ▸ X.st) fun h' tk hk => ?_
  have hk' : ∀ b o, b ≠ I → s.heap.get? b = some o → h'.get? b = some o := fun b o q e => hk b o (by simpa using q) e
  obtain ⟨S', rr⟩ := hS.iter (h' := h') (tk := tk) (fun b ob e => hk' b ob (fun q => by rw [q, X.big] at e; cases e) (hS.base.keep0 b ob e)) (fun b ob e nl => hk' b ob (fun z => by subst z; rw [hoI] at e; cases e; exact nl likeI) e)
  exact post _ S' rr hk' rfl
end
-- Fw6
section
variable {g : G} {f : Fm} {ρ : Loc} {σ : Sto}
/-! ### assignment to a target -/
noncomputable def OA (g : G) (f : Fm) (target : Expr) (d : D) (ρ : Loc) (σ : Sto) (Q : Loc → Sto → Prop) : Prop :=
  ∀ (A : Around) (s : Shared) (v : Value) (Q' : Unit → Shared → Prop), AOk f.k A → St g f s ρ σ → Rd s.heap (own σ) v d →
    (∀ s' ρ' σ', Q ρ' σ' → St g f s' ρ' σ' → Step g f.vol σ s s' σ' → Q' () s') → wpAny (model g.prog g.w) A (assign target f.env v) Q' (fun _ _ => False) s
noncomputable def OAs (g : G) (f : Fm) (targets : List Expr) (ds : List D) (ρ : Loc) (σ : Sto) (Q : Loc → Sto → Prop) : Prop :=
  ∀ (A : Around) (s : Shared) (vs : List Value) (Q' : Unit → Shared → Prop), AOk f.k A → St g f s ρ σ → RdL s.heap (own σ) vs ds →
    (∀ s' ρ' σ', Q ρ' σ' → St g f s' ρ' σ' → Step g f.vol σ s s' σ' → Q' () s') → wpAny (model g.prog g.w) A (assignInOrder ((assignEach targets f.env).map (·.2)) vs) Q' (fun _ _ => False) s
theorem OA_Name {x : Str} {px : Pos} {d : D} {Q : Loc → Sto → Prop} (h : Q (setL ρ x d) σ)
    (hx : f.env.kindOf x = some .local ∨ f.env.kindOf x = some .cell := by with_unfolding_all first | exact .inl rfl | exact .inr rfl) : OA g f (.Name x px) d ρ σ Q :=
  fun A s v Q' hA hS r post => wpAny_assign_Name (store_ok hS r hx fun s' S' p' _ => post s' _ _ h S' p')
theorem OAs_nil {ds : List D} {Q : Loc → Sto → Prop} (h : Q ρ σ) : OAs g f [] ds ρ σ Q :=
  fun A s vs Q' hA hS r post => by
    have e : assignInOrder ((assignEach [] f.env).map (·.2)) vs = pure () := by cases vs <;> rfl
    rw [e]; exact wpAny_pure (post s ρ σ h hS .refl)
noncomputable abbrev KAs1 (g : G) (f : Fm) (ts : List Expr) (ds : List D) (Q : Loc → Sto → Prop) : Loc → Sto → Prop := fun ρ₁ σ₁ => OAs g f ts ds ρ₁ σ₁ Q
theorem OAs_cons {t : Expr} {ts : List Expr} {d : D} {ds : List D} {Q : Loc → Sto → Prop} (h : OA g f t d ρ σ (KAs1 g f ts ds Q))
    (he : assignEach (t :: ts) f.env = (false, assign t f.env) :: assignEach ts f.env := by with_unfolding_all rfl) : OAs g f (t :: ts) (d :: ds) ρ σ Q :=
  fun A s vs Q' hA hS r post => by
    obtain ⟨v, us, rfl, r1, r2⟩ := r.consE
    rw [he]
    show wpAny _ A (do holding us (assign t f.env v); assignInOrder ((assignEach ts f.env).map (·.2)) us) Q' _ s
    refine wpAny_bind (wpAny_holding (h A s v _ hA hS r1 fun s₁ ρ₁ σ₁ q S₁ p₁ => q A s₁ us Q' hA S₁ (r2.step hS.vols' hS.base p₁) fun s' ρ' σ' q' S' p' => post s' ρ' σ' q' S' (p₁.trans p')))
theorem OA_Tuple {ts : List Expr} {k : Nat} {pos : Pos} {ds : List D} {Q : Loc → Sto → Prop} (h : OAs g f ts ds ρ σ Q) (hn : ts.length = ds.length)
    (hl : (assignEach ts f.env).length = ts.length := by with_unfolding_all rfl) (hstar : (assignEach ts f.env).findIdx? (·.1) = none := by with_unfolding_all rfl) : OA g f (.Tuple ts k pos) (.tup ds) ρ σ Q :=
  fun A s v Q' hA hS r post => by
    obtain ⟨a, vs, n, rfl, e, rl⟩ := r.tupE
    refine wpAny_assign_Tuple (items := vs.toArray) hA.1 ⟨_, e, rfl, n, rfl⟩ (by rw [hl, hn, List.size_toArray, rl.length]) hstar fun h' hx => ?_
    have hk : ∀ b o, s.heap.get? b = some o → h'.get? b = some o := fun b o e => hx b o (Nat.ne_of_lt (Heap.lt_size e)) e
    have S₁ := (hS.iter (h' := h') (tk := s.toks) (fun b ob e => hk b ob (hS.base.keep0 b ob e)) (fun b ob e _ => hk b ob e))
    have p₁ : Step g f.vol σ s { s with heap := h' } σ := ⟨fun b o e _ _ _ => hk b o e, fun _ h => .inl h, fun b o e => ⟨o, hk b o e⟩, rfl⟩
    exact h A _ vs Q' hA S₁.1 (rl.mono (fun b ob e _ => hk b ob e) fun _ _ _ q => q) fun s' ρ' σ' q' S' p' => post s' ρ' σ' q' S' (p₁.trans p')
theorem letOwned_ok {M : Model} {A : Around} {E : Value → Shared → Prop} {s : Shared} {target : Expr} {I : Addr} {v : Value} {o : Obj} {Q : Unit → Shared → Prop} (ho : s.heap.get? I = some o) (hl : IterLike o) (h : Q () s) :
    wpAny M A (letOwnedTupleGo target (.ref I) v) Q E s := by
  have key : ∀ a : Addr, wpAny M A (do
      let o ← load I
      match o.cls, o.data with
      | .type n, .fields vs =>
        if ["enumerate", "zip", "dict_itemiterator", "dict_reverseitemiterator", "odict_iterator", "itertools.zip_longest", "itertools.pairwise"].contains n && vs[0]? == some (rawInt a) then
          rule "for.unpacks-the-owned-tuple"
          updateField I 0 .none
      | _, _ => pure () : Sem Unit) Q E s := by
    intro a
    refine wpAny_bind (wpAny_load ho ?_)
    obtain ⟨c, vs, hc, hd, hi⟩ := hl
    rw [hc, hd]
    have hn : (["enumerate", "zip", "dict_itemiterator", "dict_reverseitemiterator", "odict_iterator", "itertools.zip_longest", "itertools.pairwise"] : List String).contains c = false := by
      simp only [iterClasses, List.contains_cons, List.contains_nil, Bool.or_false, Bool.or_eq_true, beq_iff_eq] at hi
      rcases hi with h | h | h | h | h <;> subst h <;> decide
    show wpAny M A (if (_ && _) = true then _ else _) Q E s
    rw [hn, Bool.false_and, if_neg Bool.false_ne_true]
    exact wpAny_pure h
  unfold letOwnedTupleGo
  split
  · cases v <;> first | exact wpAny_pure h | exact key _
  · cases v <;> first | exact wpAny_pure h | exact key _
  · exact wpAny_pure h
/-! ### fewer locals -/
noncomputable def Sub (ρ' ρ : Loc) : Prop := ∀ x d, ρ'.lookup x = some d → ρ.lookup x = some d
theorem Sub.nil {ρ : Loc} : Sub [] ρ := fun x d h => by cases h
theorem Sub.cons {x : Str} {d : D} {r ρ : Loc} (h : ρ.lookup x = some d) (k : Sub r ρ) : Sub ((x, d) :: r) ρ := fun y e q => by
  rw [List.lookup_cons] at q
  cases z : y == x with
  | true => rw [z] at q; cases q; rw [beq_iff_eq.mp z]; exact h
  | false => rw [z] at q; exact k y e q
theorem St.sub {s : Shared} {ρ' : Loc} (hS : St g f s ρ σ) (h : Sub ρ' ρ) : St g f s ρ' σ := ⟨hS.base, hS.kind, hS.globals, hS.builtins, hS.vols, hS.loc, hS.ns, hS.cell, hS.apart, fun x d q => hS.vars x d (h x d q)⟩
theorem TS_sub {α β : Type} {R : Heap → (Addr → Prop) → α → β → Prop} {t : Sem α} {ρ' : Loc} {Q : β → Loc → Sto → Prop} (hs : Sub ρ' ρ) (h : TS g f R t ρ' σ Q) : TS g f R t ρ σ Q :=
  fun A s Q' hA hS post => h A s Q' hA (hS.sub hs) post
theorem LW_sub {test : Expr} {body : List Stmt} {ρ' : Loc} {Q : Fl → Loc → Sto → Prop} (hs : Sub ρ' ρ) (h : LW g f test body ρ' σ Q) : LW g f test body ρ σ Q :=
  fun A s R hA hS post => h A s R hA (hS.sub hs) post
/-! ### for -/
noncomputable def FL (g : G) (f : Fm) (target : Expr) (body : List Stmt) (items : List D) (ρ : Loc) (σ : Sto) (Q : Fl → Loc → Sto → Prop) : Prop :=
  ∀ (A : Around) (I : Addr) (R : Result → Shared → Prop) (σ₀ : Sto) (s₀ s : Shared), AOk f.k A → s₀.heap.get? I = none →
    (∀ a b s' ρ' σ', Q b ρ' σ' → St g f s' ρ' σ' → RdF s'.heap (own σ') a b → Step g f.vol σ₀ s₀ s' σ' → R (.ok a) s') →
    St g f s ρ σ → Iter g f.vol σ s.heap I items → Step g f.vol σ₀ s₀ s σ → codeAny (model g.prog g.w) A (.forLoop target (.ref I) body [] f.env) R s
theorem FL_sub {target : Expr} {body : List Stmt} {items : List D} {ρ' : Loc} {Q : Fl → Loc → Sto → Prop} (hs : Sub ρ' ρ) (h : FL g f target body items ρ' σ Q) : FL g f target body items ρ σ Q :=
  fun A I R σ₀ s₀ s hA hI post hS X p => h A I R σ₀ s₀ s hA hI post (hS.sub hs) X p
theorem FL_nil {target : Expr} {body : List Stmt} {Q : Fl → Loc → Sto → Prop} (h : Q .next ρ σ) : FL g f target body [] ρ σ Q := by
  intro A I R σ₀ s₀ s hA hI post hS X p
  refine codeAny_of_tree ?_
  rw [show A.under (.forLoop target (.ref I) body [] f.env) = A from Around.under_of_weight rfl rfl]
  show wpAny _ A ((forTurn target (.ref I) body [] f.env).onRaise (fun x => do noteFrame x f.env; theTreesLotGoes x)) _ _ s
  refine wpAny_noted ?_
  refine wpAny_mono (Q := fun fin s' => match fin with | .done fl => R (.ok fl) s' | .again c' => c'.quiet = true ∧ codeAny (model g.prog g.w) A c' R s') (E := fun _ _ => False) ?_ (fun _ _ y => y) fun _ _ y => y.elim
  unfold forTurn
  refine wpAny_bind (wpAny_standAt (wpAny_bind (wpAny_onRaise (Iter.done hA.1 hS X fun s' S' rr hk ho => ?_))))
  refine wpAny_pure ⟨rfl, codeAny_block (wpAny_execs_nil ?_)⟩
  exact post _ _ _ _ _ h S' .next (p.draw hI hk ho)
noncomputable abbrev KFb (g : G) (f : Fm) (target : Expr) (body : List Stmt) (items : List D) (Q : Fl → Loc → Sto → Prop) : Fl → Loc → Sto → Prop := fun fl ρ₂ σ₂ => match fl with
      | .next | .cont => FL g f target body items ρ₂ σ₂ Q
      | .brk => Q .next ρ₂ σ₂
      | .ret d => Q (.ret d) ρ₂ σ₂
noncomputable abbrev KF (g : G) (f : Fm) (target : Expr) (body : List Stmt) (items : List D) (Q : Fl → Loc → Sto → Prop) : Loc → Sto → Prop := fun ρ₁ σ₁ => WSs g f body ρ₁ σ₁ (KFb g f target body items Q)
theorem FL_cons {target : Expr} {body : List Stmt} {d : D} {items : List D} {Q : Fl → Loc → Sto → Prop}
    (h : OA g f target d ρ σ (KF g f target body items Q)) : FL g f target body (d :: items) ρ σ Q := by
  intro A I R σ₀ s₀ s hA hI post hS X p
  refine codeAny_of_tree ?_
  rw [show A.under (.forLoop target (.ref I) body [] f.env) = A from Around.under_of_weight rfl rfl]
  show wpAny _ A ((forTurn target (.ref I) body [] f.env).onRaise (fun x => do noteFrame x f.env; theTreesLotGoes x)) _ _ s
  refine wpAny_noted ?_
  refine wpAny_mono (Q := fun fin s' => match fin with | .done fl => R (.ok fl) s' | .again c' => c'.quiet = true ∧ codeAny (model g.prog g.w) A c' R s') (E := fun _ _ => False) ?_ (fun _ _ y => y) fun _ _ y => y.elim
  unfold forTurn
  refine wpAny_bind (wpAny_standAt (wpAny_bind (wpAny_onRaise (Iter.next hA.1 hS X fun v s₁ S₁ r₁ hk ho X₁ ⟨oI, hoI, lI⟩ => ?_))))
  have p₁ : Step g f.vol σ₀ s₀ s₁ σ := p.draw hI hk ho
  refine wpAny_bind (letOwned_ok hoI lI (wpAny_bind ?_))
  refine h A s₁ v _ hA S₁ r₁ fun s₂ ρ₂ σ₂ q₂ S₂ p₂ => wpAny_bind ?_
  have X₂ := X₁.step S₁.vols' S₁.base p₂
  refine q₂ A s₂ _ hA S₂ fun fl fd s₃ ρ₃ σ₃ q₃ S₃ r₃ p₃ => ?_
  have X₃ := X₂.step S₂.vols' S₂.base p₃
  have pp := (p₁.trans p₂).trans p₃
  cases r₃ with
  | next => exact wpAny_pure ⟨rfl, q₃ A I R σ₀ s₀ s₃ hA hI post S₃ X₃ pp⟩
  | cont => exact wpAny_pure ⟨rfl, q₃ A I R σ₀ s₀ s₃ hA hI post S₃ X₃ pp⟩
  | brk => exact wpAny_pure (post _ _ _ _ _ q₃ S₃ .next pp)
  | ret r => exact wpAny_pure (post _ _ _ _ _ q₃ S₃ (.ret r) pp)
end
-- Fw7
noncomputable def rngItems (a c : Int) (n : Nat) : List D := (List.range n).map fun (i : Nat) => D.int (a + (i : Int) * c)
inductive Draws : D → List D → Prop
  | lst (ds) : Draws (.lst ds) ds
  | tup (ds) : Draws (.tup ds) ds
  | str (s) : Draws (.str s) (s.map fun c => .str [c])
  | rng (a b c : Int) (n : Nat) : Builtin.Range.small a b c = true → Builtin.Range.rangeSize a b c = n → Draws (.rng a b c) (rngItems a c n)
section
variable {g : G} {f : Fm} {ρ : Loc} {σ : Sto}
theorem St.awayNew {s : Shared} {σ : Sto} {h : Heap} (hS : St g f s ρ σ) (he : ∃ o, h.get? s.heap.objs.size = some o) : Away g f.vol σ h s.heap.objs.size := by
  refine ⟨fun q => ?_, fresh_own hS.base, fun q => ?_, he⟩
  · obtain ⟨o, e, _⟩ := vol_get (hS.vols _ q).2
    exact absurd (Heap.lt_size e) (Nat.lt_irrefl _)
  · obtain ⟨ps, e, _⟩ := hS.base.tab
    rw [← q] at e
    exact absurd (Heap.lt_size e) (Nat.lt_irrefl _)
theorem St.awayFix {s : Shared} {a : Addr} {o : Obj} (hS : St g f s ρ σ) (e : s.heap.get? a = some o) (q : Fix (own σ) a o) : Away g f.vol σ s.heap a := by
  refine ⟨fun h => q.not_vol e (hS.vols _ h).2, fun h => ?_, fun h => ?_, o, e⟩
  · obtain ⟨vs, n, e'⟩ := big_own hS.base h
    rw [e] at e'; cases e'
    exact q.free rfl h
  · subst h
    obtain ⟨ps, e', _⟩ := hS.base.tab
    rw [e] at e'; cases e'
    exact q.cls rfl
theorem new_none {s : Shared} (hB : Base g s σ) : g.H0.get? s.heap.objs.size = none := by
  cases e : g.H0.get? s.heap.objs.size with
  | none => rfl
  | some o => exact absurd (Heap.lt_size (hB.keep0 _ o e)) (Nat.lt_irrefl _)
theorem get_size (h : Heap) : h.get? h.objs.size = none := by
  cases e : h.get? h.objs.size with
  | none => rfl
  | some o => exact absurd (Heap.lt_size e) (Nat.lt_irrefl _)
theorem pyIter_ok {A : Around} {s : Shared} {v : Value} {d : D} {items : List D} {Q' : Value → Shared → Prop} {E : Value → Shared → Prop} (hS : St g f s ρ σ) (r : Rd s.heap (own σ) v d) (hd : Draws d items)
    (post : ∀ I s', St g f s' ρ σ → (∀ vol, Step g vol σ s s' σ) → Iter g f.vol σ s'.heap I items → s.heap.get? I = none → Q' (.ref I) s') : wpAny (model g.prog g.w) A (pyIter v) Q' E s := by
  cases hd with
  | lst ds =>
    obtain ⟨a, vs, n, rfl, e, no, rl⟩ := r.lstE
    have hne : a ≠ s.heap.objs.size := Nat.ne_of_lt (Heap.lt_size e)
    refine wpAny_pyIter_list (items := vs.toArray) ⟨_, e, rfl, n, rfl⟩ ?_
    have aw := hS.awayFix e (.lst vs n no)
    have S' := hS.grow (push_keeps s.heap { cls := .type "list_iterator", data := .fields #[.ref a, .int 0 0] }) (push_size _ _) s.toks
    have p' : Step g f.vol σ s _ σ := .grow (push_keeps s.heap { cls := .type "list_iterator", data := .fields #[.ref a, .int 0 0] }) (push_size _ _) s.toks
    have gr : ∀ vol, Step g vol σ s _ σ := fun _ => .grow (push_keeps s.heap { cls := .type "list_iterator", data := .fields #[.ref a, .int 0 0] }) (push_size _ _) s.toks
    refine post _ _ S' gr ⟨[s.heap.objs.size, a], vs.toArray.size, _, _, 0, fun A hA => Walks.list hA _ a hne vs.toArray, ⟨⟨_, Heap.get?_push_size _ rfl, rfl, rfl⟩, ⟨_, push_keeps _ _ _ _ e, rfl, n, rfl⟩⟩, ?_, ?_, ?_, ?_, new_none hS.base⟩ (get_size _)
    · rw [List.size_toArray, rl.length]; omega
    · intro b hb
      rcases List.mem_cons.mp hb with rfl | hb
      · exact hS.awayNew ⟨_, Heap.get?_push_size _ rfl⟩
      · obtain rfl := List.mem_singleton.mp hb
        exact aw.step p'
    · intro j u d h1 h2
      rw [Nat.zero_add] at h2
      obtain ⟨w, h3, h4⟩ := rl.get j d h1
      have : vs[j]? = some u := by simpa using h2
      rw [h3] at this; cases this
      exact h4.step hS.vols' hS.base p'
    · rintro i h ⟨⟨o, e, c, d⟩, _⟩
      exact ⟨o, e, _, _, c, d, by decide⟩
  | tup ds =>
    obtain ⟨a, vs, n, rfl, e, rl⟩ := r.tupE
    have hne : a ≠ s.heap.objs.size := Nat.ne_of_lt (Heap.lt_size e)
    refine wpAny_pyIter_tuple (items := vs.toArray) ⟨_, e, rfl, n, rfl⟩ ?_
    have aw := hS.awayFix e (.tup vs n)
    have S' := hS.grow (push_keeps s.heap { cls := .type "tuple_iterator", data := .fields #[.ref a, .int 0 0] }) (push_size _ _) s.toks
    have p' : Step g f.vol σ s _ σ := .grow (push_keeps s.heap { cls := .type "tuple_iterator", data := .fields #[.ref a, .int 0 0] }) (push_size _ _) s.toks
    have gr : ∀ vol, Step g vol σ s _ σ := fun _ => .grow (push_keeps s.heap { cls := .type "tuple_iterator", data := .fields #[.ref a, .int 0 0] }) (push_size _ _) s.toks
    refine post _ _ S' gr ⟨[s.heap.objs.size, a], vs.toArray.size, _, _, 0, fun A hA => Walks.tuple hA _ a hne vs.toArray, ⟨⟨_, Heap.get?_push_size _ rfl, rfl, rfl⟩, ⟨_, push_keeps _ _ _ _ e, rfl, n, rfl⟩⟩, ?_, ?_, ?_, ?_, new_none hS.base⟩ (get_size _)
    · rw [List.size_toArray, rl.length]; omega
    · intro b hb
      rcases List.mem_cons.mp hb with rfl | hb
      · exact hS.awayNew ⟨_, Heap.get?_push_size _ rfl⟩
      · obtain rfl := List.mem_singleton.mp hb
        exact aw.step p'
    · intro j u d h1 h2
      rw [Nat.zero_add] at h2
      obtain ⟨w, h3, h4⟩ := rl.get j d h1
      have : vs[j]? = some u := by simpa using h2
      rw [h3] at this; cases this
      exact h4.step hS.vols' hS.base p'
    · rintro i h ⟨⟨o, e, c, d⟩, _⟩
      exact ⟨o, e, _, _, c, d, by decide⟩
  | str x =>
    obtain ⟨t, rfl⟩ := r.strE
    have fin : ∀ ty, (ty = "str_ascii_iterator" ∨ ty = "str_iterator") → ∀ o : Obj, o = { cls := .type ty, data := .fields #[.str ⟨x.toArray⟩ t, .int 0 0] } →
        (∀ A : Around, A.handled = none → Walks g.prog g.w A s.heap.objs.size [s.heap.objs.size] [s.heap.objs.size] x.toArray.size (SignAt ⟨x.toArray⟩) (fun i h => h.IsStrIter s.heap.objs.size ty ⟨x.toArray⟩ t i)) → Q' (.ref s.heap.objs.size) { s with heap := s.heap.push o } := by
      rintro ty hty o rfl W
      have hf : ({ cls := .type ty, data := .fields #[.str ⟨x.toArray⟩ t, .int 0 0] } : Obj).isFreed = false := rfl
      have S' := hS.grow (push_keeps s.heap { cls := .type ty, data := .fields #[.str ⟨x.toArray⟩ t, .int 0 0] }) (push_size _ _) s.toks
      have p' : Step g f.vol σ s _ σ := .grow (push_keeps s.heap { cls := .type ty, data := .fields #[.str ⟨x.toArray⟩ t, .int 0 0] }) (push_size _ _) s.toks
      have gr : ∀ vol, Step g vol σ s _ σ := fun _ => .grow (push_keeps s.heap { cls := .type ty, data := .fields #[.str ⟨x.toArray⟩ t, .int 0 0] }) (push_size _ _) s.toks
      refine post _ _ S' gr ⟨[s.heap.objs.size], x.toArray.size, _, _, 0, W, ⟨_, Heap.get?_push_size _ hf, rfl, rfl⟩, ?_, ?_, ?_, ?_, new_none hS.base⟩ (get_size _)
      · simp
      · intro b hb
        obtain rfl := List.mem_singleton.mp hb
        exact hS.awayNew ⟨_, Heap.get?_push_size _ hf⟩
      · intro j u d h1 h2
        rw [Nat.zero_add] at h2
        obtain ⟨c, t', h3, h4⟩ := h2
        subst h4
        rw [List.getElem?_map] at h1
        have : x[j]? = some c := by simpa using h3
        rw [this] at h1
        cases h1
        exact .str [c] _
      · rintro i h ⟨o, e, c, d⟩
        exact ⟨o, e, _, _, c, d, by rcases hty with rfl | rfl <;> decide⟩
    cases ha : (⟨x.toArray⟩ : Str).cps.all (· < 128)
    · exact wpAny_pyIter_wide ha (fin _ (.inr rfl) _ rfl fun A hA => Walks.strWide hA _ _ t)
    · exact wpAny_pyIter_ascii ha (fin _ (.inl rfl) _ rfl fun A hA => Walks.strAscii hA _ _ t)
  | rng a b c n hsm hn =>
    obtain ⟨x, t, u, w, rfl, e⟩ := r.rngE
    refine wpAny_pyIter_range (a := a) (b := b) (c := c) e hsm ?_
    have S' := hS.grow (push_keeps s.heap { cls := .type "range_iterator", data := .fields #[rawInt a, rawInt (Builtin.Range.rangeSize a b c), rawInt c] }) (push_size _ _) s.toks
    have p' : Step g f.vol σ s _ σ := .grow (push_keeps s.heap { cls := .type "range_iterator", data := .fields #[rawInt a, rawInt (Builtin.Range.rangeSize a b c), rawInt c] }) (push_size _ _) s.toks
    have gr : ∀ vol, Step g vol σ s _ σ := fun _ => .grow (push_keeps s.heap { cls := .type "range_iterator", data := .fields #[rawInt a, rawInt (Builtin.Range.rangeSize a b c), rawInt c] }) (push_size _ _) s.toks
    refine post _ _ S' gr ⟨[s.heap.objs.size], n, _, _, 0, fun A hA => Walks.range hA _ a c n, ?_, ?_, ?_, ?_, ?_, new_none hS.base⟩ (get_size _)
    · show (s.heap.push _).get? _ = _
      rw [Heap.get?_push_size _ rfl, hn]
      simp [rawInt]
    · simp [rngItems]
    · intro b hb
      obtain rfl := List.mem_singleton.mp hb
      exact hS.awayNew ⟨_, Heap.get?_push_size _ rfl⟩
    · rintro j u d h1 ⟨t', h2⟩
      subst h2
      rw [Nat.zero_add]
      unfold rngItems at h1
      rw [List.getElem?_map] at h1
      cases q : (List.range n)[j]? with
      | none => rw [q] at h1; cases h1
      | some k =>
        rw [q] at h1
        have : k = j := by
          rw [List.getElem?_eq_some_iff] at q
          obtain ⟨h, e⟩ := q
          simpa using e.symm
        subst this
        cases h1
        exact .int _ _
    · rintro i h hst
      exact ⟨_, hst, _, _, rfl, rfl, by decide⟩
noncomputable abbrev KFor (g : G) (f : Fm) (target : Expr) (body : List Stmt) (ρ : Loc) (Q : Fl → Loc → Sto → Prop) : D → Sto → Prop := fun d σ₁ => ∃ items, Draws d items ∧ FL g f target body items ρ σ₁ Q
theorem WS_For {target iter : Expr} {body : List Stmt} {pos : Pos} {Q : Fl → Loc → Sto → Prop} (h : WE g f iter ρ σ (KFor g f target body ρ Q))
    (hs : ∀ x, foldedSetIterable iter f.env x = pure x := by with_unfolding_all (intro _; rfl)) : WS g f (.For target iter body [] pos) ρ σ Q :=
  fun A s Q' hA hS post => wpAny_For (h A s _ hA hS fun v d s₁ σ₁ q S₁ r₁ p₁ => by
    obtain ⟨items, hd, q⟩ := q
    refine pyIter_ok S₁ r₁ hd fun I s₂ S₂ p₂ X₂ hI => ?_
    refine q A I _ σ s s₂ hA ?_ (fun a b s' ρ' σ' q' S' r' p' => post a b s' ρ' σ' q' S' r' p') S₂ X₂ (p₁.trans (p₂ _))
    cases e : s.heap.get? I with
    | none => rfl
    | some o => obtain ⟨o', e'⟩ := p₁.alive I o e; rw [hI] at e'; cases e') hs
end
-- Fw8
noncomputable def cut {α : Type} (l : List α) (lo hi : Option Int) : List α := (l.drop (lo.elim 0 (clipAt l.length))).take (hi.elim l.length (clipAt l.length) - lo.elim 0 (clipAt l.length))
noncomputable def part : D → Option (Option Int)
  | .none => some none
  | .int i => some (some i)
  | _ => none
theorem sliceRange_nat (a b : Nat) : sliceRange a b 1 = (List.range (b - a)).map fun k => a + k := by
  unfold sliceRange
  simp only [show ((1 : Int) > 0) = True from by simp, if_true]
  by_cases h : (a : Int) < b
  · rw [if_pos h]
    have : (((b : Int) - a + 1 - 1) / 1).toNat = b - a := by omega
    rw [this]
    apply List.map_congr_left
    intro k hk
    omega
  · rw [if_neg h]
    have : b - a = 0 := by omega
    rw [this]; rfl
theorem strSlice_eq (lo hi : Option Int) (n : Nat) : Builtin.Str.strSliceIndices lo hi 1 n = (List.range (hi.elim n (clipAt n) - lo.elim 0 (clipAt n))).map fun k => lo.elim 0 (clipAt n) + k := by
  rw [← sliceRange_nat]
  cases lo with
  | none =>
    cases hi with
    | none => rfl
    | some j =>
      show sliceRange (0 : Int) (max 0 (min (if j < 0 then j + (n : Int) else j) n)) 1 = _
      rw [← clipAt_cast]; rfl
  | some i =>
    cases hi with
    | none =>
      show sliceRange (max 0 (min (if i < 0 then i + (n : Int) else i) n)) (n : Int) 1 = _
      rw [← clipAt_cast]; rfl
    | some j =>
      show sliceRange (max 0 (min (if i < 0 then i + (n : Int) else i) n)) (max 0 (min (if j < 0 then j + (n : Int) else j) n)) 1 = _
      rw [← clipAt_cast, ← clipAt_cast]; rfl
theorem filterMap_run {α : Type} (l : List α) (a k : Nat) : ((List.range k).map fun j => a + j).filterMap (l[·]?) = (l.drop a).take k := by
  induction k generalizing a l with
  | zero => simp
  | succ k ih =>
    rw [List.range_succ, List.map_append, List.filterMap_append, ih]
    simp only [List.map_cons, List.map_nil, List.filterMap_cons, List.filterMap_nil]
    rw [List.take_add_one]
    congr 1
    rw [List.getElem?_drop]
    cases l[a + k]? <;> rfl
theorem sliceStr_cut (x : Str) (lo hi : Option Int) : (Builtin.Str.strSliceIndices lo hi 1 x.length).filterMap (x.cps[·]?) = cut x.cps.toList lo hi := by
  rw [strSlice_eq]
  have e : ∀ l : List Nat, l.filterMap (x.cps[·]?) = l.filterMap (x.cps.toList[·]?) := fun l => by congr 1; funext i; simp
  rw [e, filterMap_run]
  rfl
theorem clipAt_le (n : Nat) (i : Int) : clipAt n i ≤ n := by have := clipAt_cast n i; omega
theorem cut_length_le {α : Type} (l : List α) (lo hi : Option Int) : (cut l lo hi).length ≤ l.length := by
  unfold cut; rw [List.length_take, List.length_drop]; omega
theorem cut_all {α : Type} {l : List α} {lo hi : Option Int} (h : hi.elim l.length (clipAt l.length) - lo.elim 0 (clipAt l.length) = l.length) : cut l lo hi = l := by
  have h1 : hi.elim l.length (clipAt l.length) ≤ l.length := by
    cases hi with
    | none => exact Nat.le_refl _
    | some j => exact clipAt_le _ _
  unfold cut
  rw [h]
  by_cases q : lo.elim 0 (clipAt l.length) = 0
  · rw [q, List.drop_zero, List.take_length]
  · have : l.length = 0 := by omega
    have : l = [] := List.length_eq_zero_iff.mp this
    subst this; simp
section
variable {g : G} {f : Fm} {ρ : Loc} {σ : Sto}
theorem subTail_ok {A : Around} {E : Value → Shared → Prop} {s : Shared} {prog : Program} {w : World} {value slice : Expr} {o i : Value} {T id : String} {Q : Value → Shared → Prop} (hT : s.TypeIs o T)
    (hl : typeLookup (.type T) "__getitem__" = pure (some (.builtin id))) (h : wpAny (model prog w) A (getItem o i) Q E s) : wpAny (model prog w) A (subscriptTail value slice o i) Q E s := by
  unfold subscriptTail
  refine wpAny_bind ?_
  rw [getitemInPython_of_ne hT.not_modules]
  refine wpAny_bind (wpAny_specialOf hT hl ?_)
  have hs : ∀ P, wpAny (model prog w) A (getItem o i) P E s → wpAny (model prog w) A (subscripted slice false o i) P E s := by
    intro P hP
    unfold subscripted
    split
    · exact wpAny_operating hP
    · rename_i h; cases h
    · exact wpAny_operating hP
  have fin : wpAny (model prog w) A (subscripted slice false o i) (fun r s₃ => wpAny (model prog w) A (letTemporaryGo value o r >>= fun _ => pure r) Q E s₃) E s :=
    hs _ (wpAny_mono h (fun r s₃ h₃ => wpAny_bind (wpAny_letTemporaryGo (wpAny_pure h₃))) fun _ _ x => x)
  first
    | exact wpAny_pure (wpAny_bind fin)
    | exact wpAny_bind (wpAny_pure (wpAny_bind fin))
    | exact wpAny_bind fin
/-! ### slices -/
noncomputable def WP (g : G) (f : Fm) (e : Option Expr) (ρ : Loc) (σ : Sto) (Q : D → Sto → Prop) : Prop := TE g f Rd (evalPart e f.env) ρ σ Q
theorem WP_none {Q : D → Sto → Prop} (h : Q .none σ) : WP g f none ρ σ Q := fun A s Q' hA hS post => wpAny_evalPart_none (post _ _ _ _ h hS .none .refl)
theorem WP_some {e : Expr} {Q : D → Sto → Prop} (h : WE g f e ρ σ Q) : WP g f (some e) ρ σ Q := fun A s Q' hA hS post => wpAny_evalPart_some (h A s Q' hA hS post)
theorem str_typeIs {s : Shared} {x : Str} {t : Tok} : s.TypeIs (.str x t) "str" := rfl
inductive SliceOf : D → Option Int → Option Int → D → Prop
  | str (s lo hi) : s.length ≤ sizeLine → SliceOf (.str s) lo hi (.str (cut s lo hi))
  | lst (ds lo hi) : ds.length ≤ sizeLine → SliceOf (.lst ds) lo hi (.lst (cut ds lo hi))
theorem partVal {h : Heap} {o : Addr → Prop} {v : Value} {d : D} {lo : Option Int} (r : Rd h o v d) (hp : part d = some lo) : ∃ q : Option (Int × Tok), v = partValue q ∧ q.map (·.1) = lo ∧ IsPart v lo := by
  cases d <;> (try cases hp)
  · obtain rfl := r.noneE; exact ⟨none, rfl, rfl, .none⟩
  · obtain ⟨t, rfl⟩ := r.intE; exact ⟨some (_, t), rfl, rfl, .int _ _⟩
theorem RdL.cut {h : Heap} {o : Addr → Prop} {vs : List Value} {ds : List D} (r : RdL h o vs ds) (lo hi : Option Int) : RdL h o (Mine.cut vs lo hi) (Mine.cut ds lo hi) := by
  unfold Mine.cut; rw [r.length]; exact (r.drop _).take _
noncomputable abbrev KS3 (dv dl : D) (Q : D → Sto → Prop) : D → Sto → Prop := fun du σ₃ => ∃ l u dr, part dl = some l ∧ part du = some u ∧ SliceOf dv l u dr ∧ Q dr σ₃
noncomputable abbrev KS2 (g : G) (f : Fm) (hi : Option Expr) (dv : D) (ρ : Loc) (Q : D → Sto → Prop) : D → Sto → Prop := fun dl σ₂ => WP g f hi ρ σ₂ (KS3 dv dl Q)
noncomputable abbrev KS1 (g : G) (f : Fm) (lo hi : Option Expr) (ρ : Loc) (Q : D → Sto → Prop) : D → Sto → Prop := fun dv σ₁ => WP g f lo ρ σ₁ (KS2 g f hi dv ρ Q)
theorem WE_Slice {v : Expr} {lo hi : Option Expr} {p pos : Pos} {Q : D → Sto → Prop}
    (h : WE g f v ρ σ (KS1 g f lo hi ρ Q)) : WE g f (.Subscript v (.Slice lo hi none p) pos) ρ σ Q :=
  fun A s Q' hA hS post => PyProof.Rows.Subscript_ (h A s _ hA hS fun vv dv s₁ σ₁ q₁ S₁ r₁ p₁ => wpAny_Slice (q₁ A s₁ _ hA S₁ fun vl dl s₂ σ₂ q₂ S₂ r₂ p₂ => q₂ A s₂ _ hA S₂ fun vu du s₃ σ₃ q₃ S₃ r₃ p₃ => by
    refine wpAny_evalPart_none ?_
    obtain ⟨l, u, dr, hl, hu, hs, q⟩ := q₃
    have r₁' := (r₁.step S₁.vols' S₁.base p₂).step S₂.vols' S₂.base p₃
    have r₂' := r₂.step S₂.vols' S₂.base p₃
    obtain ⟨ql, el, el', ipl⟩ := partVal r₂' hl
    obtain ⟨qu, eu, eu', ipu⟩ := partVal r₃ hu
    have S₄ := S₃.grow (push_keeps s₃.heap { cls := .type "slice", data := .fields #[vl, vu, .none] }) (push_size _ _) s₃.toks
    have p₄ : Step g f.vol σ₃ s₃ _ σ₃ := .grow (push_keeps s₃.heap { cls := .type "slice", data := .fields #[vl, vu, .none] }) (push_size _ _) s₃.toks
    have r₄ := r₁'.step S₃.vols' S₃.base p₄
    have pp := ((p₁.trans p₂).trans p₃).trans p₄
    cases hs with
    | str x lo hi hsz =>
      obtain ⟨t, rfl⟩ := r₄.strE
      refine subTail_ok (T := "str") str_typeIs slot_str_getitem.lookup ?_
      refine wpAny_getItem_str_slice (l := ql) (u := qu) (st := none) ⟨_, Heap.get?_push_size _ rfl, rfl, by rw [el, eu]; rfl⟩ rfl ?_
      unfold sliceMade
      have e1 : slicePicked ⟨x.toArray⟩ ql qu none = Builtin.Str.strSliceIndices l u 1 (⟨x.toArray⟩ : Str).length := by unfold slicePicked; rw [el', eu']; rfl
      rw [e1]
      have e2 : ((Builtin.Str.strSliceIndices l u 1 (⟨x.toArray⟩ : Str).length).filterMap ((⟨x.toArray⟩ : Str).cps[·]?)) = cut x l u := sliceStr_cut ⟨x.toArray⟩ l u
      rw [e2]
      have fin : ∀ y t' tk', y = cut x l u → Q' (.str ⟨y.toArray⟩ t') { s₃ with heap := s₃.heap.push { cls := .type "slice", data := .fields #[vl, vu, .none] }, toks := tk' } := fun y t' tk' hy => by
        subst hy
        exact post _ _ _ _ q (S₄.tok tk') (.str _ _) (pp.trans (.tok _))
      by_cases hc : ((Option.map (·.1) (none : Option (Int × Tok))).getD 1 == 1 && (Builtin.Str.strSliceIndices l u 1 (⟨x.toArray⟩ : Str).length).length == (⟨x.toArray⟩ : Str).length) = true
      · rw [if_pos hc]
        refine fin x _ _ ?_
        have hc' : (Builtin.Str.strSliceIndices l u 1 (⟨x.toArray⟩ : Str).length).length = x.length := by
          have := (Bool.and_eq_true_iff.mp hc).2
          simpa [Str.length] using this
        rw [strSlice_eq, List.length_map, List.length_range, show (⟨x.toArray⟩ : Str).length = x.length from by simp [Str.length]] at hc'
        exact (cut_all hc').symm
      · rw [if_neg hc]
        refine ⟨?_, fin _ _ _ rfl⟩
        show (cut x l u).toArray.size ≤ sizeLine
        rw [List.size_toArray]
        exact Nat.le_trans (cut_length_le ..) hsz
    | lst ds lo hi hsz =>
      obtain ⟨a, vs, n, rfl, e, no, rl⟩ := r₄.lstE
      refine subTail_ok (T := "list") ⟨_, e, rfl⟩ slot_list_getitem.lookup ?_
      refine wpAny_getItem_list_slice (items := vs.toArray) ⟨_, e, rfl, n, rfl⟩ (Heap.IsSliceOf.new _ _ _ _) ipl ipu .none (by simp) ?_ (by rw [List.size_toArray, rl.length]; exact hsz)
      rw [slicePick_plain]
      have rc := rl.cut l u
      obtain ⟨a1, a2, a3⟩ := alloc_lst S₄ rc
      have e3 : ((vs.toArray.toList.drop (l.elim 0 (clipAt vs.toArray.size))).take (u.elim vs.toArray.size (clipAt vs.toArray.size) - l.elim 0 (clipAt vs.toArray.size))) = cut vs l u := by
        unfold cut; simp
      rw [e3]
      exact post _ _ _ _ q a1 a2 (pp.trans a3)))
end
-- Fw9
theorem beq_dec {α : Type} [BEq α] [LawfulBEq α] [DecidableEq α] (a b : α) : (a == b) = decide (a = b) := by rw [Bool.eq_iff_iff]; simp
theorem bne_dec {α : Type} [BEq α] [LawfulBEq α] [DecidableEq α] (a b : α) : (a != b) = decide (a ≠ b) := by rw [Bool.eq_iff_iff]; simp
theorem strlen (x : List Nat) : (⟨x.toArray⟩ : Str).length = x.length := by simp [Str.length]
theorem strapp (x y : List Nat) : (⟨x.toArray⟩ : Str) ++ ⟨y.toArray⟩ = ⟨(x ++ y).toArray⟩ := by
  show Str.append _ _ = _
  simp [Str.append]
section
variable {g : G} {f : Fm} {ρ : Loc} {σ : Sto}
/-! ### ints -/
theorem O_addI {a b : Int} {Q : D → Sto → Prop} (h : Q (.int (a + b)) σ) : O2 g f Rd (binaryOp .Add) (.int a) (.int b) ρ σ Q := fun A s v u Q' hA hS r1 r2 post => by
  obtain ⟨t, rfl⟩ := r1.intE; obtain ⟨t', rfl⟩ := r2.intE
  exact PyProof.Rows.add_int (post _ _ _ _ h (hS.tok _) (.int ..) (.tok _))
theorem O_iaddI {a b : Int} {Q : D → Sto → Prop} (h : Q (.int (a + b)) σ) : O2 g f Rd (inplaceOp .Add) (.int a) (.int b) ρ σ Q := fun A s v u Q' hA hS r1 r2 post => by
  obtain ⟨t, rfl⟩ := r1.intE; obtain ⟨t', rfl⟩ := r2.intE
  exact PyProof.Rows.iadd_int (post _ _ _ _ h (hS.tok _) (.int ..) (.tok _))
theorem O_subI {a b : Int} {Q : D → Sto → Prop} (h : Q (.int (a - b)) σ) : O2 g f Rd (binaryOp .Sub) (.int a) (.int b) ρ σ Q := fun A s v u Q' hA hS r1 r2 post => by
  obtain ⟨t, rfl⟩ := r1.intE; obtain ⟨t', rfl⟩ := r2.intE
  exact PyProof.Rows.sub_int (post _ _ _ _ h (hS.tok _) (.int ..) (.tok _))
theorem O_isubI {a b : Int} {Q : D → Sto → Prop} (h : Q (.int (a - b)) σ) : O2 g f Rd (inplaceOp .Sub) (.int a) (.int b) ρ σ Q := fun A s v u Q' hA hS r1 r2 post => by
  obtain ⟨t, rfl⟩ := r1.intE; obtain ⟨t', rfl⟩ := r2.intE
  exact PyProof.Rows.isub_int (post _ _ _ _ h (hS.tok _) (.int ..) (.tok _))
theorem O_mulI {a b : Int} {Q : D → Sto → Prop} (h : Q (.int (a * b)) σ) (hm : IntMulOk a b := by mul_fits) : O2 g f Rd (binaryOp .Mult) (.int a) (.int b) ρ σ Q := fun A s v u Q' hA hS r1 r2 post => by
  obtain ⟨t, rfl⟩ := r1.intE; obtain ⟨t', rfl⟩ := r2.intE
  exact PyProof.Rows.mul_int (post _ _ _ _ h (hS.tok _) (.int ..) (.tok _)) hm
theorem O_modI {a b : Int} {Q : D → Sto → Prop} (hb : b ≠ 0) (hl : b.natAbs < 1073741824) (h : Q (.int (a.fmod b)) σ) : O2 g f Rd (binaryOp .Mod) (.int a) (.int b) ρ σ Q := fun A s v u Q' hA hS r1 r2 post => by
  obtain ⟨t, rfl⟩ := r1.intE; obtain ⟨t', rfl⟩ := r2.intE
  exact PyProof.Rows.mod_int hb (post _ _ _ _ h (hS.tok _) (.int ..) (.tok _))
theorem O_divI {a b : Int} {Q : D → Sto → Prop} (hb : b ≠ 0) (hl : b.natAbs < 1073741824) (h : Q (.int (a.fdiv b)) σ) : O2 g f Rd (binaryOp .FloorDiv) (.int a) (.int b) ρ σ Q := fun A s v u Q' hA hS r1 r2 post => by
  obtain ⟨t, rfl⟩ := r1.intE; obtain ⟨t', rfl⟩ := r2.intE
  exact PyProof.Rows.floordiv_int hb (post _ _ _ _ h (hS.tok _) (.int ..) (.tok _)) (.inl (PyProof.noPylong_small hl))
theorem O_negI {a : Int} {Q : D → Sto → Prop} (h : Q (.int (-a)) σ) : O1 g f Rd (unaryOp .USub) (.int a) ρ σ Q := fun A s v Q' hA hS r1 post => by
  obtain ⟨t, rfl⟩ := r1.intE
  exact PyProof.Rows.neg_int (post _ _ _ _ h (hS.tok _) (.int ..) (.tok _))
theorem O_eqI {a b : Int} {Q : D → Sto → Prop} (h : Q (.bool (decide (a = b))) σ) : O2 g f Rd (compareOp .Eq) (.int a) (.int b) ρ σ Q := fun A s v u Q' hA hS r1 r2 post => by
  obtain ⟨t, rfl⟩ := r1.intE; obtain ⟨t', rfl⟩ := r2.intE
  exact PyProof.Rows.eq_int (post _ _ _ _ h hS (beq_dec a b ▸ .bool _) .refl)
theorem O_neI {a b : Int} {Q : D → Sto → Prop} (h : Q (.bool (decide (a ≠ b))) σ) : O2 g f Rd (compareOp .NotEq) (.int a) (.int b) ρ σ Q := fun A s v u Q' hA hS r1 r2 post => by
  obtain ⟨t, rfl⟩ := r1.intE; obtain ⟨t', rfl⟩ := r2.intE
  exact PyProof.Rows.ne_int (post _ _ _ _ h hS (bne_dec a b ▸ .bool _) .refl)
theorem O_ltI {a b : Int} {Q : D → Sto → Prop} (h : Q (.bool (decide (a < b))) σ) : O2 g f Rd (compareOp .Lt) (.int a) (.int b) ρ σ Q := fun A s v u Q' hA hS r1 r2 post => by
  obtain ⟨t, rfl⟩ := r1.intE; obtain ⟨t', rfl⟩ := r2.intE
  exact PyProof.Rows.lt_int (post _ _ _ _ h hS (.bool _) .refl)
theorem O_leI {a b : Int} {Q : D → Sto → Prop} (h : Q (.bool (decide (a ≤ b))) σ) : O2 g f Rd (compareOp .LtE) (.int a) (.int b) ρ σ Q := fun A s v u Q' hA hS r1 r2 post => by
  obtain ⟨t, rfl⟩ := r1.intE; obtain ⟨t', rfl⟩ := r2.intE
  exact PyProof.Rows.le_int (post _ _ _ _ h hS (.bool _) .refl)
theorem O_gtI {a b : Int} {Q : D → Sto → Prop} (h : Q (.bool (decide (b < a))) σ) : O2 g f Rd (compareOp .Gt) (.int a) (.int b) ρ σ Q := fun A s v u Q' hA hS r1 r2 post => by
  obtain ⟨t, rfl⟩ := r1.intE; obtain ⟨t', rfl⟩ := r2.intE
  exact PyProof.Rows.gt_int (post _ _ _ _ h hS (.bool _) .refl)
theorem O_geI {a b : Int} {Q : D → Sto → Prop} (h : Q (.bool (decide (b ≤ a))) σ) : O2 g f Rd (compareOp .GtE) (.int a) (.int b) ρ σ Q := fun A s v u Q' hA hS r1 r2 post => by
  obtain ⟨t, rfl⟩ := r1.intE; obtain ⟨t', rfl⟩ := r2.intE
  exact PyProof.Rows.ge_int (post _ _ _ _ h hS (.bool _) .refl)
/-! ### texts -/
theorem O_addS {a b : List Nat} {Q : D → Sto → Prop} (hl : a.length + b.length ≤ sizeLine) (h : Q (.str (a ++ b)) σ) : O2 g f Rd (binaryOp .Add) (.str a) (.str b) ρ σ Q := fun A s v u Q' hA hS r1 r2 post => by
  obtain ⟨t, rfl⟩ := r1.strE; obtain ⟨t', rfl⟩ := r2.strE
  exact PyProof.Rows.add_str (fun t' tk => post _ _ _ _ h (hS.tok _) (strapp a b ▸ .str _ _) (.tok _)) (by rw [strlen, strlen]; exact hl)
theorem O_iaddS {a b : List Nat} {Q : D → Sto → Prop} (hl : a.length + b.length ≤ sizeLine) (h : Q (.str (a ++ b)) σ) : O2 g f Rd (inplaceOp .Add) (.str a) (.str b) ρ σ Q := fun A s v u Q' hA hS r1 r2 post => by
  obtain ⟨t, rfl⟩ := r1.strE; obtain ⟨t', rfl⟩ := r2.strE
  exact PyProof.Rows.iadd_str (fun t' tk => post _ _ _ _ h (hS.tok _) (strapp a b ▸ .str _ _) (.tok _)) (by rw [strlen, strlen]; exact hl)
theorem O_eqS {a b : List Nat} {Q : D → Sto → Prop} (h : Q (.bool (decide (a = b))) σ) : O2 g f Rd (compareOp .Eq) (.str a) (.str b) ρ σ Q := fun A s v u Q' hA hS r1 r2 post => by
  obtain ⟨t, rfl⟩ := r1.strE; obtain ⟨t', rfl⟩ := r2.strE
  exact PyProof.Rows.eq_str (post _ _ _ _ h hS (by
    have : ((⟨a.toArray⟩ : Str) == ⟨b.toArray⟩) = decide (a = b) := by rw [beq_dec]; simp
    rw [this]; exact .bool _) .refl)
theorem O_neS {a b : List Nat} {Q : D → Sto → Prop} (h : Q (.bool (decide (a ≠ b))) σ) : O2 g f Rd (compareOp .NotEq) (.str a) (.str b) ρ σ Q := fun A s v u Q' hA hS r1 r2 post => by
  obtain ⟨t, rfl⟩ := r1.strE; obtain ⟨t', rfl⟩ := r2.strE
  exact PyProof.Rows.ne_str (post _ _ _ _ h hS (by
    have : ((⟨a.toArray⟩ : Str) != ⟨b.toArray⟩) = decide (a ≠ b) := by rw [bne_dec]; simp
    rw [this]; exact .bool _) .refl)
theorem O_gtS {a b : List Nat} {Q : D → Sto → Prop} (h : Q (.bool (decide (b < a))) σ) : O2 g f Rd (compareOp .Gt) (.str a) (.str b) ρ σ Q := fun A s v u Q' hA hS r1 r2 post => by
  obtain ⟨t, rfl⟩ := r1.strE; obtain ⟨t', rfl⟩ := r2.strE
  exact PySem.P.gt_str (post _ _ _ _ h hS (.bool _) .refl)
theorem O_inS {c : Nat} {b : List Nat} {Q : D → Sto → Prop} (h : Q (.bool (decide (c ∈ b))) σ) : O2 g f Rd (compareOp .In) (.str [c]) (.str b) ρ σ Q := fun A s v u Q' hA hS r1 r2 post => by
  obtain ⟨t, rfl⟩ := r1.strE; obtain ⟨t', rfl⟩ := r2.strE
  exact PyProof.Rows.in_str (post _ _ _ _ h hS (by
    have := StrLaws.found_one ⟨b.toArray⟩ c
    rw [this]; exact .bool _) .refl)
theorem O_truthyB {b : Bool} {Q : Bool → Sto → Prop} (h : Q b σ) : O1 g f RB truthy (.bool b) ρ σ Q := fun A s v Q' hA hS r1 post => by
  obtain rfl := r1.boolE
  exact wpAny_truthy_bool (post _ _ _ _ h hS rfl .refl)
theorem O_truthyN {Q : Bool → Sto → Prop} (h : Q false σ) : O1 g f RB truthy .none ρ σ Q := fun A s v Q' hA hS r1 post => by
  obtain rfl := r1.noneE
  exact PyProof.Rows.truthy_none (post _ _ _ _ h hS rfl .refl)
theorem O_truthyI {a : Int} {Q : Bool → Sto → Prop} (h : Q (decide (a ≠ 0)) σ) : O1 g f RB truthy (.int a) ρ σ Q := fun A s v Q' hA hS r1 post => by
  obtain ⟨t, rfl⟩ := r1.intE
  exact PyProof.Rows.truthy_int (post _ _ _ _ h hS (bne_dec a 0) .refl)
theorem O_truthyS {a : List Nat} {Q : Bool → Sto → Prop} (hl : a.length ≤ sizeLine) (h : Q (decide (a ≠ [])) σ) : O1 g f RB truthy (.str a) ρ σ Q := fun A s v Q' hA hS r1 post => by
  obtain ⟨t, rfl⟩ := r1.strE
  refine PySem.P.truthy_str ?_ (post _ _ _ _ h (hS.tok _) ?_ (.tok _))
  · rw [strlen]; have := sizeLine_eq; omega
  · show _ = decide (a ≠ [])
    rw [bne_dec, strlen, Bool.eq_iff_iff]; simp
theorem O_truthyL {ds : List D} {Q : Bool → Sto → Prop} (hl : ds.length ≤ sizeLine) (h : Q (decide (ds ≠ [])) σ) : O1 g f RB truthy (.lst ds) ρ σ Q := fun A s v Q' hA hS r1 post => by
  obtain ⟨a, vs, n, rfl, e, no, rl⟩ := r1.lstE
  refine wpAny_truthy_list (items := vs.toArray) ⟨_, e, rfl, n, rfl⟩ ?_ (post _ _ _ _ h (hS.tok _) ?_ (.tok _))
  · rw [List.size_toArray, rl.length]; have := sizeLine_eq; omega
  · show _ = decide (ds ≠ [])
    have := rl.length
    rw [Bool.eq_iff_iff]
    cases vs <;> cases ds <;> simp_all
noncomputable abbrev KNo (Q : D → Sto → Prop) : Bool → Sto → Prop := fun c σ₁ => Q (.bool (!c)) σ₁
theorem O_not {d : D} {Q : D → Sto → Prop} (h : O1 g f RB truthy d ρ σ (KNo Q)) : O1 g f Rd (unaryOp .Not) d ρ σ Q := fun A s v Q' hA hS r post =>
  not_value (h A s v _ hA hS r fun c c' s' σ' q S' r' p' => by cases r'; exact post _ _ _ _ q S' (.bool _) p')
/-! ### what is the same thing -/
theorem O_isNotSR {a : List Nat} {x : Addr} {Q : D → Sto → Prop} (h : Q (.bool true) σ) : O2 g f Rd (compareOp .IsNot) (.str a) (.val (.ref x)) ρ σ Q := fun A s v u Q' hA hS r1 r2 post => by
  obtain ⟨t, rfl⟩ := r1.strE; obtain rfl := r2.valE
  exact wpAny_isNot_other rfl (by simp) (post _ _ _ _ h hS (.bool _) .refl)
theorem O_isNotRR {x : Addr} {Q : D → Sto → Prop} (h : Q (.bool false) σ) : O2 g f Rd (compareOp .IsNot) (.val (.ref x)) (.val (.ref x)) ρ σ Q := fun A s v u Q' hA hS r1 r2 post => by
  obtain rfl := r1.valE; obtain rfl := r2.valE
  exact wpAny_isNot_ref_self (post _ _ _ _ h hS (.bool _) .refl)
theorem O_isSR {a : List Nat} {x : Addr} {Q : D → Sto → Prop} (h : Q (.bool false) σ) : O2 g f Rd (compareOp .Is) (.str a) (.val (.ref x)) ρ σ Q := fun A s v u Q' hA hS r1 r2 post => by
  obtain ⟨t, rfl⟩ := r1.strE; obtain rfl := r2.valE
  exact wpAny_is_other rfl (by simp) (post _ _ _ _ h hS (.bool _) .refl)
theorem O_isRR {x : Addr} {Q : D → Sto → Prop} (h : Q (.bool true) σ) : O2 g f Rd (compareOp .Is) (.val (.ref x)) (.val (.ref x)) ρ σ Q := fun A s v u Q' hA hS r1 r2 post => by
  obtain rfl := r1.valE; obtain rfl := r2.valE
  exact wpAny_is_ref_self (post _ _ _ _ h hS (.bool _) .refl)
/-! ### items -/
noncomputable def at? {α : Type} (l : List α) (i : Int) : Option α := (seqIndex? i l.length).bind fun j => l[j]?
theorem seqIndex_spec {i : Int} {n j : Nat} (h : seqIndex? i n = some j) : ((i < 0 ∧ (j : Int) = i + n) ∨ (0 ≤ i ∧ (j : Int) = i)) ∧ j < n := by
  have h' : (if (decide (0 ≤ (if i < 0 then i + (n : Int) else i)) && decide ((if i < 0 then i + (n : Int) else i) < n)) = true then some (if i < 0 then i + (n : Int) else i).toNat else none) = some j := h
  generalize hk : (if i < 0 then i + (n : Int) else i) = k at h'
  by_cases q : 0 ≤ k ∧ k < n
  · rw [if_pos (by simpa using q)] at h'
    injection h' with h'
    by_cases hi : i < 0
    · rw [if_pos hi] at hk; omega
    · rw [if_neg hi] at hk; omega
  · rw [if_neg (by simpa using q)] at h'
    cases h'
noncomputable abbrev WI (g : G) (f : Fm) (v i : Expr) (dv di : D) (ρ : Loc) (σ : Sto) (Q : D → Sto → Prop) : Prop := O2 g f Rd (subscriptTail v i) dv di ρ σ Q
theorem WE_Sub {v i : Expr} {pos : Pos} {Q : D → Sto → Prop} (h : WE g f v ρ σ (KB g f i (subscriptTail v i) ρ Q)) : WE g f (.Subscript v i pos) ρ σ Q :=
  fun A s Q' hA hS post => PyProof.Rows.Subscript_ (TE.then2 h A s Q' hA hS post)
theorem WI_str {v i : Expr} {x : List Nat} {k : Int} {c : Nat} {Q : D → Sto → Prop} (hx : at? x k = some c) (hl : x.length ≤ sizeLine) (h : Q (.str [c]) σ) : WI g f v i (.str x) (.int k) ρ σ Q := fun A s vv u Q' hA hS r1 r2 post => by
  obtain ⟨t, rfl⟩ := r1.strE; obtain ⟨t', rfl⟩ := r2.intE
  refine subTail_ok (T := "str") str_typeIs slot_str_getitem.lookup (PyProof.Rows.getItem_str (c := c) ?_ ?_ (post _ _ _ _ h (hS.tok _) (.str [c] _) (.tok _)))
  · unfold at? at hx
    cases q : seqIndex? k x.length with
    | none => rw [q] at hx; cases hx
    | some j =>
      have hj := seqIndex_spec q
      have := sizeLine_eq
      rw [Bool.or_eq_false_iff, decide_eq_false_iff_not, decide_eq_false_iff_not]
      omega
  · rw [strlen]
    unfold at? at hx
    simpa using hx
theorem WI_lst {v i : Expr} {ds : List D} {k : Int} {d : D} {Q : D → Sto → Prop} (hx : at? ds k = some d) (hl : ds.length ≤ sizeLine) (h : Q d σ) : WI g f v i (.lst ds) (.int k) ρ σ Q := fun A s vv u Q' hA hS r1 r2 post => by
  obtain ⟨a, vs, n, rfl, e, no, rl⟩ := r1.lstE; obtain ⟨t', rfl⟩ := r2.intE
  refine subTail_ok (T := "list") ⟨_, e, rfl⟩ slot_list_getitem.lookup ?_
  unfold at? at hx
  cases q : seqIndex? k ds.length with
  | none => rw [q] at hx; cases hx
  | some j =>
    rw [q] at hx
    obtain ⟨w, hw, rw'⟩ := rl.get j d hx
    have hsz : vs.toArray.size = ds.length := by rw [List.size_toArray, rl.length]
    have hj := seqIndex_spec q
    have := sizeLine_eq
    by_cases hk : k < 0
    · exact wpAny_getItem_list_neg (items := vs.toArray) ⟨_, e, rfl, n, rfl⟩ hk (by omega) (by omega) (by rw [hsz, show (k + (ds.length : Int)).toNat = j by omega]; simpa using hw) (post _ _ _ _ h hS rw' .refl)
    · exact wpAny_getItem_list (items := vs.toArray) ⟨_, e, rfl, n, rfl⟩ (by omega) (by omega) (by rw [show k.toNat = j by omega]; simpa using hw) (post _ _ _ _ h hS rw' .refl)
theorem WI_tup {v i : Expr} {ds : List D} {k : Int} {d : D} {Q : D → Sto → Prop} (hx : at? ds k = some d) (hl : ds.length ≤ sizeLine) (h : Q d σ) : WI g f v i (.tup ds) (.int k) ρ σ Q := fun A s vv u Q' hA hS r1 r2 post => by
  obtain ⟨a, vs, n, rfl, e, rl⟩ := r1.tupE; obtain ⟨t', rfl⟩ := r2.intE
  refine subTail_ok (T := "tuple") ⟨_, e, rfl⟩ slot_tuple_getitem.lookup ?_
  unfold at? at hx
  cases q : seqIndex? k ds.length with
  | none => rw [q] at hx; cases hx
  | some j =>
    rw [q] at hx
    obtain ⟨w, hw, rw'⟩ := rl.get j d hx
    have hsz : vs.toArray.size = ds.length := by rw [List.size_toArray, rl.length]
    have hj := seqIndex_spec q
    have := sizeLine_eq
    exact PyProof.Rows.getItem_tuple (items := vs.toArray) ⟨_, e, rfl, n, rfl⟩ (by omega) (by omega) (by rw [hsz]; exact q) (by simpa using hw) (post _ _ _ _ h hS rw' .refl)
end
-- Fw10
section
variable {g : G} {f : Fm} {ρ : Loc} {σ : Sto}
/-! ### calls of built-ins by name -/
noncomputable abbrev KCa (g : G) (f : Fm) (u : Value) (ρ : Loc) (Q : D → Sto → Prop) : List D → Sto → Prop := fun ds σ₁ => OL g f Rd (fun vs => call u vs) ds ρ σ₁ Q
theorem WE_CallB {name : Str} {np pos : Pos} {e : Expr} {rest : List Expr} {id : String} {Q : D → Sto → Prop} (hg : g.mg name = none) (hv : bootBuiltins name = some (.builtin id))
    (h : WL g f (e :: rest) pos ρ σ (KCa g f (.builtin id) ρ Q))
    (hx : f.env.kindOf name = some .globalImplicit := by with_unfolding_all rfl) (hn : name ≠ "__name__" := by decide) (hd : (name == ("__debug__" : Str)) = false := by decide)
    (he : starEach (e :: rest) f.env = (false, eval e f.env) :: starEach rest f.env := by with_unfolding_all rfl) (hplain : (backTo pos (starEach rest f.env)).any (·.1) = false := by with_unfolding_all rfl) : WE g f (.Call (.Name name np) (e :: rest) [] pos) ρ σ Q :=
  fun A s Q' hA hS post => by
    refine Call_ ?_ rfl
    refine Name_function_global hS.kind hx (loadGlobal_builtin (by rw [hS.globals]; exact hS.base.ok.gns.keeps hS.base.keep0) hg (by rw [hS.builtins]; exact hS.base.ok.bns.keeps hS.base.keep0) ((hS.base.ok.bi name hn).trans hv) ?_) hd
    refine callWith_builtin1 ?_ he hplain
    exact h A s _ hA hS fun vs ds s₁ σ₁ q S₁ r₁ p₁ => q A s₁ vs Q' hA S₁ r₁ fun a b s' σ' q' S' r' p' => post a b s' σ' q' S' r' (p₁.trans p')
theorem WE_CallT {name : Str} {np pos : Pos} {e : Expr} {rest : List Expr} {T : String} {Q : D → Sto → Prop} (hg : g.mg name = none) (hv : bootBuiltins name = some (.type T))
    (h : WL g f (e :: rest) pos ρ σ (KCa g f (.type T) ρ Q))
    (hx : f.env.kindOf name = some .globalImplicit := by with_unfolding_all rfl) (hn : name ≠ "__name__" := by decide) (hd : (name == ("__debug__" : Str)) = false := by decide)
    (he : starEach (e :: rest) f.env = (false, eval e f.env) :: starEach rest f.env := by with_unfolding_all rfl) (hplain : (backTo pos (starEach rest f.env)).any (·.1) = false := by with_unfolding_all rfl) : WE g f (.Call (.Name name np) (e :: rest) [] pos) ρ σ Q :=
  fun A s Q' hA hS post => by
    refine Call_ ?_ rfl
    refine Name_function_global hS.kind hx (loadGlobal_builtin (by rw [hS.globals]; exact hS.base.ok.gns.keeps hS.base.keep0) hg (by rw [hS.builtins]; exact hS.base.ok.bns.keeps hS.base.keep0) ((hS.base.ok.bi name hn).trans hv) ?_) hd
    refine PyProof.Rows.callWith_type1 ?_ he hplain
    exact h A s _ hA hS fun vs ds s₁ σ₁ q S₁ r₁ p₁ => q A s₁ vs Q' hA S₁ r₁ fun a b s' σ' q' S' r' p' => post a b s' σ' q' S' r' (p₁.trans p')
theorem OL_one {α β : Type} {R : Heap → (Addr → Prop) → α → β → Prop} {t : Value → Sem α} {T : List Value → Sem α} {d : D} {Q : β → Sto → Prop} (ht : ∀ v, T [v] = t v) (h : O1 g f R t d ρ σ Q) : OL g f R T [d] ρ σ Q :=
  fun A s vs Q' hA hS r post => by
    obtain ⟨v, us, rfl, r1, r2⟩ := r.consE
    obtain rfl := r2.nilE
    show wpAny _ A (T [v]) Q' _ s
    rw [ht]
    exact h A s v Q' hA hS r1 post
theorem OL_two {α β : Type} {R : Heap → (Addr → Prop) → α → β → Prop} {t : Value → Value → Sem α} {T : List Value → Sem α} {d e : D} {Q : β → Sto → Prop} (ht : ∀ v u, T [v, u] = t v u) (h : O2 g f R t d e ρ σ Q) : OL g f R T [d, e] ρ σ Q :=
  fun A s vs Q' hA hS r post => by
    obtain ⟨v, us, rfl, r1, r2⟩ := r.consE
    obtain ⟨u, us, rfl, q2, r3⟩ := r2.consE
    obtain rfl := r3.nilE
    show wpAny _ A (T [v, u]) Q' _ s
    rw [ht]
    exact h A s v u Q' hA hS r1 q2 post
theorem F_lenS {a : List Nat} {Q : D → Sto → Prop} (hl : a.length ≤ sizeLine) (h : Q (.int a.length) σ) : OL g f Rd (fun vs => call (.builtin "len") vs) [.str a] ρ σ Q := fun A s vs Q' hA hS r post => by
  obtain ⟨v, us, rfl, r1, r2⟩ := r.consE
  obtain rfl := r2.nilE
  obtain ⟨t, rfl⟩ := r1.strE
  have := sizeLine_eq
  refine PyProof.Rows.len_str (by rw [strlen]; omega) (post _ _ _ _ h (hS.tok _) ?_ (.tok _))
  rw [strlen]; exact .int _ _
theorem F_lenL {ds : List D} {Q : D → Sto → Prop} (hl : ds.length ≤ sizeLine) (h : Q (.int ds.length) σ) : OL g f Rd (fun vs => call (.builtin "len") vs) [.lst ds] ρ σ Q := fun A s vs Q' hA hS r post => by
  obtain ⟨v, us, rfl, r1, r2⟩ := r.consE
  obtain rfl := r2.nilE
  obtain ⟨a, ws, n, rfl, e, no, rl⟩ := r1.lstE
  have := sizeLine_eq
  refine call_len_list (items := ws.toArray) ⟨_, e, rfl, n, rfl⟩ (by rw [List.size_toArray, rl.length]; omega) (post _ _ _ _ h (hS.tok _) ?_ (.tok _))
  rw [List.size_toArray, rl.length]; exact .int _ _
theorem F_lenT {ds : List D} {Q : D → Sto → Prop} (hl : ds.length ≤ sizeLine) (h : Q (.int ds.length) σ) : OL g f Rd (fun vs => call (.builtin "len") vs) [.tup ds] ρ σ Q := fun A s vs Q' hA hS r post => by
  obtain ⟨v, us, rfl, r1, r2⟩ := r.consE
  obtain rfl := r2.nilE
  obtain ⟨a, ws, n, rfl, e, rl⟩ := r1.tupE
  have := sizeLine_eq
  refine PyProof.Rows.len_tuple (items := ws.toArray) ⟨_, e, rfl, n, rfl⟩ (by rw [List.size_toArray, rl.length]; omega) (post _ _ _ _ h (hS.tok _) ?_ (.tok _))
  rw [List.size_toArray, rl.length]; exact .int _ _
theorem F_min2 {a b : Int} {Q : D → Sto → Prop} (h : Q (.int (min a b)) σ) : OL g f Rd (fun vs => call (.builtin "min") vs) [.int a, .int b] ρ σ Q := fun A s vs Q' hA hS r post => by
  obtain ⟨v, us, rfl, r1, r2⟩ := r.consE
  obtain ⟨u, us, rfl, q2, r3⟩ := r2.consE
  obtain rfl := r3.nilE
  obtain ⟨t, rfl⟩ := r1.intE; obtain ⟨t', rfl⟩ := q2.intE
  refine min_two_ints hA.1 fun h' tk hk => ?_
  have S' := (hS.iter (h' := h') (tk := tk) (fun b o e => hk b o (hS.base.keep0 b o e)) fun b o e _ => hk b o e).1
  have p' : Step g f.vol σ s { s with heap := h', toks := tk } σ := ⟨fun b o e _ _ _ => hk b o e, fun _ h => .inl h, fun b o e => ⟨o, hk b o e⟩, rfl⟩
  refine post _ _ _ _ h S' ?_ p'
  by_cases q : b < a
  · rw [if_pos q, Int.min_eq_right (by omega)]; exact .int _ _
  · rw [if_neg q, Int.min_eq_left (by omega)]; exact .int _ _
theorem alloc_rng {s : Shared} {a b c : Int} {t u w : Tok} {tk : Nat} (hS : St g f s ρ σ) :
    St g f { s with heap := s.heap.push (rngObj a b c t u w), toks := tk } ρ σ ∧ Rd (s.heap.push (rngObj a b c t u w)) (own σ) (.ref s.heap.objs.size) (.rng a b c) ∧ Step g f.vol σ s { s with heap := s.heap.push (rngObj a b c t u w), toks := tk } σ :=
  ⟨hS.grow (push_keeps _ _) (push_size _ _) _, .rng _ a b c t u w (Heap.get?_push_size _ rfl), .grow (push_keeps _ _) (push_size _ _) _⟩
theorem F_range1 {a : Int} {Q : D → Sto → Prop} (h : Q (.rng 0 a 1) σ) : OL g f Rd (fun vs => call (.type "range") vs) [.int a] ρ σ Q := fun A s vs Q' hA hS r post => by
  obtain ⟨v, us, rfl, r1, r2⟩ := r.consE
  obtain rfl := r2.nilE
  obtain ⟨t, rfl⟩ := r1.intE
  obtain ⟨a1, a2, a3⟩ := alloc_rng (a := 0) (b := a) (c := 1) (t := s.toks) (u := t) (w := s.toks + 1) (tk := s.toks + 1 + 1) hS
  exact call_range_1 (post _ _ _ _ h a1 a2 a3)
theorem F_range2 {a b : Int} {Q : D → Sto → Prop} (h : Q (.rng a b 1) σ) : OL g f Rd (fun vs => call (.type "range") vs) [.int a, .int b] ρ σ Q := fun A s vs Q' hA hS r post => by
  obtain ⟨v, us, rfl, r1, r2⟩ := r.consE
  obtain ⟨u, us, rfl, q2, r3⟩ := r2.consE
  obtain rfl := r3.nilE
  obtain ⟨t, rfl⟩ := r1.intE; obtain ⟨t', rfl⟩ := q2.intE
  obtain ⟨a1, a2, a3⟩ := alloc_rng (a := a) (b := b) (c := 1) (t := t) (u := t') (w := s.toks) (tk := s.toks + 1) hS
  exact call_range_2 (post _ _ _ _ h a1 a2 a3)
theorem F_range3 {a b c : Int} {Q : D → Sto → Prop} (hc : c ≠ 0) (hl : c.natAbs < 1073741824) (h : Q (.rng a b c) σ) : OL g f Rd (fun vs => call (.type "range") vs) [.int a, .int b, .int c] ρ σ Q := fun A s vs Q' hA hS r post => by
  obtain ⟨v, us, rfl, r1, r2⟩ := r.consE
  obtain ⟨u, us, rfl, q2, r3⟩ := r2.consE
  obtain ⟨w, us, rfl, q3, r4⟩ := r3.consE
  obtain rfl := r4.nilE
  obtain ⟨t, rfl⟩ := r1.intE; obtain ⟨t', rfl⟩ := q2.intE; obtain ⟨t'', rfl⟩ := q3.intE
  obtain ⟨a1, a2, a3⟩ := alloc_rng (a := a) (b := b) (c := c) (t := t) (u := t') (w := t'') (tk := s.toks) hS
  exact call_range_3 hc (post _ _ _ _ h a1 a2 a3) (.inl (PyProof.noPylong_small hl))
theorem F_chr {i : Int} {Q : D → Sto → Prop} (h0 : 0 ≤ i) (h1 : i ≤ 0x10FFFF) (h : Q (.str [i.toNat]) σ) : OL g f Rd (fun vs => call (.builtin "chr") vs) [.int i] ρ σ Q := fun A s vs Q' hA hS r post => by
  obtain ⟨v, us, rfl, r1, r2⟩ := r.consE
  obtain rfl := r2.nilE
  obtain ⟨t, rfl⟩ := r1.intE
  exact P.chr_of_int (by simp; omega) (post _ _ _ _ h (hS.tok _) (.str [i.toNat] _) (.tok _))
theorem F_ord {c : Nat} {Q : D → Sto → Prop} (h : Q (.int c) σ) : OL g f Rd (fun vs => call (.builtin "ord") vs) [.str [c]] ρ σ Q := fun A s vs Q' hA hS r post => by
  obtain ⟨v, us, rfl, r1, r2⟩ := r.consE
  obtain rfl := r2.nilE
  obtain ⟨t, rfl⟩ := r1.strE
  exact P.ord_of_char (post _ _ _ _ h (hS.tok _) (.int _ _) (.tok _))
/-! ### methods -/
noncomputable def DTy (g : G) (f : Fm) (ρ : Loc) (σ : Sto) (d : D) (T : String) : Prop := ∀ s v, St g f s ρ σ → Rd s.heap (own σ) v d → s.TypeIs v T ∧ ∀ a, v = .ref a → ∃ ob, s.heap.get? a = some ob ∧ ob.dict = none
theorem DTy_str {s : List Nat} : DTy g f ρ σ (.str s) "str" := fun s v hS r => by
  obtain ⟨t, rfl⟩ := r.strE
  exact ⟨rfl, fun a e => by cases e⟩
theorem DTy_lst {ds : List D} : DTy g f ρ σ (.lst ds) "list" := fun s v hS r => by
  obtain ⟨a, vs, n, rfl, e, no, rl⟩ := r.lstE
  exact ⟨⟨_, e, rfl⟩, fun b h => by cases h; exact ⟨_, e, rfl⟩⟩
theorem DTy_own {a : Addr} {ds : List D} (h : (a, ds) ∈ σ) : DTy g f ρ σ (.val (.ref a)) "list" := fun s v hS r => by
  obtain rfl := r.valE
  obtain ⟨vs, n, e, _⟩ := hS.base.cells a ds h
  exact ⟨⟨_, e, rfl⟩, fun b h => by cases h; exact ⟨_, e, rfl⟩⟩
theorem WE_Meth1 {o e : Expr} {rest : List Expr} {name : Str} {apos pos : Pos} {Q : D → Sto → Prop}
    (h : WE g f o ρ σ fun dv σ₁ => ∃ T id, PlainAttrs T ∧ Slot T name id ∧ typeOf (.builtin id) = pure (.type "method_descriptor") ∧ DTy g f ρ σ₁ dv T ∧ WL g f (e :: rest) pos ρ σ₁ fun ds σ₂ => OL g f Rd (fun vs => call (.builtin id) vs) (dv :: ds) ρ σ₂ Q)
    (hbase : attributeBase o name f.env (eval o f.env) = eval o f.env := by with_unfolding_all rfl)
    (hfew : ((backTo pos (starEach (e :: rest) f.env)).all (fun x => !x.1) && (backToKw pos (keywordEach [] f.env)).all (fun x => x.1.isSome) && decide ((e :: rest).length + ([] : List Keyword).length + (if ([] : List Keyword).isEmpty then 0 else 1) < 30)) = true := by with_unfolding_all rfl)
    (hline : (apos.endLine == pos.line) = true := by with_unfolding_all rfl) (he : starEach (e :: rest) f.env = (false, eval e f.env) :: starEach rest f.env := by with_unfolding_all rfl) (hplain : (backTo pos (starEach rest f.env)).any (·.1) = false := by with_unfolding_all rfl) :
    WE g f (.Call (.Attribute o name apos) (e :: rest) [] pos) ρ σ Q :=
  fun A s Q' hA hS post => wpAny_Call_method_lateS hbase hfew hline (h A s _ hA hS fun v dv s₁ σ₁ q S₁ r₁ p₁ => by
    obtain ⟨T, id, pa, sl, ty, dt, q⟩ := q
    obtain ⟨t1, t2⟩ := dt s₁ v S₁ r₁
    refine ⟨T, id, pa, sl, ty, t1, t2, callWith_method1 ?_ he hplain⟩
    exact q A s₁ _ hA S₁ fun vs ds s₂ σ₂ q₂ S₂ r₂ p₂ => q₂ A s₂ (v :: vs) Q' hA S₂ (.cons (r₁.step S₁.vols' S₁.base p₂) r₂) fun a b s' σ' q' S' r' p' => post a b s' σ' q' S' r' ((p₁.trans p₂).trans p'))
theorem WE_Meth0 {o : Expr} {name : Str} {apos pos : Pos} {Q : D → Sto → Prop}
    (h : WE g f o ρ σ fun dv σ₁ => ∃ T id, PlainAttrs T ∧ Slot T name id ∧ typeOf (.builtin id) = pure (.type "method_descriptor") ∧ DTy g f ρ σ₁ dv T ∧ OL g f Rd (fun vs => call (.builtin id) vs) [dv] ρ σ₁ Q)
    (hbase : attributeBase o name f.env (eval o f.env) = eval o f.env := by with_unfolding_all rfl)
    (hline : (apos.endLine == pos.line) = true := by with_unfolding_all rfl) : WE g f (.Call (.Attribute o name apos) [] [] pos) ρ σ Q :=
  fun A s Q' hA hS post => wpAny_Call_method_lateS hbase rfl hline (h A s _ hA hS fun v dv s₁ σ₁ q S₁ r₁ p₁ => by
    obtain ⟨T, id, pa, sl, ty, dt, q⟩ := q
    obtain ⟨t1, t2⟩ := dt s₁ v S₁ r₁
    refine ⟨T, id, pa, sl, ty, t1, t2, callWith_method0 ?_⟩
    exact q A s₁ [v] Q' hA S₁ (.cons r₁ .nil) fun a b s' σ' q' S' r' p' => post a b s' σ' q' S' r' (p₁.trans p'))
noncomputable def lowerOf (x : List Nat) : List Nat := (Txt.lower ⟨x.toArray⟩).cps.toList
theorem M_lower {x : List Nat} {Q : D → Sto → Prop} (hl : (lowerOf x).length ≤ sizeLine) (h : Q (.str (lowerOf x)) σ) : OL g f Rd (fun vs => call (.builtin "str.lower") vs) [.str x] ρ σ Q := fun A s vs Q' hA hS r post => by
  obtain ⟨v, us, rfl, r1, r2⟩ := r.consE
  obtain rfl := r2.nilE
  obtain ⟨t, rfl⟩ := r1.strE
  refine PySem.SC.lower ?_ (post _ _ _ _ h (hS.tok _) (.str (lowerOf x) _) (.tok _))
  show decide ((Txt.lower ⟨x.toArray⟩).length > sizeLine) = false
  have : (lowerOf x).length = (Txt.lower ⟨x.toArray⟩).length := by unfold lowerOf; simp [Str.length]
  rw [← this]; exact decide_eq_false (by omega)
end
-- Fw11
section
variable {g : G} {f : Fm} {ρ : Loc} {σ : Sto}
/-! ### lists that are owned -/
theorem own_cons {a : Addr} {ds : List D} {b : Addr} : own ((a, ds) :: σ) b ↔ b = a ∨ own σ b := by unfold own; simp
theorem own_mid {l₁ l₂ : Sto} {a : Addr} {ds es : List D} {b : Addr} : own (l₁ ++ (a, ds) :: l₂) b ↔ own (l₁ ++ (a, es) :: l₂) b := by unfold own; simp
theorem St.take {s : Shared} {h' : Heap} {tk : Nat} {a : Addr} {vs : List Value} {n : Nat} {ds : List D} (hS : St g f s ρ σ) (hk : ∀ b o, s.heap.get? b = some o → h'.get? b = some o) (e : h'.get? a = some (listObj vs n))
    (hn : s.heap.get? a = none) (rl : RdL s.heap (own σ) vs ds) :
    St g f { s with heap := h', toks := tk } ρ ((a, ds) :: σ) ∧ Step g f.vol σ s { s with heap := h', toks := tk } ((a, ds) :: σ) ∧ (∀ v d, Rd s.heap (own σ) v d → Rd h' (own ((a, ds) :: σ)) v d) ∧ ¬ own σ a := by
  have no : ¬ own σ a := fun h => by
    obtain ⟨vs, n, e'⟩ := big_own hS.base h
    rw [hn] at e'; cases e'
  have ho : ∀ b ob, s.heap.get? b = some ob → own ((a, ds) :: σ) b → own σ b := fun b ob e₁ h => (own_cons.mp h).elim (fun q => by subst q; rw [hn] at e₁; cases e₁) id
  have rr : ∀ {v d}, Rd s.heap (own σ) v d → Rd h' (own ((a, ds) :: σ)) v d := fun r => r.mono (fun b ob e _ => hk b ob e) ho
  have rrl : ∀ {vs ds'}, RdL s.heap (own σ) vs ds' → RdL h' (own ((a, ds) :: σ)) vs ds' := fun r => r.mono (fun b ob e _ => hk b ob e) ho
  have h0 : g.H0.get? a = none := by
    cases q : g.H0.get? a with
    | none => rfl
    | some o => rw [hS.base.keep0 a o q] at hn; cases hn
  refine ⟨⟨⟨hS.base.ok, fun b o e => hk b o (hS.base.keep0 b o e), fun b es h => ?_, ?_, ?_, hS.base.gens⟩, hS.kind, hS.globals, hS.builtins, fun b h => ⟨(hS.vols b h).1, (hS.vols b h).2.imp (fun ⟨m, x⟩ => ⟨m, x.keeps hk⟩) fun ⟨v, x⟩ => ⟨v, x.keeps hk⟩⟩, hS.loc, ?_, fun x hx => ?_, hS.apart, fun x d h => ?_⟩,
    ⟨fun b o e _ _ _ => hk b o e, fun b h => (own_cons.mp h).elim (fun q => .inr (q ▸ hn)) .inl, fun b o e => ⟨o, hk b o e⟩, rfl⟩, fun v d => rr, no⟩
  · rcases List.mem_cons.mp h with q | q
    · cases q; exact ⟨vs, n, e, rrl rl, h0⟩
    · obtain ⟨us, m, e', r', z⟩ := hS.base.cells b es q
      exact ⟨us, m, hk _ _ e', rrl r', z⟩
  · rw [List.map_cons, List.nodup_cons]; exact ⟨no, hS.base.nodup⟩
  · obtain ⟨ps, e, r⟩ := hS.base.tab; exact ⟨ps, hk _ _ e, r⟩
  · obtain ⟨m, x⟩ := hS.ns; exact ⟨m, x.keeps hk⟩
  · obtain ⟨c, a, b, v, w⟩ := hS.cell x hx; exact ⟨c, a, b, v, w.keeps hk⟩
  · obtain ⟨v, V, r⟩ := hS.vars x d h
    exact ⟨v, V.keeps hk, rr r⟩
theorem St.turn {s : Shared} {h' : Heap} {tk : Nat} {l₁ l₂ : Sto} {a : Addr} {vs : List Value} {n : Nat} {ds es : List D} (hS : St g f s ρ (l₁ ++ (a, ds) :: l₂)) (hs : Heap.SameBut a s.heap h') (e : h'.get? a = some (listObj vs n))
    (rl : RdL s.heap (own (l₁ ++ (a, ds) :: l₂)) vs es) :
    St g f { s with heap := h', toks := tk } ρ (l₁ ++ (a, es) :: l₂) ∧ Step g f.vol (l₁ ++ (a, ds) :: l₂) s { s with heap := h', toks := tk } (l₁ ++ (a, es) :: l₂) := by
  have ha : own (l₁ ++ (a, ds) :: l₂) a := by unfold own; simp
  obtain ⟨us₀, n₀, e₀, _, h0⟩ := hS.base.cells a ds (by simp)
  have fx : ∀ b ob, s.heap.get? b = some ob → Fix (own (l₁ ++ (a, ds) :: l₂)) b ob → h'.get? b = some ob := fun b ob e₁ q => (hs.2 b (fun z => by
    subst z; rw [e₀] at e₁; cases e₁; exact q.free rfl ha)).trans e₁
  have rr : ∀ {v d}, Rd s.heap (own (l₁ ++ (a, ds) :: l₂)) v d → Rd h' (own (l₁ ++ (a, es) :: l₂)) v d := fun r => r.mono fx fun _ _ _ q => own_mid.mpr q
  have rrl : ∀ {vs ds'}, RdL s.heap (own (l₁ ++ (a, ds) :: l₂)) vs ds' → RdL h' (own (l₁ ++ (a, es) :: l₂)) vs ds' := fun r => r.mono fx fun _ _ _ q => own_mid.mpr q
  have hns : ∀ {b m}, s.heap.Ns b m → h'.Ns b m := fun {b m} x => x.sameBut hs (fun z => (vol_ne_list (.inl ⟨m, x⟩) e₀) z.symm)
  have hce : ∀ {b v}, s.heap.IsCell b v → h'.IsCell b v := fun {b v} x => x.sameBut hs (fun z => (vol_ne_list (.inr ⟨v, x⟩) e₀) z.symm)
  have nd := hS.base.nodup
  refine ⟨⟨⟨hS.base.ok, fun b o e => (hs.2 b (fun q => by rw [q, h0] at e; cases e)).trans (hS.base.keep0 b o e), fun b fs h => ?_, by simpa using nd, ?_, hS.base.gens⟩, hS.kind, hS.globals, hS.builtins, fun b h => ⟨(hS.vols b h).1, (hS.vols b h).2.imp (fun ⟨m, x⟩ => ⟨m, hns x⟩) fun ⟨v, x⟩ => ⟨v, hce x⟩⟩, hS.loc, ?_, fun x hx => ?_, hS.apart, fun x d h => ?_⟩,
    ⟨fun b o e _ h2 _ => (hs.2 b (fun q => h2 (q ▸ ha))).trans e, fun b h => .inl (own_mid.mpr h), fun b o e' => ?_, rfl⟩⟩
  · have key : ∀ q : (b, fs) ∈ l₁ ++ (a, ds) :: l₂, b ≠ a → ∃ vs n, h'.get? b = some (listObj vs n) ∧ RdL h' (own (l₁ ++ (a, es) :: l₂)) vs fs ∧ g.H0.get? b = none := fun q hb => by
      obtain ⟨us, m, e', r', z⟩ := hS.base.cells b fs q
      exact ⟨us, m, (hs.2 b hb).trans e', rrl r', z⟩
    have nd' : (∀ x ∈ l₁, x.1 ≠ a) ∧ ∀ x ∈ l₂, x.1 ≠ a := by
      rw [List.map_append, List.map_cons, List.nodup_append, List.nodup_cons] at nd
      refine ⟨fun x hx q => nd.2.2 x.1 (List.mem_map_of_mem hx) a (.head _) q, fun x hx q => nd.2.1.1 (List.mem_map.mpr ⟨x, hx, q⟩)⟩
    rcases List.mem_append.mp h with q | q
    · exact key (List.mem_append_left _ q) (nd'.1 _ q)
    · rcases List.mem_cons.mp q with q | q
      · cases q; exact ⟨vs, n, e, rrl rl, h0⟩
      · exact key (List.mem_append_right _ (List.mem_cons_of_mem _ q)) (nd'.2 _ q)
  · obtain ⟨ps, e, r⟩ := hS.base.tab
    exact ⟨ps, (hs.2 _ (fun q => by rw [q, e₀] at e; cases e)).trans e, r⟩
  · obtain ⟨m, x⟩ := hS.ns; exact ⟨m, hns x⟩
  · obtain ⟨c, a, b, v, w⟩ := hS.cell x hx; exact ⟨c, a, b, v, hce w⟩
  · obtain ⟨v, V, r⟩ := hS.vars x d h
    exact ⟨v, V.imp (fun ⟨k, m, a, b⟩ => ⟨k, m, hns a, b⟩) fun ⟨k, c, a, b⟩ => ⟨k, c, a, hce b⟩, rr r⟩
  · by_cases q : b = a
    · exact ⟨_, q ▸ e⟩
    · exact ⟨o, (hs.2 b q).trans e'⟩
noncomputable abbrev KLo (Q : D → Sto → Prop) : List D → Sto → Prop := fun ds σ₁ => ds.length ≤ sizeLine ∧ ∀ a, ¬ own σ₁ a → Q (.val (.ref a)) ((a, ds) :: σ₁)
theorem WE_ListOwn {es : List Expr} {pos : Pos} {Q : D → Sto → Prop} (h : WL g f es pos ρ σ (KLo Q)) : WE g f (.List es pos) ρ σ Q :=
  fun A s Q' hA hS post => wpAny_List (h A s _ hA hS fun vs ds s₁ σ₁ q S₁ r₁ p₁ => ⟨by rw [r₁.length]; exact q.1, by
    obtain ⟨a, b, c, d⟩ := S₁.take (tk := s₁.toks) (push_keeps s₁.heap (listObj vs 0)) (Heap.get?_push_size _ rfl) (get_size _) r₁
    exact post _ _ _ _ (q.2 _ d) a (.val _) (p₁.trans b)⟩)
theorem RdL.of {h : Heap} {o : Addr → Prop} : ∀ (vs : List Value) (ds : List D), vs.length = ds.length → (∀ (j : Nat) v d, vs[j]? = some v → ds[j]? = some d → Rd h o v d) → RdL h o vs ds
  | [], [], _, _ => .nil
  | v :: vs, d :: ds, hl, k => .cons (k 0 v d rfl rfl) (RdL.of vs ds (by simpa using hl) fun j v d h1 h2 => k (j + 1) v d (by simpa using h1) (by simpa using h2))
  | [], _ :: _, hl, _ => by simp at hl
  | _ :: _, [], hl, _ => by simp at hl
theorem rngItems_get {a c : Int} {n j : Nat} {d : D} (h : (rngItems a c n)[j]? = some d) : d = .int (a + (j : Int) * c) := by
  unfold rngItems at h
  rw [List.getElem?_map] at h
  cases q : (List.range n)[j]? with
  | none => rw [q] at h; cases h
  | some k =>
    rw [q] at h
    have : k = j := by
      rw [List.getElem?_eq_some_iff] at q
      obtain ⟨h, e⟩ := q
      simpa using e.symm
    subst this
    cases h; rfl
theorem F_listRange {a b c : Int} {n : Nat} {Q : D → Sto → Prop} (hsm : Builtin.Range.small a b c = true) (hn : Builtin.Range.rangeSize a b c = n) (hl : n ≤ sizeLine) (h : ∀ x, ¬ own σ x → Q (.val (.ref x)) ((x, rngItems a c n) :: σ)) :
    OL g f Rd (fun vs => call (.type "list") vs) [.rng a b c] ρ σ Q := fun A s vs Q' hA hS r post => by
  obtain ⟨v, us, rfl, r1, r2⟩ := r.consE
  obtain rfl := r2.nilE
  obtain ⟨x, t, u, w, rfl, e⟩ := r1.rngE
  refine call_list_range (n := n) hA.1 e hsm hn hl fun h' tk acc c' hk he hi => ?_
  have e' : h'.get? s.heap.objs.size = some (listObj acc.toList c') := by rw [he]
  have rl : RdL s.heap (own σ) acc.toList (rngItems a c n) := by
    obtain ⟨h1, h2⟩ := hi
    refine RdL.of _ _ (by simp [rngItems, h1]) fun j v d g1 g2 => ?_
    obtain ⟨t, rfl⟩ := h2 j v (by simpa using g1)
    rw [rngItems_get g2]; exact .int _ _
  obtain ⟨a1, a2, a3, a4⟩ := hS.take (tk := tk) hk e' (get_size _) rl
  exact post _ _ _ _ (h _ a4) a1 (.val _) a2
theorem WI_own {v i : Expr} {a : Addr} {ds : List D} {k : Int} {d : D} {Q : D → Sto → Prop} (ha : (a, ds) ∈ σ) (hx : at? ds k = some d) (hl : ds.length ≤ sizeLine) (h : Q d σ) : WI g f v i (.val (.ref a)) (.int k) ρ σ Q := fun A s vv u Q' hA hS r1 r2 post => by
  obtain rfl := r1.valE; obtain ⟨t', rfl⟩ := r2.intE
  obtain ⟨vs, n, e, rl, _⟩ := hS.base.cells a ds ha
  refine subTail_ok (T := "list") ⟨_, e, rfl⟩ slot_list_getitem.lookup ?_
  unfold at? at hx
  cases q : seqIndex? k ds.length with
  | none => rw [q] at hx; cases hx
  | some j =>
    rw [q] at hx
    obtain ⟨w, hw, rw'⟩ := rl.get j d hx
    have hsz : vs.toArray.size = ds.length := by rw [List.size_toArray, rl.length]
    have hj := seqIndex_spec q
    have := sizeLine_eq
    by_cases hk : k < 0
    · exact wpAny_getItem_list_neg (items := vs.toArray) ⟨_, e, rfl, n, rfl⟩ hk (by omega) (by omega) (by rw [hsz, show (k + (ds.length : Int)).toNat = j by omega]; simpa using hw) (post _ _ _ _ h hS rw' .refl)
    · exact wpAny_getItem_list (items := vs.toArray) ⟨_, e, rfl, n, rfl⟩ (by omega) (by omega) (by rw [show k.toNat = j by omega]; simpa using hw) (post _ _ _ _ h hS rw' .refl)
theorem F_lenOwn {a : Addr} {ds : List D} {Q : D → Sto → Prop} (ha : (a, ds) ∈ σ) (hl : ds.length ≤ sizeLine) (h : Q (.int ds.length) σ) : OL g f Rd (fun vs => call (.builtin "len") vs) [.val (.ref a)] ρ σ Q := fun A s vs Q' hA hS r post => by
  obtain ⟨v, us, rfl, r1, r2⟩ := r.consE
  obtain rfl := r2.nilE
  obtain rfl := r1.valE
  obtain ⟨ws, n, e, rl, _⟩ := hS.base.cells a ds ha
  have := sizeLine_eq
  refine call_len_list (items := ws.toArray) ⟨_, e, rfl, n, rfl⟩ (by rw [List.size_toArray, rl.length]; omega) (post _ _ _ _ h (hS.tok _) ?_ (.tok _))
  rw [List.size_toArray, rl.length]; exact .int _ _
theorem O_truthyOwn {a : Addr} {ds : List D} {Q : Bool → Sto → Prop} (ha : (a, ds) ∈ σ) (hl : ds.length ≤ sizeLine) (h : Q (decide (ds ≠ [])) σ) : O1 g f RB truthy (.val (.ref a)) ρ σ Q := fun A s v Q' hA hS r1 post => by
  obtain rfl := r1.valE
  obtain ⟨vs, n, e, rl, _⟩ := hS.base.cells a ds ha
  refine wpAny_truthy_list (items := vs.toArray) ⟨_, e, rfl, n, rfl⟩ ?_ (post _ _ _ _ h (hS.tok _) ?_ (.tok _))
  · rw [List.size_toArray, rl.length]; have := sizeLine_eq; omega
  · show _ = decide (ds ≠ [])
    have := rl.length
    rw [Bool.eq_iff_iff]
    cases vs <;> cases ds <;> simp_all
theorem M_append {l₁ l₂ : Sto} {a : Addr} {ds : List D} {d : D} {Q : D → Sto → Prop} (hl : ds.length ≤ sizeLine) (h : Q .none (l₁ ++ (a, ds ++ [d]) :: l₂)) :
    OL g f Rd (fun vs => call (.builtin "list.append") vs) [.val (.ref a), d] ρ (l₁ ++ (a, ds) :: l₂) Q := fun A s vs Q' hA hS r post => by
  obtain ⟨v, us, rfl, r1, r2⟩ := r.consE
  obtain ⟨u, us, rfl, q2, r3⟩ := r2.consE
  obtain rfl := r3.nilE
  obtain rfl := r1.valE
  obtain ⟨ws, n, e, rl, _⟩ := hS.base.cells a ds (by simp)
  refine wpAny_list_append_plain (items := ws.toArray) ⟨n, e⟩ (fun h' ⟨n', e'⟩ hs => ?_) (by rw [List.size_toArray, rl.length]; exact hl)
  obtain ⟨a1, a2⟩ := hS.turn (tk := s.toks) (vs := ws ++ [u]) (n := n') (es := ds ++ [d]) hs (by rw [e']; simp) (rl.append (.cons q2 .nil))
  exact post _ _ _ _ h a1 .none a2
noncomputable abbrev KO3 (d dv : D) (ρ : Loc) (Q : Fl → Loc → Sto → Prop) : D → Sto → Prop := fun di σ₃ => ∃ a l₁ l₂ ds k, dv = .val (.ref a) ∧ σ₃ = l₁ ++ (a, ds) :: l₂ ∧ di = .int k ∧ 0 ≤ k ∧ k < ds.length ∧ ds.length ≤ sizeLine ∧ Q .next ρ (l₁ ++ (a, ds.set k.toNat d) :: l₂)
noncomputable abbrev KO2' (g : G) (f : Fm) (i : Expr) (d : D) (ρ : Loc) (Q : Fl → Loc → Sto → Prop) : D → Sto → Prop := fun dv σ₂ => WE g f i ρ σ₂ (KO3 d dv ρ Q)
noncomputable abbrev KO1 (g : G) (f : Fm) (o i : Expr) (ρ : Loc) (Q : Fl → Loc → Sto → Prop) : D → Sto → Prop := fun d σ₁ => WE g f o ρ σ₁ (KO2' g f i d ρ Q)
theorem WS_setOwn {o i e : Expr} {ps pos : Pos} {Q : Fl → Loc → Sto → Prop}
    (h : WE g f e ρ σ (KO1 g f o i ρ Q))
    (hs : swapsWith e (some (.Subscript o i ps)) pos.line f.env = pure false := by with_unfolding_all rfl) : WS g f (.Assign [.Subscript o i ps] e pos) ρ σ Q :=
  fun A s Q' hA hS post => wpAny_Assign_Subscript (h A s _ hA hS fun v d s₁ σ₁ q S₁ r₁ p₁ => q A s₁ _ hA S₁ fun vo dv s₂ σ₂ q₂ S₂ r₂ p₂ => q₂ A s₂ _ hA S₂ fun vi di s₃ σ₃ q₃ S₃ r₃ p₃ => by
    obtain ⟨a, l₁, l₂, ds, k, rfl, rfl, rfl, h0, h1, hl, q⟩ := q₃
    have r₁' := (r₁.step S₁.vols' S₁.base p₂).step S₂.vols' S₂.base p₃
    obtain rfl := r₂.valE
    obtain ⟨t, rfl⟩ := r₃.intE
    obtain ⟨ws, n, e, rl, _⟩ := S₃.base.cells a ds (by simp)
    have := sizeLine_eq
    refine ki_setAt e h0 (by omega) (by rw [List.size_toArray, rl.length]; exact h1) ?_
    have e' : (s₃.heap.update a (Obj.mapSeq (·.setIfInBounds k.toNat v))).get? a = some (listObj (ws.set k.toNat v) n) := by
      rw [Heap.get?_update_self _ e (by rfl)]
      simp [Obj.mapSeq, listObj]
    obtain ⟨a1, a2⟩ := S₃.turn (tk := s₃.toks) (Heap.SameBut.update ..) e' (RdL.set r₁' rl k.toNat)
    exact post _ _ _ _ _ q a1 .next (((p₁.trans p₂).trans p₃).trans a2)) hs
end
-- Fw12
theorem len1 {α β : Type} {vs : List α} {d : β} (h : vs.length = [d].length) : ∃ v, vs = [v] := by
  match vs, h with | [v], _ => exact ⟨v, rfl⟩
theorem len2 {α β : Type} {vs : List α} {d e : β} (h : vs.length = [d, e].length) : ∃ v u, vs = [v, u] := by
  match vs, h with | [v, u], _ => exact ⟨v, u, rfl⟩
theorem len3 {α β : Type} {vs : List α} {d e f : β} (h : vs.length = [d, e, f].length) : ∃ v u w, vs = [v, u, w] := by
  match vs, h with | [v, u, w], _ => exact ⟨v, u, w, rfl⟩
theorem len4 {α β : Type} {vs : List α} {d e f g : β} (h : vs.length = [d, e, f, g].length) : ∃ v u w x, vs = [v, u, w, x] := by
  match vs, h with | [v, u, w, x], _ => exact ⟨v, u, w, x, rfl⟩
theorem split_dec {p : Prop} [Decidable p] {a b : Prop} (h1 : p → a) (h2 : ¬ p → b) : if decide p = true then a else b := by
  by_cases h : p
  · rw [if_pos (decide_eq_true h)]; exact h1 h
  · rw [if_neg (by rw [decide_eq_false h]; exact Bool.false_ne_true)]; exact h2 h
theorem dec_pos {p : Prop} [Decidable p] {a b : Prop} (h : p) (h1 : a) : if decide p = true then a else b := by rw [if_pos (decide_eq_true h)]; exact h1
theorem dec_neg {p : Prop} [Decidable p] {a b : Prop} (h : ¬ p) (h2 : b) : if decide p = true then a else b := by rw [if_neg (by rw [decide_eq_false h]; exact Bool.false_ne_true)]; exact h2
theorem ite_T {a b : Prop} (h : a) : if true = true then a else b := by rw [if_pos rfl]; exact h
theorem ite_F {a b : Prop} (h : b) : if false = true then a else b := by rw [if_neg Bool.false_ne_true]; exact h
theorem split_not {p : Prop} [Decidable p] {a b : Prop} (h1 : ¬ p → a) (h2 : p → b) : if (!decide p) = true then a else b := by
  by_cases h : p
  · rw [if_neg (by rw [decide_eq_true h]; exact Bool.false_ne_true)]; exact h2 h
  · rw [if_pos (by rw [decide_eq_false h]; rfl)]; exact h1 h
theorem not_b {Q : Bool → Sto → Prop} {c : Bool} {σ : Sto} (b : Bool) (e : (!c) = b) (h : Q b σ) : KNot Q c σ := by subst e; exact h
theorem at_b {Q : Bool → Sto → Prop} {c : Bool} {σ : Sto} (b : Bool) (e : c = b) (h : Q b σ) : Q c σ := by subst e; exact h
theorem Rd_int {h : Heap} {o : Addr → Prop} {i : Int} {t : Tok} : Rd h o (.int i t) (.int i) := .int i t
theorem cps_ofString (s : String) : (Str.ofString s).cps.toList = s.toList.map Char.toNat := by rw [Str.ofString_eq_toList]
-- Fw13
section
open PySem PySem.W PyProof.Rows PySem.Calls PySem.F
section
variable {g : G} {f : Fm} {ρ : Loc} {σ : Sto}
noncomputable abbrev KLw (Q : D → Sto → Prop) : D → Sto → Prop := fun dv σ₁ => ∃ x, dv = .str x ∧ (lowerOf x).length ≤ sizeLine ∧ Q (.str (lowerOf x)) σ₁
noncomputable abbrev KAl (Q : D → Sto → Prop) : D → Sto → Prop := fun dv σ₁ => ∃ x, dv = .str x ∧ Q (.bool (Txt.isalnum ⟨x.toArray⟩)) σ₁
noncomputable abbrev KFi2 (x : List Nat) (Q : D → Sto → Prop) : D → Sto → Prop := fun de σ₂ => ∃ y, de = .str y ∧ Q (.int (Txt.find ⟨x.toArray⟩ ⟨y.toArray⟩)) σ₂
noncomputable abbrev KFi (g : G) (f : Fm) (e : Expr) (ρ : Loc) (Q : D → Sto → Prop) : D → Sto → Prop := fun dv σ₁ => ∃ x, dv = .str x ∧ WE g f e ρ σ₁ (KFi2 x Q)
noncomputable abbrev KAp2 (a : Addr) (Q : D → Sto → Prop) : D → Sto → Prop := fun d σ₂ => ∃ l₁ l₂ es, σ₂ = l₁ ++ (a, es) :: l₂ ∧ es.length ≤ sizeLine ∧ Q .none (l₁ ++ (a, es ++ [d]) :: l₂)
noncomputable abbrev KAp (g : G) (f : Fm) (e : Expr) (ρ : Loc) (Q : D → Sto → Prop) : D → Sto → Prop := fun dv σ₁ => ∃ a ds, dv = .val (.ref a) ∧ (a, ds) ∈ σ₁ ∧ WE g f e ρ σ₁ (KAp2 a Q)
theorem WE_lower {o : Expr} {apos pos : Pos} {Q : D → Sto → Prop} (h : WE g f o ρ σ (KLw Q))
    (hbase : attributeBase o (Str.ofString "lower") f.env (eval o f.env) = eval o f.env := by with_unfolding_all rfl) (hline : (apos.endLine == pos.line) = true := by with_unfolding_all rfl) : WE g f (.Call (.Attribute o (Str.ofString "lower") apos) [] [] pos) ρ σ Q :=
  WE_Meth0 (h.mono fun dv σ₁ ⟨x, e, hl, q⟩ => ⟨"str", "str.lower", plainAttrs_str, slot_str_lower, type_str_lower, e ▸ DTy_str, e ▸ M_lower hl q⟩) hbase hline
theorem M_isalnum {x : List Nat} {Q : D → Sto → Prop} (h : Q (.bool (Txt.isalnum ⟨x.toArray⟩)) σ) : OL g f Rd (fun vs => call (.builtin "str.isalnum") vs) [.str x] ρ σ Q := fun A s vs Q' hA hS r post => by
  obtain ⟨v, us, rfl, r1, r2⟩ := r.consE
  obtain rfl := r2.nilE
  obtain ⟨t, rfl⟩ := r1.strE
  exact PySem.SC.isalnum (post _ _ _ _ h hS (.bool _) .refl)
theorem WE_isalnum {o : Expr} {apos pos : Pos} {Q : D → Sto → Prop} (h : WE g f o ρ σ (KAl Q))
    (hbase : attributeBase o (Str.ofString "isalnum") f.env (eval o f.env) = eval o f.env := by with_unfolding_all rfl) (hline : (apos.endLine == pos.line) = true := by with_unfolding_all rfl) : WE g f (.Call (.Attribute o (Str.ofString "isalnum") apos) [] [] pos) ρ σ Q :=
  WE_Meth0 (h.mono fun dv σ₁ ⟨x, e, q⟩ => ⟨"str", "str.isalnum", plainAttrs_str, slot_str_isalnum, type_str_isalnum, e ▸ DTy_str, e ▸ M_isalnum q⟩) hbase hline
theorem M_find {x y : List Nat} {Q : D → Sto → Prop} (h : Q (.int (Txt.find ⟨x.toArray⟩ ⟨y.toArray⟩)) σ) : OL g f Rd (fun vs => call (.builtin "str.find") vs) [.str x, .str y] ρ σ Q := fun A s vs Q' hA hS r post => by
  obtain ⟨v, us, rfl, r1, r2⟩ := r.consE
  obtain ⟨u, us, rfl, q2, r3⟩ := r2.consE
  obtain rfl := r3.nilE
  obtain ⟨t, rfl⟩ := r1.strE
  obtain ⟨t', rfl⟩ := q2.strE
  exact PySem.SC.find (post _ _ _ _ h (hS.tok _) (.int _ _) (.tok _))
theorem WE_find {o e : Expr} {apos pos : Pos} {Q : D → Sto → Prop} (h : WE g f o ρ σ (KFi g f e ρ Q))
    (hbase : attributeBase o (Str.ofString "find") f.env (eval o f.env) = eval o f.env := by with_unfolding_all rfl) (hline : (apos.endLine == pos.line) = true := by with_unfolding_all rfl)
    (hfew : ((backTo pos (starEach [e] f.env)).all (fun x => !x.1) && (backToKw pos (keywordEach [] f.env)).all (fun x => x.1.isSome) && decide ([e].length + ([] : List Keyword).length + (if ([] : List Keyword).isEmpty then 0 else 1) < 30)) = true := by with_unfolding_all rfl)
    (he : starEach [e] f.env = (false, eval e f.env) :: starEach [] f.env := by with_unfolding_all rfl) : WE g f (.Call (.Attribute o (Str.ofString "find") apos) [e] [] pos) ρ σ Q :=
  WE_Meth1 (h.mono fun dv σ₁ ⟨x, e1, q⟩ => ⟨"str", "str.find", plainAttrs_str, slot_str_find, type_str_find, e1 ▸ DTy_str, WL_cons (q.mono fun de σ₂ ⟨y, e2, q⟩ => WL_nil (by subst e1; subst e2; exact M_find q)) he⟩) hbase hfew hline he rfl
theorem WE_append {o e : Expr} {apos pos : Pos} {Q : D → Sto → Prop}
    (h : WE g f o ρ σ (KAp g f e ρ Q))
    (hbase : attributeBase o (Str.ofString "append") f.env (eval o f.env) = eval o f.env := by with_unfolding_all rfl) (hline : (apos.endLine == pos.line) = true := by with_unfolding_all rfl)
    (hfew : ((backTo pos (starEach [e] f.env)).all (fun x => !x.1) && (backToKw pos (keywordEach [] f.env)).all (fun x => x.1.isSome) && decide ([e].length + ([] : List Keyword).length + (if ([] : List Keyword).isEmpty then 0 else 1) < 30)) = true := by with_unfolding_all rfl)
    (he : starEach [e] f.env = (false, eval e f.env) :: starEach [] f.env := by with_unfolding_all rfl) : WE g f (.Call (.Attribute o (Str.ofString "append") apos) [e] [] pos) ρ σ Q :=
  WE_Meth1 (h.mono fun dv σ₁ ⟨a, ds, e1, hm, q⟩ => ⟨"list", "list.append", plainAttrs_list, PySem.F.slot_list_append, PySem.F.type_list_append, e1 ▸ DTy_own hm, WL_cons (q.mono fun d σ₂ ⟨l₁, l₂, es, e2, hl, q⟩ => WL_nil (by
    subst e1; subst e2
    exact M_append hl q)) he⟩) hbase hfew hline he rfl
end
end
-- Fw14
section
open PySem PySem.W PyProof.Rows PySem.Calls PySem.F
section
variable {g : G} {f : Fm} {ρ : Loc} {σ : Sto}
noncomputable abbrev KQn (Q : Fl → Loc → Sto → Prop) : Loc → Sto → Prop := fun ρ₂ σ₂ => Q .next ρ₂ σ₂
noncomputable abbrev KAt (g : G) (f : Fm) (t : Expr) (ρ : Loc) (Q : Fl → Loc → Sto → Prop) : D → Sto → Prop := fun d σ₁ => OA g f t d ρ σ₁ (KQn Q)
noncomputable abbrev KA2b (g : G) (f : Fm) (t : Expr) (d : D) (Q : Fl → Loc → Sto → Prop) : Loc → Sto → Prop := fun ρ₂ σ₂ => OA g f t d ρ₂ σ₂ (KQn Q)
noncomputable abbrev KA2 (g : G) (f : Fm) (t₁ t₂ : Expr) (ρ : Loc) (Q : Fl → Loc → Sto → Prop) : D → Sto → Prop := fun d σ₁ => OA g f t₁ d ρ σ₁ (KA2b g f t₂ d Q)
noncomputable abbrev KSw (x y : Str) (ρ : Loc) (Q : Fl → Loc → Sto → Prop) : D → Sto → Prop := fun d σ₁ => ∃ a b, d = .tup [a, b] ∧ Q .next (setL (setL ρ y b) x a) σ₁
theorem WS_AssignT {ts : List Expr} {k : Nat} {tpos pos : Pos} {e : Expr} {Q : Fl → Loc → Sto → Prop} (h : WE g f e ρ σ (KAt g f (.Tuple ts k tpos) ρ Q))
    (hs : swapsWithSole [.Tuple ts k tpos] e pos.line f.env = pure false := by with_unfolding_all rfl) (hw : swappedStores [.Tuple ts k tpos] e f.env = pure none := by with_unfolding_all rfl) : WS g f (.Assign [.Tuple ts k tpos] e pos) ρ σ Q :=
  fun A s Q' hA hS post => Assign_Tuple (h A s _ hA hS fun v d s₁ σ₁ q S₁ r₁ p₁ => q A s₁ v _ hA S₁ r₁ fun s₂ ρ₂ σ₂ q₂ S₂ p₂ => post _ _ _ _ _ q₂ S₂ .next (p₁.trans p₂)) hs hw
theorem WS_Assign2 {t₁ t₂ : Expr} {pos : Pos} {e : Expr} {Q : Fl → Loc → Sto → Prop} (h : WE g f e ρ σ (KA2 g f t₁ t₂ ρ Q))
    (he : (assignEach [t₁, t₂] f.env).map (·.2) = [assign t₁ f.env, assign t₂ f.env] := by with_unfolding_all rfl) (hw : swappedStores [t₁, t₂] e f.env = pure none := by with_unfolding_all rfl) : WS g f (.Assign [t₁, t₂] e pos) ρ σ Q :=
  fun A s Q' hA hS post => wpAny_Assign_two (h A s _ hA hS fun v d s₁ σ₁ q S₁ r₁ p₁ => q A s₁ v _ hA S₁ r₁ fun s₂ ρ₂ σ₂ q₂ S₂ p₂ => q₂ A s₂ v _ hA S₂ (r₁.step S₁.vols' S₁.base p₂) fun s₃ ρ₃ σ₃ q₃ S₃ p₃ =>
    post _ _ _ _ _ q₃ S₃ .next ((p₁.trans p₂).trans p₃)) he hw
theorem WS_Swap2 {x y : Str} {px py : Pos} {k : Nat} {tpos pos : Pos} {e : Expr} {Q : Fl → Loc → Sto → Prop}
    (h : WE g f e ρ σ (KSw x y ρ Q))
    (hx : f.env.kindOf x = some .local := by with_unfolding_all rfl) (hy : f.env.kindOf y = some .local := by with_unfolding_all rfl)
    (hs : swapsWithSole [.Tuple [.Name x px, .Name y py] k tpos] e pos.line f.env = pure false := by with_unfolding_all rfl)
    (hw : swappedStores [.Tuple [.Name x px, .Name y py] k tpos] e f.env = pure (some [x, y]) := by with_unfolding_all rfl) : WS g f (.Assign [.Tuple [.Name x px, .Name y py] k tpos] e pos) ρ σ Q :=
  fun A s Q' hA hS post => Assign_Tuple_swapped (h A s _ hA hS fun v d s₁ σ₁ q S₁ r₁ p₁ => by
    obtain ⟨a, b, rfl, q⟩ := q
    obtain ⟨r, vs, n, rfl, e, rl⟩ := r₁.tupE
    obtain ⟨va, vs, rfl, ra, rl⟩ := rl.consE
    obtain ⟨vb, vs, rfl, rb, rl⟩ := rl.consE
    obtain rfl := rl.nilE
    refine unpackItems_tuple (items := #[va, vb]) hA.1 ⟨_, e, rfl, n, rfl⟩ fun h' hx' => ?_
    have hk : ∀ b o, s₁.heap.get? b = some o → h'.get? b = some o := fun b o e => hx' b o (Nat.ne_of_lt (Heap.lt_size e)) e
    obtain ⟨S₂, rr⟩ := (S₁.iter (h' := h') (tk := s₁.toks) (fun b ob e => hk b ob (S₁.base.keep0 b ob e)) (fun b ob e _ => hk b ob e))
    have p₂ : Step g f.vol σ₁ s₁ { s₁ with heap := h' } σ₁ := ⟨fun b o e _ _ _ => hk b o e, fun _ h => .inl h, fun b o e => ⟨o, hk b o e⟩, rfl⟩
    show wpAny _ A (do holding [va] (bindName f.env y vb); (do holding [] (bindName f.env x va); pure ())) _ _ _
    refine wpAny_bind (wpAny_holding (bindName_ (store_ok S₂ (rr _ _ rb) (.inl hy) fun s₃ S₃ p₃ _ => ?_)))
    have ra₃ := (rr _ _ ra).step S₂.vols' S₂.base p₃
    refine wpAny_bind (wpAny_holding (bindName_ (store_ok S₃ ra₃ (.inl hx) fun s₄ S₄ p₄ _ => wpAny_pure ?_)))
    exact post _ _ _ _ _ q S₄ .next (((p₁.trans p₂).trans p₃).trans p₄)) hs hw
theorem ite_True {a b : Prop} {i : Decidable True} (h : a) : @ite Prop True i a b := by rw [if_pos trivial]; exact h
theorem ite_False {a b : Prop} {i : Decidable False} (h : b) : @ite Prop False i a b := by rw [if_neg id]; exact h
end
end
-- Fw15
section
open PySem PySem.W PyProof.Rows PySem.Calls PySem.F
theorem list_append_look : typeLookup (.type "list") "append" = pure (some (.builtin "list.append")) := PySem.F.slot_list_append.lookup
theorem md_slot_get : Slot "method_descriptor" "__get__" "method_descriptor.__get__" :=
  .of (owner := "method_descriptor") (n := "__get__") (by rw [typeLookup_type, builtinLookup_eq_fast]; kernel_rfl) (by decide +kernel) (by decide +kernel) (by decide +kernel)
    (by first | exact .inl (by decide +kernel) | exact .inr (by decide +kernel)) (by rw [isSubtype_type]; kernel_rfl)
theorem md_set : typeLookup (.type "method_descriptor") "__set__" = pure none := by rw [typeLookup_type, builtinLookup_eq_fast]; kernel_rfl
theorem md_delete : typeLookup (.type "method_descriptor") "__delete__" = pure none := by rw [typeLookup_type, builtinLookup_eq_fast]; kernel_rfl
theorem md_entry : entryFor table "method_descriptor.__get__" = some Builtin.«method_descriptor.__get__» := entryFor_of_tree (by kernel_rfl)
theorem md_args (a b c : Value) : argsOk "method_descriptor.__get__" ⟨[a, b, c], []⟩ := by unfold argsOk; kernel_rfl
theorem kind_la : builtinKind "list.append" = some .method := by first | decide +kernel | kernel_rfl
theorem owner_la : ("list.append".cutAt '.').dropLast = ["list"] ∧ ("list.append".cutAt '.').getLastD "" = "append" := by decide +kernel
theorem told_la : Manifest.toldItsClass.contains "list.append" = false := by decide +kernel
section
variable {prog : Program} {w : World} {A : Around} {E : Value → Shared → Prop} {s : Shared}
theorem run_mdget {P : Fin → Shared → Prop} {a : Addr} {o : Obj} (ho : s.heap.get? a = some o) (hc : o.cls = .type "list") (h : P (.done (.ret (.ref s.heap.objs.size))) { s with heap := s.heap.push (bmObj "list.append" (.ref a)) }) :
    wpAny (model prog w) A (Builtin.«method_descriptor.__get__» ⟨[.builtin "list.append", .ref a, .type "list"], []⟩) P E s := by
  unfold Builtin.«method_descriptor.__get__»
  refine wpAny_bind (wpAny_of_eq (a := (.builtin "list.append", some (.ref a), some (.type "list"))) (by first | rfl | kernel_rfl) ?_)
  dsimp only
  rw [told_la, if_neg Bool.false_ne_true]
  refine wpAny_bind (wpAny_bind (wpAny_of_eq (a := (("append" : PySem.Str), Value.type "list")) (by first | rfl | kernel_rfl) ?_))
  dsimp only
  refine wpAny_bind (wpAny_isInstance (b := true) (T := "list") ⟨_, ho, hc⟩ (by rw [isSubtype_type]; kernel_rfl) ?_)
  refine wpAny_pure ?_
  exact wpAny_bind (wpAny_newObj_type (wpAny_pure h))
end
theorem meets_append (a : Addr) (xs : Array Value) (k : Nat) (u : Tok) :
    Meets (Builtin.«object.__getattribute__» ⟨[.ref a, .str "append" u], []⟩) (fun A R s => s.heap.get? a = some { cls := .type "list", dict := none, data := .seq xs k, slots := #[] } ∧ R (.ok (.ret (.ref s.heap.objs.size))) { s with heap := s.heap.push (bmObj "list.append" (.ref a)) }) :=
  Meets.of_wp fun prog w A R s hs => by
    obtain ⟨hp, g, d, tk, os⟩ := s
    obtain ⟨hx, hs⟩ := hs
    have hT : (⟨hp, g, d, tk, os⟩ : Shared).TypeIs (.ref a) "list" := ⟨_, hx, rfl⟩
    have f1 := list_append_look
    have f2 := md_slot_get.lookup
    have f3 := md_set
    have f4 := md_delete
    unfold Builtin.«object.__getattribute__»
    repeat (any_goals (first | assumption | wp_step))
    simp only [kind_la]
    refine wpAny_of_eq f2 ?_
    have tk1 : wpAny (model prog w) A.in1 (Builtin.ObjectAttr.takesStores (.builtin "list.append")) (fun b s' => b = false ∧ s' = ⟨hp, g, d, tk, os⟩) (fun _ _ => False) ⟨hp, g, d, tk, os⟩ := by
      unfold Builtin.ObjectAttr.takesStores specialOf
      refine wpAny_bind (wpAny_bind (wpAny_of_eq (a := Value.type "method_descriptor") PySem.F.type_list_append (wpAny_of_eq f3 ?_)))
      rw [if_neg (by simp)]
      refine wpAny_bind (wpAny_bind (wpAny_of_eq (a := Value.type "method_descriptor") PySem.F.type_list_append (wpAny_of_eq f4 ?_)))
      exact wpAny_pure ⟨rfl, rfl⟩
    refine wpAny_bind (wpAny_bind (wpAny_mono tk1 (fun b s' hb => ?_) fun _ _ y => y.elim))
    obtain ⟨rfl, rfl⟩ := hb
    rw [if_neg Bool.false_ne_true]
    refine wpAny_pure ?_
    unfold Builtin.ObjectAttr.ownThenClass
    show wpAny (model prog w) A.in1 (do
      match ← Builtin.ObjectAttr.inOwnDict (PySem.Str.ofString "append") (.ref a) with
      | some v => do
        rule "getattr.instance-dict"
        pure (Builtin.ObjectAttr.Found.value v)
      | none => do
        Builtin.ObjectAttr.copiedAttributeGuard (PySem.Str.ofString "append") (.ref a)
        Builtin.ObjectAttr.byTheClass (some (.builtin "list.append")) (some (.builtin "method_descriptor.__get__"))) _ _ _
    refine wpAny_bind ?_
    unfold Builtin.ObjectAttr.inOwnDict Builtin.ObjectAttr.ownDict
    refine wpAny_bind (wpAny_bind (wpAny_loadPart hx ?_))
    show wpAny (model prog w) A.in1 (instanceDict a false) _ _ _
    unfold instanceDict
    refine wpAny_bind (wpAny_loadPart hx ?_)
    refine wpAny_pure (wpAny_pure ?_)
    have hcg : Builtin.ObjectAttr.copiedAttributeGuard (PySem.Str.ofString "append") (.ref a) = pure () := by
      unfold Builtin.ObjectAttr.copiedAttributeGuard
      exact if_neg (by decide)
    refine wpAny_bind (wpAny_of_eq hcg ?_)
    refine wpAny_bind (wpAny_rule (wpAny_pure ?_))
    show wpAny (model prog w) A.in1 (Builtin.ObjectAttr.bindTo (.builtin "method_descriptor.__get__") (.builtin "list.append") (.ref a) (.type "list")) _ _ _
    unfold Builtin.ObjectAttr.bindTo
    dsimp only
    refine wpAny_bind (wpAny_holding (wpAny_call_entry md_slot_get PySem.F.type_list_append md_entry (run_mdget hx rfl ⟨_, rfl, wpAny_pure ?_⟩) (md_args _ _ _)))
    exact ⟨_, rfl, hs⟩
section
variable {prog : Program} {w : World} {A : Around} {E : Value → Shared → Prop} {s : Shared}
theorem getAttr_append {a : Addr} {xs : Array Value} {k : Nat} {Q : Value → Shared → Prop} (hx : s.heap.get? a = some { cls := .type "list", dict := none, data := .seq xs k, slots := #[] })
    (h : Q (.ref s.heap.objs.size) { s with heap := s.heap.push (bmObj "list.append" (.ref a)), toks := s.toks + 1 }) : wpAny (model prog w) A (getAttr (.ref a) "append" true) Q E s := by
  obtain ⟨hp, g, d, tk, os⟩ := s
  have hT : ∀ tk', (⟨hp, g, d, tk', os⟩ : Shared).TypeIs (.ref a) "list" := fun _ => ⟨_, hx, rfl⟩
  have f3 := F.slot_list_getattribute.lookup
  have f4 := F.slot_list_getattribute.bind (.ref a)
  have f5 := am_list_getattr_none
  unfold getAttr getAttrBy
  repeat (any_goals (first | assumption | exact hT _ | ((with_reducible show wpAny _ _ (call (Value.builtin "list.__getattribute__") _ _) _ _ _); refine call_meets F.slot_list_getattribute (hT _) am_entry_list_getattribute (F.args_list_getattribute_2 _ _) (meets_append a xs k _) ⟨hx, ?_⟩) | wp_step))
  show wpAny (model prog w) A (handedOut (.ref hp.objs.size)) Q E _
  exact wpAny_of_eq (a := Value.ref hp.objs.size) rfl h
theorem sig_append : Manifest.signature? "list.append" = some ⟨.oneArg, "list.append", "append", .self, [⟨"object", .posOnly, true⟩]⟩ := by first | rfl | kernel_rfl
theorem varargs_append : Manifest.varargsMethods.contains "list.append" = false := by decide +kernel
theorem check_append {M : Model} {a : Addr} {v : Value} {o : Obj} {Q : Unit → Shared → Prop} (ho : s.heap.get? a = some o) (hc : o.cls = .type "list") (hd : ∀ c, o.data ≠ .cls c) (h : Q () s) : wpAny M A (checkBoundCall "list.append" ⟨[.ref a, v], []⟩) Q E s := by
  unfold checkBoundCall
  rw [sig_append]
  dsimp only
  rw [kind_la]
  dsimp only
  rw [if_neg (by decide)]
  refine wpAny_bind (wpAny_isInstance (b := false) (T := "list") ⟨_, ho, hc⟩ (by rw [isSubtype_type]; kernel_rfl) ?_)
  rw [varargs_append]
  rw [if_neg (by decide)]
  have h1 : wpAny M A (isType (.ref a)) (fun b s' => b = false ∧ s' = s) E s := by
    unfold isType
    refine wpAny_bind (wpAny_loadPart ho ?_)
    cases e : o.data <;> first | exact wpAny_pure ⟨rfl, rfl⟩ | exact absurd e (hd _)
  refine wpAny_bind (wpAny_mono h1 (fun b s' hb => ?_) fun _ _ y => y)
  obtain ⟨rfl, rfl⟩ := hb
  rw [if_neg (by decide)]
  refine wpAny_bind (wpAny_typeOf (T := "list") ⟨_, ho, hc⟩ ?_)
  exact wpAny_of_eq (a := ()) (by first | rfl | kernel_rfl) h
theorem quiet_append {as : Args} : (Code.builtin "list.append" as).quiet = true := Code.quiet_builtin _ (by decide +kernel)
theorem call_bm {a m : Addr} {v : Value} {xs : Array Value} {k : Nat} {Q : Value → Shared → Prop} (hm : s.heap.get? m = some (bmObj "list.append" (.ref a))) (ho : s.heap.get? a = some { cls := .type "list", data := .seq xs k })
    (h : ∀ h', h'.get? a = some { cls := .type "list", data := .seq (xs.push v) (k + 1) } → Heap.SameBut a s.heap h' → Q .none { s with heap := h' }) (hsz : xs.size ≤ sizeLine) : wpAny (model prog w) A (call (.ref m) [v]) Q E s := by
  refine wpAny_call (codeAny_of_tree ?_)
  show wpAny _ A.in1 (callAny (.ref m) ⟨[v], []⟩) _ _ s
  simp only [callAny]
  refine wpAny_bind (wpAny_load hm ?_)
  simp only [show (Value.type "builtin_function_or_method" == Value.type "method" || Value.type "builtin_function_or_method" == Value.type "builtin_function_or_method" || Value.type "builtin_function_or_method" == Value.type "method-wrapper") = true by decide, if_true]
  refine KFB.if_so (by decide) ?_
  refine wpAny_bind (check_append ho rfl (by intro c; simp) ?_)
  refine wpAny_bind (wpAny_pure (wpAny_pure ?_))
  refine ⟨quiet_append, codeAny_builtin PySem.F.entry_list_append ?_⟩
  show wpAny _ _ (updateSeq a (·.push v) >>= fun _ => ret .none) _ _ s
  refine wpAny_bind ?_
  refine wpAny_updateSeq ho rfl (wpAny_pure (h _ ?_ (Heap.SameBut.update ..)))
  rw [Heap.get?_update_self _ ho (by rw [Obj.mapSeq_push_plain]; rfl), Obj.mapSeq_push_plain]
end
section
variable {g : G} {f : Fm} {ρ : Loc} {σ : Sto}
theorem alloc_app {s : Shared} {a : Addr} {tk : Nat} (hS : St g f s ρ σ) :
    St g f { s with heap := s.heap.push (bmObj "list.append" (.ref a)), toks := tk } ρ σ ∧ Rd (s.heap.push (bmObj "list.append" (.ref a))) (own σ) (.ref s.heap.objs.size) (.app a) ∧ Step g f.vol σ s { s with heap := s.heap.push (bmObj "list.append" (.ref a)), toks := tk } σ :=
  ⟨hS.grow (push_keeps _ _) (push_size _ _) _, .app _ _ (Heap.get?_push_size _ rfl), .grow (push_keeps _ _) (push_size _ _) _⟩
theorem WE_bound {x : Str} {xp pos : Pos} {a : Addr} {ds : List D} {Q : D → Sto → Prop} (hx : ρ.lookup x = some (.val (.ref a))) (ha : (a, ds) ∈ σ) (h : Q (.app a) σ)
    (he : eval (.Attribute (.Name x xp) "append" pos) f.env = (do let o ← eval (.Name x xp) f.env; standAt pos.atName; let r ← holding [o] (getAttr o "append" true); letTemporaryGo (.Name x xp) o r; pure r) := by with_unfolding_all rfl)
    (hd : ((x == ("__debug__" : Str)) || (x == ("__classdict__" : Str))) = false := by decide) : WE g f (.Attribute (.Name x xp) "append" pos) ρ σ Q :=
  fun A s Q' hA hS post => PyProof.Rows.Attribute_Name_ (WE_var (Q := fun d σ₁ => d = D.val (.ref a) ∧ σ₁ = σ) hx ⟨rfl, rfl⟩ hd A s _ hA hS fun v d s₁ σ₁ q S₁ r₁ p₁ => by
    obtain ⟨rfl, rfl⟩ := q
    obtain rfl := r₁.valE
    obtain ⟨vs, n, e, rl, _⟩ := S₁.base.cells a ds ha
    obtain ⟨a1, a2, a3⟩ := alloc_app (a := a) (tk := s₁.toks + 1) S₁
    exact getAttr_append e (post _ _ _ _ h a1 a2 (p₁.trans a3))) he
theorem callWith_app {M : Model} {A : Around} {E : Value → Shared → Prop} {s : Shared} {pos : Pos} {m : Addr} {self : Value} {args : List (Bool × Sem Value)} {x : Sem Value} {rest : List (Bool × Sem Value)} {Q : Value → Shared → Prop} (hargs : args = (false, x) :: rest) (hplain : args.any (·.1) = false)
    (h : wpAny M A (spliced args) (fun vs s₁ => s₁.heap.get? m = some (bmObj "list.append" self) ∧ wpAny M A (call (.ref m) vs) Q E s₁) E s) : wpAny M A (callWith pos (.ref m) [] args []) Q E s := by
  subst hargs
  unfold callWith
  refine wpAny_bind (wpAny_holding (wpAny_mono (evalArgs_plain (Q := fun x s₁ => s₁.heap.get? m = some (bmObj "list.append" self) ∧ wpAny M A (call (.ref m) ([] ++ x.pos) x.kw) Q E s₁) h) (fun x s₁ h₁ => wpAny_bind (wpAny_standAt ?_)) fun _ _ x => x))
  obtain ⟨ho, hcall⟩ := h₁
  simp only [hplain, List.any_nil, Bool.or_false]
  refine wpAny_bind (m := keeperOf (.ref m)) ?_
  unfold keeperOf
  refine wpAny_bind (wpAny_load ho ?_)
  simp only [show (Value.type "builtin_function_or_method" != Value.type "method") = true by decide, show (Value.type "builtin_function_or_method" == Value.type "builtin_function_or_method" || Value.type "builtin_function_or_method" == Value.type "method-wrapper") = true by decide, if_true]
  refine wpAny_pure ?_
  exact wpAny_bind (wpAny_mono hcall (fun r s₂ hr => wpAny_bind (wpAny_holding (wpAny_point (wpAny_pure hr)))) fun _ _ x => x)
theorem WE_CallApp {x : Str} {np pos : Pos} {a : Addr} {e : Expr} {Q : D → Sto → Prop} (hx : ρ.lookup x = some (.app a))
    (h : WE g f e ρ σ (KAp2 a Q))
    (hd : ((x == ("__debug__" : Str)) || (x == ("__classdict__" : Str))) = false := by decide)
    (he : starEach [e] f.env = (false, eval e f.env) :: starEach [] f.env := by with_unfolding_all rfl) : WE g f (.Call (.Name x np) [e] [] pos) ρ σ Q :=
  fun A s Q' hA hS post => by
    refine Call_ ?_ rfl
    refine WE_var (Q := fun d σ₁ => d = D.app a ∧ σ₁ = σ) hx ⟨rfl, rfl⟩ hd A s _ hA hS fun v d s₁ σ₁ q S₁ r₁ p₁ => ?_
    obtain ⟨rfl, rfl⟩ := q
    obtain ⟨m, rfl, hm⟩ := r₁.appE
    refine callWith_app (self := .ref a) (by rw [he]; rfl) (by rw [he]; rfl) ?_
    refine WL_cons (Q := fun ds σ₂ => ∃ d l₁ l₂ es, ds = [d] ∧ σ₂ = l₁ ++ (a, es) :: l₂ ∧ es.length ≤ sizeLine ∧ Q .none (l₁ ++ (a, es ++ [d]) :: l₂)) (h.mono fun d σ₂ ⟨l₁, l₂, es, e1, hl, q⟩ => WL_nil ⟨d, l₁, l₂, es, rfl, e1, hl, q⟩) he A s₁ _ hA S₁ fun vs ds s₂ σ₂ q₂ S₂ r₂ p₂ => ?_
    obtain ⟨d, l₁, l₂, es, rfl, rfl, hl, q⟩ := q₂
    obtain ⟨v, us, rfl, rv, r3⟩ := r₂.consE
    obtain rfl := r3.nilE
    have r₁' := r₁.step S₁.vols' S₁.base p₂
    obtain ⟨m', em, hm'⟩ := r₁'.appE
    cases em
    refine ⟨hm', ?_⟩
    obtain ⟨ws, n, ea, rl, _⟩ := S₂.base.cells a es (by simp)
    refine call_bm hm' ea (fun h' e' hs => ?_) (by rw [List.size_toArray, rl.length]; exact hl)
    obtain ⟨a1, a2⟩ := S₂.turn (tk := s₂.toks) (vs := ws ++ [v]) (n := n + 1) (es := es ++ [d]) hs (by rw [e']; simp) (rl.append (.cons rv .nil))
    exact post _ _ _ _ q a1 .none ((p₁.trans p₂).trans a2)
end
end
-- Fw16
section
open PySem PySem.W PyProof.Rows PySem.Calls PySem.F
inductive Frz (c : Addr) (ds : List D) : D → D → Prop
  | same (d : D) : Frz c ds d d
  | here : Frz c ds (.val (.ref c)) (.lst ds)
inductive FrzL (c : Addr) (ds : List D) : List D → List D → Prop
  | nil : FrzL c ds [] []
  | cons {d d' : D} {l l' : List D} : Frz c ds d d' → FrzL c ds l l' → FrzL c ds (d :: l) (d' :: l')
inductive FrzS (c : Addr) (ds : List D) : Sto → Sto → Prop
  | nil : FrzS c ds [] []
  | cons {a : Addr} {l l' : List D} {σ σ' : Sto} : FrzL c ds l l' → FrzS c ds σ σ' → FrzS c ds ((a, l) :: σ) ((a, l') :: σ')
theorem FrzL.refl {c : Addr} {ds : List D} : ∀ l, FrzL c ds l l
  | [] => .nil
  | d :: l => .cons (.same d) (.refl l)
theorem FrzS.refl {c : Addr} {ds : List D} : ∀ l, FrzS c ds l l
  | [] => .nil
  | (a, l) :: σ => .cons (.refl l) (.refl σ)
theorem FrzL.snoc {c : Addr} {ds : List D} {d d' : D} (h : Frz c ds d d') : ∀ l, FrzL c ds (l ++ [d]) (l ++ [d'])
  | [] => .cons h .nil
  | e :: l => .cons (.same e) (.snoc h l)
theorem FrzS.fst {c : Addr} {ds : List D} : ∀ {σ σ'}, FrzS c ds σ σ' → σ'.map Prod.fst = σ.map Prod.fst
  | _, _, .nil => rfl
  | _, _, .cons _ r => by simp [r.fst]
theorem FrzS.mem {c : Addr} {ds : List D} {a : Addr} {l' : List D} : ∀ {σ σ'}, FrzS c ds σ σ' → (a, l') ∈ σ' → ∃ l, (a, l) ∈ σ ∧ FrzL c ds l l'
  | _, _, .nil, h => by cases h
  | _, _, .cons q r, h => (List.mem_cons.mp h).elim (fun e => by cases e; exact ⟨_, List.mem_cons_self, q⟩) fun e => let ⟨l, a, b⟩ := r.mem e; ⟨l, List.mem_cons_of_mem _ a, b⟩
noncomputable def SubF (c : Addr) (ds : List D) (ρ' ρ : Loc) : Prop := ∀ x d', ρ'.lookup x = some d' → ∃ d, ρ.lookup x = some d ∧ Frz c ds d d'
theorem SubF.refl {c : Addr} {ds : List D} {ρ : Loc} : SubF c ds ρ ρ := fun x d h => ⟨d, h, .same d⟩
theorem SubF.nil {c : Addr} {ds : List D} {ρ : Loc} : SubF c ds [] ρ := fun x d h => by cases h
theorem SubF.cons {c : Addr} {ds : List D} {x : Str} {d d' : D} {r ρ : Loc} (h : ρ.lookup x = some d) (hf : Frz c ds d d') (k : SubF c ds r ρ) : SubF c ds ((x, d') :: r) ρ := fun y e q => by
  rw [List.lookup_cons] at q
  cases z : y == x with
  | true => rw [z] at q; cases q; rw [beq_iff_eq.mp z]; exact ⟨d, h, hf⟩
  | false => rw [z] at q; exact k y e q
theorem SubF.cons1 {c : Addr} {ds : List D} {x : Str} {d : D} {r ρ : Loc} (h : ρ.lookup x = some d) (k : SubF c ds r ρ) : SubF c ds ((x, d) :: r) ρ := .cons h (.same d) k
theorem SubF.cons2 {c : Addr} {ds : List D} {x : Str} {r ρ : Loc} (h : ρ.lookup x = some (.val (.ref c))) (k : SubF c ds r ρ) : SubF c ds ((x, .lst ds) :: r) ρ := .cons h .here k
section
variable {g : G} {f : Fm} {ρ : Loc} {σ : Sto}
theorem Rd.frz {h : Heap} {o o' : Addr → Prop} {c : Addr} {vs : List Value} {n : Nat} {ds : List D} (e : h.get? c = some (listObj vs n)) (nc : ¬ o' c) (ho : ∀ b, o' b → o b) (rl : RdL h o' vs ds) {v : Value} {d d' : D}
    (r : Rd h o v d) (q : Frz c ds d d') : Rd h o' v d' := by
  cases q with
  | same => exact r.mono (fun _ _ e _ => e) fun b _ _ z => ho b z
  | here =>
    obtain rfl := r.valE
    exact .lst c vs n ds e nc rl
theorem RdL.frz {h : Heap} {o o' : Addr → Prop} {c : Addr} {vs : List Value} {n : Nat} {ds : List D} (e : h.get? c = some (listObj vs n)) (nc : ¬ o' c) (ho : ∀ b, o' b → o b) (rl : RdL h o' vs ds) : ∀ {us : List Value} {l l' : List D},
    RdL h o us l → FrzL c ds l l' → RdL h o' us l'
  | _, _, _, .nil, .nil => .nil
  | _, _, _, .cons a r, .cons q k => .cons (a.frz e nc ho rl q) (RdL.frz e nc ho rl r k)
theorem St.freeze {s : Shared} {c : Addr} {ds : List D} {l₁ l₂ l₁' l₂' : Sto} {ρ' : Loc} (hS : St g f s ρ (l₁ ++ (c, ds) :: l₂)) (h1 : FrzS c ds l₁ l₁') (h2 : FrzS c ds l₂ l₂') (hρ : SubF c ds ρ' ρ) : St g f s ρ' (l₁' ++ l₂') := by
  have fst : (l₁' ++ l₂').map Prod.fst = (l₁ ++ l₂).map Prod.fst := by rw [List.map_append, List.map_append, h1.fst, h2.fst]
  have ho : ∀ b, own (l₁' ++ l₂') b → own (l₁ ++ (c, ds) :: l₂) b := fun b h => by
    unfold own at *
    rw [fst] at h
    rw [List.map_append] at h
    rw [List.map_append, List.map_cons]
    exact (List.mem_append.mp h).elim (fun z => List.mem_append_left _ z) fun z => List.mem_append_right _ (List.mem_cons_of_mem _ z)
  have nd := hS.base.nodup
  rw [List.map_append, List.map_cons, List.nodup_append, List.nodup_cons] at nd
  have nc : ¬ own (l₁' ++ l₂') c := fun h => by
    unfold own at h
    rw [fst, List.map_append] at h
    exact (List.mem_append.mp h).elim (fun z => nd.2.2 c z c List.mem_cons_self rfl) nd.2.1.1
  obtain ⟨vs, n, e, rl, h0⟩ := hS.base.cells c ds (by simp)
  have rl' : RdL s.heap (own (l₁' ++ l₂')) vs ds := rl.mono (fun _ _ e _ => e) fun b _ _ z => ho b z
  refine ⟨⟨hS.base.ok, hS.base.keep0, fun a l' h => ?_, ?_, hS.base.tab, hS.base.gens⟩, hS.kind, hS.globals, hS.builtins, hS.vols, hS.loc, hS.ns, hS.cell, hS.apart, fun x d' h => ?_⟩
  · have : ∃ l, (a, l) ∈ l₁ ++ (c, ds) :: l₂ ∧ FrzL c ds l l' := by
      rcases List.mem_append.mp h with h | h
      · obtain ⟨l, q, k⟩ := h1.mem h; exact ⟨l, List.mem_append_left _ q, k⟩
      · obtain ⟨l, q, k⟩ := h2.mem h; exact ⟨l, List.mem_append_right _ (List.mem_cons_of_mem _ q), k⟩
    obtain ⟨l, q, k⟩ := this
    obtain ⟨us, m, e', r', z⟩ := hS.base.cells a l q
    exact ⟨us, m, e', RdL.frz e nc ho rl' r' k, z⟩
  · rw [fst, List.map_append, List.nodup_append]
    exact ⟨nd.1, nd.2.1.2, fun a ha b hb => nd.2.2 a ha b (List.mem_cons_of_mem _ hb)⟩
  · obtain ⟨d, q, k⟩ := hρ x d' h
    obtain ⟨v, V, r⟩ := hS.vars x d q
    exact ⟨v, V, r.frz e nc ho rl' k⟩
theorem own_freeze {c : Addr} {ds : List D} {l₁ l₂ l₁' l₂' : Sto} (h1 : FrzS c ds l₁ l₁') (h2 : FrzS c ds l₂ l₂') : ∀ b, own (l₁' ++ l₂') b → own (l₁ ++ (c, ds) :: l₂) b := fun b h => by
  unfold own at *
  rw [List.map_append, h1.fst, h2.fst] at h
  rw [List.map_append, List.map_cons]
  exact (List.mem_append.mp h).elim (fun z => List.mem_append_left _ z) fun z => List.mem_append_right _ (List.mem_cons_of_mem _ z)
structure Conv (g : G) (f : Fm) (ρ : Loc) (σ : Sto) (ρ' : Loc) (σ' : Sto) : Prop where
  st : ∀ s, St g f s ρ σ → St g f s ρ' σ'
  owned : ∀ b, own σ' b → own σ b
theorem Conv.ofSub {ρ' : Loc} (h : Sub ρ' ρ) : Conv g f ρ σ ρ' σ := ⟨fun s hS => hS.sub h, fun _ h => h⟩
theorem Conv.trans {ρ₁ ρ₂ ρ₃ : Loc} {σ₁ σ₂ σ₃ : Sto} (x : Conv g f ρ₁ σ₁ ρ₂ σ₂) (y : Conv g f ρ₂ σ₂ ρ₃ σ₃) : Conv g f ρ₁ σ₁ ρ₃ σ₃ := ⟨fun s hS => y.st s (x.st s hS), fun b h => x.owned b (y.owned b h)⟩
theorem Conv.top {c : Addr} {ds : List D} {ρ' : Loc} (hρ : SubF c ds ρ' ρ) : Conv g f ρ ((c, ds) :: σ) ρ' σ :=
  ⟨fun s hS => St.freeze (l₁ := []) (l₁' := []) hS .nil (.refl σ) hρ, own_freeze (l₁ := []) (l₁' := []) .nil (.refl σ)⟩
theorem Conv.last {c r : Addr} {ds l : List D} : Conv g f ρ ((r, l ++ [.val (.ref c)]) :: (c, ds) :: σ) ρ ((r, l ++ [.lst ds]) :: σ) :=
  ⟨fun s hS => St.freeze (l₁ := [(r, _)]) (l₁' := [(r, _)]) hS (.cons (.snoc .here l) .nil) (.refl σ) .refl, own_freeze (l₁ := [(r, _)]) (l₁' := [(r, _)]) (.cons (.snoc .here l) .nil) (.refl σ)⟩
theorem Conv.swap {p q : Addr × List D} : Conv g f ρ (p :: q :: σ) ρ (q :: p :: σ) := by
  have ho : ∀ b, own (p :: q :: σ) b ↔ own (q :: p :: σ) b := fun b => by unfold own; simp only [List.map_cons, List.mem_cons]; constructor <;> (rintro (h | h | h) <;> simp [h])
  refine ⟨fun s hS => ⟨⟨hS.base.ok, hS.base.keep0, fun a ds h => ?_, ?_, hS.base.tab, hS.base.gens⟩, hS.kind, hS.globals, hS.builtins, hS.vols, hS.loc, hS.ns, hS.cell, hS.apart, fun x d h => ?_⟩, fun b h => (ho b).mpr h⟩
  · obtain ⟨vs, n, e, r, z⟩ := hS.base.cells a ds (by simp only [List.mem_cons] at h ⊢; rcases h with h | h | h <;> simp [h])
    exact ⟨vs, n, e, r.mono (fun _ _ e _ => e) fun b _ _ z => (ho b).mpr z, z⟩
  · have := hS.base.nodup
    simp only [List.map_cons, List.nodup_cons, List.mem_cons, not_or] at this ⊢
    exact ⟨⟨fun e => this.1.1 e.symm, this.2.1⟩, this.1.2, this.2.2⟩
  · obtain ⟨v, V, r⟩ := hS.vars x d h
    exact ⟨v, V, r.mono (fun _ _ e _ => e) fun b _ _ z => (ho b).mpr z⟩
theorem Step.conv {vol : Addr → Prop} {s s' : Shared} {σ' σ₁ : Sto} (ho : ∀ b, own σ' b → own σ b) (p : Step g vol σ' s s' σ₁) : Step g vol σ s s' σ₁ :=
  ⟨fun b o e h1 h2 h3 => p.keep b o e h1 (fun h => h2 (ho b h)) h3, fun b h => (p.dom b h).imp (ho b) id, p.alive, p.os⟩
theorem TS_conv {α β : Type} {R : Heap → (Addr → Prop) → α → β → Prop} {t : Sem α} {ρ' : Loc} {σ' : Sto} {Q : β → Loc → Sto → Prop} (c : Conv g f ρ σ ρ' σ') (h : TS g f R t ρ' σ' Q) : TS g f R t ρ σ Q :=
  fun A s Q' hA hS post => h A s Q' hA (c.st s hS) fun a b s' ρ' σ' q S r p => post a b s' ρ' σ' q S r (p.conv c.owned)
theorem LW_conv {test : Expr} {body : List Stmt} {ρ' : Loc} {σ' : Sto} {Q : Fl → Loc → Sto → Prop} (c : Conv g f ρ σ ρ' σ') (h : LW g f test body ρ' σ' Q) : LW g f test body ρ σ Q :=
  fun A s R hA hS post => h A s R hA (c.st s hS) fun a b s' ρ' σ' q S r p => post a b s' ρ' σ' q S r (p.conv c.owned)
theorem Iter.conv {vol : Addr → Prop} {σ' : Sto} {h : Heap} {I : Addr} {items : List D} (ho : ∀ b, own σ' b → own σ b) (x : Iter g vol σ h I items) : Iter g vol σ' h I items := by
  obtain ⟨fp, n, P, St, i, X⟩ := x
  exact ⟨fp, n, P, St, i, X.walks, X.st, X.len, fun b hb => let ⟨a1, a2, a3, a4⟩ := X.away b hb; ⟨a1, fun h => a2 (ho b h), a3, a4⟩,
    fun j v d h1 h2 => (X.item j v d h1 h2).mono (fun _ _ e _ => e) fun b _ _ z => ho b z, X.kind, X.big⟩
theorem Step.conv2 {vol : Addr → Prop} {σ₀ σ' : Sto} {s s' : Shared} (ho : ∀ b, own σ' b → own σ b) (p : Step g vol σ₀ s s' σ) : Step g vol σ₀ s s' σ' :=
  ⟨p.keep, fun b h => p.dom b (ho b h), p.alive, p.os⟩
theorem FL_conv {target : Expr} {body : List Stmt} {items : List D} {ρ' : Loc} {σ' : Sto} {Q : Fl → Loc → Sto → Prop} (c : Conv g f ρ σ ρ' σ') (h : FL g f target body items ρ' σ' Q) : FL g f target body items ρ σ Q :=
  fun A I R σ₀ s₀ s hA hI post hS X p => h A I R σ₀ s₀ s hA hI post (c.st s hS) (X.conv c.owned) (p.conv2 c.owned)
end
end
-- Fw17
section
open PySem PySem.W PyProof.Rows PySem.Calls PySem.F
section
variable {g : G} {f : Fm} {ρ : Loc} {σ : Sto}
/-! ### the loop of a display -/
noncomputable abbrev testsOf (ifs : List Expr) (env : Env) : Sem Bool := forIn ifs true fun c r => if r = true then do let ok ← isTrue c env (eval c env); pure (ForInStep.yield ok) else pure (ForInStep.yield r)
noncomputable def WIf (g : G) (f : Fm) (ifs : List Expr) (ρ : Loc) (σ : Sto) (Q : Bool → Sto → Prop) : Prop := TE g f RB (testsOf ifs f.env) ρ σ Q
theorem WIf_nil {Q : Bool → Sto → Prop} (h : Q true σ) : WIf g f [] ρ σ Q := fun A s Q' hA hS post => wpAny_tests_nil (post _ _ _ _ h hS rfl .refl)
theorem WIf_one {c : Expr} {Q : Bool → Sto → Prop} (h : WT g f c ρ σ Q) : WIf g f [c] ρ σ Q := fun A s Q' hA hS post => wpAny_tests_one (h A s Q' hA hS post)
noncomputable def CL (g : G) (f : Fm) (elt target : Expr) (ifs : List Expr) (acc : Addr) (items : List D) (ρ : Loc) (σ : Sto) (Q : Sto → Prop) : Prop :=
  ∀ (iter : Expr) (scope : Scope) (pos : Pos) (A : Around) (I : Addr) (R : Result → Shared → Prop) (σ₀ : Sto) (s₀ s : Shared), AOk f.k A → s₀.heap.get? I = none →
    (∀ s' σ', Q σ' → St g f s' ρ σ' → Step g f.vol σ₀ s₀ s' σ' → R (.ok .next) s') →
    St g f s ρ σ → Iter g f.vol σ s.heap I items → Step g f.vol σ₀ s₀ s σ → codeAny (model g.prog g.w) A (.compLoop (.ListComp elt [⟨target, iter, ifs, 0⟩] scope pos) 0 (.ref I) (.ref acc) f.env) R s
theorem CL_nil {elt target : Expr} {ifs : List Expr} {acc : Addr} {Q : Sto → Prop} (h : Q σ) : CL g f elt target ifs acc [] ρ σ Q := by
  intro iter scope pos A I R σ₀ s₀ s hA hI post hS X p
  refine codeAny_of_tree ?_
  rw [show A.under (.compLoop (.ListComp elt [⟨target, iter, ifs, 0⟩] scope pos) 0 (.ref I) (.ref acc) f.env) = A from Around.under_of_weight rfl rfl]
  show wpAny _ A ((compTurn (.ListComp elt [⟨target, iter, ifs, 0⟩] scope pos) 0 (.ref I) (.ref acc) f.env).onRaise (fun x => do noteFrame x f.env; theTreesLotGoes x)) _ _ s
  refine wpAny_noted ?_
  refine wpAny_mono (Q := fun fin s' => match fin with | .done fl => R (.ok fl) s' | .again c' => c'.quiet = true ∧ codeAny (model g.prog g.w) A c' R s') (E := fun _ _ => False) ?_ (fun _ _ y => y) fun _ _ y => y.elim
  rw [compTurn_list]
  refine wpAny_bind (wpAny_standAt (wpAny_bind (Iter.done hA.1 hS X fun s' S' rr hk ho => ?_)))
  exact wpAny_pure (post _ _ h S' (p.draw hI hk ho))
noncomputable abbrev KC3 (g : G) (f : Fm) (elt target : Expr) (ifs : List Expr) (acc : Addr) (items : List D) (ρ : Loc) (Q : Sto → Prop) : D → Sto → Prop := fun e σ₃ => ∃ l₁ l₂ es, σ₃ = l₁ ++ (acc, es) :: l₂ ∧ es.length ≤ sizeLine ∧ CL g f elt target ifs acc items ρ (l₁ ++ (acc, es ++ [e]) :: l₂) Q
noncomputable abbrev KC2 (g : G) (f : Fm) (elt target : Expr) (ifs : List Expr) (acc : Addr) (items : List D) (ρ ρ₁ : Loc) (Q : Sto → Prop) : Bool → Sto → Prop := fun c σ₂ => if c = true then WE g f elt ρ₁ σ₂ (KC3 g f elt target ifs acc items ρ Q) else CL g f elt target ifs acc items ρ σ₂ Q
noncomputable abbrev KC1 (g : G) (f : Fm) (elt target : Expr) (ifs : List Expr) (acc : Addr) (items : List D) (ρ : Loc) (Q : Sto → Prop) : Loc → Sto → Prop := fun ρ₁ σ₁ => Sub ρ ρ₁ ∧ WIf g f ifs ρ₁ σ₁ (KC2 g f elt target ifs acc items ρ ρ₁ Q)
theorem CL_cons {elt target : Expr} {ifs : List Expr} {acc : Addr} {d : D} {items : List D} {Q : Sto → Prop}
    (h : OA g f target d ρ σ (KC1 g f elt target ifs acc items ρ Q)) : CL g f elt target ifs acc (d :: items) ρ σ Q := by
  intro iter scope pos A I R σ₀ s₀ s hA hI post hS X p
  refine codeAny_of_tree ?_
  rw [show A.under (.compLoop (.ListComp elt [⟨target, iter, ifs, 0⟩] scope pos) 0 (.ref I) (.ref acc) f.env) = A from Around.under_of_weight rfl rfl]
  show wpAny _ A ((compTurn (.ListComp elt [⟨target, iter, ifs, 0⟩] scope pos) 0 (.ref I) (.ref acc) f.env).onRaise (fun x => do noteFrame x f.env; theTreesLotGoes x)) _ _ s
  refine wpAny_noted ?_
  refine wpAny_mono (Q := fun fin s' => match fin with | .done fl => R (.ok fl) s' | .again c' => c'.quiet = true ∧ codeAny (model g.prog g.w) A c' R s') (E := fun _ _ => False) ?_ (fun _ _ y => y) fun _ _ y => y.elim
  rw [compTurn_list]
  refine wpAny_bind (wpAny_standAt (wpAny_bind (Iter.next hA.1 hS X fun v s₁ S₁ r₁ hk ho X₁ ⟨oI, hoI, lI⟩ => ?_)))
  have p₁ : Step g f.vol σ₀ s₀ s₁ σ := p.draw hI hk ho
  refine wpAny_bind (letOwned_ok hoI lI (wpAny_bind ?_))
  refine h A s₁ v _ hA S₁ r₁ fun s₂ ρ₂ σ₂ q₂ S₂ p₂ => wpAny_bind ?_
  have X₂ := X₁.step S₁.vols' S₁.base p₂
  obtain ⟨hsub, q₂⟩ := q₂
  refine q₂ A s₂ _ hA S₂ fun c c' s₃ σ₃ q₃ S₃ r₃ p₃ => ?_
  have X₃ := X₂.step S₂.vols' S₂.base p₃
  cases r₃
  cases c with
  | false => exact wpAny_pure ⟨rfl, q₃ iter scope pos A I R σ₀ s₀ s₃ hA hI post (S₃.sub hsub) X₃ ((p₁.trans p₂).trans p₃)⟩
  | true =>
    refine wpAny_bind (wpAny_bind ?_)
    refine q₃ A s₃ _ hA S₃ fun w e s₄ σ₄ q₄ S₄ r₄ p₄ => ?_
    have X₄ := X₃.step S₃.vols' S₃.base p₄
    obtain ⟨l₁, l₂, es, rfl, hl, q₄⟩ := q₄
    refine wpAny_bind ?_
    refine M_append (ρ := ρ₂) (f := f) hl (Q := fun d σ' => d = .none ∧ σ' = l₁ ++ (acc, es ++ [e]) :: l₂) ⟨rfl, rfl⟩ A s₄ [.ref acc, w] _ hA S₄ (.cons (.val _) (.cons r₄ .nil)) fun _ _ s₅ σ₅ q₅ S₅ _ p₅ => ?_
    obtain ⟨_, rfl⟩ := q₅
    have X₅ := X₄.step S₄.vols' S₄.base p₅
    exact wpAny_pure (wpAny_pure ⟨rfl, q₄ iter scope pos A I R σ₀ s₀ s₅ hA hI post (S₅.sub hsub) X₅ ((((p₁.trans p₂).trans p₃).trans p₄).trans p₅)⟩)
/-! ### the frame of a display -/
noncomputable def compFm (f : Fm) (scope : Scope) (cl : List (Str × Addr)) (C : Addr) : Fm := { env := compEnvC scope cl C f.env, vol := fun b => b = C ∨ ∃ n, (n, b) ∈ cl, k := f.k }
inductive ClOk (f : Fm) (ρc ρ : Loc) : List (Str × Addr) → Prop
  | nil : ClOk f ρc ρ []
  | cons {n : Str} {c : Addr} {r : List (Str × Addr)} : f.env.cells.lookup n = some c → f.env.kindOf n = some .cell → ρc.lookup n = ρ.lookup n → ClOk f ρc ρ r → ClOk f ρc ρ ((n, c) :: r)
theorem ClOk.mem {ρc ρ : Loc} {n : Str} {c : Addr} : ∀ {cl}, ClOk f ρc ρ cl → (n, c) ∈ cl → f.env.cells.lookup n = some c ∧ f.env.kindOf n = some .cell ∧ ρc.lookup n = ρ.lookup n
  | _, .nil, h => by cases h
  | _, .cons a b d r, h => (List.mem_cons.mp h).elim (fun e => by cases e; exact ⟨a, b, d⟩) fun e => r.mem e
structure CompOk (f : Fm) (scope : Scope) (cl : List (Str × Addr)) (ρc ρ : Loc) : Prop where
  clos : closureFor scope f.env = pure cl
  same : ClOk f ρc ρ cl
  names : (cl.map Prod.fst).Nodup
  cells : ((relabel scope f.env).names.all fun p => p.2 != .cell || (cl.lookup p.1).isSome) = true
  kinds : (ρc.all fun p => (cl.lookup p.1).isSome && (relabel scope f.env).names.lookup p.1 == some .cell) = true
  all : (cl.all fun p => (relabel scope f.env).names.lookup p.1 == some .cell) = true
  nocell : (scope.names.all fun p => p.2 != .cell) = true
  locals : (scope.names.all fun p => p.2 != .local || scope.names.lookup p.1 == some .local) = true
  kind : scope.kind = .function
theorem CompOk.cell {scope : Scope} {cl : List (Str × Addr)} {ρc : Loc} (h : CompOk f scope cl ρc ρ) {x : Str} (hx : (relabel scope f.env).names.lookup x = some .cell) : ∃ c, cl.lookup x = some c := by
  have := List.all_eq_true.mp h.cells _ (mem_of_lookup hx)
  simpa using Option.isSome_iff_exists.mp (by simpa using this)
theorem mem_lookup {α : Type} : ∀ {l : List (Str × α)} {n : Str} {a : α}, (l.map Prod.fst).Nodup → (n, a) ∈ l → l.lookup n = some a
  | (m, b) :: r, n, a, hn, h => by
    rw [List.map_cons, List.nodup_cons] at hn
    rw [List.lookup_cons]
    rcases List.mem_cons.mp h with e | e
    · cases e; simp
    · have : (n == m) = false := by
        rw [beq_eq_false_iff_ne]
        rintro rfl
        exact hn.1 (List.mem_map.mpr ⟨_, e, rfl⟩)
      rw [this]; exact mem_lookup hn.2 e
theorem CompOk.enter {s : Shared} {scope : Scope} {cl : List (Str × Addr)} {ρc : Loc} {C : Addr} (h : CompOk f scope cl ρc ρ) (hS : St g f s ρ σ) (hC : ∃ m, s.heap.Ns C m) (h0 : g.H0.get? C = none) : St g (compFm f scope cl C) s ρc σ where
  base := hS.base
  kind := h.kind
  globals := hS.globals
  builtins := hS.builtins
  vols := fun b hb => by
    rcases hb with rfl | ⟨n, hn⟩
    · exact ⟨h0, .inl hC⟩
    · obtain ⟨h1, h2, _⟩ := h.same.mem hn
      obtain ⟨c, h3, h4, v, h5⟩ := hS.cell n h2
      rw [h1] at h3; cases h3
      exact ⟨(hS.vols _ h4).1, .inr ⟨v, h5⟩⟩
  loc := .inl rfl
  ns := hC
  cell := fun x hx => by
    obtain ⟨c, hc⟩ := h.cell hx
    obtain ⟨h1, h2, _⟩ := h.same.mem (mem_of_lookup hc)
    obtain ⟨c', h3, h4, v, h5⟩ := hS.cell x h2
    rw [h1] at h3; cases h3
    exact ⟨c, hc, .inr ⟨x, mem_of_lookup hc⟩, v, h5⟩
  apart := by
    show cl.Pairwise _
    have key : ∀ l : List (Str × Addr), (∀ p ∈ l, p ∈ cl) → (l.map Prod.fst).Nodup → l.Pairwise fun x y => x.2 ≠ y.2 := by
      intro l
      induction l with
      | nil => intro _ _; exact .nil
      | cons p r ih =>
        intro hm hn
        rw [List.map_cons, List.nodup_cons] at hn
        refine .cons (fun q hq e => hn.1 ?_) (ih (fun p hp => hm p (List.mem_cons_of_mem _ hp)) hn.2)
        obtain ⟨n, c⟩ := p
        obtain ⟨m, c'⟩ := q
        have e : c = c' := e
        subst e
        have a1 := (h.same.mem (hm _ List.mem_cons_self)).1
        have a2 := (h.same.mem (hm _ (List.mem_cons_of_mem _ hq))).1
        have := name_of_addr hS.apart (mem_of_lookup a1) (mem_of_lookup a2)
        subst this
        exact List.mem_map.mpr ⟨_, hq, rfl⟩
    exact key cl (fun p hp => hp) h.names
  vars := fun x d hx => by
    have hk := List.all_eq_true.mp h.kinds _ (mem_of_lookup hx)
    simp only [Bool.and_eq_true, beq_iff_eq] at hk
    obtain ⟨c, hc⟩ := Option.isSome_iff_exists.mp hk.1
    obtain ⟨h1, h2, h3⟩ := h.same.mem (mem_of_lookup hc)
    obtain ⟨v, V, r⟩ := hS.vars x d (h3 ▸ hx)
    refine ⟨v, .inr ⟨.inl hk.2, c, hc, ?_⟩, r⟩
    rcases V with ⟨k, m, a, b⟩ | ⟨k, c', a, b⟩
    · rw [h2] at k; cases k
    · rw [h1] at a; cases a; exact b
theorem Rd.stepN {vol : Addr → Prop} {σ' : Sto} {s s' : Shared} (hv : ∀ b ob, s.heap.get? b = some ob → Fix (own σ) b ob → ¬ vol b) (B : Base g s σ) (S : Step g vol σ s s' σ') {v : Value} {d : D}
    (r : Rd s.heap (own σ) v d) : Rd s'.heap (own σ') v d := by
  refine r.mono (fun b ob e q => S.keep b ob e (hv b ob e q) ?_ ?_) fun b ob e q => ?_
  · intro ho
    obtain ⟨p, hp, rfl⟩ := List.mem_map.mp ho
    obtain ⟨vs, n, e', _⟩ := B.cells p.1 p.2 hp
    rw [e] at e'; cases e'
    exact q.free rfl ho
  · rintro rfl
    obtain ⟨ps, e', _⟩ := B.tab
    rw [e] at e'; cases e'; exact q.cls rfl
  · exact (S.dom b q).elim id fun h => by rw [h] at e; cases e
theorem CompOk.leave {s s' : Shared} {σ' : Sto} {scope : Scope} {cl : List (Str × Addr)} {ρc : Loc} {C : Addr} (h : CompOk f scope cl ρc ρ) (hS : St g f s ρ σ) (hC : ¬ f.vol C) (hCn : s.heap.get? C = none) (S' : St g (compFm f scope cl C) s' ρc σ') (p : Step g (compFm f scope cl C).vol σ s s' σ') : St g f s' ρ σ' := by
  have volin : ∀ n c, (n, c) ∈ cl → f.vol c := fun n c hc => by
    obtain ⟨h1, h2, _⟩ := h.same.mem hc
    obtain ⟨c', h3, h4, _⟩ := hS.cell n h2
    rw [h1] at h3; cases h3; exact h4
  have keep : ∀ b, ((∃ m, s.heap.Ns b m) ∨ ∃ v, s.heap.IsCell b v) → ¬ (compFm f scope cl C).vol b → ∀ o, s.heap.get? b = some o → s'.heap.get? b = some o := fun b hb hn o e => by
    refine p.keep b o e hn (fun ho => ?_) ?_
    · obtain ⟨vs, n, e'⟩ := big_own hS.base ho
      exact vol_ne_list hb e' rfl
    · obtain ⟨ps, e', _⟩ := hS.base.tab
      exact fun q => vol_ne_tab hb e' q.symm
  have locOut : ¬ (compFm f scope cl C).vol f.env.locals := by
    rintro (e | ⟨n, hn⟩)
    · exact hC (e ▸ hS.loc)
    · obtain ⟨h1, h2, _⟩ := h.same.mem hn
      obtain ⟨c', h3, h4, v, h5⟩ := hS.cell n h2
      rw [h1] at h3; cases h3
      obtain ⟨m, hm⟩ := hS.ns
      exact Ns_ne_cell hm h5 rfl
  have hns : ∀ {m}, s.heap.Ns f.env.locals m → s'.heap.Ns f.env.locals m := fun {m} x => by
    obtain ⟨o, es, ep, e, r⟩ := id x
    exact ⟨o, es, ep, keep _ (.inl ⟨m, x⟩) locOut o e, r⟩
  have hce : ∀ {b v}, ¬ (compFm f scope cl C).vol b → s.heap.IsCell b v → s'.heap.IsCell b v := fun {b v} hn x => by
    obtain ⟨o, e, r⟩ := id x
    exact ⟨o, keep _ (.inr ⟨v, x⟩) hn o e, r⟩
  have clcell : ∀ n c, (n, c) ∈ cl → (∃ v, s'.heap.IsCell c v) := fun n c hc => by
    obtain ⟨h1, h2, _⟩ := h.same.mem hc
    obtain ⟨c', h3, h4, v, o, ho, hd⟩ := hS.cell n h2
    rw [h1] at h3; cases h3
    have hk : (relabel scope f.env).names.lookup n = some .cell := by simpa using List.all_eq_true.mp h.all _ hc
    obtain ⟨c'', a1, a2, a3⟩ := S'.cell n hk
    have : cl.lookup n = some c'' := a1
    rw [mem_lookup h.names hc] at this
    cases this; exact a3
  have rdk : ∀ {v d}, Rd s.heap (own σ) v d → Rd s'.heap (own σ') v d := fun r => Rd.stepN (fun b ob e q hb => by
    rcases hb with rfl | ⟨n, hn⟩
    · rw [hCn] at e; cases e
    · exact q.not_vol e (hS.vols b (volin n b hn)).2) hS.base p r
  refine ⟨S'.base, hS.kind, hS.globals, hS.builtins, fun b hb => ⟨(hS.vols b hb).1, ?_⟩, hS.loc, ?_, fun x hx => ?_, hS.apart, fun x d hx => ?_⟩
  · by_cases hv : (compFm f scope cl C).vol b
    · rcases hv with rfl | ⟨n, hn⟩
      · exact absurd hb hC
      · exact .inr (clcell n b hn)
    · exact (hS.vols b hb).2.imp (fun ⟨m, x⟩ => ⟨m, by obtain ⟨o, es, ep, e, r⟩ := id x; exact ⟨o, es, ep, keep _ (.inl ⟨m, x⟩) hv o e, r⟩⟩) fun ⟨v, x⟩ => ⟨v, hce hv x⟩
  · obtain ⟨m, hm⟩ := hS.ns; exact ⟨m, hns hm⟩
  · obtain ⟨c, a, b, v, w⟩ := hS.cell x hx
    by_cases hv : (compFm f scope cl C).vol c
    · rcases hv with e | ⟨n, hn⟩
      · exact absurd (e ▸ b) hC
      · exact ⟨c, a, b, clcell n c hn⟩
    · exact ⟨c, a, b, v, hce hv w⟩
  · obtain ⟨v, V, r⟩ := hS.vars x d hx
    rcases V with ⟨k, m, a, b⟩ | ⟨k, c, a, b⟩
    · exact ⟨v, .inl ⟨k, m, hns a, b⟩, rdk r⟩
    · by_cases hv : (compFm f scope cl C).vol c
      · rcases hv with e | ⟨n, hn⟩
        · obtain ⟨o, ho, _⟩ := b
          rw [e, hCn] at ho; cases ho
        · obtain ⟨h1, h2, h3⟩ := h.same.mem hn
          have := name_of_addr hS.apart (mem_of_lookup h1) (mem_of_lookup a)
          subst this
          obtain ⟨v', V', r'⟩ := S'.vars n d (h3 ▸ hx)
          have hk : (relabel scope f.env).names.lookup n = some .cell := by simpa using List.all_eq_true.mp h.all _ hn
          rcases V' with ⟨k', m', a', b'⟩ | ⟨k', c', a', b'⟩
          · have k' : (relabel scope f.env).names.lookup n = some .local := k'
            rw [hk] at k'; cases k'
          · have a' : cl.lookup n = some c' := a'
            rw [mem_lookup h.names hn] at a'
            cases a'
            exact ⟨v', .inr ⟨k, c, a, b'⟩, r'⟩
      · exact ⟨v, .inr ⟨k, c, a, hce hv b⟩, rdk r⟩
end
end
-- Fw18
section
open PySem PySem.W PyProof.Rows PySem.Calls PySem.F
section
variable {g : G} {f : Fm} {ρ : Loc} {σ : Sto}
theorem St.skip {s : Shared} {h' : Heap} {C : Addr} (hS : St g f s ρ σ) (hC : ∃ m, s.heap.Ns C m) (h0 : g.H0.get? C = none) (hv : ¬ f.vol C) (hs : Heap.SameBut C s.heap h') : St g f { s with heap := h' } ρ σ ∧ (∀ v d, Rd s.heap (own σ) v d → Rd h' (own σ) v d) ∧
    (∀ σ₀ s₀, s₀.heap.get? C = none → Step g f.vol σ₀ s₀ s σ → Step g f.vol σ₀ s₀ { s with heap := h' } σ) := by
  have hb : (∃ m, s.heap.Ns C m) ∨ ∃ v, s.heap.IsCell C v := .inl hC
  have rr : ∀ {v d}, Rd s.heap (own σ) v d → Rd h' (own σ) v d := fun r => r.mono (fun c ob e q => (hs.2 c (vol_ne_fix hb e q)).trans e) fun _ _ _ q => q
  have loc : f.env.locals ≠ C := fun e => hv (e ▸ hS.loc)
  refine ⟨⟨hS.base.vol hb h0 hs _, hS.kind, hS.globals, hS.builtins, fun b h => ⟨(hS.vols b h).1, ?_⟩, hS.loc, ?_, fun y hy => ?_, hS.apart, fun y e he => ?_⟩, fun v d => rr, fun σ₀ s₀ hn p => ?_⟩
  · have q : b ≠ C := fun e => hv (e ▸ h)
    exact (hS.vols b h).2.imp (fun ⟨m, x⟩ => ⟨m, x.sameBut hs q⟩) fun ⟨v, x⟩ => ⟨v, x.sameBut hs q⟩
  · obtain ⟨m, hm⟩ := hS.ns; exact ⟨m, hm.sameBut hs loc⟩
  · obtain ⟨c, a, b, v, w⟩ := hS.cell y hy
    exact ⟨c, a, b, v, w.sameBut hs fun e => hv (e ▸ b)⟩
  · obtain ⟨u, V, w⟩ := hS.vars y e he
    refine ⟨u, ?_, rr w⟩
    rcases V with ⟨k, m', a, b⟩ | ⟨k, c, a, b⟩
    · exact .inl ⟨k, m', a.sameBut hs loc, b⟩
    · refine .inr ⟨k, c, a, b.sameBut hs fun e => ?_⟩
      obtain ⟨m, hm⟩ := hC
      exact Ns_ne_cell hm b e.symm
  · refine ⟨fun b o e h1 h2 h3 => ?_, p.dom, fun b o e => ?_, p.os⟩
    · have q : b ≠ C := fun z => by rw [z, hn] at e; cases e
      exact (hs.2 b q).trans (p.keep b o e h1 h2 h3)
    · by_cases q : b = C
      · rw [q, hn] at e; cases e
      · obtain ⟨o', e'⟩ := p.alive b o e
        exact ⟨o', (hs.2 b q).trans e'⟩
noncomputable abbrev KCd (QD : D → Sto → Prop) (acc : Addr) : Sto → Prop := fun σ' => ∃ ds σ'', σ' = (acc, ds) :: σ'' ∧ QD (.lst ds) σ''
noncomputable abbrev KC (g : G) (f : Fm) (scope : Scope) (cl : List (Str × Addr)) (elt target : Expr) (ifs : List Expr) (ρc : Loc) (QD : D → Sto → Prop) : D → Sto → Prop := fun d σ₁ => ∃ items, Draws d items ∧ ∀ C acc, ¬ own σ₁ acc → CL g (compFm f scope cl C) elt target ifs acc items ρc ((acc, []) :: σ₁) (KCd QD acc)
theorem comp_walk {A : Around} {s : Shared} {elt target iter : Expr} {ifs : List Expr} {scope : Scope} {pos p₁ : Pos} {cl : List (Str × Addr)} {ρc : Loc} {use : Option (Value → Sem Unit)} {E : Value → Shared → Prop} {QQ : Value → Shared → Prop} {QD : D → Sto → Prop}
    (hA : AOk f.k A) (hS : St g f s ρ σ) (hE : E = fun _ _ => False) (ok : CompOk f scope cl ρc ρ)
    (h : WE g f iter ρ σ (KC g f scope cl elt target ifs ρc QD))
    (fin : ∀ acc C s' d σ', QD d σ' → St g f s' ρ σ' → Rd s'.heap (own σ') (.ref acc) d → Step g f.vol σ s s' σ' → s.heap.get? C = none → ¬ f.vol C → g.H0.get? C = none → (∃ m, s'.heap.Ns C m) → compPost (model g.prog g.w) A E use QQ (.ref acc) C (.ok .next) s')
    (hs : ∀ x, foldedSetIterable iter f.env x = pure x := by with_unfolding_all (intro _; rfl)) :
    wpAny (model g.prog g.w) A (comprehension (.ListComp elt [⟨target, iter, ifs, 0⟩] scope pos) scope f.env p₁ (newList []) false (eval iter f.env) use) QQ E s := by
  subst hE
  refine wpAny_comprehension_free rfl hs ok.clos ok.kind (fun x hx hl => ?_) ?_
  · have := List.all_eq_true.mp ok.locals x hx
    simpa [hl] using this
  refine h A s _ hA hS fun v d s₁ σ₁ q S₁ r₁ q₁ => ?_
  obtain ⟨items, hd, q⟩ := q
  refine pyIter_ok S₁ r₁ hd fun I s₂ S₂ q₂' X₂ hI => ?_
  have q₂ := q₂' f.vol
  refine wpAny_newObj_type ?_
  obtain ⟨S₃, q₃, rr₃, nown⟩ := S₂.take (tk := s₂.toks) (vs := []) (n := 0) (ds := []) (push_keeps s₂.heap (listObj [] 0)) (Heap.get?_push_size _ rfl) (get_size _) .nil
  have X₃ : Iter g f.vol ((s₂.heap.objs.size, []) :: σ₁) (s₂.heap.push (listObj [] 0)) I items := X₂.step (s' := { s₂ with heap := s₂.heap.push (listObj [] 0), toks := s₂.toks }) S₂.vols' S₂.base q₃
  refine wpAny_newFunctionEnv (fun x hx => ?_) (by intro y hy; simp at hy) (fun h₄ hns₄ hsb₄ => ?_) ok.kind
  · have := List.all_eq_true.mp ok.nocell x hx
    simpa using this
  dsimp only at hns₄ hsb₄ ⊢
  generalize hH : s₂.heap.push { cls := .type "list", dict := none, data := .seq ([] : List Value).toArray } = H at hns₄ hsb₄ ⊢
  have hH' : s₂.heap.push (listObj [] 0) = H := hH
  rw [hH'] at S₃ q₃ X₃ rr₃
  have k4 : ∀ b o, H.get? b = some o → h₄.get? b = some o := fun b o e => (hsb₄.2 b (Nat.ne_of_lt (Heap.lt_size e))).trans (push_keeps _ _ b o e)
  have hsz4 : H.objs.size ≤ h₄.objs.size := by
    obtain ⟨o, e⟩ := Heap.Ns.get hns₄
    exact Nat.le_of_lt (Heap.lt_size e)
  have S₄ : St g f { s₂ with heap := h₄, toks := s₂.toks } ρ ((s₂.heap.objs.size, []) :: σ₁) := S₃.grow k4 hsz4 _
  have q₄ : Step g f.vol ((s₂.heap.objs.size, []) :: σ₁) { s₂ with heap := H, toks := s₂.toks } { s₂ with heap := h₄, toks := s₂.toks } ((s₂.heap.objs.size, []) :: σ₁) := .grow (s := { s₂ with heap := H, toks := s₂.toks }) k4 hsz4 _
  have hCvol : ¬ f.vol H.objs.size := fun q => by
    obtain ⟨o, e, _⟩ := vol_get (S₃.vols _ q).2
    exact absurd (Heap.lt_size e) (Nat.lt_irrefl _)
  have hC0 : g.H0.get? H.objs.size = none := by
    cases e : g.H0.get? H.objs.size with
    | none => rfl
    | some o => exact absurd (Heap.lt_size (S₃.base.keep0 _ o e)) (Nat.lt_irrefl _)
  have Sc := ok.enter S₄ ⟨_, hns₄⟩ hC0
  have step4 : Step g f.vol σ s { s₂ with heap := h₄, toks := s₂.toks } ((s₂.heap.objs.size, []) :: σ₁) := ((q₁.trans q₂).trans q₃).trans q₄
  have hCs : s.heap.get? H.objs.size = none := by
    cases e : s.heap.get? H.objs.size with
    | none => rfl
    | some o =>
      obtain ⟨o', e'⟩ := ((q₁.trans q₂).trans q₃).alive _ o e
      exact absurd (Heap.lt_size e') (Nat.lt_irrefl _)
  have volsub : ∀ b o, s.heap.get? b = some o → (compFm f scope cl H.objs.size).vol b → f.vol b := fun b o e hb => by
    rcases hb with rfl | ⟨n, hn⟩
    · rw [hCs] at e; cases e
    · obtain ⟨h1, h2, _⟩ := ok.same.mem hn
      obtain ⟨c', h3, h4, _⟩ := hS.cell n h2
      rw [h1] at h3; cases h3; exact h4
  have Xc : Iter g (compFm f scope cl H.objs.size).vol ((s₂.heap.objs.size, []) :: σ₁) h₄ I items := by
    obtain ⟨fp, n, P, Stt, i, X⟩ := X₃
    refine ⟨fp, n, P, Stt, i, X.walks, (X.walks callerA rfl).frame i _ _ X.st (fun b hb o e => k4 b o e), X.len, fun b hb => ?_, fun j v d h1 h2 => (X.item j v d h1 h2).mono (fun b ob e _ => k4 b ob e) fun _ _ _ q => q, X.kind, X.big⟩
    obtain ⟨a1, a2, a3, o, e⟩ := X.away b hb
    refine ⟨?_, a2, a3, o, k4 b o e⟩
    rintro (rfl | ⟨n, hn⟩)
    · exact absurd (Heap.lt_size e) (Nat.lt_irrefl _)
    · obtain ⟨h1, h2, _⟩ := ok.same.mem hn
      obtain ⟨c', h3, h4, _⟩ := hS.cell n h2
      rw [h1] at h3; cases h3; exact a1 h4
  have stepc : Step g (compFm f scope cl H.objs.size).vol σ₁ s₁ { s₂ with heap := h₄, toks := s₂.toks } ((s₂.heap.objs.size, []) :: σ₁) := by
    refine (q₂' _).trans ⟨fun b o e _ _ _ => k4 b o ?_, q₃.dom, fun b o e => ⟨o, k4 b o ?_⟩, rfl⟩
    · rw [← hH']; exact push_keeps _ _ b o e
    · rw [← hH']; exact push_keeps _ _ b o e
  have loop : ∀ s₅ : Shared, s₅ = { s₂ with heap := h₄, toks := s₂.toks } → codeAny (model g.prog g.w) A (.compLoop (.ListComp elt [⟨target, iter, ifs, 0⟩] scope pos) 0 (.ref I) (.ref s₂.heap.objs.size) (compEnvC scope cl H.objs.size f.env))
      (compPost (model g.prog g.w) A (fun _ _ => False) use QQ (.ref s₂.heap.objs.size) H.objs.size) s₅ := by
    rintro s₅ rfl
    refine q H.objs.size _ nown iter scope pos A I _ σ₁ s₁ _ hA hI (fun s₆ σ₆ q₆ S₆ p₆ => ?_) Sc Xc stepc
    obtain ⟨ds, σ'', rfl, qd⟩ := q₆
    have hC1 : s₁.heap.get? H.objs.size = none := by
      cases e : s₁.heap.get? H.objs.size with
      | none => rfl
      | some o =>
        obtain ⟨o', e'⟩ := (q₂.trans q₃).alive _ o e
        exact absurd (Heap.lt_size e') (Nat.lt_irrefl _)
    have S₇ := ok.leave S₁ hCvol hC1 S₆ p₆
    have step7 : Step g f.vol σ₁ s₁ s₆ ((s₂.heap.objs.size, ds) :: σ'') := ⟨fun b o e h1 h2 h3 => p₆.keep b o e (fun z => by
      rcases z with rfl | ⟨n, hn⟩
      · rw [hC1] at e; cases e
      · obtain ⟨z1, z2, _⟩ := ok.same.mem hn
        obtain ⟨c', z3, z4, _⟩ := hS.cell n z2
        rw [z1] at z3; cases z3; exact h1 z4) h2 h3, p₆.dom, p₆.alive, p₆.os⟩
    obtain ⟨vs, n, el, rl, _⟩ := S₇.base.cells _ ds List.mem_cons_self
    have nown' : ¬ own σ'' s₂.heap.objs.size := by
      have := S₇.base.nodup
      rw [List.map_cons, List.nodup_cons] at this; exact this.1
    have cv : Conv g f ρ ((s₂.heap.objs.size, ds) :: σ'') ρ σ'' := Conv.top .refl
    refine fin _ H.objs.size s₆ (.lst ds) σ'' qd (cv.st _ S₇) (.lst _ vs n ds el nown' (rl.mono (fun _ _ e _ => e) fun b _ _ z => cv.owned b z)) (q₁.trans (step7.conv2 cv.owned)) hCs hCvol hC0 S₆.ns
  exact codeAny_compStart_list (loop _ rfl) (by
    obtain ⟨fp, n, P, Stt, i, X⟩ := Xc
    exact (X.walks A hA.1).self i _ _ _ X.st (loop _ rfl))
theorem WE_ListComp {elt target iter : Expr} {ifs : List Expr} {scope : Scope} {pos : Pos} {cl : List (Str × Addr)} (ρc : Loc) {Q : D → Sto → Prop} (ok : CompOk f scope cl ρc ρ)
    (h : WE g f iter ρ σ (KC g f scope cl elt target ifs ρc Q))
    (hs : ∀ x, foldedSetIterable iter f.env x = pure x := by with_unfolding_all (intro _; rfl)) : WE g f (.ListComp elt [⟨target, iter, ifs, 0⟩] scope pos) ρ σ Q :=
  fun A s Q' hA hS post => by
    rw [eval_ListComp]
    refine comp_walk (use := none) hA hS rfl ok h (fun acc C s' d σ' qd S' r' p' hCs hCv hC0 hCn => ?_) hs
    obtain ⟨m, hm⟩ := hCn
    refine ⟨m, hm, fun h'' hs'' => ?_⟩
    obtain ⟨a1, a2, a3⟩ := S'.skip ⟨m, hm⟩ hC0 hCv hs''
    exact post _ _ _ _ qd a1 (a2 _ _ r') (a3 _ _ hCs p')
theorem WS_AssignComp {y : Str} {py spos : Pos} {elt target iter : Expr} {ifs : List Expr} {scope : Scope} {pos : Pos} {cl : List (Str × Addr)} (ρc : Loc) {Q : Fl → Loc → Sto → Prop} (ok : CompOk f scope cl ρc ρ)
    (h : WE g f iter ρ σ (KC g f scope cl elt target ifs ρc (KAs y ρ Q)))
    (hsw : swapsWith (.ListComp elt [⟨target, iter, ifs, 0⟩] scope pos) (some (.Name y py)) spos.line f.env = pure true := by with_unfolding_all rfl)
    (hy : f.env.kindOf y = some .local := by with_unfolding_all rfl)
    (hs : ∀ x, foldedSetIterable iter f.env x = pure x := by with_unfolding_all (intro _; rfl)) : WS g f (.Assign [.Name y py] (.ListComp elt [⟨target, iter, ifs, 0⟩] scope pos) spos) ρ σ Q :=
  fun A s Q' hA hS post => by
    rw [exec_Assign_Name_used _ _ _ _ hsw]
    refine wpAny_bind (wpAny_standAt (wpAny_bind ?_))
    show wpAny _ A (do let _ ← comprehension (.ListComp elt [⟨target, iter, ifs, 0⟩] scope pos) scope f.env _ (newList []) false (eval iter f.env) (some (assign (.Name y py) f.env))) _ _ s
    refine wpAny_bind (wpAny_mono (comp_walk (use := some (assign (.Name y py) f.env)) (QQ := fun _ s' => Q' .next s') (QD := fun d σ'' => ∃ ds, d = .lst ds ∧ Q .next (setL ρ y (.lst ds)) σ'') hA hS rfl ok
      (h.mono fun d σ₁ ⟨items, hd, k⟩ => ⟨items, hd, fun C acc hn => ?_⟩) (fun acc C s' d σ' qd S' r' p' hCs hCv hC0 hCn => ?_) hs) (fun _ s' hq => wpAny_pure (wpAny_pure hq)) fun _ _ e => e)
    · exact fun iter scope pos A I R σ₀ s₀ s hA hI post => k C acc hn iter scope pos A I R σ₀ s₀ s hA hI fun s' σ' ⟨ds, σ'', e, q⟩ => post s' σ' ⟨ds, σ'', e, ds, rfl, q⟩
    · obtain ⟨ds, rfl, q⟩ := qd
      show wpAny _ A (assign (.Name y py) f.env (.ref acc)) _ _ s'
      refine wpAny_assign_Name (store_ok S' r' (.inl hy) fun s₂ S₂ p₂ k₂ => ?_)
      obtain ⟨m, hm⟩ := hCn
      have hm₂ : s₂.heap.Ns C m := by
        obtain ⟨o, es, ep, e, r⟩ := id hm
        exact ⟨o, es, ep, k₂ _ o e hCv, r⟩
      refine ⟨m, hm₂, fun h'' hs'' => ?_⟩
      obtain ⟨a1, a2, a3⟩ := S₂.skip ⟨m, hm₂⟩ hC0 hCv hs''
      exact post _ _ _ _ _ q a1 .next (a3 _ _ hCs (p'.trans p₂))
end
end
-- Fw19
section
open PySem PySem.W PyProof.Rows PySem.Calls PySem.F PySem.SeqAt
noncomputable def isIn (y x : List Nat) : Bool := !(Builtin.Str.occurrences ⟨x.toArray⟩ ⟨y.toArray⟩ 0 (⟨x.toArray⟩ : Str).length 1).isEmpty
theorem isIn_one (c : Nat) (x : List Nat) : isIn [c] x = decide (c ∈ x) := StrLaws.found_one ⟨x.toArray⟩ c
theorem strbeq (a b : List Nat) : ((⟨a.toArray⟩ : Str) == ⟨b.toArray⟩) = decide (a = b) := by rw [beq_dec]; simp
noncomputable def strIs (c : List Nat) : Value → Bool
  | .str x _ => x == ⟨c.toArray⟩
  | _ => false
noncomputable def intIs (i : Int) : Value → Bool
  | .int j _ => j == i
  | _ => false
theorem or_dec {p q r : Prop} [Decidable p] [Decidable q] [Decidable r] (h : r ↔ p ∨ q) : (decide p || decide q) = decide r := by
  by_cases hp : p <;> by_cases hq : q <;> by_cases hr : r <;> simp_all
section
variable {g : G} {f : Fm} {ρ : Loc} {σ : Sto}
theorem O_inSS {y x : List Nat} {Q : D → Sto → Prop} (h : Q (.bool (isIn y x)) σ) : O2 g f Rd (compareOp .In) (.str y) (.str x) ρ σ Q := fun A s v u Q' hA hS r1 r2 post => by
  obtain ⟨t, rfl⟩ := r1.strE; obtain ⟨t', rfl⟩ := r2.strE
  exact PyProof.Rows.in_str (post _ _ _ _ h hS (.bool _) .refl)
theorem O_notInSS {y x : List Nat} {Q : D → Sto → Prop} (h : Q (.bool (!isIn y x)) σ) : O2 g f Rd (compareOp .NotIn) (.str y) (.str x) ρ σ Q := fun A s v u Q' hA hS r1 r2 post => by
  obtain ⟨t, rfl⟩ := r1.strE; obtain ⟨t', rfl⟩ := r2.strE
  exact PyProof.Rows.notIn_str (post _ _ _ _ h hS (.bool _) .refl)
theorem rdl_strs {h : Heap} {o : Addr → Prop} : ∀ {vs : List Value} {cs : List (List Nat)}, RdL h o vs (cs.map D.str) → (∀ y, y ∈ vs → ∃ x t, y = .str x t) ∧ ∀ c, vs.any (strIs c) = decide (c ∈ cs)
  | _, [], r => by
    obtain rfl := r.nilE
    exact ⟨fun y hy => (by cases hy), fun c => rfl⟩
  | _, x :: cs, r => by
    obtain ⟨v, us, rfl, a, q⟩ := RdL.consE (d := .str x) r
    obtain ⟨t, rfl⟩ := a.strE
    obtain ⟨h1, h2⟩ := rdl_strs q
    refine ⟨fun y hy => ?_, fun c => ?_⟩
    · rcases List.mem_cons.mp hy with rfl | hy
      · exact ⟨_, _, rfl⟩
      · exact h1 y hy
    · rw [List.any_cons, h2]
      show (((⟨x.toArray⟩ : Str) == ⟨c.toArray⟩) || _) = _
      rw [strbeq]; exact or_dec (by rw [List.mem_cons, eq_comm])
theorem rdl_ints {h : Heap} {o : Addr → Prop} : ∀ {vs : List Value} {cs : List Int}, RdL h o vs (cs.map D.int) → (∀ y, y ∈ vs → ∃ x t, y = .int x t) ∧ ∀ c, vs.any (intIs c) = decide (c ∈ cs)
  | _, [], r => by
    obtain rfl := r.nilE
    exact ⟨fun y hy => (by cases hy), fun c => rfl⟩
  | _, x :: cs, r => by
    obtain ⟨v, us, rfl, a, q⟩ := RdL.consE (d := .int x) r
    obtain ⟨t, rfl⟩ := a.intE
    obtain ⟨h1, h2⟩ := rdl_ints q
    refine ⟨fun y hy => ?_, fun c => ?_⟩
    · rcases List.mem_cons.mp hy with rfl | hy
      · exact ⟨_, _, rfl⟩
      · exact h1 y hy
    · rw [List.any_cons, h2]
      show ((x == c) || _) = _
      rw [beq_dec]; exact or_dec (by rw [List.mem_cons, eq_comm])
theorem O_inTS {c : List Nat} {cs : List (List Nat)} {ds : List D} (hd : ds = cs.map D.str) {Q : D → Sto → Prop} (h : Q (.bool (decide (c ∈ cs))) σ) : O2 g f Rd (compareOp .In) (.str c) (.tup ds) ρ σ Q := fun A s v u Q' hA hS r1 r2 post => by
  subst hd
  obtain ⟨t, rfl⟩ := r1.strE; obtain ⟨a, vs, n, rfl, e, rl⟩ := r2.tupE
  obtain ⟨h1, h2⟩ := rdl_strs rl
  refine in_tupleAt (items := vs.toArray) (strIs c) ⟨_, e, rfl, n, rfl⟩ (fun y hy => ?_) ?_
  · obtain ⟨x, t', rfl⟩ := h1 y (by simpa using hy)
    exact EqAt.str_str _ _ _ _
  · rw [List.any_toArray, h2]; exact post _ _ _ _ h hS (.bool _) .refl
theorem O_notInTS {c : List Nat} {cs : List (List Nat)} {ds : List D} (hd : ds = cs.map D.str) {Q : D → Sto → Prop} (h : Q (.bool (!decide (c ∈ cs))) σ) : O2 g f Rd (compareOp .NotIn) (.str c) (.tup ds) ρ σ Q := fun A s v u Q' hA hS r1 r2 post => by
  subst hd
  obtain ⟨t, rfl⟩ := r1.strE; obtain ⟨a, vs, n, rfl, e, rl⟩ := r2.tupE
  obtain ⟨h1, h2⟩ := rdl_strs rl
  refine notIn_tupleAt (items := vs.toArray) (strIs c) ⟨_, e, rfl, n, rfl⟩ (fun y hy => ?_) ?_
  · obtain ⟨x, t', rfl⟩ := h1 y (by simpa using hy)
    exact EqAt.str_str _ _ _ _
  · rw [List.any_toArray, h2]; exact post _ _ _ _ h hS (.bool _) .refl
theorem O_inTI {c : Int} {cs : List Int} {ds : List D} (hd : ds = cs.map D.int) {Q : D → Sto → Prop} (h : Q (.bool (decide (c ∈ cs))) σ) : O2 g f Rd (compareOp .In) (.int c) (.tup ds) ρ σ Q := fun A s v u Q' hA hS r1 r2 post => by
  subst hd
  obtain ⟨t, rfl⟩ := r1.intE; obtain ⟨a, vs, n, rfl, e, rl⟩ := r2.tupE
  obtain ⟨h1, h2⟩ := rdl_ints rl
  refine in_tupleAt (items := vs.toArray) (intIs c) ⟨_, e, rfl, n, rfl⟩ (fun y hy => ?_) ?_
  · obtain ⟨x, t', rfl⟩ := h1 y (by simpa using hy)
    exact EqAt.int_int _ _ _ _
  · rw [List.any_toArray, h2]; exact post _ _ _ _ h hS (.bool _) .refl
theorem AOk.units {k : Nat} {A : Around} (h : AOk k A) : A.units < cLine := by have := h.2.2; omega
theorem O_eqNil {ds : List D} {Q : D → Sto → Prop} (h : Q (.bool (decide (ds = []))) σ) : O2 g f Rd (compareOp .Eq) (.lst ds) (.lst []) ρ σ Q := fun A s v u Q' hA hS r1 r2 post => by
  obtain ⟨a, vs, n, rfl, e, no, rl⟩ := r1.lstE
  obtain ⟨b, us, m, rfl, e', no', rl'⟩ := r2.lstE
  obtain rfl := rl'.nilE
  cases ds with
  | nil =>
    obtain rfl := rl.nilE
    exact eq_listAt (items := #[]) (items2 := #[]) (e := fun _ => true) ⟨_, e, rfl, n, rfl⟩ ⟨_, e', rfl, m, rfl⟩ rfl hA.units (fun j h1 => absurd h1 (by simp)) (post _ _ _ _ h hS (.bool _) .refl)
  | cons d ds =>
    obtain ⟨w, ws, rfl, _, _⟩ := rl.consE
    exact eq_list_lengthsAt (items := (w :: ws).toArray) (items2 := #[]) ⟨_, e, rfl, n, rfl⟩ ⟨_, e', rfl, m, rfl⟩ (by simp) hA.units (post _ _ _ _ h hS (.bool _) .refl)
theorem rdl_vals {h : Heap} {o : Addr → Prop} : ∀ {vs : List Value} {us : List Value}, RdL h o vs (us.map D.val) → vs = us
  | _, [], r => r.nilE
  | _, x :: us, r => by
    obtain ⟨v, ws, rfl, a, q⟩ := RdL.consE (d := .val x) r
    rw [a.valE, rdl_vals q]
theorem rdl_int_at {h : Heap} {o : Addr → Prop} {vs : List Value} {is : List Int} (r : RdL h o vs (is.map D.int)) (j : Nat) (h1 : j < vs.length) : ∃ t, vs[j] = .int (is.getD j 0) t := by
  obtain ⟨d, e, q⟩ := r.get' j vs[j] (List.getElem?_eq_getElem h1)
  rw [List.getElem?_map] at e
  cases z : is[j]? with
  | none => rw [z] at e; cases e
  | some i =>
    rw [z] at e
    cases e
    obtain ⟨t, q⟩ := q.intE
    exact ⟨t, by rw [q, List.getD_eq_getElem?_getD, z]; rfl⟩
theorem O_neLI {is js : List Int} {ds es : List D} (hd : ds = is.map D.int) (he : es = js.map D.int) (hl : is.length = js.length) {Q : D → Sto → Prop} (h : Q (.bool (decide (is ≠ js))) σ) : O2 g f Rd (compareOp .NotEq) (.lst ds) (.lst es) ρ σ Q := fun A s v u Q' hA hS r1 r2 post => by
  subst hd; subst he
  obtain ⟨a, vs, n, rfl, e, no, rl⟩ := r1.lstE
  obtain ⟨b, us, m, rfl, e', no', rl'⟩ := r2.lstE
  have l1 : vs.length = is.length := by rw [rl.length]; simp
  have l2 : us.length = js.length := by rw [rl'.length]; simp
  refine RcNeAt.lists (items := vs.toArray) (items2 := us.toArray) (e := fun j => is.getD j 0 == js.getD j 0) ⟨_, e, rfl, n, rfl⟩ ⟨_, e', rfl, m, rfl⟩ (by simp [l1, l2, hl]) hA.units (fun j h1 h2 => ?_) g.prog g.w _ _ ?_
  · obtain ⟨t, q1⟩ := rdl_int_at rl j (by simpa using h1)
    obtain ⟨t', q2⟩ := rdl_int_at rl' j (by simpa using h2)
    simp only [List.getElem_toArray, q1, q2]
    exact EqAt.int_int _ _ _ _
  · have : (!(List.range vs.toArray.size).all fun j => is.getD j 0 == js.getD j 0) = decide (is ≠ js) := by
      rw [Bool.eq_iff_iff, decide_eq_true_eq, Bool.not_eq_true', ← Bool.not_eq_true, List.all_eq_true]
      refine not_congr ?_
      constructor
      · intro q
        apply List.ext_getElem hl
        intro i h1 h2
        have := q i (List.mem_range.mpr (by simp [l1]; exact h1))
        simpa [List.getD_eq_getElem?_getD, h1, h2] using this
      · rintro rfl j _; simp
    rw [this]; exact post _ _ _ _ h hS (.bool _) .refl
theorem O_neLV {us : List Value} {ds es : List D} (hd : ds = us.map D.val) (he : es = us.map D.val) {Q : D → Sto → Prop} (h : Q (.bool false) σ) : O2 g f Rd (compareOp .NotEq) (.lst ds) (.lst es) ρ σ Q := fun A s v u Q' hA hS r1 r2 post => by
  subst hd; subst he
  obtain ⟨a, vs, n, rfl, e, no, rl⟩ := r1.lstE
  obtain ⟨b, ws, m, rfl, e', no', rl'⟩ := r2.lstE
  obtain rfl := rdl_vals rl
  obtain rfl := rdl_vals rl'
  refine RcNeAt.lists (items := ws.toArray) (items2 := ws.toArray) (e := fun j => true) ⟨_, e, rfl, n, rfl⟩ ⟨_, e', rfl, m, rfl⟩ rfl hA.units (fun j h1 h2 => EqAt.same _) g.prog g.w _ _ ?_
  have : (!(List.range ws.toArray.size).all fun j => true) = false := by simp
  rw [this]; exact post _ _ _ _ h hS (.bool _) .refl
end
end
-- Fw20
section
open PySem PySem.W PyProof.Rows PySem.Calls PySem.F PySem.SeqAt
theorem lookup_object_new : typeLookup (.type "object") "__new__" = pure (some (.builtin "object.__new__")) := by rw [typeLookup_type, builtinLookup_eq_fast]; kernel_rfl
theorem called_object : TypeCalled "object" "object.__new__" "object.__init__" :=
  ⟨by decide +kernel, by decide +kernel, ⟨_, _, mro_object⟩, madeBy_type mro_object lookup_object_new (by decide +kernel), by decide +kernel, by rw [isSubtype_type]; kernel_rfl, slot_object_init⟩
noncomputable abbrev objObj : Obj := { cls := .type "object", data := .plain }
theorem meets_object_new : Meets (Builtin.«object.__new__» ⟨[.type "object"], []⟩) (fun _ R s => R (.ok (.ret (.ref s.heap.objs.size))) { s with heap := s.heap.push objObj }) :=
  Meets.of_wp fun prog w A R s hs => by
    have h1 : Bind.madeBy (.type "object") = pure (some "object.__new__") := called_object.made
    unfold Builtin.«object.__new__»
    repeat (any_goals (first | assumption | wp_step))
    exact ⟨_, rfl, hs⟩
theorem meets_object_init (o : Value) : Meets (Builtin.«object.__init__» ⟨[o], []⟩) (fun _ R s => R (.ok (.ret .none)) s) :=
  Meets.of_wp fun prog w A R s hs => wpAny_pure ⟨_, rfl, hs⟩
section
variable {prog : Program} {w : World} {A : Around} {E : Value → Shared → Prop} {s : Shared}
theorem call_object {Q : Value → Shared → Prop} (h : Q (.ref s.heap.objs.size) { s with heap := s.heap.push objObj }) : wpAny (model prog w) A (call (.type "object") []) Q E s :=
  callType_meets called_object (by kernel_rfl) (by kernel_rfl) F.entry_object_new F.entry_object_init meets_object_new (Q₁ := fun obj s₁ => s₁.TypeIs obj "object" ∧ Q obj s₁) ⟨⟨_, Heap.get?_push_size _ rfl, rfl⟩, h⟩
    fun obj s₁ ⟨hT, hq⟩ => ⟨hT, (by show argsOk _ _; unfold argsOk; kernel_rfl), _, meets_object_init obj, rfl, hq⟩
end
end
-- Fw21
section
open PySem PySem.W PyProof.Rows PySem.Calls PySem.F PySem.SeqAt
section
variable {g : G} {f : Fm} {ρ : Loc} {σ : Sto}
theorem WE_object {np pos : Pos} {Q : D → Sto → Prop} (hg : g.mg "object" = none) (h : ∀ x, Q (.val (.ref x)) σ)
    (hx : f.env.kindOf "object" = some .globalImplicit := by with_unfolding_all rfl) : WE g f (.Call (.Name "object" np) [] [] pos) ρ σ Q :=
  fun A s Q' hA hS post => by
    refine Call_ ?_ rfl
    refine Name_function_global hS.kind hx (loadGlobal_builtin (by rw [hS.globals]; exact hS.base.ok.gns.keeps hS.base.keep0) hg (by rw [hS.builtins]; exact hS.base.ok.bns.keeps hS.base.keep0) ((hS.base.ok.bi "object" (by decide)).trans rfl) ?_) (by decide)
    refine callWith_type0 ?_
    exact call_object (post _ _ _ _ (h _) (hS.grow (push_keeps _ _) (push_size _ _) _) (.val _) (.grow (push_keeps _ _) (push_size _ _) _))
/-! ### texts with marks -/
noncomputable def WJ (g : G) (f : Fm) (out : List Nat) (es : List Expr) (ρ : Loc) (σ : Sto) (Q : D → Sto → Prop) : Prop := TE g f Rd (joinParts ⟨out.toArray⟩ (evalEach es f.env)) ρ σ Q
theorem WJ_nil {out : List Nat} {Q : D → Sto → Prop} (hl : out.length ≤ sizeLine) (h : Q (.str out) σ) : WJ g f out [] ρ σ Q :=
  fun A s Q' hA hS post => joinParts_nil (post _ _ _ _ h (hS.tok _) (.str out _) (.tok _)) (by rw [strlen]; exact hl)
noncomputable abbrev KJ (g : G) (f : Fm) (out : List Nat) (es : List Expr) (ρ : Loc) (Q : D → Sto → Prop) : D → Sto → Prop := fun d σ₁ => ∃ y, d = .str y ∧ (out ++ y).length ≤ sizeLine ∧ WJ g f (out ++ y) es ρ σ₁ Q
noncomputable abbrev KFm (Q : D → Sto → Prop) : D → Sto → Prop := fun d σ₁ => ∃ y, d = .str y ∧ y.length ≤ sizeLine ∧ Q (.str y) σ₁
theorem WJ_cons {out : List Nat} {e : Expr} {es : List Expr} {Q : D → Sto → Prop} (h : WE g f e ρ σ (KJ g f out es ρ Q)) : WJ g f out (e :: es) ρ σ Q :=
  fun A s Q' hA hS post => joinParts_cons (x := eval e f.env) (rest := evalEach es f.env) (h A s _ hA hS fun v d s₁ σ₁ q S₁ r₁ p₁ => by
    obtain ⟨y, rfl, hl, q⟩ := q
    obtain ⟨t, rfl⟩ := r₁.strE
    refine ⟨by rw [strapp, strlen]; exact hl, ?_⟩
    rw [strapp]
    exact q A s₁ Q' hA S₁ fun a b s' σ' q' S' r' p' => post a b s' σ' q' S' r' (p₁.trans p'))
theorem WE_Joined {v₁ v₂ : Expr} {rest : List Expr} {pos : Pos} {Q : D → Sto → Prop} (h : WJ g f [] (v₁ :: v₂ :: rest) ρ σ Q) : WE g f (.JoinedStr (v₁ :: v₂ :: rest) pos) ρ σ Q :=
  fun A s Q' hA hS post => JoinedStr_many (h A s Q' hA hS post)
theorem WE_Formatted {e : Expr} {pos : Pos} {Q : D → Sto → Prop} (h : WE g f e ρ σ (KFm Q)) : WE g f (.FormattedValue e (-1) none pos) ρ σ Q :=
  fun A s Q' hA hS post => FormattedValue_plain (h A s _ hA hS fun v d s₁ σ₁ q S₁ r₁ p₁ => by
    obtain ⟨y, rfl, hl, q⟩ := q
    obtain ⟨t, rfl⟩ := r₁.strE
    exact formatField_str (fun t' tk => post _ _ _ _ q (S₁.tok tk) (.str y t') (p₁.trans (.tok tk))) (by rw [strlen]; exact hl))
/-! ### join, replace, find, isinstance, type, sum -/
noncomputable def joinS (sep : List Nat) (cs : List (List Nat)) : List Nat := (Txt.join ⟨sep.toArray⟩ (cs.map fun c => ⟨c.toArray⟩)).cps.toList
theorem rdl_strsAre {h : Heap} {o : Addr → Prop} : ∀ {vs : List Value} {cs : List (List Nat)}, RdL h o vs (cs.map D.str) → StrsAre vs (cs.map fun c => ⟨c.toArray⟩)
  | _, [], r => by rw [r.nilE]; exact .nil
  | _, x :: cs, r => by
    obtain ⟨v, ws, rfl, a, q⟩ := RdL.consE (d := .str x) r
    obtain ⟨t, rfl⟩ := a.strE
    exact .cons _ t (rdl_strsAre q)
theorem sum_len (cs : List (List Nat)) : ((cs.map fun c => (⟨c.toArray⟩ : Str)).map (·.length)).sum = (cs.map List.length).sum := by
  rw [List.map_map]; congr 1
theorem M_joinL {sep : List Nat} {cs : List (List Nat)} {ds : List D} (hd : ds = cs.map D.str) {Q : D → Sto → Prop} (hl : (cs.map List.length).sum + cs.length * sep.length ≤ 16777216) (h : Q (.str (joinS sep cs)) σ) :
    OL g f Rd (fun vs => call (.builtin "str.join") vs) [.str sep, .lst ds] ρ σ Q := fun A s vs Q' hA hS r post => by
  subst hd
  obtain ⟨v, us, rfl, r1, r2⟩ := r.consE
  obtain ⟨u, us, rfl, q2, r3⟩ := r2.consE
  obtain rfl := r3.nilE
  obtain ⟨t, rfl⟩ := r1.strE
  obtain ⟨a, ws, n, rfl, e, no, rl⟩ := q2.lstE
  exact join_list (items := ws.toArray) ⟨_, e, rfl, n, rfl⟩ (rdl_strsAre rl) (by rw [sum_len, List.length_map, strlen]; exact hl) fun t' k => post _ _ _ _ h (hS.tok k) (.str (joinS sep cs) t') (.tok k)
theorem M_joinOwn {sep : List Nat} {cs : List (List Nat)} {a : Addr} {ds : List D} (hm : (a, ds) ∈ σ) (hd : ds = cs.map D.str) {Q : D → Sto → Prop} (hl : (cs.map List.length).sum + cs.length * sep.length ≤ 16777216) (h : Q (.str (joinS sep cs)) σ) :
    OL g f Rd (fun vs => call (.builtin "str.join") vs) [.str sep, .val (.ref a)] ρ σ Q := fun A s vs Q' hA hS r post => by
  subst hd
  obtain ⟨v, us, rfl, r1, r2⟩ := r.consE
  obtain ⟨u, us, rfl, q2, r3⟩ := r2.consE
  obtain rfl := r3.nilE
  obtain ⟨t, rfl⟩ := r1.strE
  obtain rfl := q2.valE
  obtain ⟨ws, n, e, rl, _⟩ := hS.base.cells a _ hm
  exact join_list (items := ws.toArray) ⟨_, e, rfl, n, rfl⟩ (rdl_strsAre rl) (by rw [sum_len, List.length_map, strlen]; exact hl) fun t' k => post _ _ _ _ h (hS.tok k) (.str (joinS sep cs) t') (.tok k)
theorem joinS_nil (cs : List (List Nat)) : joinS [] cs = cs.flatten := by
  unfold joinS Txt.join Builtin.Str.glued
  have key : ∀ (l : List (List Nat)) (acc : Array Nat), ((l.map fun c => (⟨c.toArray⟩ : Str)).foldl (fun acc p => acc ++ (⟨([] : List Nat).toArray⟩ : Str).cps ++ p.cps) acc).toList = acc.toList ++ l.flatten := by
    intro l
    induction l with
    | nil => intro acc; simp
    | cons c l ih => intro acc; rw [List.map_cons, List.foldl_cons, ih]; simp
  cases cs with
  | nil => rfl
  | cons c l =>
    show (((l.map fun c => (⟨c.toArray⟩ : Str)).foldl _ _) : Array Nat).toList = _
    rw [key]; simp
noncomputable abbrev KJn2 (sep : List Nat) (Q : D → Sto → Prop) : D → Sto → Prop := fun de σ₂ => ∃ a ds cs, de = .val (.ref a) ∧ (a, ds) ∈ σ₂ ∧ ds = cs.map D.str ∧ (cs.map List.length).sum + cs.length * sep.length ≤ 16777216 ∧ Q (.str (joinS sep cs)) σ₂
noncomputable abbrev KJn (g : G) (f : Fm) (e : Expr) (ρ : Loc) (Q : D → Sto → Prop) : D → Sto → Prop := fun dv σ₁ => ∃ sep, dv = .str sep ∧ WE g f e ρ σ₁ (KJn2 sep Q)
theorem WE_joinOwn {o e : Expr} {apos pos : Pos} {Q : D → Sto → Prop} (h : WE g f o ρ σ (KJn g f e ρ Q))
    (hbase : attributeBase o (Str.ofString "join") f.env (eval o f.env) = eval o f.env := by with_unfolding_all rfl) (hline : (apos.endLine == pos.line) = true := by with_unfolding_all rfl)
    (hfew : ((backTo pos (starEach [e] f.env)).all (fun x => !x.1) && (backToKw pos (keywordEach [] f.env)).all (fun x => x.1.isSome) && decide ([e].length + ([] : List Keyword).length + (if ([] : List Keyword).isEmpty then 0 else 1) < 30)) = true := by with_unfolding_all rfl)
    (he : starEach [e] f.env = (false, eval e f.env) :: starEach [] f.env := by with_unfolding_all rfl) : WE g f (.Call (.Attribute o (Str.ofString "join") apos) [e] [] pos) ρ σ Q :=
  WE_Meth1 (h.mono fun dv σ₁ ⟨x, e1, q⟩ => ⟨"str", "str.join", plainAttrs_str, PySem.F.slot_str_join, PySem.F.type_str_join, e1 ▸ DTy_str, WL_cons (q.mono fun de σ₂ ⟨a, ds, cs, e2, hm, hd, hl, q⟩ => WL_nil (by subst e1; subst e2; exact M_joinOwn hm hd hl q)) he⟩) hbase hfew hline he rfl
theorem M_replace0 {x y z : List Nat} {Q : D → Sto → Prop} (hn : isIn y x = false) (h : Q (.str x) σ) : OL g f Rd (fun vs => call (.builtin "str.replace") vs) [.str x, .str y, .str z] ρ σ Q := fun A s vs Q' hA hS r post => by
  obtain ⟨v, us, rfl, r1, r2⟩ := r.consE
  obtain ⟨u, us, rfl, q2, r3⟩ := r2.consE
  obtain ⟨w, us, rfl, q3, r4⟩ := r3.consE
  obtain rfl := r4.nilE
  obtain ⟨t, rfl⟩ := r1.strE
  obtain ⟨t', rfl⟩ := q2.strE
  obtain ⟨t'', rfl⟩ := q3.strE
  have hc : ((Builtin.Str.occurrences ⟨x.toArray⟩ ⟨y.toArray⟩ 0 (⟨x.toArray⟩ : Str).length ((⟨x.toArray⟩ : Str).length + 1)).isEmpty || ((⟨y.toArray⟩ : Str).length == 0 && (⟨z.toArray⟩ : Str).length == 0)) = true := by
    rw [Bool.or_eq_true]; left
    rw [List.isEmpty_iff]
    refine PySem.W.occ_nil_of_no _ _ _ fun i hi => ?_
    cases hb : Builtin.Str.subAt ⟨x.toArray⟩ ⟨y.toArray⟩ i with
    | false => rfl
    | true =>
      have := (StrLaws.found_iff ⟨x.toArray⟩ ⟨y.toArray⟩).mpr ⟨i, hi, hb⟩
      unfold isIn at hn
      rw [this] at hn; cases hn
  refine call_gives PySem.F.slot_str_replace (typeIs_str _ _ _) PySem.F.entry_str_replace (PySem.F.args_str_replace_3 _ _ _) (gives_str_replace _ _ _ t t' t'' fun q => absurd (hc.symm.trans q) (by decide)) ?_
  rw [if_pos hc]
  exact post _ _ _ _ h hS (.str x t) .refl
end
end
-- Fw22
section
open PySem PySem.W PyProof.Rows PySem.Calls PySem.F PySem.SeqAt
noncomputable def EscTab (prog : Program) (w : World) (h : Heap) (d : Addr) (sp : Nat → Bool) : Prop :=
  (d == sysModules) = false ∧ ∃ f, h.MapOf (intKind prog w) d f ∧ ∀ c : Nat, if sp c = true then ∃ t, f (c : Int) = some (.str ⟨#[92, c]⟩ t) else f (c : Int) = none
section
variable {prog : Program} {w : World} {A : Around} {E : Value → Shared → Prop} {s : Shared}
theorem tableLookup_hit {d : Addr} {sp : Nat → Bool} {c : Nat} (hT : EscTab prog w s.heap d sp) (hc : sp c = true) {Q : Builtin.Str.Mapped → Shared → Prop} (h : ∀ tk, Q (.text ⟨#[92, c]⟩) { s with toks := tk }) :
    wpAny (model prog w) A (Builtin.Str.tableLookup (.ref d) c) Q E s := by
  obtain ⟨hd, f, hm, hf⟩ := hT
  have := hf c
  rw [if_pos hc] at this
  obtain ⟨t, ht⟩ := this
  unfold Builtin.Str.tableLookup
  refine wpAny_bind (wpAny_attempt (wpAny_bind (wpAny_mkInt ?_)))
  refine wpAny_getItem_of (s := { s with toks := s.toks + 1 }) (knd := intKind prog w) (k := (c : Int)) (f := f) (intKind_is prog w _ _) hm ht ?_
  dsimp only
  exact wpAny_bind (wpAny_pure (wpAny_bind (wpAny_pure (wpAny_pure (h _)))))
theorem tableLookup_miss {d : Addr} {sp : Nat → Bool} {c : Nat} (hh : A.handled = none) (hT : EscTab prog w s.heap d sp) (hc : sp c = false) {Q : Builtin.Str.Mapped → Shared → Prop} (h : ∀ h' tk, (∀ b o, s.heap.get? b = some o → h'.get? b = some o) → Q .keep { s with heap := h', toks := tk }) :
    wpAny (model prog w) A (Builtin.Str.tableLookup (.ref d) c) Q E s := by
  obtain ⟨hd, f, hm, hf⟩ := hT
  have := hf c
  rw [if_neg (by rw [hc]; exact Bool.false_ne_true)] at this
  unfold Builtin.Str.tableLookup
  refine wpAny_bind (wpAny_attempt (wpAny_bind (wpAny_mkInt ?_)))
  refine wpAny_getItem_missing_of (s := { s with toks := s.toks + 1 }) (knd := intKind prog w) (k := (c : Int)) (f := f) (intKind_is prog w _ _) hd hh hm this (fun h' e hx => ?_)
  dsimp only
  refine wpAny_bind (wpAny_isInstance (b := true) (T := "KeyError") ?_ (by rw [isSubtype_type]; kernel_rfl) ?_)
  · obtain ⟨ob, t', e1, e2, _⟩ := hx.there; exact ⟨ob, e1, e2⟩
  · rw [if_pos rfl]
    exact wpAny_bind (wpAny_rule (wpAny_pure (h _ _ hx.keeps)))
theorem translate_one {d : Addr} {sp : Nat → Bool} {c : Nat} {t : Tok} (hh : A.handled = none) (hT : EscTab prog w s.heap d sp) {Q : Value → Shared → Prop}
    (h : ∀ h' tk t', (∀ b o, s.heap.get? b = some o → h'.get? b = some o) → Q (.str ⟨(if sp c = true then [92, c] else [c]).toArray⟩ t') { s with heap := h', toks := tk }) :
    wpAny (model prog w) A (call (.builtin "str.translate") [.str ⟨#[c]⟩ t, .ref d]) Q E s := by
  refine wpAny_call_entry PySem.F.slot_str_translate rfl PySem.F.entry_str_translate ?_ (PySem.F.args_str_translate_2 _ _)
  unfold Builtin.«str.translate»
  refine wpAny_bind (wpAny_of_eq (a := (Value.str ⟨#[c]⟩ t, (⟨#[c]⟩ : PySem.Str), Value.ref d)) (by first | rfl | kernel_rfl) ?_)
  dsimp only
  rw [if_neg (by exact Bool.false_ne_true)]
  have e0 : (#[c] : Array Nat).all (fun x => decide (x < 128)) = decide (c < 128) := by simp
  rw [e0, show (#[c] : Array Nat) = [c].toArray from rfl, List.forIn_toArray]
  simp only [List.forIn_cons, List.forIn_nil]
  have tl0 : Builtin.Str.tooLong 0 = false := by decide
  have tl1 : Builtin.Str.tooLong 1 = false := by decide
  have tl2 : Builtin.Str.tooLong 2 = false := by decide
  have hT' : ∀ h', (∀ b o, s.heap.get? b = some o → h'.get? b = some o) → EscTab prog w h' d sp := fun h' hk => by
    obtain ⟨hd, f, ⟨o, es, ep, ho, r⟩, hf⟩ := hT
    exact ⟨hd, f, ⟨o, es, ep, hk _ _ ho, r⟩, hf⟩
  rw [tl0, if_neg Bool.false_ne_true]
  by_cases hsp : sp c = true
  · rw [if_pos hsp] at h
    have e2 : ∀ {α : Type} {a b : α}, (if ((({ cps := #[92, c] } : PySem.Str).length == 1 && ({ cps := #[92, c] } : PySem.Str).cps.all fun x => decide (x < 128)) = true) then a else b) = b := fun {α a b} => if_neg (by exact Bool.false_ne_true)
    have fin : ∀ (x : Bool × List (Nat × Option Nat)) (s' : Shared), (∃ h' tk, s' = { s with heap := h', toks := tk } ∧ ∀ b o, s.heap.get? b = some o → h'.get? b = some o) → wpAny (model prog w) A.in1 (pure (([({ cps := #[92, c] } : PySem.Str)], 0 + ({ cps := #[92, c] } : PySem.Str).length, x.1, x.2, false) : List PySem.Str × Nat × Bool × List (Nat × Option Nat) × Bool))
        (fun a s' => wpAny (model prog w) A.in1 (if Builtin.Str.tooLong a.2.1 = true then (do unsupported "str.translate:memory"; retStr ⟨a.1.reverse.foldl (fun acc p => acc ++ p.cps) #[]⟩) else retStr ⟨a.1.reverse.foldl (fun acc p => acc ++ p.cps) #[]⟩) (fun fin s' => ∃ v, fin = .done (.ret v) ∧ Q v s') E s') E s' := by
      rintro x s' ⟨h', tk, rfl, hk⟩
      refine wpAny_pure ?_
      show wpAny _ _ (if Builtin.Str.tooLong 2 = true then _ else _) _ _ _
      rw [tl2, if_neg Bool.false_ne_true]
      refine wpAny_bind (wpAny_mkStr (wpAny_pure ⟨_, rfl, ?_⟩) (by rw [sizeLine_eq]; exact (by decide : 2 ≤ 16777216)))
      exact h h' _ _ hk
    by_cases hc : c < 128
    · rw [if_pos (decide_eq_true hc)]
      refine wpAny_bind (wpAny_bind ?_)
      refine wpAny_bind (tableLookup_hit hT hsp fun tk => ?_)
      dsimp only
      rw [e2]
      refine wpAny_bind (wpAny_pure ?_)
      dsimp only
      refine wpAny_bind (wpAny_rule ?_)
      rw [if_neg Bool.false_ne_true]
      refine wpAny_bind (tableLookup_hit (s := { s with toks := tk }) (hT' _ fun _ _ e => e) hsp fun tk => ?_)
      dsimp only
      refine wpAny_pure ?_
      dsimp only
      exact fin (false, _) _ ⟨s.heap, tk, rfl, fun _ _ e => e⟩
    · rw [if_neg (by rw [decide_eq_false hc]; exact Bool.false_ne_true)]
      rw [if_neg Bool.false_ne_true]
      refine wpAny_bind (wpAny_bind (wpAny_bind (tableLookup_hit hT hsp fun tk => ?_)))
      dsimp only
      refine wpAny_pure ?_
      dsimp only
      exact fin (_, _) _ ⟨s.heap, tk, rfl, fun _ _ e => e⟩
  · have hsp : sp c = false := by simpa using hsp
    rw [if_neg (by rw [hsp]; exact Bool.false_ne_true)] at h
    have fin : ∀ (x : Bool × List (Nat × Option Nat)) (s' : Shared), (∃ h' tk, s' = { s with heap := h', toks := tk } ∧ ∀ b o, s.heap.get? b = some o → h'.get? b = some o) → wpAny (model prog w) A.in1 (pure (([({ cps := #[c] } : PySem.Str)], 0 + 1, x.1, x.2, false) : List PySem.Str × Nat × Bool × List (Nat × Option Nat) × Bool))
        (fun a s' => wpAny (model prog w) A.in1 (if Builtin.Str.tooLong a.2.1 = true then (do unsupported "str.translate:memory"; retStr ⟨a.1.reverse.foldl (fun acc p => acc ++ p.cps) #[]⟩) else retStr ⟨a.1.reverse.foldl (fun acc p => acc ++ p.cps) #[]⟩) (fun fin s' => ∃ v, fin = .done (.ret v) ∧ Q v s') E s') E s' := by
      rintro x s' ⟨h', tk, rfl, hk⟩
      refine wpAny_pure ?_
      show wpAny _ _ (if Builtin.Str.tooLong 1 = true then _ else _) _ _ _
      rw [tl1, if_neg Bool.false_ne_true]
      refine wpAny_bind (wpAny_mkStr (wpAny_pure ⟨_, rfl, ?_⟩) (by rw [sizeLine_eq]; exact (by decide : 1 ≤ 16777216)))
      exact h h' _ _ hk
    by_cases hc : c < 128
    · rw [if_pos (decide_eq_true hc)]
      refine wpAny_bind (wpAny_bind ?_)
      refine wpAny_bind (tableLookup_miss (show A.in1.handled = none from hh) hT hsp fun h' tk hk => ?_)
      dsimp only
      refine wpAny_bind (wpAny_pure ?_)
      dsimp only
      refine wpAny_pure ?_
      dsimp only
      exact fin (_, _) _ ⟨h', tk, rfl, hk⟩
    · rw [if_neg (by rw [decide_eq_false hc]; exact Bool.false_ne_true)]
      rw [if_neg Bool.false_ne_true]
      refine wpAny_bind (wpAny_bind (wpAny_bind (tableLookup_miss (show A.in1.handled = none from hh) hT hsp fun h' tk hk => ?_)))
      dsimp only
      refine wpAny_pure ?_
      dsimp only
      exact fin (_, _) _ ⟨h', tk, rfl, hk⟩
end
section
variable {g : G} {f : Fm} {ρ : Loc} {σ : Sto}
theorem made_st {s : Shared} {h' : Heap} {tk : Nat} (hS : St g f s ρ σ) (hk : ∀ b o, s.heap.get? b = some o → h'.get? b = some o) : St g f { s with heap := h', toks := tk } ρ σ ∧ Step g f.vol σ s { s with heap := h', toks := tk } σ :=
  ⟨(hS.iter (h' := h') (tk := tk) (fun b o e => hk b o (hS.base.keep0 b o e)) fun b o e _ => hk b o e).1, ⟨fun b o e _ _ _ => hk b o e, fun _ h => .inl h, fun b o e => ⟨o, hk b o e⟩, rfl⟩⟩
theorem M_translate {d : Addr} {sp : Nat → Bool} {c : Nat} {Q : D → Sto → Prop} (hT : EscTab g.prog g.w g.H0 d sp) (h : Q (.str (if sp c = true then [92, c] else [c])) σ) :
    OL g f Rd (fun vs => call (.builtin "str.translate") vs) [.str [c], .val (.ref d)] ρ σ Q := fun A s vs Q' hA hS r post => by
  obtain ⟨v, us, rfl, r1, r2⟩ := r.consE
  obtain ⟨u, us, rfl, q2, r3⟩ := r2.consE
  obtain rfl := r3.nilE
  obtain ⟨t, rfl⟩ := r1.strE
  obtain rfl := q2.valE
  obtain ⟨hd, F, ⟨o, es, ep, ho, rr⟩, hf⟩ := hT
  refine translate_one hA.1 ⟨hd, F, ⟨o, es, ep, hS.base.keep0 _ _ ho, rr⟩, hf⟩ fun h' tk t' hk => ?_
  obtain ⟨a1, a2⟩ := made_st (tk := tk) hS hk
  exact post _ _ _ _ h a1 (.str _ t') a2
noncomputable abbrev KTl2 (g : G) (sp : Nat → Bool) (c : Nat) (Q : D → Sto → Prop) : D → Sto → Prop := fun de σ₂ => ∃ d, de = .val (.ref d) ∧ EscTab g.prog g.w g.H0 d sp ∧ Q (.str (if sp c = true then [92, c] else [c])) σ₂
noncomputable abbrev KTl (g : G) (f : Fm) (sp : Nat → Bool) (e : Expr) (ρ : Loc) (Q : D → Sto → Prop) : D → Sto → Prop := fun dv σ₁ => ∃ c, dv = .str [c] ∧ WE g f e ρ σ₁ (KTl2 g sp c Q)
noncomputable abbrev KRp2 (x : List Nat) (Q : D → Sto → Prop) : List D → Sto → Prop := fun ds σ₂ => ∃ y z, ds = [.str y, .str z] ∧ isIn y x = false ∧ Q (.str x) σ₂
noncomputable abbrev KRp (g : G) (f : Fm) (es : List Expr) (pos : Pos) (ρ : Loc) (Q : D → Sto → Prop) : D → Sto → Prop := fun dv σ₁ => ∃ x, dv = .str x ∧ WL g f es pos ρ σ₁ (KRp2 x Q)
theorem WE_translate {o e : Expr} {apos pos : Pos} {sp : Nat → Bool} {Q : D → Sto → Prop} (h : WE g f o ρ σ (KTl g f sp e ρ Q))
    (hbase : attributeBase o (Str.ofString "translate") f.env (eval o f.env) = eval o f.env := by with_unfolding_all rfl) (hline : (apos.endLine == pos.line) = true := by with_unfolding_all rfl)
    (hfew : ((backTo pos (starEach [e] f.env)).all (fun x => !x.1) && (backToKw pos (keywordEach [] f.env)).all (fun x => x.1.isSome) && decide ([e].length + ([] : List Keyword).length + (if ([] : List Keyword).isEmpty then 0 else 1) < 30)) = true := by with_unfolding_all rfl)
    (he : starEach [e] f.env = (false, eval e f.env) :: starEach [] f.env := by with_unfolding_all rfl) : WE g f (.Call (.Attribute o (Str.ofString "translate") apos) [e] [] pos) ρ σ Q :=
  WE_Meth1 (h.mono fun dv σ₁ ⟨c, e1, q⟩ => ⟨"str", "str.translate", plainAttrs_str, PySem.F.slot_str_translate, PySem.F.type_str_translate, e1 ▸ DTy_str, WL_cons (q.mono fun de σ₂ ⟨d, e2, hT, q⟩ => WL_nil (by subst e1; subst e2; exact M_translate hT q)) he⟩) hbase hfew hline he rfl
theorem WE_replace0 {o e₁ e₂ : Expr} {apos pos : Pos} {Q : D → Sto → Prop} (h : WE g f o ρ σ (KRp g f [e₁, e₂] pos ρ Q))
    (hbase : attributeBase o (Str.ofString "replace") f.env (eval o f.env) = eval o f.env := by with_unfolding_all rfl) (hline : (apos.endLine == pos.line) = true := by with_unfolding_all rfl)
    (hfew : ((backTo pos (starEach [e₁, e₂] f.env)).all (fun x => !x.1) && (backToKw pos (keywordEach [] f.env)).all (fun x => x.1.isSome) && decide ([e₁, e₂].length + ([] : List Keyword).length + (if ([] : List Keyword).isEmpty then 0 else 1) < 30)) = true := by with_unfolding_all rfl)
    (he : starEach [e₁, e₂] f.env = (false, eval e₁ f.env) :: starEach [e₂] f.env := by with_unfolding_all rfl) (hplain : (backTo pos (starEach [e₂] f.env)).any (·.1) = false := by with_unfolding_all rfl) : WE g f (.Call (.Attribute o (Str.ofString "replace") apos) [e₁, e₂] [] pos) ρ σ Q :=
  WE_Meth1 (h.mono fun dv σ₁ ⟨x, e1, q⟩ => ⟨"str", "str.replace", plainAttrs_str, PySem.F.slot_str_replace, PySem.F.type_str_replace, e1 ▸ DTy_str, q.mono fun ds σ₂ ⟨y, z, e2, hn, q⟩ => by subst e1; subst e2; exact M_replace0 hn q⟩) hbase hfew hline he hplain
theorem F_isinstance_str {x : List Nat} {Q : D → Sto → Prop} (h : Q (.bool true) σ) : OL g f Rd (fun vs => call (.builtin "isinstance") vs) [.str x, .val (.type "str")] ρ σ Q := fun A s vs Q' hA hS r post => by
  obtain ⟨v, us, rfl, r1, r2⟩ := r.consE
  obtain ⟨u, us, rfl, q2, r3⟩ := r2.consE
  obtain rfl := r3.nilE
  obtain ⟨t, rfl⟩ := r1.strE
  obtain rfl := q2.valE
  exact call_isinstance (isinstance_true (Tx := "str") (by first | rfl | kernel_rfl) (by rw [isSubtype_type]; kernel_rfl)) ⟨rfl, post _ _ _ _ h hS (.bool _) .refl⟩
theorem F_typeI {i : Int} {Q : D → Sto → Prop} (h : Q (.val (.type "int")) σ) : OL g f Rd (fun vs => call (.type "type") vs) [.int i] ρ σ Q := fun A s vs Q' hA hS r post => by
  obtain ⟨v, us, rfl, r1, r2⟩ := r.consE
  obtain rfl := r2.nilE
  obtain ⟨t, rfl⟩ := r1.intE
  exact call_type_of (Tx := "int") rfl (by decide) (post _ _ _ _ h hS (.val _) .refl)
theorem rdl_intsAre {h : Heap} {o : Addr → Prop} : ∀ {vs : List Value} {is : List Int}, RdL h o vs (is.map D.int) → IntsAre vs is
  | _, [], r => by rw [r.nilE]; exact .nil
  | _, x :: is, r => by
    obtain ⟨v, ws, rfl, a, q⟩ := RdL.consE (d := .int x) r
    obtain ⟨t, rfl⟩ := a.intE
    exact .cons _ t (rdl_intsAre q)
theorem F_sum {is : List Int} {ds : List D} (hd : ds = is.map D.int) {Q : D → Sto → Prop} (h : Q (.int is.sum) σ) : OL g f Rd (fun vs => call (.builtin "sum") vs) [.lst ds] ρ σ Q := fun A s vs Q' hA hS r post => by
  subst hd
  obtain ⟨v, us, rfl, r1, r2⟩ := r.consE
  obtain rfl := r2.nilE
  obtain ⟨a, ws, n, rfl, e, no, rl⟩ := r1.lstE
  have hi := rdl_intsAre rl
  obtain ⟨xs, hx⟩ := hi.allInts.items
  have hl' : s.heap.IsList a (intItems xs) := hx ▸ ⟨_, e, rfl, n, rfl⟩
  refine sum_intListG hA.1 hl' fun h' tk t' hk => ?_
  have e1 : is = xs.toList.map (·.1) := by
    rw [← nums_intItems, ← hx]
    exact (show numsOf ws.toArray.toList = is from hi.numsOf).symm
  have e2 : preSum (numAt xs) xs.size = is.sum := by
    rw [preSum_eq, List.take_of_length_le (by simp), e1]
  rw [e2]
  obtain ⟨a1, a2⟩ := made_st (tk := tk) hS hk
  exact post _ _ _ _ h a1 (.int _ t') a2
end
end
-- Fw23
section
open PySem PySem.W PyProof.Rows PySem.Calls PySem.F PySem.SeqAt
noncomputable def twinCode : List Nat := [14, 14, 4, 1, 1, 9, 0, 64, 0, 1342177280, 0, 0, 0, 0, 0, 17, 0, 13, 11, 9, 0, 64, 0, 1342177280, 0, 0, 0, 0, 0, 17, 1, 1]
noncomputable def twinArr : Array Nat := twinCode.toArray
theorem twin_bits : ∀ c < 256, c ≠ 38 → c ≠ 124 → c ≠ 126 → (twinArr.getD (5 + (1 + c / 32)) 0).testBit (c % 32) = false := by decide +kernel
theorem twin_set {c : Nat} (h : c ≠ 38 ∧ c ≠ 124 ∧ c ≠ 126) (seen : Sre.Seen) : ∃ seen', Sre.inSet twinArr c 32 5 true seen = .ok (false, seen') := by
  have e14 : ∀ seen, ∃ seen', Sre.inSet twinArr c 31 14 true seen = .ok (false, seen') := fun seen => ⟨_, rfl⟩
  have key : Sre.inSet twinArr c 32 5 true seen = if (decide (c < 256) && (twinArr.getD (5 + (1 + c / 32)) 0).testBit (c % 32)) = true then .ok (true, seen.add 9) else Sre.inSet twinArr c 31 14 true (seen.add 9) := rfl
  rw [key]
  have : (decide (c < 256) && (twinArr.getD (5 + (1 + c / 32)) 0).testBit (c % 32)) = false := by
    by_cases hc : c < 256
    · rw [twin_bits c hc h.1 h.2.1 h.2.2, Bool.and_false]
    · rw [decide_eq_false hc, Bool.false_and]
  rw [this, if_neg Bool.false_ne_true]
  exact e14 _
noncomputable def NoTwin (x : List Nat) : Prop := ∀ c ∈ x, c ≠ 38 ∧ c ≠ 124 ∧ c ≠ 126
theorem twin_admitted {m : Sre.M} {x : List Nat} (hc : m.code = twinArr) (ht : m.text = x.toArray) (hl : m.lim = x.length) (hx : NoTwin x) : ∀ (fuel s : Nat) (seen : Sre.Seen), x.length ≤ s + fuel → ∃ seen', Sre.M.admitted m fuel s seen = .ok (none, seen')
  | 0, s, seen, h => ⟨seen, rfl⟩
  | fuel + 1, s, seen, h => by
    unfold Sre.M.admitted
    by_cases q : s ≥ m.lim
    · rw [if_pos q]; exact ⟨seen, rfl⟩
    · rw [if_neg q]
      have hs : s < x.length := by rw [hl] at q; omega
      have e : m.text.getD s 0 = x[s] := by rw [ht]; simp [hs]
      obtain ⟨seen', h1⟩ := twin_set (hx x[s] (List.getElem_mem hs)) seen
      rw [hc, e]
      rw [show twinArr.size = 32 from rfl, h1]
      exact twin_admitted hc ht hl hx fuel (s + 1) seen' (by omega)
structure TwinFails (m : Sre.M) : Prop where
  answer : m.answer = some false
  frames : m.frames = []
  outcome : m.outcome = none
theorem twin_attempt {m : Sre.M} {x : List Nat} (hc : m.code = twinArr) (ht : m.text = x.toArray) (hl : m.lim = x.length) (hf : m.frames = []) (ho : m.outcome = none) (hx : NoTwin x) : TwinFails (m.attemptFrom 0 true) := by
  unfold Sre.M.attemptFrom
  have hs : m.hasFirstSet = true := by unfold Sre.M.hasFirstSet; rw [hc]; rfl
  rw [hs]
  rw [if_neg (by decide)]
  obtain ⟨seen', h1⟩ := twin_admitted hc ht hl hx (m.lim + 1 - 0) 0 m.seen (by rw [hl]; omega)
  rw [h1]
  exact ⟨rfl, hf, ho⟩
theorem twin_search {x : List Nat} (hx : NoTwin x) : TwinFails (Sre.forSearch twinArr x.toArray 1 0 x.length false) := by
  unfold Sre.forSearch
  rw [show Sre.header twinArr = (1, 15) from rfl]
  dsimp only
  by_cases h0 : x.length = 0
  · rw [h0]
    exact ⟨rfl, rfl, rfl⟩
  · have : (decide (0 > x.length) || decide (x.length - 0 < 1)) = false := by rw [decide_eq_false (by omega), decide_eq_false (by omega)]; rfl
    rw [this, if_neg Bool.false_ne_true]
    exact twin_attempt rfl rfl rfl rfl rfl hx
section
variable {prog : Program} {w : World} {M : Model} {A : Around} {E : Value → Shared → Prop} {s : Shared}
theorem drive_succ (n : Nat) (m : Sre.M) : Builtin.Re.reDrive (n + 1) m = (do
    let m := m.runFor Builtin.Re.reTurnSteps
    if m.outcome.isSome then pure m else do rule "sre.turn"; Builtin.Re.reDrive n m) := rfl
theorem run_fails {m : Sre.M} (h : TwinFails m) {Q : Option Sre.M → Shared → Prop} (hq : Q none s) : wpAny M A (Builtin.Re.reRunToEnd m) Q E s := by
  unfold Builtin.Re.reRunToEnd
  have h1 : m.step.outcome = some .failed := by
    unfold Sre.M.step
    rw [h.outcome, h.answer, h.frames]; rfl
  have h2 : m.runFor Builtin.Re.reTurnSteps = m.step := by
    show Sre.M.runFor (3 + 1) m = _
    unfold Sre.M.runFor
    rw [h.outcome, if_neg (by decide)]
    show Sre.M.runFor (2 + 1) m.step = _
    unfold Sre.M.runFor
    rw [h1, if_pos (by decide)]
  refine wpAny_bind ?_
  rw [show (2 : Nat) ^ 64 = 18446744073709551615 + 1 from rfl, drive_succ]
  dsimp only
  rw [h2, h1, if_pos (by decide)]
  refine wpAny_pure ?_
  refine wpAny_bind (wpAny_forIn_list _ (fun _ _ s' => s' = s) _ (fun i rest b s' hs => ?_) (fun b s' hs => ?_) _ _ rfl)
  · subst hs
    split
    · exact wpAny_bind (wpAny_rule (wpAny_pure rfl))
    · exact wpAny_pure rfl
  · subst hs
    rw [h1]
    exact wpAny_pure hq
theorem entry_sub : entryFor table "re.Pattern.sub" = some Builtin.«re.Pattern.sub» := entryFor_of_tree (by kernel_rfl)
theorem entry_loop : entryFor table "re.Pattern.sub.loop" = some Builtin.«re.Pattern.sub.loop» := entryFor_of_tree (by kernel_rfl)
noncomputable def PatAt (h : Heap) (p : Addr) : Prop := ∃ c n t t', h.get? p = some { cls := .type "re.Pattern", data := .fields #[.str "([&~|])" t, .int 32 t', .int 1 0, .none, .none, .ref c, .int 0 0] } ∧ h.get? c = some { cls := .type "tuple", data := .seq (twinCode.map fun (k : Nat) => Value.int (k : Int) 0).toArray n }
theorem PatAt.keeps {h h' : Heap} {p : Addr} (x : PatAt h p) (hk : ∀ b o, h.get? b = some o → h'.get? b = some o) : PatAt h' p := by
  obtain ⟨c, n, t, t', e1, e2⟩ := x
  exact ⟨c, n, t, t', hk _ _ e1, hk _ _ e2⟩
theorem whole_target {p : Addr} {x : List Nat} {t : Tok} {Q : Builtin.Re.ReTarget → Shared → Prop} (hp : PatAt s.heap p)
    (h : Q { pattern := .ref p, string := .str ⟨x.toArray⟩ t, code := twinArr, text := x.toArray, kind := 0, groups := 1, pos := 0, lim := x.length } s) : wpAny M A (Builtin.Re.reWholeTarget (.ref p) (.str ⟨x.toArray⟩ t)) Q E s := by
  obtain ⟨c, n, t', t'', e1, e2⟩ := hp
  unfold Builtin.Re.reWholeTarget
  refine wpAny_bind (wpAny_fieldsOf e1 rfl ?_)
  refine wpAny_bind (wpAny_of_eq (a := (x.toArray, 0)) (by rfl) ?_)
  dsimp only
  rw [if_neg (by exact Bool.false_ne_true), if_neg (by exact Bool.false_ne_true)]
  refine wpAny_bind (wpAny_of_eq (a := ()) (by rfl) ?_)
  refine wpAny_bind (wpAny_bind (wpAny_bind (wpAny_load e2 (wpAny_pure (wpAny_pure (wpAny_pure ?_))))))
  have ec : ((twinCode.map fun (k : Nat) => Value.int (k : Int) 0).toArray.map Builtin.Re.reRawOf).map (fun x => x.toNat) = twinArr := by decide +kernel
  have el : x.toArray.size = x.length := by simp
  show Q { pattern := .ref p, string := .str ⟨x.toArray⟩ t, code := ((twinCode.map fun (k : Nat) => Value.int (k : Int) 0).toArray.map Builtin.Re.reRawOf).map (fun x => x.toNat), text := x.toArray, kind := 0, groups := 1, pos := 0, lim := x.toArray.size } s
  rw [ec, el]
  exact h
theorem fn_call_look : typeLookup (.type "function") "__call__" = pure (some (.builtin "function.__call__")) := by rw [typeLookup_type, builtinLookup_eq_fast]; kernel_rfl
theorem sub_none {p fn : Addr} {x : List Nat} {t : Tok} {o : Obj} {Q : Value → Shared → Prop} (hp : PatAt s.heap p) (hf : s.heap.get? fn = some o) (hfc : o.cls = .type "function") (hx : NoTwin x) (hl : x.length ≤ 100)
    (h : ∀ h' tk t', (∀ b o, s.heap.get? b = some o → h'.get? b = some o) → Q (.str ⟨x.toArray⟩ t') { s with heap := h', toks := tk }) :
    codeAny (model prog w) A (.builtin "re.Pattern.sub" ⟨[.ref p, .ref fn, .str ⟨x.toArray⟩ t], []⟩) (fun r s' => match r with | .ok (.ret v) => Q v s' | _ => False) s := by
  refine codeAny_builtin entry_sub ?_
  show wpAny _ _ (Builtin.Re.reSubstitute "re.Pattern.sub" "sub" false ⟨[.ref p, .ref fn, .str ⟨x.toArray⟩ t], []⟩) _ _ s
  unfold Builtin.Re.reSubstitute
  dsimp only
  refine wpAny_bind (wpAny_of_eq (a := [some (Value.ref fn), some (Value.str ⟨x.toArray⟩ t), none]) (by rfl) ?_)
  dsimp only
  refine wpAny_bind (wpAny_pure ?_)
  refine wpAny_bind (wpAny_specialOf (T := "function") ⟨o, hf, hfc⟩ fn_call_look ?_)
  dsimp only [Option.isSome]
  rw [if_pos rfl]
  refine wpAny_bind (wpAny_pure ?_)
  rw [if_pos rfl]
  refine wpAny_bind (wpAny_pure ?_)
  dsimp only
  refine wpAny_bind (wpAny_holding (whole_target hp ?_))
  rw [if_pos (by decide)]
  have hnh : ∀ (A : Around) (E : Value → Shared → Prop) (Q : Unit → Shared → Prop), Q () s → wpAny (model prog w) A (Builtin.Re.reNotHeld "re.Pattern.sub" (.str ⟨x.toArray⟩ t)) Q E s := by
    intro A E Q hq
    unfold Builtin.Re.reNotHeld
    refine wpAny_bind (wpAny_isInstance (b := false) (T := "str") rfl (by rw [isSubtype_type]; kernel_rfl) ?_)
    rw [if_neg (by decide)]
    exact wpAny_pure hq
  refine wpAny_bind (hnh _ _ _ ?_)
  refine wpAny_bind (wpAny_newObj_type (wpAny_pure ⟨Code.quiet_builtin _ (by decide +kernel), codeAny_builtin entry_loop ?_⟩))
  generalize hH : s.heap.push { cls := Value.type "list", data := Data.seq ([] : List Value).toArray } = H
  have k1 : ∀ b o, s.heap.get? b = some o → H.get? b = some o := fun b o e => by rw [← hH]; exact push_keeps _ _ b o e
  have eL : H.get? s.heap.objs.size = some { cls := Value.type "list", data := Data.seq #[] } := by rw [← hH]; exact Heap.get?_push_size _ rfl
  unfold Builtin.«re.Pattern.sub.loop»
  refine wpAny_bind (whole_target (hp.keeps k1) ?_)
  dsimp only
  rw [if_neg (by decide)]
  refine wpAny_bind (run_fails (twin_search hx) ?_)
  dsimp only
  have mk : ∀ {A : Around} {E : Value → Shared → Prop} {s : Shared} (b e : Nat) (y : List Nat) {Q : Value → Shared → Prop}, x.toArray.extract b e = y.toArray → y.length ≤ 100 → Q (.str ⟨y.toArray⟩ s.toks) { s with toks := s.toks + 1 } → wpAny (model prog w) A (Builtin.Re.reSlice x.toArray 0 b e) Q E s := by
    intro A E s b e y Q he hy hq
    show wpAny _ _ (mkStr ⟨x.toArray.extract b e⟩) _ _ _
    rw [he]
    exact wpAny_mkStr hq (by rw [strlen, sizeLine_eq]; omega)
  by_cases hx0 : x = []
  · subst hx0
    rw [if_neg (by decide)]
    refine wpAny_bind (mk 0 0 [] rfl (by simp) ?_)
    refine wpAny_bind (wpAny_seqItems eL rfl ?_)
    rw [if_pos (by rfl)]
    refine wpAny_bind (wpAny_pure ?_)
    rw [if_neg Bool.false_ne_true]
    refine wpAny_pure ?_
    exact h H _ _ k1
  · have hlen : 0 < x.length := List.length_pos_iff.mpr hx0
    rw [if_pos (by exact hlen)]
    refine wpAny_bind (mk _ _ x (by simp) hl ?_)
    refine wpAny_bind (wpAny_updateSeq eL rfl ?_)
    obtain ⟨v, hv⟩ : ∃ v, v = Value.str ⟨x.toArray⟩ s.toks := ⟨_, rfl⟩
    have e2 : (H.update s.heap.objs.size (Obj.mapSeq fun xs => xs.push v)).get? s.heap.objs.size = some (listObj [v] 1) := by
      rw [Heap.get?_update_self _ eL (by rfl)]; rfl
    have k2 : ∀ b o, s.heap.get? b = some o → (H.update s.heap.objs.size (Obj.mapSeq fun xs => xs.push v)).get? b = some o := fun b o e => by
      rw [Heap.get?_update_other _ _ (Ne.symm (Nat.ne_of_lt (Heap.lt_size e)))]; exact k1 b o e
    rw [hv] at e2 k2
    refine wpAny_bind (mk 0 0 [] (by simp) (by simp) ?_)
    refine wpAny_bind (wpAny_seqItems e2 rfl ?_)
    rw [if_neg (by simp)]
    refine wpAny_bind ?_
    refine join_list (items := #[Value.str ⟨x.toArray⟩ s.toks]) (ys := [⟨x.toArray⟩]) ⟨_, e2, rfl, 1, rfl⟩ (.cons _ _ .nil) (by simp [Str.length]; omega) fun t' k => ?_
    rw [if_neg Bool.false_ne_true]
    refine wpAny_pure ?_
    exact h _ k t' k2
end
end
-- Fw24
section
open PySem PySem.W PyProof.Rows PySem.Calls PySem.F PySem.SeqAt
section
variable {g : G} {f : Fm} {ρ : Loc} {σ : Sto}
theorem St.tabled {s : Shared} {h' : Heap} {tk : Nat} {ps : Array Value} (hS : St g f s ρ σ) (hk : ∀ b o, b ≠ g.tp → s.heap.get? b = some o → h'.get? b = some o) (e : h'.get? g.tp = some (tabObj ps)) (ht : TriplesOk ps.toList) :
    St g f { s with heap := h', toks := tk } ρ σ ∧ Step g f.vol σ s { s with heap := h', toks := tk } σ := by
  obtain ⟨ps₀, e₀, ht₀⟩ := hS.base.tab
  have ntp : ∀ b ob, s.heap.get? b = some ob → ob.cls ≠ .none → b ≠ g.tp := fun b ob e q h => by subst h; rw [e₀] at e; cases e; exact q rfl
  have rr : ∀ {v d}, Rd s.heap (own σ) v d → Rd h' (own σ) v d := fun r => r.mono (fun b ob e q => hk b ob (ntp b ob e q.cls) e) fun _ _ _ q => q
  have rl : ∀ {v d}, RdL s.heap (own σ) v d → RdL h' (own σ) v d := fun r => r.mono (fun b ob e q => hk b ob (ntp b ob e q.cls) e) fun _ _ _ q => q
  have hns : ∀ {b m}, s.heap.Ns b m → h'.Ns b m := fun {b m} x => by
    obtain ⟨o, es, ep, e, r⟩ := id x
    exact ⟨o, es, ep, hk b o (fun q => vol_ne_tab (.inl ⟨m, x⟩) e₀ q.symm) e, r⟩
  have hce : ∀ {b v}, s.heap.IsCell b v → h'.IsCell b v := fun {b v} x => by
    obtain ⟨o, e, r⟩ := id x
    exact ⟨o, hk b o (fun q => vol_ne_tab (.inr ⟨v, x⟩) e₀ q.symm) e, r⟩
  refine ⟨⟨⟨hS.base.ok, fun b o e => hk b o (fun q => by rw [q, hS.base.ok.noP] at e; cases e) (hS.base.keep0 b o e), fun a ds h => ?_, hS.base.nodup, ⟨ps, e, ht⟩, hS.base.gens⟩, hS.kind, hS.globals, hS.builtins, fun b h => ⟨(hS.vols b h).1, (hS.vols b h).2.imp (fun ⟨m, x⟩ => ⟨m, hns x⟩) fun ⟨v, x⟩ => ⟨v, hce x⟩⟩, hS.loc, ?_, fun x hx => ?_, hS.apart, fun x d h => ?_⟩, ⟨fun b o e _ _ h3 => hk b o h3 e, fun _ h => .inl h, fun b o e' => ?_, rfl⟩⟩
  · obtain ⟨vs, n, e, r, l⟩ := hS.base.cells a ds h
    exact ⟨vs, n, hk _ _ (ntp a _ e (by simp)) e, rl r, l⟩
  · obtain ⟨m, x⟩ := hS.ns; exact ⟨m, hns x⟩
  · obtain ⟨c, a, b, v, w⟩ := hS.cell x hx; exact ⟨c, a, b, v, hce w⟩
  · obtain ⟨v, V, r⟩ := hS.vars x d h
    exact ⟨v, V.imp (fun ⟨k, m, a, b⟩ => ⟨k, m, hns a, b⟩) fun ⟨k, c, a, b⟩ => ⟨k, c, a, hce b⟩, rr r⟩
  · by_cases q : b = g.tp
    · exact ⟨_, q ▸ e⟩
    · exact ⟨o, hk b o q e'⟩
theorem WE_Lambda {params : Arguments} {body : Expr} {scope : Scope} {pos : Pos} {Q : D → Sto → Prop} (h : Q .fn σ) (hcd : f.env.code = .ref g.tc)
    (hdef : defaultsOf params f.env = ([], []) := by with_unfolding_all rfl) (hcl : closureFor scope f.env = pure [] := by with_unfolding_all rfl) : WE g f (.Lambda params body scope pos) ρ σ Q :=
  fun A s Q' hA hS post => by
    refine kla_eval hdef ?_
    obtain ⟨ps, e, ht⟩ := hS.base.tab
    have hb : s.heap.BuiltinsAt g.mg g.tp := hS.base.ok.bat.keeps hS.base.keep0
    have C : CodeHd s.heap g.tc g.tp := hS.base.ok.code.keeps hS.base.keep0
    have hg : s.heap.Ns mainGlobals g.mg := hS.base.ok.gns.keeps hS.base.keep0
    cases hc : codeAmong pos ps.toList with
    | none =>
      refine kla_makeFunction hcl hS.globals hg hcd C e ht hc hS.base.ok.apart hb fun c' ctv h' tk hx h1 h2 h3 h4 => ?_
      have ht' : TriplesOk (ps ++ #[rawInt pos.line, rawInt pos.col, .ref c']).toList := by
        rw [Array.toList_append]; exact TriplesOk_snoc _ _ _ _ ht
      obtain ⟨a1, a2⟩ := hS.tabled (h' := h') (tk := tk) (fun b o q e => hx b o q e) h4 ht'
      have a3 := a1.grow (push_keeps h' (fnObj (kla_fn "<lambda>" (f.env.qual ++ "<lambda>") params body scope [] ((g.mg "__name__").getD .none) (.ref c') ctv))) (push_size _ _) tk
      exact post _ _ _ _ h a3 (.fn _ _ (Heap.get?_push_size _ rfl)) (a2.trans (.grow (s := { s with heap := h', toks := tk }) (push_keeps _ _) (push_size _ _) tk))
    | some cv =>
      refine kla_makeFunctionHit hcl hS.globals hg hcd C e ht hc hb fun ctv h' tk hk hsz => ?_
      obtain ⟨a1, a2⟩ := made_st (tk := tk) hS hk
      have a3 := a1.grow (push_keeps h' (fnObj (kla_fn "<lambda>" (f.env.qual ++ "<lambda>") params body scope [] ((g.mg "__name__").getD .none) cv ctv))) (push_size _ _) tk
      exact post _ _ _ _ h a3 (.fn _ _ (Heap.get?_push_size _ rfl)) (a2.trans (.grow (s := { s with heap := h', toks := tk }) (push_keeps _ _) (push_size _ _) tk))
/-! ### the pattern's sub -/
theorem slot_sub : Slot "re.Pattern" "sub" "re.Pattern.sub" :=
  .of (owner := "re.Pattern") (n := "sub") (by rw [typeLookup_type, builtinLookup_eq_fast]; kernel_rfl) (by decide +kernel) (by decide +kernel) (by decide +kernel)
    (by first | exact .inl (by decide +kernel) | exact .inr (by decide +kernel)) (by rw [isSubtype_type]; kernel_rfl)
theorem plainAttrs_pat : PlainAttrs "re.Pattern" :=
  ⟨⟨"object.__getattribute__", by rw [typeLookup_type, builtinLookup_eq_fast]; kernel_rfl, by decide +kernel⟩, by rw [typeLookup_type, builtinLookup_eq_fast]; kernel_rfl⟩
theorem type_sub : typeOf (.builtin "re.Pattern.sub") = pure (.type "method_descriptor") := by show builtinType _ = _; rw [builtinType_eq_fast]; kernel_rfl
theorem args_sub (a b c : Value) : argsOk "re.Pattern.sub" ⟨[a, b, c], []⟩ := by unfold argsOk; kernel_rfl
theorem quiet_sub {as : Args} : (Code.builtin "re.Pattern.sub" as).quiet = true := Code.quiet_builtin _ (by decide +kernel)
theorem DTy_pat {p : Addr} (hp : PatAt g.H0 p) : DTy g f ρ σ (.val (.ref p)) "re.Pattern" := fun s v hS r => by
  obtain rfl := r.valE
  obtain ⟨c, n, t, t', e1, e2⟩ := hp.keeps hS.base.keep0
  exact ⟨⟨_, e1, rfl⟩, fun b h => by cases h; exact ⟨_, e1, rfl⟩⟩
theorem M_sub {p : Addr} {x : List Nat} {Q : D → Sto → Prop} (hp : PatAt g.H0 p) (hx : NoTwin x) (hl : x.length ≤ 100) (h : Q (.str x) σ) : OL g f Rd (fun vs => call (.builtin "re.Pattern.sub") vs) [.val (.ref p), .fn, .str x] ρ σ Q := fun A s vs Q' hA hS r post => by
  obtain ⟨v, us, rfl, r1, r2⟩ := r.consE
  obtain ⟨u, us, rfl, q2, r3⟩ := r2.consE
  obtain ⟨w, us, rfl, q3, r4⟩ := r3.consE
  obtain rfl := r4.nilE
  obtain rfl := r1.valE
  obtain ⟨m, fd, rfl, em⟩ := q2.fnE
  obtain ⟨t, rfl⟩ := q3.strE
  have hp' := hp.keeps hS.base.keep0
  obtain ⟨c, n, t1, t2, e1, e2⟩ := id hp'
  refine wpAny_call (codeAny_call_builtin_code quiet_sub (slot_sub.check _ _ _ _ _ _ _ _ ⟨_, e1, rfl⟩ (args_sub _ _ _) ?_))
  refine codeAny_mono (sub_none (Q := fun v s' => Q' v s') hp' em rfl hx hl fun h' tk t' hk => ?_) fun r s' hr => ?_
  · obtain ⟨a1, a2⟩ := made_st (tk := tk) hS hk
    exact post _ _ _ _ h a1 (.str x t') a2
  · cases r with
    | error e => exact hr.elim
    | ok fl => cases fl <;> first | exact hr | exact hr.elim
noncomputable abbrev KSb2 (Q : D → Sto → Prop) : List D → Sto → Prop := fun ds σ₂ => ∃ x, ds = [.fn, .str x] ∧ NoTwin x ∧ x.length ≤ 100 ∧ Q (.str x) σ₂
noncomputable abbrev KSb (g : G) (f : Fm) (es : List Expr) (pos : Pos) (ρ : Loc) (Q : D → Sto → Prop) : D → Sto → Prop := fun dv σ₁ => ∃ p, dv = .val (.ref p) ∧ PatAt g.H0 p ∧ WL g f es pos ρ σ₁ (KSb2 Q)
theorem WE_sub {o e₁ e₂ : Expr} {apos pos : Pos} {Q : D → Sto → Prop} (h : WE g f o ρ σ (KSb g f [e₁, e₂] pos ρ Q))
    (hbase : attributeBase o (Str.ofString "sub") f.env (eval o f.env) = eval o f.env := by with_unfolding_all rfl) (hline : (apos.endLine == pos.line) = true := by with_unfolding_all rfl)
    (hfew : ((backTo pos (starEach [e₁, e₂] f.env)).all (fun x => !x.1) && (backToKw pos (keywordEach [] f.env)).all (fun x => x.1.isSome) && decide ([e₁, e₂].length + ([] : List Keyword).length + (if ([] : List Keyword).isEmpty then 0 else 1) < 30)) = true := by with_unfolding_all rfl)
    (he : starEach [e₁, e₂] f.env = (false, eval e₁ f.env) :: starEach [e₂] f.env := by with_unfolding_all rfl) (hplain : (backTo pos (starEach [e₂] f.env)).any (·.1) = false := by with_unfolding_all rfl) : WE g f (.Call (.Attribute o (Str.ofString "sub") apos) [e₁, e₂] [] pos) ρ σ Q :=
  WE_Meth1 (h.mono fun dv σ₁ ⟨p, e1, hp, q⟩ => ⟨"re.Pattern", "re.Pattern.sub", plainAttrs_pat, slot_sub, type_sub, e1 ▸ DTy_pat hp, q.mono fun ds σ₂ ⟨x, e2, hx, hl, q⟩ => by subst e1; subst e2; exact M_sub hp hx hl q⟩) hbase hfew hline he hplain
end
end
-- Pu1
theorem clip_nat (n k : Nat) : clipAt n (k : Int) = min k n := by have := clipAt_cast n (k : Int); split at this <;> omega
theorem clip_neg (n j : Nat) (h : 1 ≤ j) : clipAt n (-(j : Int)) = n - j := by have := clipAt_cast n (-(j : Int)); split at this <;> omega
theorem cut_from {α : Type} (l : List α) (k : Nat) : cut l (some (k : Int)) none = l.drop k := by
  unfold cut
  simp only [Option.elim, clip_nat]
  by_cases h : k ≤ l.length
  · rw [Nat.min_eq_left h, List.take_of_length_le (by simp)]
  · rw [Nat.min_eq_right (by omega), List.drop_of_length_le (Nat.le_refl _), List.drop_of_length_le (by omega)]; simp
theorem cut_upto_neg {α : Type} (l : List α) (j : Nat) (h : 1 ≤ j) : cut l none (some (-(j : Int))) = l.take (l.length - j) := by
  unfold cut; simp only [Option.elim, clip_neg _ _ h, List.drop_zero, Nat.sub_zero]
theorem cut_upto {α : Type} (l : List α) (k : Nat) : cut l none (some (k : Int)) = l.take k := by
  unfold cut
  simp only [Option.elim, clip_nat, List.drop_zero, Nat.sub_zero]
  by_cases h : k ≤ l.length
  · rw [Nat.min_eq_left h]
  · rw [Nat.min_eq_right (by omega), List.take_of_length_le (Nat.le_refl _), List.take_of_length_le (by omega)]
theorem cut_none {α : Type} (l : List α) : cut l none none = l := by unfold cut; simp
theorem cut_nat {α : Type} (l : List α) (a b : Nat) : cut l (some (a : Int)) (some (b : Int)) = (l.drop a).take (b - a) := by
  unfold cut
  simp only [Option.elim, clip_nat]
  by_cases h : a ≤ l.length
  · rw [Nat.min_eq_left h]
    by_cases h2 : b ≤ l.length
    · rw [Nat.min_eq_left h2]
    · rw [Nat.min_eq_right (by omega), List.take_of_length_le (by simp), List.take_of_length_le (by simp; omega)]
  · rw [Nat.min_eq_right (show l.length ≤ a by omega), List.drop_of_length_le (Nat.le_refl _), List.drop_of_length_le (by omega)]; simp
theorem at_nat {α : Type} (l : List α) (k : Nat) : at? l (k : Int) = l[k]? := by
  unfold at? seqIndex?
  have hn : ¬ ((k : Int) < 0) := by omega
  dsimp only
  simp only [hn, if_false]
  by_cases h : k < l.length
  · rw [if_pos (by simp; omega)]; simp
  · rw [if_neg (by simp; omega)]; simp; omega
theorem at_neg {α : Type} (l : List α) (j : Nat) (h1 : 1 ≤ j) (h2 : j ≤ l.length) : at? l (-(j : Int)) = l[l.length - j]? := by
  unfold at? seqIndex?
  have hn : (-(j : Int) < 0) := by omega
  dsimp only
  simp only [hn, if_true]
  rw [if_pos (by simp; omega)]
  simp only [Option.bind_some]
  rw [show (-(j : Int) + (l.length : Int)).toNat = l.length - j by omega]
noncomputable def il (l : List Int) : List D := l.map D.int
/-! ## the distance, as the function reckons it -/
noncomputable def sub (a b : Nat) : Int := if a = b then 0 else if lowerOf [a] = lowerOf [b] then 1 else 2
noncomputable def trimPre : List Nat → List Nat → List Nat × List Nat
  | x :: xs, y :: ys => if x = y then trimPre xs ys else (x :: xs, y :: ys)
  | xs, ys => (xs, ys)
noncomputable def trimPost (a b : List Nat) : List Nat × List Nat := ((trimPre a.reverse b.reverse).1.reverse, (trimPre a.reverse b.reverse).2.reverse)
noncomputable def big : Int := 9223372036854775807
structure Turn where
  row : List Int
  dist : Int
  res : Int
  mn : Int
noncomputable def inner (bc : Nat) : List Nat → List Int → Int → Int → Int → Turn
  | x :: xs, r :: rs, d, res, mn =>
    let res' := min (min res r + 2) (d + sub bc x)
    let t := inner bc xs rs r res' (if res' < mn then res' else mn)
    { t with row := res' :: t.row }
  | _, _, d, res, mn => ⟨[], d, res, mn⟩
noncomputable def outer (a : List Nat) (m : Int) : List Nat → Nat → List Int → Int → Int
  | [], _, _, res => res
  | bc :: bs, i, row, res =>
    let t := inner bc a row ((i : Int) * 2) ((i : Int) * 2) big
    if m < t.mn then m + 1 else outer a m bs (i + 1) t.row t.res
noncomputable def firstRow (n : Nat) : List Int := (List.range n).map fun (i : Nat) => 2 * ((i : Int) + 1)
noncomputable def levCore (a b : List Nat) (m : Int) : Int := if m < ((b.length : Int) - a.length) * 2 then m + 1 else outer a m b 0 (firstRow a.length) 0
noncomputable def levTrim (a b : List Nat) (m : Int) : Int :=
  if a = [] ∨ b = [] then 2 * ((a.length : Int) + b.length)
  else if 40 < a.length ∨ 40 < b.length then m + 1
  else if b.length < a.length then levCore b a m else levCore a b m
noncomputable def lev (a b : List Nat) (m : Int) : Int :=
  if a = b then 0 else
    let p := trimPre a b
    let q := trimPost p.1 p.2
    levTrim q.1 q.2 m
-- L1
noncomputable abbrev P : Program := PySem.Challenge.pw_ij0204_02
noncomputable def fBody (p : Program) (i : Nat) : List Stmt := match p.main.body[i]? with | some (.FunctionDef _ _ b _ _ _ _ _ _ _) => b | _ => []
noncomputable def fArgs (p : Program) (i : Nat) : Arguments := match p.main.body[i]? with | some (.FunctionDef _ a _ _ _ _ _ _ _ _) => a | _ => default
noncomputable def fScope (p : Program) (i : Nat) : Scope := match p.main.body[i]? with | some (.FunctionDef _ _ _ _ _ _ s _ _ _) => s | _ => default
noncomputable abbrev FnI (g : G) (i : Nat) (name : String) : Prop := FnAt g (Str.ofString name) (fArgs P i) (fBody P i) (fScope P i)
noncomputable def specials : List Nat := [40, 41, 91, 93, 123, 125, 63, 42, 43, 45, 124, 94, 36, 92, 46, 38, 126, 35, 32, 9, 10, 13, 11, 12]
noncomputable def special (c : Nat) : Bool := specials.contains c
structure Fns (g : G) : Prop where
  tr : FnI g 9 "translate"
  esc : FnI g 12 "escape"
  tran : FnAtC g (.ref g.tc) (Str.ofString "_translate") (fArgs P 14) (fBody P 14) (fScope P 14)
  join : FnI g 15 "_join_translated_parts"
  escT : ∃ d, g.mg "_special_chars_map" = some (.ref d) ∧ EscTab g.prog g.w g.H0 d special
  twin : ∃ p, g.mg "_twin_re_1" = some (.ref p) ∧ PatAt g.H0 p
  sub : FnI g 5 "_substitution_cost"
  lev : FnI g 6 "_levenshtein_distance"
  move : ∃ t, g.mg "_MOVE_COST" = some (.int 2 t)
  case : ∃ t, g.mg "_CASE_COST" = some (.int 1 t)
  maxs : ∃ t, g.mg "_MAX_STRING_SIZE" = some (.int 40 t)
  free : ∀ x ∈ (["len", "min", "range", "list", "chr", "ord", "sorted", "sum", "type", "isinstance", "str", "int", "object"] : List String), g.mg (Str.ofString x) = none
theorem lo1 (a : Nat) : (lowerOf [a]).length ≤ sizeLine := by
  have h := len_lower ⟨[a].toArray⟩
  rw [sizeLine_eq]
  unfold lowerOf
  simp [Str.length] at h ⊢
  omega
theorem WE_strL {g : G} {f : Fm} {ρ : Loc} {σ : Sto} {x : Str} {k pos} (l : List Nat) {Q : D → Sto → Prop} (hx : x.cps.toList = l) (h : Q (.str l) σ) : WE g f (.Constant (.str x) k pos) ρ σ Q := WE_str (hx ▸ h)
theorem lt0 : (Str.ofString "*").cps.toList = [42] := by rfl
theorem lt1 : (Str.ofString "?").cps.toList = [63] := by rfl
theorem lt2 : (Str.ofString "[").cps.toList = [91] := by rfl
theorem lt3 : (Str.ofString "!").cps.toList = [33] := by rfl
theorem lt4 : (Str.ofString "]").cps.toList = [93] := by rfl
theorem lt5 : (Str.ofString "-").cps.toList = [45] := by rfl
theorem lt6 : (Str.ofString "\\[").cps.toList = [92, 91] := by rfl
theorem lt7 : (Str.ofString "\\").cps.toList = [92] := by rfl
theorem lt8 : (Str.ofString "\\\\").cps.toList = [92, 92] := by rfl
theorem lt9 : (Str.ofString "(?!)").cps.toList = [40, 63, 33, 41] := by rfl
theorem lt10 : (Str.ofString ".").cps.toList = [46] := by rfl
theorem lt11 : (Str.ofString "^").cps.toList = [94] := by rfl
theorem lt12 : (Str.ofString "").cps.toList = [] := by rfl
theorem lt13 : (Str.ofString "(?>.*?").cps.toList = [40, 63, 62, 46, 42, 63] := by rfl
theorem lt14 : (Str.ofString ")").cps.toList = [41] := by rfl
theorem lt15 : (Str.ofString ".*").cps.toList = [46, 42] := by rfl
theorem lt16 : (Str.ofString "(?s:").cps.toList = [40, 63, 115, 58] := by rfl
theorem lt17 : (Str.ofString ")\\Z").cps.toList = [41, 92, 90] := by rfl
theorem lt18 : (Str.ofString "aAbB").cps.toList = [97, 65, 98, 66] := by rfl
theorem lt19 : (Str.ofString "AaBb").cps.toList = [65, 97, 66, 98] := by rfl
theorem lt20 : (Str.ofString "*?[]!-^\\.|()&~{ ").cps.toList = [42, 63, 91, 93, 33, 45, 94, 92, 46, 124, 40, 41, 38, 126, 123, 32] := by rfl
theorem lt21 : (Str.ofString "*?[").cps.toList = [42, 63, 91] := by rfl
theorem lt22 : (Str.ofString "?*").cps.toList = [63, 42] := by rfl
theorem lt23 : (Str.ofString "()*+?{}|^$").cps.toList = [40, 41, 42, 43, 63, 123, 125, 124, 94, 36] := by rfl
theorem lt24 : (Str.ofString "]^\\").cps.toList = [93, 94, 92] := by rfl
theorem lt25 : (Str.ofString "[\\").cps.toList = [91, 92] := by rfl
section
variable {g : G} {f : Fm} {ρ : Loc} {σ : Sto}
theorem KBo_ok {Q : Bool → Sto → Prop} {c : Bool} (h : Q c σ) : KBo Q (.bool c) σ := ⟨c, rfl, h⟩
theorem KEx_ok {Q : Fl → Loc → Sto → Prop} (h : Q .next ρ σ) : KEx ρ Q .none σ := ⟨rfl, h⟩
theorem KLw_ok {Q : D → Sto → Prop} {x : List Nat} (h : (lowerOf x).length ≤ sizeLine ∧ Q (.str (lowerOf x)) σ) : KLw Q (.str x) σ := ⟨x, rfl, h⟩
theorem KAl_ok {Q : D → Sto → Prop} {x : List Nat} (h : Q (.bool (Txt.isalnum ⟨x.toArray⟩)) σ) : KAl Q (.str x) σ := ⟨x, rfl, h⟩
theorem KFi_ok {e : Expr} {Q : D → Sto → Prop} {x : List Nat} (h : WE g f e ρ σ (KFi2 x Q)) : KFi g f e ρ Q (.str x) σ := ⟨x, rfl, h⟩
theorem KFi2_ok {Q : D → Sto → Prop} {x y : List Nat} (h : Q (.int (Txt.find ⟨x.toArray⟩ ⟨y.toArray⟩)) σ) : KFi2 x Q (.str y) σ := ⟨y, rfl, h⟩
theorem KJ_ok {out : List Nat} {es : List Expr} {Q : D → Sto → Prop} {y : List Nat} (h : (out ++ y).length ≤ sizeLine ∧ WJ g f (out ++ y) es ρ σ Q) : KJ g f out es ρ Q (.str y) σ := ⟨y, rfl, h⟩
theorem KFm_ok {Q : D → Sto → Prop} {y : List Nat} (h : y.length ≤ sizeLine ∧ Q (.str y) σ) : KFm Q (.str y) σ := ⟨y, rfl, h⟩
theorem KJn_ok {e : Expr} {Q : D → Sto → Prop} {y : List Nat} (h : WE g f e ρ σ (KJn2 y Q)) : KJn g f e ρ Q (.str y) σ := ⟨y, rfl, h⟩
theorem KRp_ok {es : List Expr} {pos : Pos} {Q : D → Sto → Prop} {x : List Nat} (h : WL g f es pos ρ σ (KRp2 x Q)) : KRp g f es pos ρ Q (.str x) σ := ⟨x, rfl, h⟩
theorem KS3_ok {Q : D → Sto → Prop} {x : List Nat} {dl du : D} {l u : Option Int} (hs : x.length ≤ sizeLine) (hl : part dl = some l) (hu : part du = some u) (h : Q (.str (cut x l u)) σ) : KS3 (.str x) dl Q du σ := ⟨l, u, _, hl, hu, .str x l u hs, h⟩
theorem KIf_T {a b : List Stmt} {Q : Fl → Loc → Sto → Prop} (h : WSs g f a ρ σ Q) : KIf g f a b ρ Q true σ := ite_T h
theorem KIf_F {a b : List Stmt} {Q : Fl → Loc → Sto → Prop} (h : WSs g f b ρ σ Q) : KIf g f a b ρ Q false σ := ite_F h
theorem KAnd_T {r : List Expr} {Q : Bool → Sto → Prop} (h : WAll g f .And r ρ σ Q) : KAnd g f r ρ Q true σ := ite_T h
theorem KAnd_F {r : List Expr} {Q : Bool → Sto → Prop} (h : Q false σ) : KAnd g f r ρ Q false σ := ite_F h
theorem KOr_T {r : List Expr} {Q : Bool → Sto → Prop} (h : Q true σ) : KOr g f r ρ Q true σ := ite_T h
theorem KOr_F {r : List Expr} {Q : Bool → Sto → Prop} (h : WAll g f .Or r ρ σ Q) : KOr g f r ρ Q false σ := ite_F h
variable {np pos : Pos} {e : Expr} {rest : List Expr} {Q : D → Sto → Prop}
theorem WE_len (F : Fns g) (h : WL g f (e :: rest) pos ρ σ (KCa g f (.builtin "len") ρ Q)) (hx : f.env.kindOf (Str.ofString "len") = some .globalImplicit := by with_unfolding_all rfl)
    (he : starEach (e :: rest) f.env = (false, eval e f.env) :: starEach rest f.env := by with_unfolding_all rfl) (hp : (backTo pos (starEach rest f.env)).any (·.1) = false := by with_unfolding_all rfl) : WE g f (.Call (.Name (Str.ofString "len") np) (e :: rest) [] pos) ρ σ Q := WE_CallB (F.free "len" (by simp)) rfl h hx (by decide) (by decide) he hp
theorem WE_min (F : Fns g) (h : WL g f (e :: rest) pos ρ σ (KCa g f (.builtin "min") ρ Q)) (hx : f.env.kindOf (Str.ofString "min") = some .globalImplicit := by with_unfolding_all rfl)
    (he : starEach (e :: rest) f.env = (false, eval e f.env) :: starEach rest f.env := by with_unfolding_all rfl) (hp : (backTo pos (starEach rest f.env)).any (·.1) = false := by with_unfolding_all rfl) : WE g f (.Call (.Name (Str.ofString "min") np) (e :: rest) [] pos) ρ σ Q := WE_CallB (F.free "min" (by simp)) rfl h hx (by decide) (by decide) he hp
theorem WE_chr (F : Fns g) (h : WL g f (e :: rest) pos ρ σ (KCa g f (.builtin "chr") ρ Q)) (hx : f.env.kindOf (Str.ofString "chr") = some .globalImplicit := by with_unfolding_all rfl)
    (he : starEach (e :: rest) f.env = (false, eval e f.env) :: starEach rest f.env := by with_unfolding_all rfl) (hp : (backTo pos (starEach rest f.env)).any (·.1) = false := by with_unfolding_all rfl) : WE g f (.Call (.Name (Str.ofString "chr") np) (e :: rest) [] pos) ρ σ Q := WE_CallB (F.free "chr" (by simp)) rfl h hx (by decide) (by decide) he hp
theorem WE_range (F : Fns g) (h : WL g f (e :: rest) pos ρ σ (KCa g f (.type "range") ρ Q)) (hx : f.env.kindOf (Str.ofString "range") = some .globalImplicit := by with_unfolding_all rfl)
    (he : starEach (e :: rest) f.env = (false, eval e f.env) :: starEach rest f.env := by with_unfolding_all rfl) (hp : (backTo pos (starEach rest f.env)).any (·.1) = false := by with_unfolding_all rfl) : WE g f (.Call (.Name (Str.ofString "range") np) (e :: rest) [] pos) ρ σ Q := WE_CallT (F.free "range" (by simp)) rfl h hx (by decide) (by decide) he hp
theorem WE_list (F : Fns g) (h : WL g f (e :: rest) pos ρ σ (KCa g f (.type "list") ρ Q)) (hx : f.env.kindOf (Str.ofString "list") = some .globalImplicit := by with_unfolding_all rfl)
    (he : starEach (e :: rest) f.env = (false, eval e f.env) :: starEach rest f.env := by with_unfolding_all rfl) (hp : (backTo pos (starEach rest f.env)).any (·.1) = false := by with_unfolding_all rfl) : WE g f (.Call (.Name (Str.ofString "list") np) (e :: rest) [] pos) ρ σ Q := WE_CallT (F.free "list" (by simp)) rfl h hx (by decide) (by decide) he hp
theorem WE_move (F : Fns g) (h : Q (.int 2) σ) (hx : f.env.kindOf (Str.ofString "_MOVE_COST") = some .globalImplicit := by with_unfolding_all rfl) : WE g f (.Name (Str.ofString "_MOVE_COST") pos) ρ σ Q := by
  obtain ⟨_, m⟩ := F.move; exact WE_glob m (fun _ _ => Rd_int) h hx
theorem WE_case (F : Fns g) (h : Q (.int 1) σ) (hx : f.env.kindOf (Str.ofString "_CASE_COST") = some .globalImplicit := by with_unfolding_all rfl) : WE g f (.Name (Str.ofString "_CASE_COST") pos) ρ σ Q := by
  obtain ⟨_, m⟩ := F.case; exact WE_glob m (fun _ _ => Rd_int) h hx
theorem WE_maxs (F : Fns g) (h : Q (.int 40) σ) (hx : f.env.kindOf (Str.ofString "_MAX_STRING_SIZE") = some .globalImplicit := by with_unfolding_all rfl) : WE g f (.Name (Str.ofString "_MAX_STRING_SIZE") pos) ρ σ Q := by
  obtain ⟨_, m⟩ := F.maxs; exact WE_glob m (fun _ _ => Rd_int) h hx
end
local macro_rules | `(tactic| walk_at "sub") => `(tactic| (repeat' (refine Sub.cons rfl ?_)); exact Sub.nil)
local macro_rules | `(tactic| walk_at "fits") => `(tactic| first | assumption | (rw [sizeLine_eq]; first | omega | (simp only [il, List.length_map, List.length_drop, List.length_take, List.length_append, List.length_cons, List.length_nil]; omega)))
local macro_rules | `(tactic| walk_at "w4") => do
  let mut t ← `(tactic| fail)
  for n in [`lt25, `lt24, `lt23, `lt22, `lt21, `lt20, `lt19, `lt18, `lt17, `lt16, `lt15, `lt14, `lt13, `lt12, `lt11, `lt10, `lt9, `lt8, `lt7, `lt6, `lt5, `lt4, `lt3, `lt2, `lt1, `lt0] do t ← `(tactic| first | exact $(Lean.mkIdent n) | $t:tactic)
  return t
-- one step
local macro_rules | `(tactic| walk_at "w1") => do
  let mut t ← `(tactic| fail)
  for n in [`WE_maxs, `WE_case, `WE_move, `WE_list, `WE_range, `WE_chr, `WE_min, `WE_len] do t ← `(tactic| first | refine $(Lean.mkIdent n) ‹_› ?_ | $t:tactic)
  for n in [`F_min2, `O_neS, `O_neI, `O_geI, `O_gtI, `O_leI, `O_ltI, `O_isubI, `O_iaddI, `O_subI, `O_addI, `O_negI, `O_not, `O_truthyB, `KEx_ok, `KRp_ok, `KJn_ok, `KFm_ok, `KJ_ok, `KFi2_ok, `KFi_ok, `KAl_ok, `KLw_ok, `KBo_ok, `ite_False, `ite_True, `ite_F, `ite_T, `KOr_F, `KOr_T, `KAnd_F, `KAnd_T, `KIf_F, `KIf_T, `O_eqI, `O_eqS, `WP_some, `WP_none, `WE_Sub, `WE_Slice, `WE_lower, `WE_Tuple, `WE_IfExp, `WE_Compare, `WE_Unary, `WE_BinOp, `WE_bool, `WE_none, `WE_str, `WE_int, `WAll_or, `WAll_and, `WAll_nilO, `WAll_nilA, `WT_value, `WT_Not, `WT_BoolOp, `WT_Compare, `WS_For, `WS_While, `WS_Expr, `WS_Assign, `WS_Return, `WS_If, `WL_cons, `WL_nil] do t ← `(tactic| first | refine $(Lean.mkIdent n) ?_ | $t:tactic)
  `(tactic| first | ((with_reducible guard_target = TS _ _ _ (execs _ _) _ _ _); first | refine WSs_cons ?_ | refine WSs_nil ?_) | with_reducible first
    | refine WE_var (by with_unfolding_all rfl) ?_ | refine WE_strL _ (by walk_at "w4") ?_ | refine WS_Aug (by with_unfolding_all rfl) ?_ | $t:tactic)
local macro_rules | `(tactic| walk_at "w3") => `(tactic| first
  | (with_reducible guard_target = KS3 (D.str _) _ _ _ _); refine KS3_ok (by walk_at "fits") rfl rfl ?_
  | (with_reducible guard_target = O1 _ _ _ truthy (D.str _) _ _ _); refine O_truthyS (by walk_at "fits") ?_
  | (with_reducible guard_target = OL _ _ _ (fun vs => call (Value.builtin "len") vs) [D.str _] _ _ _); refine F_lenS (by walk_at "fits") ?_
  | (with_reducible guard_target = O2 _ _ _ (binaryOp Operator.Mult) (D.int _) (D.int _) _ _ _); refine O_mulI ?_)
local macro_rules | `(tactic| walk_at "w") => `(tactic| repeat' (first | walk_at "w1" | walk_at "w3" | (dsimp only) | (rw [cut_from])))
theorem sub_ok {g : G} (F : Fns g) {k : Nat} {a b : Nat} {σ : Sto} {Q : D → Sto → Prop} (h : Q (.int (sub a b)) σ) : Fn g (k + 1) (Str.ofString "_substitution_cost") [.str [a], .str [b]] σ Q := by
  refine Fn_enter F.sub (fun L a₀ cd => ?_) (fun _ _ _ vs hl => ?_) (by rfl) (by decide)
  · walk_at "w"
    refine split_dec (fun q => ?_) fun q => ?_
    · walk_at "w"
      have : sub a b = 0 := by simp [sub] at q ⊢; simp [q]
      rw [this] at h; exact Drop.same h
    · walk_at "w"
      refine ⟨lo1 a, ?_⟩
      walk_at "w"
      refine ⟨lo1 b, ?_⟩
      walk_at "w"
      refine split_dec (fun q2 => ?_) fun q2 => ?_
      · walk_at "w"
        have : sub a b = 1 := by unfold sub; rw [if_neg (by simpa using q), if_pos q2]
        rw [this] at h; exact Drop.same h
      · walk_at "w"
        have : sub a b = 2 := by unfold sub; rw [if_neg (by simpa using q), if_neg q2]
        rw [this] at h; exact Drop.same h
  · obtain ⟨v, u, rfl⟩ := len2 hl; rfl
-- J1
inductive EscL : List Nat → List DictEntry → Prop
  | nil : EscL [] []
  | cons {c : Nat} {t t' : Tok} {cs : List Nat} {es : List DictEntry} : EscL cs es → EscL (c :: cs) (⟨(c : Int), .int (c : Int) t, .str ⟨#[92, c]⟩ t'⟩ :: es)
section
variable {prog : Program} {w : World} {h₁ : Heap} {tabs : List (Addr × Addr)} {p : Program} {loose : List Str} {mean : ExcName → Option Value} {mg mb : Str → Option Value} {K : Frag} {g : G}
theorem EscL.keys : ∀ {cs : List Nat} {es : List DictEntry}, EscL cs es → (∀ c ∈ cs, hashInt (c : Int) = (c : Int)) → ∀ e ∈ es, ∃ k, (intKind prog w).is k e.key = true ∧ e.hash = (intKind prog w).hash k
  | _, _, .nil, _, e, he => by cases he
  | _, _, .cons (c := c) r, hc, e, he => by
    rcases List.mem_cons.mp he with rfl | he
    · exact ⟨(c : Int), by simp [intKind, Value.isInt], (hc c List.mem_cons_self).symm⟩
    · exact r.keys (fun c h => hc c (List.mem_cons_of_mem _ h)) e he
theorem EscL.find : ∀ {cs : List Nat} {es : List DictEntry}, EscL cs es → ∀ d : Nat, if cs.contains d = true then ∃ t, (es.find? fun e => Value.isInt (d : Int) e.key).map (·.val) = some (.str ⟨#[92, d]⟩ t) else (es.find? fun e => Value.isInt (d : Int) e.key).map (·.val) = none
  | _, _, .nil, d => by simp
  | _, _, .cons (c := c) (t := t) (t' := t') (cs := cs) (es := es) r, d => by
    have ih := r.find d
    by_cases q : d = c
    · subst q
      rw [if_pos (by simp)]
      refine ⟨t', ?_⟩
      rw [List.find?_cons_of_pos (by simp [Value.isInt])]; rfl
    · have e1 : (c :: cs).contains d = cs.contains d := by simp [q]
      rw [e1, List.find?_cons_of_neg (by simp [Value.isInt]; omega)]
      exact ih
theorem ghost_rec {cd : Value} {q : Str} (hT : TabsAt tabs h₁) (x : h₁.CodeRec cd q) : (ghostOf h₁ tabs).CodeRec cd q := by
  obtain ⟨c, o, vs, t, e, g, d, r⟩ := x
  refine ⟨c, o, vs, t, e, ghost_get hT g (fun z => ?_), d, r⟩
  rw [z] at d
  cases d
  simp at r
theorem fn_ghost (T : Top p loose mean mg mb h₁) (hT : TabsAt tabs h₁) (hH : g.H0 = ghostOf h₁ tabs) (hm : g.mg = mg) {d : DefRec} {x : Str} (hr : (recsOf p).find? (fun e => e.name == x) = some d) : FnAt g d.name d.params d.body d.scope := by
  obtain ⟨a, o, pm, code, doc, e1, e2, e3, e4⟩ := T.fn d (List.mem_of_find?_eq_some hr)
  refine ⟨a, o, pm, code, doc, by rw [hm]; exact e1, ?_, e3, by rw [hH]; exact ghost_rec hT e4⟩
  rw [hH]
  exact ghost_get hT e2 (fun z => by rw [z] at e3; cases e3)
theorem fnC_ghost (T : Top p loose mean mg mb h₁) (G' : (ghostOf h₁ tabs).Ns mainGlobals mg) (X : K.In (ghostOf h₁ tabs)) (hT : TabsAt tabs h₁) (hH : g.H0 = ghostOf h₁ tabs) (hm : g.mg = mg) {d : DefRec} {x : Str} {c P : Addr} (hr : (recsOf p).find? (fun e => e.name == x) = some d) (ht : tabIn K x = some (c, P)) : FnAtC g (.ref c) d.name d.params d.body d.scope := by
  have hn : d.name = x := beq_iff_eq.mp (List.find?_some (p := fun e : DefRec => e.name == x) hr)
  obtain ⟨a, o, pm, code, doc, e1, e2, e3, e4⟩ := T.fn d (List.mem_of_find?_eq_some hr)
  have e2' : (ghostOf h₁ tabs).get? a = some o := ghost_get hT e2 (fun z => by rw [z] at e3; cases e3)
  have hc : code = .ref c := law_code X G' ht (by rw [← hn]; exact e1) e2' e3
  subst hc
  exact ⟨a, o, pm, doc, by rw [hm]; exact e1, by rw [hH]; exact e2', e3, by rw [hH]; exact ghost_rec hT e4⟩
theorem escTab_of {h : Heap} {a : Addr} {o : Obj} {es : Array DictEntry} {n : Nat} (hs : (a == sysModules) = false) (e : h.get? a = some o) (ex : o.ExactDict) (hd : o.data = .dict es n) (he : EscL specials es.toList) : EscTab prog w h a special := by
  refine ⟨hs, fun (k : Int) => (es.toList.find? fun (e : DictEntry) => Value.isInt k e.key).map (fun (e : DictEntry) => e.val), ⟨o, es, n, e, ex, hd, fun x hx => ?_, fun k => ?_⟩, fun c => he.find c⟩
  · exact he.keys (by decide +kernel) x (by simpa using hx)
  · show ((es.find? fun e => Value.isInt k e.key).map (·.val)) = _
    show _ = (es.toList.find? fun (e : DictEntry) => Value.isInt k e.key).map (fun (e : DictEntry) => e.val)
    rw [Array.find?_toList]
structure KOk (p : Program) (K : Frag) (tc tp : Addr) : Prop where
  tran : tabIn K (Str.ofString "_translate") = some (tc, tp)
  move : ∃ t, nsIn K mainGlobals "_MOVE_COST" = some (some (.int 2 t))
  case : ∃ t, nsIn K mainGlobals "_CASE_COST" = some (some (.int 1 t))
  maxs : ∃ t, nsIn K mainGlobals "_MAX_STRING_SIZE" = some (some (.int 40 t))
  esc : ∃ d es n, nsIn K mainGlobals "_special_chars_map" = some (some (.ref d)) ∧ (d == sysModules) = false ∧ K.lookup d = some { cls := .type "dict", data := .dict es n } ∧ EscL specials es.toList
  twin : ∃ a c n t t', nsIn K mainGlobals "_twin_re_1" = some (some (.ref a)) ∧ K.lookup a = some { cls := .type "re.Pattern", data := .fields #[.str "([&~|])" t, .int 32 t', .int 1 0, .none, .none, .ref c, .int 0 0] } ∧
    K.lookup c = some { cls := .type "tuple", data := .seq (twinCode.map fun (k : Nat) => Value.int (k : Int) 0).toArray n }
noncomputable def RecI (p : Program) (i : Nat) (x : String) : Prop := ∃ pos, (recsOf p).find? (fun e => e.name == Str.ofString x) = some ⟨Str.ofString x, fArgs P i, fBody P i, fScope P i, pos⟩
structure ROk (p : Program) (loose : List Str) : Prop where
  tr : RecI p 9 "translate"
  esc : RecI p 12 "escape"
  tran : RecI p 14 "_translate"
  join : RecI p 15 "_join_translated_parts"
  sub : RecI p 5 "_substitution_cost"
  lev : RecI p 6 "_levenshtein_distance"
  free : ∀ x ∈ (["len", "min", "range", "list", "chr", "ord", "sorted", "sum", "type", "isinstance", "str", "int", "object"] : List String), Str.ofString x ∉ startupNames ∧ Str.ofString x ∉ loose ∧ Str.ofString x ∉ (recsOf p).map (·.name) ∧ Str.ofString x ∉ (litsOf p).map (·.1) ∧ Str.ofString x ∉ (clssOf p loose).map (·.name)
theorem RecI.at {i : Nat} {x : String} (r : RecI p i x) (T : Top p loose mean mg mb h₁) (hT : TabsAt tabs h₁) (hH : g.H0 = ghostOf h₁ tabs) (hm : g.mg = mg) : FnI g i x := by
  obtain ⟨pos, r⟩ := r
  exact fn_ghost T hT hH hm r
theorem fns_of {tc tp : Addr} (T : Top p loose mean mg mb h₁) (G' : (ghostOf h₁ tabs).Ns mainGlobals mg) (X : K.In (ghostOf h₁ tabs)) (hT : TabsAt tabs h₁) (hH : g.H0 = ghostOf h₁ tabs) (hm : g.mg = mg) (htc : g.tc = tc) (k : KOk p K tc tp) (r : ROk p loose) : Fns g where
  tr := r.tr.at T hT hH hm
  esc := r.esc.at T hT hH hm
  tran := by
    obtain ⟨pos, q⟩ := r.tran
    rw [htc]
    exact fnC_ghost T G' X hT hH hm q k.tran
  join := r.join.at T hT hH hm
  escT := by
    obtain ⟨d, es, n, e1, e2, e3, e4⟩ := k.esc
    refine ⟨d, by rw [hm]; exact mg_of X G' e1, ?_⟩
    rw [hH]
    exact escTab_of e2 (X _ _ e3) ⟨rfl, rfl, rfl⟩ rfl e4
  twin := by
    obtain ⟨a, c, n, t, t', e1, e2, e3⟩ := k.twin
    refine ⟨a, by rw [hm]; exact mg_of X G' e1, c, n, t, t', ?_, ?_⟩
    · rw [hH]; exact X _ _ e2
    · rw [hH]; exact X _ _ e3
  sub := r.sub.at T hT hH hm
  lev := r.lev.at T hT hH hm
  move := by obtain ⟨t, e⟩ := k.move; exact ⟨t, by rw [hm]; exact mg_of X G' e⟩
  case := by obtain ⟨t, e⟩ := k.case; exact ⟨t, by rw [hm]; exact mg_of X G' e⟩
  maxs := by obtain ⟨t, e⟩ := k.maxs; exact ⟨t, by rw [hm]; exact mg_of X G' e⟩
  free := fun x hx => by
    obtain ⟨a, b, c, d, e⟩ := r.free x hx
    rw [hm]; exact T.free _ a b c d e
noncomputable def gd (prog : Program) (w : World) (H : Heap) (K : Frag) (mg mb : Str → Option Value) (tc tp : Addr) : G := ⟨prog, w, H, K, mg, mb, tc, tp⟩
theorem gok {tc tp : Addr} {loose' : List Str} {mean' : ExcName → Option Value} (T' : Top topProg loose' mean' mg mb (ghostOf h₁ [(tc, tp)])) (X : K.In (ghostOf h₁ [(tc, tp)])) (hC : CodeHd (ghostOf h₁ [(tc, tp)]) tc tp) (hT : TabsAt [(tc, tp)] h₁) (hne : mainGlobals ≠ tp) :
    GOk (gd prog w (ghostOf h₁ [(tc, tp)]) K mg mb tc tp) where
  gns := T'.g
  bns := T'.b
  bi := T'.builtins
  nolimit := T'.nolimit
  inK := X
  noP := hideAll_none _ (by show tp ∈ [tp]; exact List.mem_singleton_self tp)
  code := hC
  bat := by
    obtain ⟨bm, ob, a1, a2, a3, a4, a5, a6⟩ := T'.bmain
    refine ⟨bm, ob, a1, a2, ?_, ?_, a3, a4, a5, a6⟩
    · rintro rfl
      obtain ⟨o, es, ep, e, hd, _⟩ := T'.g
      rw [a3] at e; cases e
      rw [a6] at hd; cases hd
    · rintro rfl
      have : (ghostOf h₁ [(tc, bm)]).get? bm = none := hideAll_none _ (by simp)
      rw [this] at a3; cases a3
  apart := hne
theorem st_of {tc tp : Addr} {m : Str → Option Value} {s : Shared} {name : Str} {scope : Scope} {L fa l : Addr} {cd : Value} {k : Nat} {vs : List Value} {ns : List Int} {x : Str}
    (go : GOk (gd prog w (ghostOf h₁ [(tc, tp)]) K mg mb tc tp)) (F' : Fr (ghostOf h₁ [(tc, tp)]) L s.heap m) (N' : News (ghostOf h₁ [(tc, tp)]) L s.heap [(tp, tabObj #[])]) (hg : s.gens = #[]) (hT : TabsAt [(tc, tp)] h₁)
    (hl : h₁.get? l = some (listObj vs 0)) (hI : IntsAre vs ns) (hm : m x = some (.ref l)) (hx : scope.names.lookup x = some .local) (hk : scope.kind = .function) (hcl : ∀ L, cellsFrom L scope.names [] = []) (hnc : ∀ y, scope.names.lookup y ≠ some .cell) :
    St (gd prog w (ghostOf h₁ [(tc, tp)]) K mg mb tc tp) (mkFm name scope L fa cd k) s [(x, .lst (ns.map D.int))] [] := by
  have hl' : (ghostOf h₁ [(tc, tp)]).get? l = some (listObj vs 0) := ghost_get hT hl (fun z => by cases z)
  have hn : (gd prog w (ghostOf h₁ [(tc, tp)]) K mg mb tc tp).H0.get? L = none := by
    cases e : (ghostOf h₁ [(tc, tp)]).get? L with
    | none => exact e
    | some o => exact absurd (Heap.lt_size e) (Nat.not_lt.mpr F'.above)
  refine ⟨⟨go, F'.keep, (fun a ds h => (by cases h)), List.nodup_nil, ⟨#[], (N' _ List.mem_cons_self).1, ?_⟩, .of_eq hg⟩, hk, rfl, rfl, ?_, .inl rfl, ⟨m, F'.ns⟩, (fun y hy => absurd hy (hnc y)), ?_, ?_⟩
  · show TriplesOk ([] : List Value)
    trivial
  · rintro b (rfl | ⟨n, hn'⟩)
    · exact ⟨hn, .inl ⟨m, F'.ns⟩⟩
    · rw [hcl] at hn'; cases hn'
  · show List.Pairwise _ (cellsFrom (L + 1) scope.names [])
    rw [hcl]; exact List.Pairwise.nil
  · intro y d hd
    rw [List.lookup_cons] at hd
    cases e : y == x with
    | false => rw [e] at hd; cases hd
    | true =>
      rw [e] at hd
      cases hd
      obtain rfl := beq_iff_eq.mp e
      refine ⟨.ref l, .inl ⟨hx, m, F'.ns, hm⟩, .lst l vs 0 _ (F'.keep _ _ hl') (fun h => by cases h) ?_⟩
      have key : ∀ {us : List Value} {is : List Int}, IntsAre us is → RdL s.heap (own []) us (is.map D.int) := by
        intro us is h
        induction h with
        | nil => exact .nil
        | cons n t h ih => exact .cons (.int n t) ih
      exact key hI
end
-- L2
theorem trimPre_len (a b : List Nat) : (trimPre a b).1.length ≤ a.length ∧ (trimPre a b).2.length ≤ b.length := by
  fun_induction trimPre a b with
  | case1 x xs ys ih => simp only [List.length_cons]; omega
  | case2 x xs y ys h => simp
  | case3 xs ys h => simp
theorem trimPre_step {a b : List Nat} {k : Nat} (ha : a.drop k ≠ []) (hb : b.drop k ≠ []) (h : a[k]? = b[k]?) : trimPre (a.drop (k + 1)) (b.drop (k + 1)) = trimPre (a.drop k) (b.drop k) := by
  have la : k < a.length := by simpa using ha
  have lb : k < b.length := by simpa using hb
  rw [List.drop_eq_getElem_cons la, List.drop_eq_getElem_cons lb]
  rw [List.getElem?_eq_getElem la, List.getElem?_eq_getElem lb] at h
  injection h with h
  rw [h]; conv => rhs; unfold trimPre
  rw [if_pos rfl]
theorem trimPre_stop {a b : List Nat} (h : a = [] ∨ b = [] ∨ a.head? ≠ b.head?) : trimPre a b = (a, b) := by
  cases a <;> cases b <;> unfold trimPre <;> simp_all
theorem get_drop {a : List Nat} {k : Nat} : (a.drop k).head? = a[k]? := by rw [List.head?_drop]
noncomputable def levT (i : Nat) : Expr := match (fBody P 6)[i]? with | some (.While t _ _ _) => t | _ => .Name "" default
noncomputable def levB (i : Nat) : List Stmt := match (fBody P 6)[i]? with | some (.While _ b _ _) => b | some (.For _ _ b _ _) => b | _ => []
theorem pre_loop {g : G} {L a₀ : Addr} {cd : Value} {k : Nat} {a b : List Nat} {m : Int} {σ : Sto} {Q : Fl → Loc → Sto → Prop} (ha : a.length ≤ 1000) (hb : b.length ≤ 1000)
    (h : ∀ n : Nat, (a.drop n, b.drop n) = trimPre a b → Q .next [("a", .str a), ("b", .str b), ("max_cost", .int m), ("pre", .int (n : Int))] σ) :
    ∀ (z n : Nat), a.length - n = z → trimPre (a.drop n) (b.drop n) = trimPre a b →
    LW g (mkFm (Str.ofString "_levenshtein_distance") (fScope P 6) L a₀ cd k) (levT 2) (levB 2) [("a", .str a), ("b", .str b), ("max_cost", .int m), ("pre", .int (n : Int))] σ Q := by
  intro z
  induction z using Nat.strongRecOn with
  | ind z ih =>
    intro n hz hI
    refine LW_step (WT_BoolOp ?_)
    walk_at "w"
    refine split_dec (fun q1 => ?_) fun q1 => ?_
    · walk_at "w"
      refine split_dec (fun q2 => ?_) fun q2 => ?_
      · have la : n < a.length := by simpa using q1
        have lb : n < b.length := by simpa using q2
        walk_at "w"
        refine WI_str (c := a[n]) (by rw [at_nat]; simp [la]) (by walk_at "fits") ?_
        walk_at "w"
        refine WI_str (c := b[n]) (by rw [at_nat]; simp [lb]) (by walk_at "fits") ?_
        walk_at "w"
        refine split_dec (fun q3 => ?_) fun q3 => ?_
        · walk_at "w"
          have e : (n : Int) + 1 = ((n + 1 : Nat) : Int) := by omega
          rw [e]
          refine ih (a.length - (n + 1)) (by omega) (n + 1) rfl ?_
          rw [trimPre_step q1 q2 (by simp at q3; simp [la, lb, q3]), hI]
        · refine h n ?_
          rw [← hI, trimPre_stop]
          right; right
          rw [get_drop, get_drop]
          intro e; apply q3
          simp [la, lb] at e; rw [e]
      · refine h n ?_
        rw [← hI, trimPre_stop (.inr (.inl (by simpa using q2)))]
    · refine h n ?_
      rw [← hI, trimPre_stop (.inl (by simpa using q1))]
theorem WE_orNone {g : G} {f : Fm} {ρ : Loc} {σ : Sto} {x : Str} {px pos p2 : Pos} {k j : Nat} {Q : D → Sto → Prop} (hx : ρ.lookup x = some (.int (-(j : Int)))) (h : ∀ d, part d = some (if j = 0 then none else some (-(j : Int))) → Q d σ)
    (hd : ((x == ("__debug__" : Str)) || (x == ("__classdict__" : Str))) = false := by decide) : WE g f (.BoolOp .Or [.Name x px, .Constant .none k p2] pos) ρ σ Q := by
  refine WE_Or2 (WE_var hx ?_ hd)
  refine O_truthyI ?_
  refine split_dec (fun q => ?_) fun q => ?_
  · exact h _ (by rw [if_neg (by omega)]; rfl)
  · exact WE_none (h _ (by rw [if_pos (by omega)]; rfl))
theorem cut_upto_j {α : Type} (l : List α) (j : Nat) : cut l none (if j = 0 then none else some (-(j : Int))) = l.take (l.length - j) := by
  by_cases h : j = 0
  · subst h; simp [cut_none]
  · rw [if_neg h, cut_upto_neg _ _ (by omega)]
theorem take_ne {α : Type} {l : List α} {j : Nat} : l.take (l.length - j) ≠ [] ↔ j < l.length := by
  rw [ne_eq, List.take_eq_nil_iff]
  constructor
  · intro h; rw [not_or] at h
    omega
  · intro h; rw [not_or]
    exact ⟨by omega, by intro e; rw [e] at h; simp at h⟩
theorem post_loop {g : G} {L a₀ : Addr} {cd : Value} {k : Nat} {a b : List Nat} {m : Int} {σ : Sto} {Q : Fl → Loc → Sto → Prop} (ha : a.length ≤ 1000) (hb : b.length ≤ 1000)
    (h : ∀ j : Nat, (a.reverse.drop j, b.reverse.drop j) = trimPre a.reverse b.reverse → Q .next [("a", .str a), ("b", .str b), ("max_cost", .int m), ("post", .int (-(j : Int)))] σ) :
    ∀ (z j : Nat), a.length - j = z → trimPre (a.reverse.drop j) (b.reverse.drop j) = trimPre a.reverse b.reverse →
    LW g (mkFm (Str.ofString "_levenshtein_distance") (fScope P 6) L a₀ cd k) (levT 6) (levB 6) [("a", .str a), ("b", .str b), ("max_cost", .int m), ("post", .int (-(j : Int)))] σ Q := by
  intro z
  induction z using Nat.strongRecOn with
  | ind z ih =>
    intro j hz hI
    refine LW_step (WT_BoolOp ?_)
    walk_at "w"
    refine WE_orNone rfl fun d hd => ⟨none, _, _, rfl, hd, .str _ _ _ (by walk_at "fits"), ?_⟩
    rw [cut_upto_j]
    walk_at "w"
    refine split_dec (fun q1 => ?_) fun q1 => ?_
    · walk_at "w"
      refine WE_orNone rfl fun d hd => ⟨none, _, _, rfl, hd, .str _ _ _ (by walk_at "fits"), ?_⟩
      rw [cut_upto_j]
      walk_at "w"
      refine split_dec (fun q2 => ?_) fun q2 => ?_
      · have la : j < a.length := take_ne.mp q1
        have lb : j < b.length := take_ne.mp q2
        have e1 : (-(j : Int)) - 1 = -((j + 1 : Nat) : Int) := by omega
        walk_at "w"
        refine WI_str (c := a[a.length - (j + 1)]) (by rw [e1, at_neg _ _ (by omega) (by omega)]; simp) (by walk_at "fits") ?_
        walk_at "w"
        refine WI_str (c := b[b.length - (j + 1)]) (by rw [e1, at_neg _ _ (by omega) (by omega)]; simp) (by walk_at "fits") ?_
        walk_at "w"
        have ga : a.reverse[j]? = some a[a.length - (j + 1)] := by
          rw [List.getElem?_reverse la, show a.length - 1 - j = a.length - (j + 1) by omega]; simp
        have gb : b.reverse[j]? = some b[b.length - (j + 1)] := by
          rw [List.getElem?_reverse lb, show b.length - 1 - j = b.length - (j + 1) by omega]; simp
        refine split_dec (fun q3 => ?_) fun q3 => ?_
        · walk_at "w"
          rw [e1]
          refine ih (a.length - (j + 1)) (by omega) (j + 1) rfl ?_
          rw [trimPre_step (by simpa using la) (by simpa using lb) (by rw [ga, gb]; simpa using q3), hI]
        · refine h j ?_
          rw [← hI, trimPre_stop]
          right; right
          rw [get_drop, get_drop, ga, gb]
          intro e; apply q3
          simpa using e
      · refine h j ?_
        have : b.length ≤ j := by
          have := mt take_ne.mpr q2
          omega
        rw [← hI, trimPre_stop (.inr (.inl (by simpa using this)))]
    · refine h j ?_
      have : a.length ≤ j := by
        have := mt take_ne.mpr q1
        omega
      rw [← hI, trimPre_stop (.inl (by simpa using this))]
-- L3
noncomputable def rngFrom : Nat → Nat → List D
  | _, 0 => []
  | i, c + 1 => .int (i : Int) :: rngFrom (i + 1) c
theorem rngItems_from (n : Nat) : rngItems 0 1 n = rngFrom 0 n := by
  have : ∀ c i, (List.range' i c).map (fun (k : Nat) => D.int (0 + (k : Int) * 1)) = rngFrom i c := by
    intro c
    induction c with
    | zero => intro i; rfl
    | succ c ih => intro i; rw [List.range'_succ, List.map_cons, ih]; simp [rngFrom]
  unfold rngItems
  rw [List.range_eq_range']; exact this n 0
theorem il_append (a b : List Int) : il (a ++ b) = il a ++ il b := by simp [il]
theorem il_length (a : List Int) : (il a).length = a.length := by simp [il]
noncomputable def forT (l : List Stmt) (i : Nat) : Expr := match l[i]? with | some (Stmt.For t _ _ _ _) => t | _ => .Name "" default
noncomputable def forB (l : List Stmt) (i : Nat) : List Stmt := match l[i]? with | some (Stmt.For _ _ b _ _) => b | _ => []
theorem inner_loop {g : G} (F : Fns g) {L a₀ : Addr} {cd : Value} {k : Nat} {b : List Nat} {m : Int} {σ : Sto} {Q : Fl → Loc → Sto → Prop} {r : Addr} {bc : Nat} {bi : Int} :
    ∀ (xs pre : List Nat) (done rest : List Int) (d res mn : Int), pre.length = done.length → rest.length = xs.length → (pre ++ xs).length ≤ 1000 →
    (∀ t, t = inner bc xs rest d res mn → Q .next [("a", .str (pre ++ xs)), ("b", .str b), ("max_cost", .int m), ("row", .val (.ref r)), ("bindex", .int bi), ("distance", .int t.dist), ("result", .int t.res), ("minimum", .int t.mn)] ((r, il (done ++ t.row)) :: σ)) →
    FL g (mkFm (Str.ofString "_levenshtein_distance") (fScope P 6) L a₀ cd (k + 1)) (forT (levB 15) 3) (forB (levB 15) 3) (rngFrom pre.length xs.length)
      [("a", .str (pre ++ xs)), ("b", .str b), ("max_cost", .int m), ("row", .val (.ref r)), ("bindex", .int bi), ("bchar", .str [bc]), ("distance", .int d), ("result", .int res), ("minimum", .int mn)] ((r, il (done ++ rest)) :: σ) Q := by
  intro xs
  induction xs with
  | nil =>
    intro pre done rest d res mn h1 h2 h3 h
    have : rest = [] := List.length_eq_zero_iff.mp h2
    subst this
    refine FL_sub (ρ' := [("a", .str (pre ++ [])), ("b", .str b), ("max_cost", .int m), ("row", .val (.ref r)), ("bindex", .int bi), ("distance", .int d), ("result", .int res), ("minimum", .int mn)]) (by walk_at "sub") ?_
    exact FL_nil (h _ rfl)
  | cons x xs ih =>
    intro pre done rest d res mn h1 h2 h3 h
    match rest, h2 with
    | r0 :: rs, h2 =>
      have hlen : (il (done ++ r0 :: rs)).length ≤ sizeLine := by
        simp only [List.length_append, List.length_cons] at h2 h3
        rw [sizeLine_eq]; simp only [il, List.length_map, List.length_append, List.length_cons]; omega
      refine FL_cons (OA_Name ?_)
      walk_at "w"
      refine WE_CallF F.sub ?_
      walk_at "w"
      refine WI_str (c := x) (by rw [at_nat]; simp) (by walk_at "fits") ?_
      walk_at "w"
      refine sub_ok F ?_
      walk_at "w"
      refine WI_own (a := r) (d := .int r0) (List.mem_cons_self ..) (by rw [at_nat, h1]; simp [il]) (by walk_at "fits") ?_
      walk_at "w"
      refine WS_setOwn ?_
      walk_at "w"
      have h2' : rs.length = xs.length := by simpa using h2
      have e1 : (il (done ++ r0 :: rs)).set pre.length (.int (min (min res r0 + 2) (d + sub bc x))) = il ((done ++ [min (min res r0 + 2) (d + sub bc x)]) ++ rs) := by
        rw [h1]; simp [il]
      refine ⟨r, [], σ, _, _, rfl, rfl, rfl, by omega, by simp [il, h1]; omega, hlen, ?_⟩
      rw [Int.toNat_natCast, e1]
      have key : ∀ mn', mn' = (if min (min res r0 + 2) (d + sub bc x) < mn then min (min res r0 + 2) (d + sub bc x) else mn) →
          FL g (mkFm (Str.ofString "_levenshtein_distance") (fScope P 6) L a₀ cd (k + 1)) (forT (levB 15) 3) (forB (levB 15) 3) (rngFrom (pre.length + 1) xs.length)
            [("a", .str (pre ++ x :: xs)), ("b", .str b), ("max_cost", .int m), ("row", .val (.ref r)), ("bindex", .int bi), ("bchar", .str [bc]), ("distance", .int r0), ("result", .int (min (min res r0 + 2) (d + sub bc x))), ("minimum", .int mn')]
            ((r, il ((done ++ [min (min res r0 + 2) (d + sub bc x)]) ++ rs)) :: σ) Q := by
        intro mn' hmn
        have := ih (pre ++ [x]) (done ++ [min (min res r0 + 2) (d + sub bc x)]) rs r0 (min (min res r0 + 2) (d + sub bc x)) mn' (by simp [h1]) h2' (by simpa using h3) (by
          intro t ht
          have := h { t with row := min (min res r0 + 2) (d + sub bc x) :: t.row } (by rw [ht, hmn]; rfl)
          simpa using this)
        simpa using this
      walk_at "w"
      refine split_dec (fun q => ?_) fun q => ?_
      · walk_at "w"
        refine FL_sub ?_ (key _ (by rw [if_pos q]))
        walk_at "sub"
      · walk_at "w"
        refine FL_sub ?_ (key _ (by rw [if_neg q]))
        walk_at "sub"
-- L4
theorem draws_upto (n : Nat) (hn : n ≤ 100000) : Draws (.rng 0 (n : Int) 1) (rngFrom 0 n) := by
  rw [← rngItems_from]
  exact .rng _ _ _ _ (small_one (by omega) (by omega) (by omega) (by omega)) (by rw [rangeSize_nat]; simp)
theorem inner_len (bc : Nat) : ∀ (xs : List Nat) (rs : List Int) (d res mn : Int), rs.length = xs.length → (inner bc xs rs d res mn).row.length = xs.length
  | [], [], _, _, _, _ => rfl
  | [], _ :: _, _, _, _, h => by simp at h
  | _ :: _, [], _, _, _, h => by simp at h
  | x :: xs, r :: rs, d, res, mn, h => by
    show List.length (_ :: _) = _
    rw [List.length_cons, List.length_cons, inner_len bc xs rs _ _ _ (by simpa using h)]
theorem outer_loop {g : G} (F : Fns g) {L a₀ : Addr} {cd : Value} {k : Nat} {a : List Nat} {m : Int} {σ : Sto} {Q : Fl → Loc → Sto → Prop} {r : Addr} (ha : a.length ≤ 100) :
    ∀ (bs pre : List Nat) (row : List Int) (res : Int), row.length = a.length → (pre ++ bs).length ≤ 100 →
    (∀ ρ rw, Q (.ret (.int (outer a m bs pre.length row res))) ρ ((r, rw) :: σ)) →
    (∀ rw, Q .next [("result", .int (outer a m bs pre.length row res))] ((r, rw) :: σ)) →
    FL g (mkFm (Str.ofString "_levenshtein_distance") (fScope P 6) L a₀ cd (k + 1)) (forT (fBody P 6) 15) (forB (fBody P 6) 15) (rngFrom pre.length bs.length)
      [("a", .str a), ("b", .str (pre ++ bs)), ("max_cost", .int m), ("row", .val (.ref r)), ("result", .int res)] ((r, il row) :: σ) Q := by
  intro bs
  induction bs with
  | nil =>
    intro pre row res h1 h3 h h'
    refine FL_sub (ρ' := [("result", .int res)]) (by walk_at "sub") ?_
    exact FL_nil (h' _)
  | cons bc bs ih =>
    intro pre row res h1 h3 h h'
    have this : ∀ t : Turn, t.row.length = a.length → (∀ ρ rw, Q (.ret (.int (outer a m bs (pre.length + 1) t.row t.res))) ρ ((r, rw) :: σ)) → (∀ rw, Q .next [("result", .int (outer a m bs (pre.length + 1) t.row t.res))] ((r, rw) :: σ)) →
        FL g (mkFm (Str.ofString "_levenshtein_distance") (fScope P 6) L a₀ cd (k + 1)) (forT (fBody P 6) 15) (forB (fBody P 6) 15) (rngFrom (pre.length + 1) bs.length)
          [("a", .str a), ("b", .str (pre ++ bc :: bs)), ("max_cost", .int m), ("row", .val (.ref r)), ("result", .int t.res)] ((r, il t.row) :: σ) Q := by
      intro t ht h h'
      have := ih (pre ++ [bc]) t.row t.res ht (by simpa using h3) (by simpa using h) (by simpa using h')
      simpa using this
    refine FL_cons (OA_Name ?_)
    walk_at "w"
    refine WI_str (c := bc) (by rw [at_nat]; simp) (by walk_at "fits") ?_
    walk_at "w"
    refine WS_Assign2 ?_
    walk_at "w"
    refine OA_Name (OA_Name ?_)
    walk_at "w"
    refine F_range1 ⟨_, draws_upto _ (by omega), ?_⟩
    refine FL_sub ?_ (inner_loop F (L := L) (a₀ := a₀) (cd := cd) (k := k) (b := pre ++ bc :: bs) (m := m) (σ := σ) (r := r) (bc := bc) (bi := (pre.length : Int)) a [] [] row ((pre.length : Int) * 2) ((pre.length : Int) * 2) big rfl h1 (by simp; omega) fun t ht => ?_)
    · walk_at "sub"
    walk_at "w"
    have hrow : t.row.length = a.length := by rw [ht]; exact inner_len _ _ _ _ _ _ h1
    have ho : outer a m (bc :: bs) pre.length row res = if m < t.mn then m + 1 else outer a m bs (pre.length + 1) t.row t.res := by rw [ht]; rfl
    refine split_dec (fun q => ?_) fun q => ?_
    · walk_at "w"
      rw [ho, if_pos q] at h
      exact h _ _
    · rw [ho, if_neg q] at h h'
      walk_at "w"
      refine FL_sub ?_ (this t hrow h h')
      walk_at "sub"
theorem fitsLong_small {x : Int} (h : -1000000 ≤ x) (h' : x ≤ 1000000) : Builtin.Range.rangeFitsLong x = true := by
  unfold Builtin.Range.rangeFitsLong
  rw [Bool.and_eq_true]
  exact ⟨decide_eq_true (by omega), decide_eq_true (by omega)⟩
theorem small_two (n : Nat) (b : Int) (hz : Builtin.Range.rangeSize 2 (2 * ((n : Int) + 1)) 2 = n) (hn : n ≤ 100) : Builtin.Range.small 2 (2 * ((n : Int) + 1)) 2 = true := by
  unfold Builtin.Range.small
  rw [hz, if_pos (by decide)]
  simp only [fitsLong_small (x := 2) (by omega) (by omega), fitsLong_small (x := 2 * ((n : Int) + 1)) (by omega) (by omega), fitsLong_small (x := (n : Int)) (by omega) (by omega), fitsLong_small (x := 2 * ((n : Int) + 1) + (2 - 1)) (by omega) (by omega), Bool.or_true, Bool.and_true]
theorem lev_core {g : G} (F : Fns g) {L a₀ : Addr} {cd : Value} {k : Nat} {m : Int} {σ : Sto} {Q : D → Sto → Prop} {u v : List Nat} (lu : u.length ≤ 100) (lv : v.length ≤ 100) (hu : u ≠ []) (hv : v ≠ []) (hle : u.length ≤ v.length)
    (h : Q (.int (levCore u v m)) σ) : WSs g (mkFm (Str.ofString "_levenshtein_distance") (fScope P 6) L a₀ cd (k + 1)) ((fBody P 6).drop 12) [("a", .str u), ("b", .str v), ("max_cost", .int m)] σ fun fl _ σ' => match fl with | .ret d => Drop Q d σ' | _ => Drop Q .none σ' := by
  show WSs g _ [_, _, _, _, _] _ _ _
  unfold levCore at h
  walk_at "w"
  refine split_dec (fun q => ?_) fun q => ?_
  · walk_at "w"
    rw [if_pos q] at h; exact Drop.same h
  rw [if_neg q] at h
  walk_at "w"
  have hz : Builtin.Range.rangeSize 2 (2 * ((u.length : Int) + 1)) 2 = (u.length : Nat) := by
    unfold Builtin.Range.rangeSize
    simp only [show (2 : Int) > 0 from by decide, if_true]
    have : 0 < u.length := List.length_pos_iff.mpr hu
    rw [if_pos (by omega)]
    omega
  refine F_range3 (by decide) (by decide) ?_
  walk_at "w"
  refine F_listRange (n := u.length) ?_ hz (by rw [sizeLine_eq]; omega) fun x hx => ?_
  · exact small_two _ 0 hz lu
  walk_at "w"
  refine F_range1 ⟨_, draws_upto _ (by omega), ?_⟩
  have e : rngItems 2 2 u.length = il (firstRow u.length) := by
    unfold rngItems il firstRow
    rw [List.map_map]
    apply List.map_congr_left
    intro i hi
    show D.int (2 + (i : Int) * 2) = D.int (2 * ((i : Int) + 1))
    congr 1; omega
  rw [e]
  refine FL_sub ?_ (outer_loop F (L := L) (a₀ := a₀) (cd := cd) (k := k) (m := m) (σ := σ) (r := x) lu v [] (firstRow u.length) 0 (by simp [firstRow]) (by simpa using lv) (fun ρ rw => ?_) fun rw => ?_)
  · walk_at "sub"
  · exact Drop.one h
  · walk_at "w"
    exact Drop.one h
set_option maxHeartbeats 2000000 in
theorem lev_ok {g : G} (F : Fns g) {k : Nat} {a b : List Nat} {m : Int} {σ : Sto} {Q : D → Sto → Prop} (ha : a.length ≤ 100) (hb : b.length ≤ 100) (h : Q (.int (lev a b m)) σ) :
    Fn g (k + 2) (Str.ofString "_levenshtein_distance") [.str a, .str b, .int m] σ Q := by
  refine Fn_enter F.lev (fun L a₀ cd => ?_) (fun _ _ _ vs hl => ?_) (by rfl) (by decide)
  · walk_at "w"
    refine split_dec (fun q => ?_) fun q => ?_
    · walk_at "w"
      have : lev a b m = 0 := by unfold lev; rw [if_pos q]
      rw [this] at h; exact Drop.same h
    · unfold lev at h; rw [if_neg q] at h
      walk_at "w"
      refine pre_loop (a := a) (b := b) (m := m) (by omega) (by omega) (fun n hn => ?_) _ 0 rfl rfl
      rw [← hn] at h
      walk_at "w"
      refine LW_sub ?_ (post_loop (L := L) (a₀ := a₀) (cd := cd) (k := k + 1) (a := a.drop n) (b := b.drop n) (m := m) (by simp; omega) (by simp; omega) (fun j hj => ?_) _ 0 rfl rfl)
      · walk_at "sub"
      have e1 : (trimPost (a.drop n) (b.drop n)).1 = (a.drop n).take ((a.drop n).length - j) := by
        unfold trimPost; rw [← hj]; dsimp only; rw [List.drop_reverse, List.reverse_reverse]
      have e2 : (trimPost (a.drop n) (b.drop n)).2 = (b.drop n).take ((b.drop n).length - j) := by
        unfold trimPost; rw [← hj]; dsimp only; rw [List.drop_reverse, List.reverse_reverse]
      simp only [e1, e2] at h
      have l1 : ((a.drop n).take ((a.drop n).length - j)).length ≤ 100 := by simp; omega
      have l2 : ((b.drop n).take ((b.drop n).length - j)).length ≤ 100 := by simp; omega
      walk_at "w"
      refine WE_orNone rfl fun d hd => ⟨none, _, _, rfl, hd, .str _ _ _ (by walk_at "fits"), ?_⟩
      rw [cut_upto_j]
      walk_at "w"
      refine WE_orNone rfl fun d hd => ⟨none, _, _, rfl, hd, .str _ _ _ (by walk_at "fits"), ?_⟩
      rw [cut_upto_j]
      generalize (a.drop n).take ((a.drop n).length - j) = x at *
      generalize (b.drop n).take ((b.drop n).length - j) = y at *
      walk_at "w"
      have fin : ∀ {σ' : Sto} {d : D}, (x = [] ∨ y = []) → d = .int (2 * (x.length + y.length)) → σ' = σ → Drop Q d σ' := by
        intro σ' d hx hd hs
        unfold levTrim at h; rw [if_pos hx] at h
        rw [hd, hs]; exact Drop.same h
      refine split_not (fun q1 => ?_) fun q1 => ?_
      · walk_at "w"
        exact fin (.inl (by simpa using q1)) rfl rfl
      walk_at "w"
      refine split_not (fun q2 => ?_) fun q2 => ?_
      · walk_at "w"
        exact fin (.inr (by simpa using q2)) rfl rfl
      clear fin
      unfold levTrim at h; rw [if_neg (by rw [not_or]; exact ⟨q1, q2⟩)] at h
      walk_at "w"
      refine split_dec (fun q3 => ?_) fun q3 => ?_
      · walk_at "w"
        rw [if_pos (.inl (by omega))] at h; exact Drop.same h
      walk_at "w"
      refine split_dec (fun q4 => ?_) fun q4 => ?_
      · walk_at "w"
        rw [if_pos (.inr (by omega))] at h; exact Drop.same h
      rw [if_neg (by omega)] at h
      walk_at "w"
      have core : ∀ {u v : List Nat}, u.length ≤ 100 → v.length ≤ 100 → u ≠ [] → v ≠ [] → u.length ≤ v.length → Q (.int (levCore u v m)) σ →
          WSs g (mkFm (Str.ofString "_levenshtein_distance") (fScope P 6) L a₀ cd (k + 1)) ((fBody P 6).drop 12) [("a", .str u), ("b", .str v), ("max_cost", .int m)] σ fun fl _ σ' => match fl with | .ret d => Drop Q d σ' | _ => Drop Q .none σ' := by
        intro u v lu lv hu hv hle h
        refine lev_core F lu lv hu hv hle h
      refine split_dec (fun q5 => ?_) fun q5 => ?_
      · rw [if_pos (by omega)] at h
        refine WSs_cons (WS_Swap2 ?_)
        walk_at "w"
        refine ⟨by rw [sizeLine_eq]; exact (by decide : 2 ≤ 16777216), _, _, rfl, ?_⟩
        refine WSs_nil ?_
        refine TS_sub ?_ (core l2 l1 q2 q1 (by omega) h)
        walk_at "sub"
      · rw [if_neg (by omega)] at h
        refine WSs_nil ?_
        refine TS_sub ?_ (core l1 l2 q1 q2 (by omega) h)
        walk_at "sub"
  · obtain ⟨v, u, w, rfl⟩ := len3 hl; rfl
-- Tl1
noncomputable def escOf (c : Nat) : List Nat := if special c = true then [92, c] else [c]
theorem escape_ok {g : G} (F : Fns g) {k : Nat} {c : Nat} {σ : Sto} {Q : D → Sto → Prop} (h : Q (.str (escOf c)) σ) : Fn g (k + 1) (Str.ofString "escape") [.str [c]] σ Q := by
  refine Fn_enter F.esc (fun L a₀ cd => ?_) (fun _ _ _ vs hl => ?_) (by rfl) (by decide)
  · walk_at "w"
    refine WE_CallB (F.free "isinstance" (by simp)) rfl ?_
    walk_at "w"
    refine WE_builtin (F.free "str" (by simp)) rfl ?_
    walk_at "w"
    refine F_isinstance_str ?_
    walk_at "w"
    refine WE_translate (sp := special) ?_
    walk_at "w"
    refine ⟨_, rfl, ?_⟩
    obtain ⟨d, hd, hT⟩ := F.escT
    refine WE_glob hd (fun _ _ => .val _) ⟨d, rfl, hT, ?_⟩
    walk_at "w"
    exact Drop.same h
  · obtain ⟨v, rfl⟩ := len1 hl; rfl
-- Tl2
noncomputable def whT (l : List Stmt) (i : Nat) : Expr := match l[i]? with | some (.While t _ _ _) => t | _ => .Name "" default
noncomputable def whB (l : List Stmt) (i : Nat) : List Stmt := match l[i]? with | some (.While _ b _ _) => b | _ => []
noncomputable abbrev trLoc (pat : List Nat) (star r : Addr) (i n : Nat) : Loc := [("pat", .str pat), ("STAR", .val (.ref star)), ("QUESTION_MARK", .str [46]), ("res", .val (.ref r)), ("add", .app r), ("i", .int (i : Int)), ("n", .int (n : Int))]
noncomputable abbrev PS := List (Option (List Nat))
noncomputable def pd (star : Addr) : Option (List Nat) → D
  | none => .val (.ref star)
  | some t => .str t
noncomputable def BodyOk (g : G) (pat : List Nat) (upd : PS → PS) : Prop :=
  ∀ (pre post : List Nat) (L a₀ star r : Addr) (k : Nat) (acc : PS) (σ : Sto) (Q : Fl → Loc → Sto → Prop), (pre ++ pat ++ post).length ≤ 200 → acc.length ≤ 200 →
    (∀ ρ', Sub (trLoc (pre ++ pat ++ post) star r (pre.length + pat.length) (pre ++ pat ++ post).length) ρ' → Q .next ρ' ((r, (upd acc).map (pd star)) :: σ)) →
    WSs g (mkFm (Str.ofString "_translate") (fScope P 14) L a₀ (.ref g.tc) (k + 1)) (whB (fBody P 14) 3) (trLoc (pre ++ pat ++ post) star r pre.length (pre ++ pat ++ post).length) ((r, acc.map (pd star)) :: σ) Q
theorem at_mid {α : Type} (pre post : List α) (c : α) : at? (pre ++ [c] ++ post) (pre.length : Int) = some c := by rw [at_nat]; simp
theorem map_len {acc : PS} {star : Addr} (h : acc.length ≤ 200) : (acc.map (pd star)).length ≤ sizeLine := by rw [List.length_map, sizeLine_eq]; omega
theorem body_lit {g : G} (F : Fns g) {c : Nat} (h1 : c ≠ 42) (h2 : c ≠ 63) (h3 : c ≠ 91) : BodyOk g [c] fun acc => acc ++ [some (escOf c)] := by
  intro pre post L a₀ star r k acc σ Q hl ha h
  show WSs g _ [_, _, _] _ _ _
  walk_at "w"
  refine WI_str (at_mid pre post c) (by walk_at "fits") ?_
  walk_at "w"
  rw [decide_eq_false (show ¬ [c] = [42] by simpa using h1)]
  walk_at "w"
  rw [decide_eq_false (show ¬ [c] = [63] by simpa using h2)]
  walk_at "w"
  rw [decide_eq_false (show ¬ [c] = [91] by simpa using h3)]
  walk_at "w"
  refine WE_CallApp rfl ?_
  walk_at "w"
  refine WE_CallF F.esc ?_
  walk_at "w"
  refine escape_ok F ⟨[], σ, _, rfl, map_len ha, ?_⟩
  walk_at "w"
  rw [List.map_append] at h
  refine h _ ?_
  walk_at "sub"
theorem body_any {g : G} (F : Fns g) : BodyOk g [63] fun acc => acc ++ [some [46]] := by
  intro pre post L a₀ star r k acc σ Q hl ha h
  show WSs g _ [_, _, _] _ _ _
  walk_at "w"
  refine WI_str (at_mid pre post 63) (by walk_at "fits") ?_
  walk_at "w"
  rw [decide_eq_false (show ¬ [63] = [42] by decide)]
  walk_at "w"
  rw [decide_eq_true (show [63] = [63] from rfl)]
  walk_at "w"
  refine WE_CallApp rfl ?_
  walk_at "w"
  refine ⟨[], σ, _, rfl, map_len ha, ?_⟩
  walk_at "w"
  rw [List.map_append] at h
  refine h _ ?_
  walk_at "sub"
noncomputable def starUpd (acc : PS) : PS := if acc.getLast? = some none then acc else acc ++ [none]
theorem at_last {α : Type} (l : List α) (c : α) : at? (l ++ [c]) (-1) = some c := by
  have := at_neg (l ++ [c]) 1 (Nat.le_refl 1) (by simp)
  rw [show (-1 : Int) = -((1 : Nat) : Int) from rfl, this]; simp
theorem body_star {g : G} (F : Fns g) : BodyOk g [42] starUpd := by
  intro pre post L a₀ star r k acc σ Q hl ha h
  show WSs g _ [_, _, _] _ _ _
  walk_at "w"
  refine WI_str (at_mid pre post 42) (by walk_at "fits") ?_
  walk_at "w"
  rw [decide_eq_true (show [42] = [42] from rfl)]
  walk_at "w"
  refine O_truthyOwn List.mem_cons_self (map_len ha) ?_
  rcases List.eq_nil_or_concat acc with rfl | ⟨init, last, rfl⟩
  · refine not_b true rfl ?_
    walk_at "w"
    refine WE_CallApp rfl ?_
    walk_at "w"
    refine ⟨[], σ, _, rfl, map_len ha, ?_⟩
    walk_at "w"
    refine h _ ?_
    walk_at "sub"
  · rw [List.concat_eq_append] at ha h ⊢
    refine not_b false (by simp) ?_
    walk_at "w"
    rw [List.map_append] at *
    cases last with
    | none =>
      refine WI_own (d := .val (.ref star)) List.mem_cons_self (at_last _ _) (by rw [← List.map_append]; exact map_len ha) ?_
      walk_at "w"
      refine O_isNotRR ?_
      walk_at "w"
      rw [show starUpd (init ++ [none]) = init ++ [none] from by unfold starUpd; simp] at h
      rw [List.map_append] at h
      refine h _ ?_
      walk_at "sub"
    | some t =>
      refine WI_own (d := .str t) List.mem_cons_self (at_last _ _) (by rw [← List.map_append]; exact map_len ha) ?_
      walk_at "w"
      refine O_isNotSR ?_
      walk_at "w"
      refine WE_CallApp rfl ?_
      walk_at "w"
      refine ⟨[], σ, _, rfl, by rw [← List.map_append]; exact map_len ha, ?_⟩
      walk_at "w"
      rw [show starUpd (init ++ [some t]) = init ++ [some t] ++ [none] from by unfold starUpd; simp] at h
      rw [List.map_append, List.map_append] at h
      refine h _ ?_
      walk_at "sub"
-- Tl3
theorem at_off {α : Type} (pre l post : List α) (k : Nat) (hk : k < l.length) : at? (pre ++ l ++ post) ((pre.length : Int) + (k : Int)) = l[k]? := by
  rw [show (pre.length : Int) + (k : Int) = ((pre.length + k : Nat) : Int) from by omega, at_nat, List.append_assoc, List.getElem?_append_right (by omega), List.getElem?_append_left (by omega)]
  congr 1; omega
noncomputable def brText (c : Nat) : List Nat := if c = 91 then [91, 92, 91, 93] else [91, c, 93]
set_option maxHeartbeats 1000000 in
theorem body_br {g : G} (F : Fns g) {c : Nat} (hc : c = 42 ∨ c = 63 ∨ c = 91) : BodyOk g [91, c, 93] fun acc => acc ++ [some (brText c)] := by
  intro pre post L a₀ star r k acc σ Q hl ha h
  have a0 : at? (pre ++ [91, c, 93] ++ post) (pre.length : Int) = some 91 := by have := at_off pre [91, c, 93] post 0 (by simp); simpa using this
  have a1 : at? (pre ++ [91, c, 93] ++ post) ((pre.length : Int) + 1) = some c := by have := at_off pre [91, c, 93] post 1 (by simp); simpa using this
  have a2 : at? (pre ++ [91, c, 93] ++ post) ((pre.length : Int) + 1 + 1) = some 93 := by have := at_off pre [91, c, 93] post 2 (by simp); rw [show (pre.length : Int) + 1 + 1 = (pre.length : Int) + ((2 : Nat) : Int) from by omega]; simpa using this
  have hn : ((pre ++ [91, c, 93] ++ post).length : Int) = (pre.length : Int) + 3 + post.length := by simp; omega
  show WSs g _ [_, _, _] _ _ _
  walk_at "w"
  refine WI_str a0 (by walk_at "fits") ?_
  walk_at "w"
  rw [decide_eq_false (show ¬ [91] = [42] by decide)]
  walk_at "w"
  rw [decide_eq_false (show ¬ [91] = [63] by decide)]
  walk_at "w"
  rw [decide_eq_true (show [91] = [91] from rfl)]
  walk_at "w"
  rw [decide_eq_true (show (pre.length : Int) + 1 < ((pre ++ [91, c, 93] ++ post).length : Int) by omega)]
  walk_at "w"
  refine WI_str a1 (by walk_at "fits") ?_
  walk_at "w"
  rw [decide_eq_false (show ¬ [c] = [33] by rcases hc with rfl | rfl | rfl <;> decide)]
  walk_at "w"
  rw [decide_eq_true (show (pre.length : Int) + 1 < ((pre ++ [91, c, 93] ++ post).length : Int) by omega)]
  walk_at "w"
  refine WI_str a1 (by walk_at "fits") ?_
  walk_at "w"
  rw [decide_eq_false (show ¬ [c] = [93] by rcases hc with rfl | rfl | rfl <;> decide)]
  walk_at "w"
  refine LW_step (WT_BoolOp ?_)
  walk_at "w"
  rw [decide_eq_true (show (pre.length : Int) + 1 < ((pre ++ [91, c, 93] ++ post).length : Int) by omega)]
  walk_at "w"
  refine WI_str a1 (by walk_at "fits") ?_
  walk_at "w"
  rw [decide_eq_true (show [c] ≠ [93] by rcases hc with rfl | rfl | rfl <;> decide)]
  walk_at "w"
  refine LW_step (WT_BoolOp ?_)
  walk_at "w"
  rw [decide_eq_true (show (pre.length : Int) + 1 + 1 < ((pre ++ [91, c, 93] ++ post).length : Int) by omega)]
  walk_at "w"
  refine WI_str a2 (by walk_at "fits") ?_
  walk_at "w"
  rw [decide_eq_false (show ¬ [93] ≠ [93] by decide)]
  walk_at "w"
  rw [decide_eq_false (show ¬ ((pre ++ [91, c, 93] ++ post).length : Int) ≤ (pre.length : Int) + 1 + 1 by omega)]
  walk_at "w"
  have ct : cut (pre ++ [91, c, 93] ++ post) (some ((pre.length : Int) + 1)) (some ((pre.length : Int) + 1 + 1)) = [c] := by
    rw [show (pre.length : Int) + 1 = ((pre.length + 1 : Nat) : Int) from rfl, show ((pre.length + 1 : Nat) : Int) + 1 = ((pre.length + 2 : Nat) : Int) from by omega, cut_nat]
    rw [show pre.length + 2 - (pre.length + 1) = 1 from by omega]
    rw [List.append_assoc, ← List.drop_drop, List.drop_left]
    rfl
  rw [ct]
  refine O_notInSS ?_
  rw [show (!isIn [45] [c]) = true from by rw [isIn_one]; rcases hc with rfl | rfl | rfl <;> decide]
  walk_at "w"
  refine WE_replace0 ?_
  walk_at "w"
  refine ⟨_, _, rfl, ?_, ?_⟩
  · rw [isIn_one]; rcases hc with rfl | rfl | rfl <;> decide
  walk_at "w"
  refine WE_sub ?_
  obtain ⟨p, hp, hpat⟩ := F.twin
  refine WE_glob hp (fun _ _ => .val _) ⟨p, rfl, hpat, ?_⟩
  refine WL_cons (WE_Lambda ?_ rfl)
  walk_at "w"
  refine ⟨_, rfl, ?_, by simp, ?_⟩
  · intro z hz
    rw [List.mem_singleton] at hz
    subst hz
    rcases hc with rfl | rfl | rfl <;> decide
  walk_at "w"
  refine not_b false rfl ?_
  walk_at "w"
  rw [decide_eq_false (show ¬ [c] = [33] by rcases hc with rfl | rfl | rfl <;> decide)]
  walk_at "w"
  refine WI_str (c := c) rfl (by walk_at "fits") ?_
  walk_at "w"
  rw [decide_eq_false (show ¬ [c] = [33] by rcases hc with rfl | rfl | rfl <;> decide)]
  walk_at "w"
  refine WI_str (c := c) rfl (by walk_at "fits") ?_
  walk_at "w"
  refine ⟨by rw [sizeLine_eq]; exact (by decide : 2 ≤ 16777216), ?_⟩
  refine O_inTS (cs := [[94], [91]]) rfl ?_
  walk_at "w"
  have hi : ((pre.length + [91, c, 93].length : Nat) : Int) = (pre.length : Int) + 1 + 1 + 1 := by simp; omega
  have fin : ∀ (tx : List Nat), [91] ++ tx ++ [93] = brText c → (r, acc.map (pd star) ++ [D.str ([] ++ [91] ++ tx ++ [93])]) = (r, (acc ++ [some (brText c)]).map (pd star)) := by
    intro tx e
    rw [List.map_append]
    show (r, _) = (r, acc.map (pd star) ++ [D.str (brText c)])
    rw [← e]; rfl
  refine split_dec (fun q => ?_) fun q => ?_
  · have hc91 : c = 91 := by
      rcases hc with rfl | rfl | rfl
      · exact absurd q (by decide)
      · exact absurd q (by decide)
      · rfl
    walk_at "w"
    refine O_addS (by rw [sizeLine_eq]; exact (by decide : 2 ≤ 16777216)) ?_
    walk_at "w"
    refine WE_CallApp rfl (WE_Joined (WJ_cons ?_))
    walk_at "w"
    refine ⟨by walk_at "fits", WJ_cons (WE_Formatted ?_)⟩
    walk_at "w"
    refine ⟨by walk_at "fits", _, rfl, by walk_at "fits", WJ_cons ?_⟩
    walk_at "w"
    refine ⟨by walk_at "fits", WJ_nil (by walk_at "fits") ⟨[], σ, _, rfl, map_len ha, ?_⟩⟩
    walk_at "w"
    show Q Fl.next _ ((r, acc.map (pd star) ++ [D.str ([] ++ [91] ++ ([92] ++ [c]) ++ [93])]) :: σ)
    rw [fin ([92] ++ [c]) (by rw [hc91]; rfl)]
    refine h _ ?_
    unfold trLoc
    rw [hi]
    walk_at "sub"
  · have hc91 : c ≠ 91 := by rintro rfl; exact q (by decide)
    walk_at "w"
    refine WE_CallApp rfl (WE_Joined (WJ_cons ?_))
    walk_at "w"
    refine ⟨by walk_at "fits", WJ_cons (WE_Formatted ?_)⟩
    walk_at "w"
    refine ⟨by walk_at "fits", _, rfl, by walk_at "fits", WJ_cons ?_⟩
    walk_at "w"
    refine ⟨by walk_at "fits", WJ_nil (by walk_at "fits") ⟨[], σ, _, rfl, map_len ha, ?_⟩⟩
    walk_at "w"
    show Q Fl.next _ ((r, acc.map (pd star) ++ [D.str ([] ++ [91] ++ [c] ++ [93])]) :: σ)
    rw [fin [c] (by unfold brText; rw [if_neg hc91]; rfl)]
    refine h _ ?_
    unfold trLoc
    rw [hi]
    walk_at "sub"
-- Tl4
structure Piece where
  pat : List Nat
  upd : PS → PS
noncomputable def render (ps : List Piece) : List Nat := (ps.map (·.pat)).flatten
noncomputable def runPs (ps : List Piece) (acc : PS) : PS := ps.foldl (fun acc p => p.upd acc) acc
structure PieceOk (g : G) (p : Piece) : Prop where
  body : BodyOk g p.pat p.upd
  ne : p.pat ≠ []
  len : ∀ acc, (p.upd acc).length ≤ acc.length + 1
theorem tr_loop {g : G} (F : Fns g) {L a₀ star r : Addr} {k : Nat} {σ : Sto} {Q : Fl → Loc → Sto → Prop} {pat : List Nat} (hl : pat.length ≤ 200) :
    ∀ (ps : List Piece) (pre : List Nat) (acc : PS), (∀ p ∈ ps, PieceOk g p) → pat = pre ++ render ps → acc.length + ps.length ≤ 200 →
    (∀ ρ', Sub (trLoc pat star r pat.length pat.length) ρ' → Q .next ρ' ((r, (runPs ps acc).map (pd star)) :: σ)) →
    LW g (mkFm (Str.ofString "_translate") (fScope P 14) L a₀ (.ref g.tc) (k + 1)) (whT (fBody P 14) 3) (whB (fBody P 14) 3) (trLoc pat star r pre.length pat.length) ((r, acc.map (pd star)) :: σ) Q := by
  intro ps
  induction ps with
  | nil =>
    intro pre acc hp e ha h
    have e : pat = pre := by simpa [render] using e
    subst e
    refine LW_step (WT_Compare ?_)
    walk_at "w"
    rw [decide_eq_false (show ¬ (pat.length : Int) < (pat.length : Int) by omega)]
    walk_at "w"
    refine h _ ?_
    walk_at "sub"
  | cons p ps ih =>
    intro pre acc hp e ha h
    have hpo := hp p List.mem_cons_self
    have e' : pat = pre ++ p.pat ++ render ps := by rw [e]; simp [render]
    have hpl : 0 < p.pat.length := List.length_pos_iff.mpr hpo.ne
    have hlt : pre.length < pat.length := by rw [e']; simp; omega
    rw [List.length_cons] at ha
    refine LW_step (WT_Compare ?_)
    walk_at "w"
    rw [decide_eq_true (show (pre.length : Int) < (pat.length : Int) by omega)]
    refine ite_T ?_
    have := hpo.body pre (render ps) L a₀ star r k acc σ (fun fl ρ₂ σ₂ => match fl with
      | .next | .cont => LW g (mkFm (Str.ofString "_translate") (fScope P 14) L a₀ (.ref g.tc) (k + 1)) (whT (fBody P 14) 3) (whB (fBody P 14) 3) ρ₂ σ₂ Q
      | .brk => Q .next ρ₂ σ₂ | .ret d => Q (.ret d) ρ₂ σ₂) (by rw [← e']; exact hl) (by omega) (fun ρ' hs => ?_)
    · rw [← e'] at this; exact this
    · rw [← e'] at hs
      have hlen := hpo.len acc
      have := ih (pre ++ p.pat) (p.upd acc) (fun q hq => hp q (List.mem_cons_of_mem _ hq)) (by rw [e']) (by omega) h
      rw [List.length_append] at this
      exact LW_sub hs this
theorem translate_ok {g : G} (F : Fns g) {k : Nat} {star : Addr} {ps : List Piece} {σ : Sto} {Q : D → Sto → Prop} (hl : (render ps).length ≤ 200) (hn : ps.length ≤ 200) (hp : ∀ p ∈ ps, PieceOk g p)
    (h : Q (.lst ((runPs ps []).map (pd star))) σ) : Fn g (k + 2) (Str.ofString "_translate") [.str (render ps), .val (.ref star), .str [46]] σ Q := by
  refine Fn_enterC F.tran (fun L a₀ => ?_) (fun _ _ _ vs hl => ?_) (by rfl) (by decide)
  · walk_at "w"
    refine WE_ListOwn (WL_nil ⟨by rw [sizeLine_eq]; exact (by decide : 0 ≤ 16777216), fun r hr => ?_⟩)
    walk_at "w"
    refine WE_bound (ds := []) rfl List.mem_cons_self ?_
    walk_at "w"
    refine WS_Swap2 ?_
    walk_at "w"
    refine ⟨by rw [sizeLine_eq]; exact (by decide : 2 ≤ 16777216), _, _, rfl, ?_⟩
    walk_at "w"
    refine LW_sub ?_ (tr_loop F (star := star) (r := r) (pat := render ps) (k := k) (L := L) (a₀ := a₀) (σ := σ) hl ps [] [] hp rfl (by simpa using hn) fun ρ' hs => ?_)
    · walk_at "sub"
    refine TS_sub hs ?_
    refine WSs_cons (WS_Assert ?_)
    walk_at "w"
    refine ⟨by simp, ?_⟩
    refine TS_conv (Conv.top (ρ' := [("res", .lst ((runPs ps []).map (pd star)))]) ?_) ?_
    · exact SubF.cons2 rfl SubF.nil
    walk_at "w"
    exact Drop.same h
  · obtain ⟨v, u, w, rfl⟩ := len3 hl; rfl
-- Tj1
noncomputable def heads : PS → List (List Nat)
  | some t :: ps => t :: heads ps
  | _ => []
noncomputable def behind : PS → PS
  | some _ :: ps => behind ps
  | ps => ps
theorem heads_behind : ∀ ps : PS, ps = (heads ps).map some ++ behind ps
  | [] => rfl
  | none :: ps => rfl
  | some t :: ps => by
    show _ = some t :: ((heads ps).map some ++ behind ps)
    rw [← heads_behind ps]
theorem behind_len : ∀ ps : PS, (behind ps).length ≤ ps.length
  | [] => Nat.le_refl _
  | none :: ps => Nat.le_refl _
  | some t :: ps => Nat.le_succ_of_le (behind_len ps)
noncomputable abbrev jnLoc (inp : PS) (star r : Addr) (i : Nat) : Loc := [("inp", .lst (inp.map (pd star))), ("STAR", .val (.ref star)), ("res", .val (.ref r)), ("add", .app r), ("i", .int (i : Int)), ("n", .int (inp.length : Int))]
theorem at_pd (pre : PS) (x : Option (List Nat)) (post : PS) (star : Addr) : at? ((pre ++ x :: post).map (pd star)) (pre.length : Int) = some (pd star x) := by rw [at_nat]; simp
theorem pd_len {ps : PS} {star : Addr} (h : ps.length ≤ 300) : (ps.map (pd star)).length ≤ sizeLine := by rw [List.length_map, sizeLine_eq]; omega
theorem jn_first {g : G} (F : Fns g) {L a₀ star r : Addr} {cd : Value} {k : Nat} {σ : Sto} {Q : Fl → Loc → Sto → Prop} {inp : PS} (hl : inp.length ≤ 200) :
    ∀ (ps pre : PS) (acc : List (List Nat)), inp = pre ++ ps → acc.length ≤ pre.length →
    Q .next (jnLoc inp star r (inp.length - (behind ps).length)) ((r, (acc ++ heads ps).map D.str) :: σ) →
    LW g (mkFm (Str.ofString "_join_translated_parts") (fScope P 15) L a₀ cd (k + 1)) (whT (fBody P 15) 3) (whB (fBody P 15) 3) (jnLoc inp star r pre.length) ((r, acc.map D.str) :: σ) Q := by
  intro ps
  induction ps with
  | nil =>
    intro pre acc e ha h
    have e : inp = pre := by simpa using e
    subst e
    refine LW_step (WT_BoolOp ?_)
    walk_at "w"
    rw [decide_eq_false (show ¬ (inp.length : Int) < (inp.length : Int) by omega)]
    walk_at "w"
    simpa [behind, heads] using h
  | cons x ps ih =>
    intro pre acc e ha h
    have hlt : pre.length < inp.length := by rw [e]; simp
    have hx : at? (inp.map (pd star)) (pre.length : Int) = some (pd star x) := by rw [e]; exact at_pd pre x ps star
    refine LW_step (WT_BoolOp ?_)
    walk_at "w"
    rw [decide_eq_true (show (pre.length : Int) < (inp.length : Int) by omega)]
    walk_at "w"
    refine WI_lst hx (pd_len (by omega)) ?_
    walk_at "w"
    cases x with
    | none =>
      refine O_isNotRR ?_
      walk_at "w"
      have e2 : inp.length - (behind (none :: ps)).length = pre.length := by rw [e]; simp [behind]
      rw [e2] at h
      simpa [heads] using h
    | some t =>
      refine O_isNotSR ?_
      walk_at "w"
      refine WE_CallApp rfl ?_
      walk_at "w"
      refine WI_lst hx (pd_len (by omega)) ?_
      refine ⟨[], σ, acc.map D.str, rfl, by rw [List.length_map, sizeLine_eq]; omega, ?_⟩
      walk_at "w"
      have := ih (pre ++ [some t]) (acc ++ [t]) (by rw [e]; simp) (by simp; omega) (by simpa [heads, behind] using h)
      refine LW_sub ?_ (by rw [List.map_append] at this; exact this)
      unfold jnLoc
      rw [show ((pre ++ [some t]).length : Int) = (pre.length : Int) + 1 from by simp]
      walk_at "sub"
-- Tj2
noncomputable abbrev jnLoc2 (inp : PS) (star r q : Addr) (i : Nat) : Loc := [("inp", .lst (inp.map (pd star))), ("STAR", .val (.ref star)), ("res", .val (.ref r)), ("add", .app r), ("i", .int (i : Int)), ("n", .int (inp.length : Int)), ("fixed", .val (.ref q))]
theorem jn_fix {g : G} (F : Fns g) {L a₀ star r q : Addr} {cd : Value} {k : Nat} {σ : Sto} {Q : Fl → Loc → Sto → Prop} {inp : PS} (hl : inp.length ≤ 200) :
    ∀ (ps pre : PS) (acc : List (List Nat)), inp = pre ++ ps → acc.length ≤ pre.length →
    Q .next (jnLoc2 inp star r q (inp.length - (behind ps).length)) ((q, (acc ++ heads ps).map D.str) :: σ) →
    LW g (mkFm (Str.ofString "_join_translated_parts") (fScope P 15) L a₀ cd (k + 1)) (whT (whB (fBody P 15) 4) 5) (whB (whB (fBody P 15) 4) 5) (jnLoc2 inp star r q pre.length) ((q, acc.map D.str) :: σ) Q := by
  intro ps
  induction ps with
  | nil =>
    intro pre acc e ha h
    have e : inp = pre := by simpa using e
    subst e
    refine LW_step (WT_BoolOp ?_)
    walk_at "w"
    rw [decide_eq_false (show ¬ (inp.length : Int) < (inp.length : Int) by omega)]
    walk_at "w"
    simpa [behind, heads] using h
  | cons x ps ih =>
    intro pre acc e ha h
    have hlt : pre.length < inp.length := by rw [e]; simp
    have hx : at? (inp.map (pd star)) (pre.length : Int) = some (pd star x) := by rw [e]; exact at_pd pre x ps star
    refine LW_step (WT_BoolOp ?_)
    walk_at "w"
    rw [decide_eq_true (show (pre.length : Int) < (inp.length : Int) by omega)]
    walk_at "w"
    refine WI_lst hx (pd_len (by omega)) ?_
    walk_at "w"
    cases x with
    | none =>
      refine O_isNotRR ?_
      walk_at "w"
      have e2 : inp.length - (behind (none :: ps)).length = pre.length := by rw [e]; simp [behind]
      rw [e2] at h
      simpa [heads] using h
    | some t =>
      refine O_isNotSR ?_
      walk_at "w"
      refine WE_append ?_
      walk_at "w"
      refine ⟨q, _, rfl, List.mem_cons_self, ?_⟩
      walk_at "w"
      refine WI_lst hx (pd_len (by omega)) ?_
      refine ⟨[], σ, acc.map D.str, rfl, by rw [List.length_map, sizeLine_eq]; omega, ?_⟩
      walk_at "w"
      have := ih (pre ++ [some t]) (acc ++ [t]) (by rw [e]; simp) (by simp; omega) (by simpa [heads, behind] using h)
      refine LW_sub ?_ (by rw [List.map_append] at this; exact this)
      unfold jnLoc2
      rw [show ((pre ++ [some t]).length : Int) = (pre.length : Int) + 1 from by simp]
      walk_at "sub"
-- Tj3
noncomputable def starParts : Nat → PS → List (List Nat)
  | 0, _ => []
  | _ + 1, [] => []
  | f + 1, _ :: rest =>
    match rest with
    | [] => [[46, 42]]
    | y :: rest' => match behind (y :: rest') with
      | [] => [[46, 42], (heads (y :: rest')).flatten]
      | z :: more => ([40, 63, 62, 46, 42, 63] ++ (heads (y :: rest')).flatten ++ [41]) :: starParts f (z :: more)
noncomputable def NoTwo (ps : PS) : Prop := ∀ pre post, ps ≠ pre ++ none :: none :: post
theorem starParts_nil : ∀ f, starParts f [] = []
  | 0 => rfl
  | _ + 1 => rfl
theorem jn_outer {g : G} (F : Fns g) {L a₀ star r : Addr} {cd : Value} {k : Nat} {σ : Sto} {Q : Fl → Loc → Sto → Prop} {inp : PS} (hl : inp.length ≤ 200) (h2 : NoTwo inp) (hb : ∀ t, some t ∈ inp → t.length ≤ 100) :
    ∀ (f : Nat) (ps pre : PS) (acc : List (List Nat)), ps.length ≤ f → inp = pre ++ ps → (∀ x, ps.head? = some x → x = none) → acc.length ≤ pre.length →
    (∀ ρ', Sub (jnLoc inp star r inp.length) ρ' → Q .next ρ' ((r, (acc ++ starParts f ps).map D.str) :: σ)) →
    LW g (mkFm (Str.ofString "_join_translated_parts") (fScope P 15) L a₀ cd (k + 1)) (whT (fBody P 15) 4) (whB (fBody P 15) 4) (jnLoc inp star r pre.length) ((r, acc.map D.str) :: σ) Q := by
  intro f
  induction f with
  | zero =>
    intro ps pre acc hf e hh ha h
    have : ps = [] := List.length_eq_zero_iff.mp (by omega)
    subst this
    have e : inp = pre := by simpa using e
    subst e
    refine LW_step (WT_Compare ?_)
    walk_at "w"
    rw [decide_eq_false (show ¬ (inp.length : Int) < (inp.length : Int) by omega)]
    walk_at "w"
    simpa [starParts] using h _ (by walk_at "sub")
  | succ f ih =>
    intro ps pre acc hf e hh ha h
    cases ps with
    | nil =>
      have e : inp = pre := by simpa using e
      subst e
      refine LW_step (WT_Compare ?_)
      walk_at "w"
      rw [decide_eq_false (show ¬ (inp.length : Int) < (inp.length : Int) by omega)]
      walk_at "w"
      simpa [starParts] using h _ (by walk_at "sub")
    | cons x rest =>
      obtain rfl : x = none := hh x rfl
      have hlt : pre.length < inp.length := by rw [e]; simp
      have hx : at? (inp.map (pd star)) (pre.length : Int) = some (.val (.ref star)) := by rw [e]; exact at_pd pre none rest star
      refine LW_step (WT_Compare ?_)
      walk_at "w"
      rw [decide_eq_true (show (pre.length : Int) < (inp.length : Int) by omega)]
      walk_at "w"
      refine WS_Assert (WT_Compare ?_)
      walk_at "w"
      refine WI_lst hx (pd_len (by omega)) ?_
      walk_at "w"
      refine O_isRR ⟨_, rfl, rfl, ?_⟩
      walk_at "w"
      have hn : (inp.length : Int) = (pre.length : Int) + 1 + rest.length := by rw [e]; simp; omega
      cases rest with
      | nil =>
        rw [decide_eq_true (show (pre.length : Int) + 1 = (inp.length : Int) by rw [hn]; simp)]
        walk_at "w"
        refine WE_CallApp rfl ?_
        walk_at "w"
        refine ⟨[], σ, acc.map D.str, rfl, by rw [List.length_map, sizeLine_eq]; omega, ?_⟩
        refine ⟨rfl, WSs_cons (WS_Break ?_)⟩
        have := h (setL (jnLoc inp star r pre.length) "i" (.int ((pre.length : Int) + 1))) ?_
        · simpa [starParts] using this
        · unfold jnLoc
          rw [show (inp.length : Int) = (pre.length : Int) + 1 from by rw [hn]; simp]
          walk_at "sub"
      | cons y rest' =>
        rw [decide_eq_false (show ¬ (pre.length : Int) + 1 = (inp.length : Int) by rw [hn]; simp; omega)]
        walk_at "w"
        cases y with
        | none => exact absurd (show inp = pre ++ none :: none :: rest' from e) (h2 pre rest')
        | some tx =>
          have hx1 : at? (inp.map (pd star)) ((pre.length : Int) + 1) = some (.str tx) := by
            have := at_pd (pre ++ [none]) (some tx) rest' star
            rw [show (pre ++ [none]) ++ some tx :: rest' = inp from by rw [e]; simp] at this
            rw [show (((pre ++ [none] : PS).length : Nat) : Int) = (pre.length : Int) + 1 from by simp] at this; exact this
          refine WS_Assert (WT_Compare ?_)
          walk_at "w"
          refine WI_lst hx1 (pd_len (by omega)) ?_
          walk_at "w"
          refine O_isNotSR ⟨_, rfl, rfl, ?_⟩
          walk_at "w"
          refine WE_ListOwn (WL_nil ⟨by rw [sizeLine_eq]; exact (by decide : 0 ≤ 16777216), fun q hq => ?_⟩)
          walk_at "w"
          refine LW_sub ?_ (jn_fix F (L := L) (a₀ := a₀) (cd := cd) (k := k) (star := star) (r := r) (q := q) (σ := (r, acc.map D.str) :: σ) (inp := inp) hl (some tx :: rest') (pre ++ [none]) [] (by rw [e]; simp) (by simp) ?_)
          · unfold jnLoc2
            rw [show (((pre ++ [none] : PS).length : Nat) : Int) = (pre.length : Int) + 1 from by simp]
            walk_at "sub"
          walk_at "w"
          refine WE_joinOwn ?_
          walk_at "w"
          have hsum : ∀ l : List (List Nat), (∀ t ∈ l, t.length ≤ 100) → (l.map List.length).sum ≤ 100 * l.length := by
            intro l
            induction l with
            | nil => intro _; simp
            | cons a l ih => intro hh; have h1 := hh a List.mem_cons_self; have h2 := ih (fun t ht => hh t (List.mem_cons_of_mem _ ht)); rw [List.map_cons, List.sum_cons, List.length_cons]; omega
          have hheads : ∀ l : PS, ∀ t ∈ heads l, some t ∈ l := by
            intro l
            induction l with
            | nil => intro t ht; simp [heads] at ht
            | cons a l ih =>
              intro t ht
              cases a with
              | none => simp [heads] at ht
              | some a =>
                rcases List.mem_cons.mp ht with e | e
                · rw [e]; exact List.mem_cons_self
                · exact List.mem_cons_of_mem _ (ih t e)
          have hfix := hsum (heads (some tx :: rest')) fun t ht => hb t (by rw [e]; exact List.mem_append_right _ (List.mem_cons_of_mem _ (hheads _ t ht)))
          have hhl : (heads (some tx :: rest')).length ≤ 200 := by
            have := congrArg List.length (heads_behind (some tx :: rest'))
            have h3 := congrArg List.length e
            simp at this h3
            omega
          refine ⟨q, _, heads (some tx :: rest'), rfl, List.mem_cons_self, by simp, by simp; omega, ?_⟩
          rw [joinS_nil]
          walk_at "w"
          have hflat : (heads (some tx :: rest')).flatten.length ≤ 20000 := by rw [List.length_flatten]; omega
          cases hbeh : behind (some tx :: rest') with
          | nil =>
            walk_at "w"
            rw [decide_eq_true (show ((inp.length - ([] : PS).length : Nat) : Int) = (inp.length : Int) by simp)]
            walk_at "w"
            refine WE_CallApp rfl ?_
            walk_at "w"
            refine ⟨[(q, _)], σ, acc.map D.str, rfl, by rw [List.length_map, sizeLine_eq]; omega, ?_⟩
            walk_at "w"
            refine WE_CallApp rfl ?_
            walk_at "w"
            refine ⟨[(q, _)], σ, acc.map D.str ++ [D.str [46, 42]], rfl, by rw [List.length_append, List.length_map, sizeLine_eq]; simp; omega, ?_⟩
            walk_at "w"
            refine LW_conv (Conv.top (ρ' := _) .refl) ?_
            have key := ih [] inp (acc ++ [[46, 42], (heads (some tx :: rest')).flatten]) (by simp) (by simp) (by simp) (by have h3 := congrArg List.length e; simp at h3 ⊢; omega) (fun ρ' hs => by
              have := h ρ' hs
              simpa [starParts, hbeh, starParts_nil] using this)
            refine LW_sub ?_ (by simpa using key)
            walk_at "sub"
          | cons z more =>
            have hz : z = none := by
              have : ∀ l : PS, ∀ z more, behind l = z :: more → z = none := by
                intro l
                induction l with
                | nil => intro z more h; simp [behind] at h
                | cons a l ih =>
                  intro z more h
                  cases a with
                  | none => simp [behind] at h; exact h.1.symm
                  | some a => exact ih z more h
              exact this _ z more hbeh
            have hlen3 := congrArg List.length e
            have hlen4 := congrArg List.length (heads_behind (some tx :: rest'))
            rw [hbeh] at hlen4
            simp at hlen3 hlen4
            walk_at "w"
            rw [decide_eq_false (show ¬ ((inp.length - (z :: more : PS).length : Nat) : Int) = (inp.length : Int) by simp; omega)]
            walk_at "w"
            refine WE_CallApp rfl (WE_Joined (WJ_cons ?_))
            walk_at "w"
            refine ⟨by walk_at "fits", WJ_cons (WE_Formatted ?_)⟩
            walk_at "w"
            refine ⟨by rw [sizeLine_eq]; omega, _, rfl, by rw [sizeLine_eq]; simp; omega, WJ_cons ?_⟩
            walk_at "w"
            refine ⟨by rw [sizeLine_eq]; simp; omega, WJ_nil (by rw [sizeLine_eq]; simp; omega) ⟨[(q, _)], σ, acc.map D.str, rfl, by rw [List.length_map, sizeLine_eq]; omega, ?_⟩⟩
            walk_at "w"
            refine LW_conv (Conv.top (ρ' := _) .refl) ?_
            have hpre : inp = (pre ++ [none] ++ (heads (some tx :: rest')).map some) ++ z :: more := by
              rw [e, ← hbeh, List.append_assoc, List.append_assoc, ← heads_behind]; rfl
            have hpl : (pre ++ [none] ++ (heads (some tx :: rest')).map some).length = inp.length - (z :: more : PS).length := by rw [hpre]; simp; omega
            have key := ih (z :: more) (pre ++ [none] ++ (heads (some tx :: rest')).map some) (acc ++ [[40, 63, 62, 46, 42, 63] ++ (heads (some tx :: rest')).flatten ++ [41]]) (by simp at hf ⊢; omega) hpre (fun x hx => by simp at hx; rw [← hx]; exact hz) (by simp; omega) (fun ρ' hs => by
              have := h ρ' hs
              simpa [starParts, hbeh] using this)
            rw [hpl] at key
            refine LW_sub ?_ (by simpa using key)
            walk_at "sub"
-- Tj4
noncomputable def joinText (ps : PS) : List Nat := [40, 63, 115, 58] ++ ((heads ps ++ starParts (behind ps).length (behind ps)).flatten) ++ [41, 92, 90]
theorem behind_head : ∀ (ps : PS) (x : Option (List Nat)), (behind ps).head? = some x → x = none
  | [], x, h => by simp [behind] at h
  | none :: ps, x, h => by simp [behind] at h; exact h.symm
  | some t :: ps, x, h => behind_head ps x h
theorem heads_len (ps : PS) : (heads ps).length + (behind ps).length = ps.length := by
  have := congrArg List.length (heads_behind ps); simp at this; omega
theorem heads_mem : ∀ {l : PS} {t : List Nat}, t ∈ heads l → some t ∈ l
  | [], t, h => by simp [heads] at h
  | none :: _, t, h => by simp [heads] at h
  | some a :: l, t, h => by
    rcases List.mem_cons.mp h with e | e
    · rw [e]; exact List.mem_cons_self
    · exact List.mem_cons_of_mem _ (heads_mem e)
theorem behind_mem : ∀ {l : PS} {x : Option (List Nat)}, x ∈ behind l → x ∈ l
  | [], t, h => by simp [behind] at h
  | none :: _, t, h => h
  | some a :: l, t, h => List.mem_cons_of_mem _ (behind_mem (l := l) h)
theorem flat_len : ∀ (l : List (List Nat)) (n : Nat), (∀ t ∈ l, t.length ≤ n) → l.flatten.length ≤ n * l.length
  | [], n, _ => by simp
  | a :: l, n, h => by
    have h1 := h a List.mem_cons_self
    have h2 := flat_len l n fun t ht => h t (List.mem_cons_of_mem _ ht)
    rw [List.flatten_cons, List.length_append, List.length_cons, Nat.mul_add]; omega
theorem starParts_len : ∀ (f : Nat) (ps : PS), (starParts f ps).length ≤ 2 * ps.length
  | 0, ps => by simp [starParts]
  | f + 1, [] => by simp [starParts]
  | f + 1, _ :: [] => by simp [starParts]
  | f + 1, _ :: y :: rest => by
    have h := behind_len (y :: rest)
    unfold starParts
    cases hb : behind (y :: rest) with
    | nil => simp only [hb, List.length_cons, List.length_nil]; omega
    | cons z more =>
      rw [hb] at h
      have := starParts_len f (z :: more)
      simp only [hb, List.length_cons] at *; omega
theorem starParts_txt : ∀ (f : Nat) (ps : PS) (n : Nat), ps.length ≤ n → (∀ t, some t ∈ ps → t.length ≤ 100) → ∀ x ∈ starParts f ps, x.length ≤ 100 * n + 10
  | 0, ps, n, _, h, x, hx => by simp [starParts] at hx
  | f + 1, [], n, _, h, x, hx => by simp [starParts] at hx
  | f + 1, _ :: [], n, _, h, x, hx => by simp [starParts] at hx; rw [hx]; simp
  | f + 1, a :: y :: rest, n, hn, h, x, hx => by
    have hh : (heads (y :: rest)).flatten.length ≤ 100 * n := by
      have h1 := flat_len (heads (y :: rest)) 100 fun t ht => h t (List.mem_cons_of_mem _ (heads_mem ht))
      have h2 := congrArg List.length (heads_behind (y :: rest))
      simp only [List.length_append, List.length_map, List.length_cons] at h2 hn
      omega
    unfold starParts at hx
    cases hb : behind (y :: rest) with
    | nil =>
      simp only [hb, List.mem_cons, List.not_mem_nil, or_false] at hx
      rcases hx with e | e <;> rw [e]
      · simp
      · omega
    | cons z more =>
      simp only [hb] at hx
      have hl := behind_len (y :: rest)
      rw [hb] at hl
      rcases List.mem_cons.mp hx with e | e
      · rw [e]; simp only [List.length_append, List.length_cons, List.length_nil]; omega
      · refine starParts_txt f (z :: more) n ?_ (fun t ht => h t (List.mem_cons_of_mem _ (behind_mem (by rw [hb]; exact ht)))) x e
        simp only [List.length_cons] at hl hn ⊢; omega
theorem join_num (ps : PS) : (heads ps ++ starParts (behind ps).length (behind ps)).length ≤ 3 * ps.length := by
  have h1 := starParts_len (behind ps).length (behind ps)
  have h2 := heads_len ps
  rw [List.length_append]; omega
theorem join_len {ps : PS} (hl : ps.length ≤ 200) (hb : ∀ t, some t ∈ ps → t.length ≤ 100) : (heads ps ++ starParts (behind ps).length (behind ps)).flatten.length ≤ 13000000 := by
  have h1 := flat_len (heads ps ++ starParts (behind ps).length (behind ps)) 20010 fun x hx => by
    rcases List.mem_append.mp hx with h | h
    · have := hb x (heads_mem h); omega
    · have := starParts_txt _ _ 200 (Nat.le_trans (behind_len ps) hl) (fun t ht => hb t (behind_mem ht)) x h; omega
  have h2 := join_num ps
  have h3 := Nat.mul_le_mul_left 20010 h2
  omega
theorem join_ok {g : G} (F : Fns g) {k : Nat} {star : Addr} {ps : PS} {σ : Sto} {Q : D → Sto → Prop} (hl : ps.length ≤ 200) (h2 : NoTwo ps) (hb : ∀ t, some t ∈ ps → t.length ≤ 100)
    (h : Q (.str (joinText ps)) σ) : Fn g (k + 2) (Str.ofString "_join_translated_parts") [.lst (ps.map (pd star)), .val (.ref star)] σ Q := by
  refine Fn_enter F.join (fun L a₀ cd => ?_) (fun _ _ _ vs hl => ?_) (by rfl) (by decide)
  · walk_at "w"
    refine WE_ListOwn (WL_nil ⟨by rw [sizeLine_eq]; exact (by decide : 0 ≤ 16777216), fun r hr => ?_⟩)
    walk_at "w"
    refine WE_bound (ds := []) rfl List.mem_cons_self ?_
    walk_at "w"
    refine WS_Swap2 ?_
    walk_at "w"
    refine F_lenL (pd_len (by omega)) ?_
    rw [List.length_map]
    walk_at "w"
    refine ⟨by rw [sizeLine_eq]; exact (by decide : 2 ≤ 16777216), _, _, rfl, ?_⟩
    walk_at "w"
    refine LW_sub ?_ (jn_first F (L := L) (a₀ := a₀) (cd := cd) (k := k) (star := star) (r := r) (σ := σ) (inp := ps) hl ps [] [] rfl (Nat.le_refl _) ?_)
    · walk_at "sub"
    have hh := heads_len ps
    walk_at "w"
    refine LW_sub ?_ (jn_outer F (L := L) (a₀ := a₀) (cd := cd) (k := k) (star := star) (r := r) (σ := σ) (inp := ps) hl h2 hb (behind ps).length (behind ps) ((heads ps).map some) (heads ps) (Nat.le_refl _) (heads_behind ps) (behind_head ps) (by simp) fun ρ' hs => ?_)
    · unfold jnLoc
      rw [show ((heads ps).map some).length = ps.length - (behind ps).length from by simp; omega]
      walk_at "sub"
    refine TS_sub hs ?_
    refine WSs_cons (WS_Assert ?_)
    walk_at "w"
    refine ⟨by simp, ?_⟩
    walk_at "w"
    refine WE_joinOwn ?_
    walk_at "w"
    have hjl := join_len hl hb
    have hjn := join_num ps
    refine ⟨r, _, heads ps ++ starParts (behind ps).length (behind ps), rfl, List.mem_cons_self, rfl, by rw [← List.length_flatten]; simp only [List.length_nil, Nat.mul_zero, Nat.add_zero]; omega, ?_⟩
    rw [joinS_nil]
    walk_at "w"
    refine WE_Joined (WJ_cons ?_)
    walk_at "w"
    refine ⟨by rw [sizeLine_eq]; exact (by decide : 4 ≤ 16777216), WJ_cons (WE_Formatted ?_)⟩
    walk_at "w"
    refine ⟨by rw [sizeLine_eq]; omega, _, rfl, by rw [sizeLine_eq]; simp only [List.length_append, List.length_cons, List.length_nil]; omega, WJ_cons ?_⟩
    walk_at "w"
    refine ⟨by rw [sizeLine_eq]; simp only [List.length_append, List.length_cons, List.length_nil]; omega, WJ_nil (by rw [sizeLine_eq]; simp only [List.length_append, List.length_cons, List.length_nil]; omega) ?_⟩
    walk_at "w"
    exact Drop.one h
  · obtain ⟨v, u, rfl⟩ := len2 hl; rfl
-- Tk1
theorem translateF_ok {g : G} (F : Fns g) {k : Nat} {ps : List Piece} {σ : Sto} {Q : D → Sto → Prop} (hl : (render ps).length ≤ 200) (hn : ps.length ≤ 200) (hp : ∀ p ∈ ps, PieceOk g p)
    (hr : (runPs ps []).length ≤ 200) (h2 : NoTwo (runPs ps [])) (hb : ∀ t, some t ∈ runPs ps [] → t.length ≤ 100)
    (h : Q (.str (joinText (runPs ps []))) σ) : Fn g (k + 3) (Str.ofString "translate") [.str (render ps)] σ Q := by
  refine Fn_enter F.tr (fun L a₀ cd => ?_) (fun _ _ _ vs hl => ?_) (by rfl) (by decide)
  · walk_at "w"
    refine WE_object (F.free "object" (by simp)) (fun star => ?_)
    walk_at "w"
    refine WE_CallF F.tran.at ?_
    walk_at "w"
    refine translate_ok F (star := star) hl hn hp ?_
    walk_at "w"
    refine WE_CallF F.join ?_
    walk_at "w"
    refine join_ok F hr h2 hb ?_
    walk_at "w"
    exact Drop.same h
  · obtain ⟨v, rfl⟩ := len1 hl; rfl
-- M1
structure Fns2 (g : G) : Prop where
  sign : FnI g 17 "_law_sign"
  turned : FnI g 18 "_law_turned"
  two : FnI g 19 "_law_two"
  runs : FnI g 21 "_law_runs"
  fits : FnI g 22 "_law_fits"
  takes : FnI g 23 "_law_takes"
noncomputable def low4 : List Nat := [97, 65, 98, 66]
noncomputable def up4 : List Nat := [65, 97, 66, 98]
noncomputable def odd16 : List Nat := [42, 63, 91, 93, 33, 45, 94, 92, 46, 124, 40, 41, 38, 126, 123, 32]
noncomputable def sgn (d m : Nat) : Nat := if d < 8 then low4.getD (d % 4) 0 else if d < 24 then odd16.getD (d - 8) 0 else 19944 + d + 8 * m
theorem sign_ok {g : G} (F : Fns g) (F2 : Fns2 g) {k d m : Nat} (hd : d < 32) (hm : m < 100000) {σ : Sto} {Q : D → Sto → Prop} (h : Q (.str [sgn d m]) σ) :
    Fn g (k + 1) (Str.ofString "_law_sign") [.int (d : Int), .int (m : Int)] σ Q := by
  refine Fn_enter F2.sign (fun L a₀ cd => ?_) (fun _ _ _ vs hl => ?_) (by rfl) (by decide)
  · walk_at "w"
    refine split_dec (fun q => ?_) fun q => ?_
    · walk_at "w"
      refine O_modI (by decide) (by decide) ?_
      refine WI_str (c := sgn d m) ?_ (by walk_at "fits") ?_
      · have : d < 8 := by omega
        have e : (d : Int).fmod 4 = ((d % 4 : Nat) : Int) := by rw [Int.fmod_eq_emod_of_nonneg _ (by decide)]; omega
        rw [e, at_nat]
        unfold sgn; rw [if_pos this]
        have h4 : d % 4 < 4 := Nat.mod_lt _ (by decide)
        revert h4; generalize d % 4 = x; intro h4
        have : x = 0 ∨ x = 1 ∨ x = 2 ∨ x = 3 := by omega
        rcases this with rfl | rfl | rfl | rfl <;> rfl
      · exact Drop.same h
    walk_at "w"
    refine split_dec (fun q2 => ?_) fun q2 => ?_
    · walk_at "w"
      refine WI_str (c := sgn d m) ?_ (by walk_at "fits") ?_
      · rw [show (d : Int) - 8 = ((d - 8 : Nat) : Int) from by omega, at_nat]
        unfold sgn; rw [if_neg (by omega), if_pos (by omega)]
        have h4 : d - 8 < 16 := by omega
        show odd16[d - 8]? = _
        rw [List.getD_eq_getElem?_getD, List.getElem?_eq_getElem (by exact h4)]; rfl
      · exact Drop.same h
    walk_at "w"
    refine F_chr (by omega) (by omega) ?_
    have e : ((19944 : Int) + d + 8 * m).toNat = sgn d m := by
      unfold sgn; rw [if_neg (by omega), if_neg (by omega)]; omega
    rw [e]
    walk_at "w"
    exact Drop.same h
  · obtain ⟨v, u, rfl⟩ := len2 hl; rfl
noncomputable def turn (c : Nat) : Nat := if c = 97 then 65 else if c = 65 then 97 else if c = 98 then 66 else if c = 66 then 98 else c
theorem find4 : ∀ c ∈ low4, Txt.find ⟨low4.toArray⟩ ⟨#[c]⟩ = (low4.idxOf c : Int) := by decide +kernel
theorem turned_ok {g : G} (F : Fns g) (F2 : Fns2 g) {k c : Nat} {σ : Sto} {Q : D → Sto → Prop} (h : Q (.str [turn c]) σ) :
    Fn g (k + 1) (Str.ofString "_law_turned") [.str [c]] σ Q := by
  refine Fn_enter F2.turned (fun L a₀ cd => ?_) (fun _ _ _ vs hl => ?_) (by rfl) (by decide)
  · walk_at "w"
    refine O_inS ?_
    walk_at "w"
    refine split_dec (fun q => ?_) fun q => ?_
    · walk_at "w"
      refine WE_find ?_
      walk_at "w"
      refine WI_str (c := turn c) ?_ (by walk_at "fits") ?_
      · have := find4 c q
        rw [show (Txt.find ⟨[97, 65, 98, 66].toArray⟩ ⟨[c].toArray⟩) = _ from this, at_nat]
        simp only [List.mem_cons, List.not_mem_nil, or_false] at q
        rcases q with rfl | rfl | rfl | rfl <;> rfl
      · exact Drop.same h
    · walk_at "w"
      have : turn c = c := by
        simp only [List.mem_cons, List.not_mem_nil, or_false, not_or] at q
        unfold turn; rw [if_neg q.1, if_neg q.2.1, if_neg q.2.2.1, if_neg q.2.2.2]
      rw [this] at h
      exact Drop.same h
  · obtain ⟨v, rfl⟩ := len1 hl; rfl
-- M2
noncomputable def Gd (c : Nat) : Prop := c ∈ low4 ∨ c ∈ odd16 ∨ (19968 ≤ c ∧ c < 22016)
theorem sgn_gd {d m : Nat} (hd : d < 32) (hm : m < 256) : Gd (sgn d m) := by
  unfold sgn
  split
  · left
    have h4 : d % 4 < 4 := Nat.mod_lt _ (by decide)
    revert h4; generalize d % 4 = x; intro h4
    have : x = 0 ∨ x = 1 ∨ x = 2 ∨ x = 3 := by omega
    rcases this with rfl | rfl | rfl | rfl <;> decide
  · split
    · right; left
      have h4 : d - 8 < odd16.length := by show d - 8 < 16; omega
      rw [List.getD_eq_getElem?_getD, List.getElem?_eq_getElem h4]
      exact List.getElem_mem h4
    · right; right; omega
theorem turn_gd {c : Nat} (h : Gd c) : Gd (turn c) := by
  unfold turn
  split
  · left; decide
  · split
    · left; decide
    · split
      · left; decide
      · split
        · left; decide
        · exact h
theorem fdiv_nat (n d : Nat) : (n : Int).fdiv (d : Int) = ((n / d : Nat) : Int) := by rw [Int.fdiv_eq_ediv_of_nonneg _ (by omega)]; rfl
theorem fmod_nat (n d : Nat) : (n : Int).fmod (d : Int) = ((n % d : Nat) : Int) := by rw [Int.fmod_eq_emod_of_nonneg _ (by omega)]; rfl
theorem fmod_pos (x : Int) (d : Nat) (hd : 0 < d) : ∃ n : Nat, n < d ∧ x.fmod (d : Int) = (n : Int) := by
  rw [Int.fmod_eq_emod_of_nonneg _ (by omega)]
  exact ⟨(x % d).toNat, by have := Int.emod_lt_of_pos x (show (0 : Int) < d by omega); have := Int.emod_nonneg x (show (d : Int) ≠ 0 by omega); omega, by have := Int.emod_nonneg x (show (d : Int) ≠ 0 by omega); omega⟩
theorem name_part {g : G} (F : Fns g) (F2 : Fns2 g) {L a₀ : Addr} {cd : Value} {k : Nat} {σ : Sto} {Q : Fl → Loc → Sto → Prop} {sc : List D} {w n : List Nat} {v a b : Nat} (g1 : Gd a) (g2 : Gd b) (ln : n.length ≤ 100)
    (h : ∀ t, (∀ c ∈ t, Gd c) → t.length ≤ 2 → Q .next [("script", .lst sc), ("word", .str w), ("name", .str (n ++ t)), ("v", .int (v : Int)), ("sign", .str [a]), ("strange", .str [b])] σ) :
    WSs g (mkFm (Str.ofString "_law_two") (fScope P 19) L a₀ cd (k + 1)) ((forB (fBody P 19) 1).drop 3) [("script", .lst sc), ("word", .str w), ("name", .str n), ("v", .int (v : Int)), ("sign", .str [a]), ("strange", .str [b])] σ Q := by
  show WSs g _ [_] _ _ _
  walk_at "w"
  refine WE_List ?_
  walk_at "w"
  refine WE_CallF F2.turned ?_
  walk_at "w"
  refine turned_ok F F2 ?_
  walk_at "w"
  refine O_addS (by rw [sizeLine_eq]; exact (by decide : 2 ≤ 16777216)) ?_
  walk_at "w"
  refine O_addS (by rw [sizeLine_eq]; exact (by decide : 2 ≤ 16777216)) ?_
  walk_at "w"
  refine ⟨by rw [sizeLine_eq]; exact (by decide : 8 ≤ 16777216), ?_⟩
  walk_at "w"
  refine O_modI (by decide) (by decide) ?_
  rw [show (v : Int).fmod 8 = ((v % 8 : Nat) : Int) from fmod_nat v 8]
  have hv8 : v % 8 < 8 := Nat.mod_lt _ (by decide)
  have ga : ∀ c ∈ [a], Gd c := fun c h => by rw [List.mem_singleton.mp h]; exact g1
  have gb : ∀ c ∈ [b], Gd c := fun c h => by rw [List.mem_singleton.mp h]; exact g2
  have gt : ∀ c ∈ [turn a], Gd c := fun c h => by rw [List.mem_singleton.mp h]; exact turn_gd g1
  have key : ∃ t, at? [D.str [a], .str [a], .str [turn a], .str [b], .str [], .str [b], .str ([b] ++ [a]), .str ([a] ++ [b])] ((v % 8 : Nat) : Int) = some (.str t) ∧ (∀ c ∈ t, Gd c) ∧ t.length ≤ 2 := by
    rw [at_nat]
    generalize v % 8 = r at hv8
    have : r = 0 ∨ r = 1 ∨ r = 2 ∨ r = 3 ∨ r = 4 ∨ r = 5 ∨ r = 6 ∨ r = 7 := by omega
    rcases this with rfl | rfl | rfl | rfl | rfl | rfl | rfl | rfl
    · exact ⟨_, rfl, ga, by simp⟩
    · exact ⟨_, rfl, ga, by simp⟩
    · exact ⟨_, rfl, gt, by simp⟩
    · exact ⟨_, rfl, gb, by simp⟩
    · exact ⟨_, rfl, by simp, by simp⟩
    · exact ⟨_, rfl, gb, by simp⟩
    · exact ⟨_, rfl, fun c hc => (List.mem_append.mp hc).elim (gb c) (ga c), by simp⟩
    · exact ⟨_, rfl, fun c hc => (List.mem_append.mp hc).elim (ga c) (gb c), by simp⟩
  obtain ⟨t, e, ht, lt⟩ := key
  refine WI_lst e (by rw [sizeLine_eq]; exact (by decide : 8 ≤ 16777216)) ?_
  refine O_iaddS (by rw [sizeLine_eq]; omega) ?_
  walk_at "w"
  exact h t ht lt
theorem two_loop {g : G} (F : Fns g) (F2 : Fns2 g) {L a₀ : Addr} {cd : Value} {k : Nat} {σ : Sto} {Q : Fl → Loc → Sto → Prop} {sc : List D} :
    ∀ (xs : List Int) (w n : List Nat), (∀ c ∈ w, Gd c) → (∀ c ∈ n, Gd c) → w.length + 2 * xs.length ≤ 20 → n.length + 2 * xs.length ≤ 20 →
    (∀ w n, (∀ c ∈ w, Gd c) → (∀ c ∈ n, Gd c) → w.length ≤ 20 → n.length ≤ 20 → Q .next [("word", .str w), ("name", .str n)] σ) →
    FL g (mkFm (Str.ofString "_law_two") (fScope P 19) L a₀ cd (k + 1)) (forT (fBody P 19) 1) (forB (fBody P 19) 1) (xs.map D.int) [("script", .lst sc), ("word", .str w), ("name", .str n)] σ Q := by
  intro xs
  induction xs with
  | nil =>
    intro w n hw hn lw ln h
    refine FL_sub (ρ' := [("word", .str w), ("name", .str n)]) (by walk_at "sub") ?_
    exact FL_nil (h w n hw hn (by simpa using lw) (by simpa using ln))
  | cons x xs ih =>
    intro w n hw hn lw ln h
    rw [List.length_cons] at lw ln
    refine FL_cons (OA_Name ?_)
    walk_at "w"
    refine O_modI (by decide) (by decide) ?_
    obtain ⟨v, hv, e⟩ := fmod_pos x 2097152 (by decide)
    rw [show x.fmod 2097152 = (v : Int) from e]
    walk_at "w"
    refine WS_Swap2 ?_
    walk_at "w"
    refine WE_CallF F2.sign ?_
    walk_at "w"
    refine O_divI (by decide) (by decide) ?_
    rw [show (v : Int).fdiv 8 = ((v / 8 : Nat) : Int) from fdiv_nat v 8]
    walk_at "w"
    refine O_modI (by decide) (by decide) ?_
    rw [show ((v / 8 : Nat) : Int).fmod 32 = ((v / 8 % 32 : Nat) : Int) from fmod_nat _ 32]
    walk_at "w"
    refine O_divI (by decide) (by decide) ?_
    rw [show (v : Int).fdiv 8192 = ((v / 8192 : Nat) : Int) from fdiv_nat v 8192]
    walk_at "w"
    refine sign_ok F F2 (Nat.mod_lt _ (by decide)) (by omega) ?_
    walk_at "w"
    refine WE_CallF F2.sign ?_
    walk_at "w"
    refine O_divI (by decide) (by decide) ?_
    rw [show (v : Int).fdiv 256 = ((v / 256 : Nat) : Int) from fdiv_nat v 256]
    walk_at "w"
    refine O_modI (by decide) (by decide) ?_
    rw [show ((v / 256 : Nat) : Int).fmod 32 = ((v / 256 % 32 : Nat) : Int) from fmod_nat _ 32]
    walk_at "w"
    refine O_divI (by decide) (by decide) ?_
    rw [show (v : Int).fdiv 8192 = ((v / 8192 : Nat) : Int) from fdiv_nat v 8192]
    walk_at "w"
    refine sign_ok F F2 (Nat.mod_lt _ (by decide)) (by omega) ?_
    walk_at "w"
    refine ⟨by rw [sizeLine_eq]; exact (by decide : 2 ≤ 16777216), _, _, rfl, ?_⟩
    have g1 : Gd (sgn (v / 8 % 32) (v / 8192)) := sgn_gd (Nat.mod_lt _ (by decide)) (by omega)
    have g2 : Gd (sgn (v / 256 % 32) (v / 8192)) := sgn_gd (Nat.mod_lt _ (by decide)) (by omega)
    generalize sgn (v / 8 % 32) (v / 8192) = a at *
    generalize sgn (v / 256 % 32) (v / 8192) = b at *
    walk_at "w"
    refine O_modI (by decide) (by decide) ?_
    rw [show (v : Int).fmod 8 = ((v % 8 : Nat) : Int) from fmod_nat v 8]
    walk_at "w"
    have fin : ∀ w', (∀ c ∈ w', Gd c) → w'.length ≤ w.length + 1 → ∀ ρ', Sub [("script", .lst sc), ("word", .str w'), ("name", .str n), ("v", .int (v : Int)), ("sign", .str [a]), ("strange", .str [b])] ρ' →
        WSs g (mkFm (Str.ofString "_law_two") (fScope P 19) L a₀ cd (k + 1)) ((forB (fBody P 19) 1).drop 3) ρ' σ fun fl ρ₂ σ₂ => match fl with
          | .next | .cont => FL g (mkFm (Str.ofString "_law_two") (fScope P 19) L a₀ cd (k + 1)) (forT (fBody P 19) 1) (forB (fBody P 19) 1) (xs.map D.int) ρ₂ σ₂ Q
          | .brk => Q .next ρ₂ σ₂
          | .ret d => Q (.ret d) ρ₂ σ₂ := by
      intro w' hw' lw' ρ' hs
      refine TS_sub hs (name_part F F2 g1 g2 (by omega) fun t ht lt => ?_)
      refine FL_sub ?_ (ih w' (n ++ t) hw' (fun c hc => (List.mem_append.mp hc).elim (hn c) (ht c)) (by omega) (by rw [List.length_append]; omega) h)
      walk_at "sub"
    refine split_dec (fun q => ?_) fun q => ?_
    · walk_at "w"
      refine O_iaddS (by rw [sizeLine_eq]; simp only [List.length_cons, List.length_nil]; omega) ?_
      refine fin (w ++ [a]) (fun c hc => (List.mem_append.mp hc).elim (hw c) fun h => by rw [List.mem_singleton.mp h]; exact g1) (by simp) _ ?_
      walk_at "sub"
    · walk_at "w"
      refine O_iaddS (by rw [sizeLine_eq]; simp only [List.length_nil]; omega) ?_
      rw [List.append_nil]
      refine fin w hw (by omega) _ ?_
      walk_at "sub"
theorem two_ok {g : G} (F : Fns g) (F2 : Fns2 g) {k : Nat} {is : List Int} (hl : is.length ≤ 63) {σ : Sto} {Q : D → Sto → Prop} (h : ∀ w n, (∀ c ∈ w, Gd c) → (∀ c ∈ n, Gd c) → w.length ≤ 3 → n.length ≤ 6 → Q (.tup [.str w, .str n]) σ) :
    Fn g (k + 2) (Str.ofString "_law_two") [.lst (is.map D.int)] σ Q := by
  refine Fn_enter F2.two (fun L a₀ cd => ?_) (fun _ _ _ vs hl => ?_) (by rfl) (by decide)
  · walk_at "w"
    refine WS_AssignT ?_
    walk_at "w"
    refine ⟨by rw [sizeLine_eq]; exact (by decide : 2 ≤ 16777216), OA_Tuple (OAs_cons (OA_Name (OAs_cons (OA_Name (OAs_nil ?_))))) rfl⟩
    walk_at "w"
    refine ⟨none, some 6, _, rfl, rfl, .lst _ _ _ (by rw [List.length_map, sizeLine_eq]; omega), ?_⟩
    rw [show cut (is.map D.int) none (some 6) = (is.take 6).map D.int from by rw [show (6 : Int) = ((6 : Nat) : Int) from rfl, cut_upto, List.map_take]]
    refine ⟨_, .lst _, ?_⟩
    refine FL_sub ?_ (two_loop F F2 (L := L) (a₀ := a₀) (cd := cd) (k := k) (σ := σ) (sc := is.map D.int) (is.take 6) [] [] (by simp) (by simp) (by simp; omega) (by simp; omega) fun w n hw hn lw ln => ?_)
    · walk_at "sub"
    walk_at "w"
    refine ⟨by walk_at "fits", Drop.same ?_⟩
    rw [show cut w none (some 3) = w.take 3 from cut_upto w 3, show cut n none (some 6) = n.take 6 from cut_upto n 6]
    exact h _ _ (fun c hc => hw c (List.mem_of_mem_take hc)) (fun c hc => hn c (List.mem_of_mem_take hc)) (by simp; omega) (by simp; omega)
  · obtain ⟨v, rfl⟩ := len1 hl; rfl
-- M3
noncomputable abbrev Run := List (List Nat)
noncomputable def okAt (t : List Nat) (c : Nat) : Bool := decide (t = [] ∨ t = [c])
noncomputable def fitsL : Run → List Nat → Bool
  | [], [] => true
  | t :: r, c :: n => okAt t c && fitsL r n
  | _, _ => false
noncomputable def fits (run : Run) (name : List Nat) (at_ : Nat) : Bool := fitsL run ((name.drop at_).take run.length)
noncomputable abbrev rd (r : Run) : List D := r.map D.str
theorem ite_nF {a b : Prop} (h : a) : if (!false) = true then a else b := ite_T h
theorem ite_nT {a b : Prop} (h : b) : if (!true) = true then a else b := ite_F h
local macro_rules | `(tactic| walk_at "w3") => `(tactic| first
  | (with_reducible refine ite_nF ?_)
  | (with_reducible refine ite_nT ?_)
  | (with_reducible guard_target = OL _ _ _ (fun vs => call (Value.builtin "len") vs) [D.lst _] _ _ _); refine F_lenL (by walk_at "fits") ?_; try rw [List.length_map])
noncomputable def compParts (e : Expr) : Expr × Expr × List Expr × Scope := match e with | Expr.ListComp elt [⟨t, _, ifs, _⟩] sc _ => (elt, t, ifs, sc) | _ => default
noncomputable def fitsComp : Expr × Expr × List Expr × Scope := match (fBody P 22)[1]? with | some (Stmt.Return (some (Expr.BoolOp _ [_, Expr.Compare c _ _ _] _)) _) => compParts c | _ => default
theorem fits_loop {g : G} (F : Fns g) {C L a₀ acc : Addr} {cd : Value} {k : Nat} {σ : Sto} {cl : List (Str × Addr)} {Q : Sto → Prop} :
    ∀ (xs : Run) (ys : List Nat) (pre : Run) (prey : List Nat) (ds : List D), xs.length = ys.length → pre.length = prey.length → (pre ++ xs).length ≤ 100 → ds.length ≤ pre.length →
    (∀ ds', decide (ds' = []) = (decide (ds = []) && fitsL xs ys) → Q ((acc, ds') :: σ)) →
    CL g (compFm (mkFm (Str.ofString "_law_fits") (fScope P 22) L a₀ cd k) fitsComp.2.2.2 cl C) fitsComp.1 fitsComp.2.1 fitsComp.2.2.1 acc (rngFrom pre.length xs.length)
      [("run", .lst (rd (pre ++ xs))), ("here", .str (prey ++ ys))] ((acc, ds) :: σ) Q := by
  intro xs
  induction xs with
  | nil =>
    intro ys pre prey ds hl hp hle hd h
    have : ys = [] := List.length_eq_zero_iff.mp hl.symm
    subst this
    exact CL_nil (h ds (by simp [fitsL]))
  | cons x xs ih =>
    intro ys pre prey ds hl hp hle hd h
    match ys, hl with
    | y :: ys, hl =>
      rw [List.length_append, List.length_cons] at hle
      refine CL_cons (OA_Name ?_)
      refine ⟨?_, ?_⟩
      · walk_at "sub"
      refine WIf_one ?_
      walk_at "w"
      refine WI_lst (d := .str x) (by rw [at_nat]; simp) (by rw [sizeLine_eq]; simp; omega) ?_
      walk_at "w"
      refine WI_str (c := y) (by rw [at_nat, hp]; simp) (by rw [sizeLine_eq]; simp; simp at hl; omega) ?_
      walk_at "w"
      refine ⟨by rw [sizeLine_eq]; exact (by decide : 2 ≤ 16777216), ?_⟩
      refine O_notInTS (cs := [[], [y]]) rfl ?_
      walk_at "w"
      have e2 : decide (x ∈ [[], [y]]) = okAt x y := by unfold okAt; simp
      rw [e2]
      have hl' : xs.length = ys.length := by simpa using hl
      cases hok : okAt x y with
      | true =>
        walk_at "w"
        have := ih ys (pre ++ [x]) (prey ++ [y]) ds hl' (by simp [hp]) (by simp; omega) (by simp; omega) (fun ds' hds => h ds' (by rw [hds]; simp [fitsL, hok]))
        simpa using this
      | false =>
        refine ite_T ?_
        show TE g _ Rd (eval (Expr.Name (Str.ofString "k") _) _) _ _ _
        walk_at "w"
        refine ⟨[], σ, ds, rfl, by rw [sizeLine_eq]; omega, ?_⟩
        have := ih ys (pre ++ [x]) (prey ++ [y]) (ds ++ [.int (pre.length : Int)]) hl' (by simp [hp]) (by simp; omega) (by simp; omega) (fun ds' hds => h ds' (by rw [hds]; simp [fitsL, hok]))
        simpa using this
theorem fitsL_len {r : Run} {n : List Nat} (h : r.length ≠ n.length) : fitsL r n = false := by
  induction r generalizing n with
  | nil => cases n with
    | nil => exact absurd rfl h
    | cons c n => rfl
  | cons t r ih => cases n with
    | nil => rfl
    | cons c n => show (okAt t c && fitsL r n) = false; rw [ih (by simpa using h), Bool.and_false]
theorem fits_ok {g : G} (F : Fns g) (F2 : Fns2 g) {k : Nat} {run : Run} {name : List Nat} {a : Nat} (lr : run.length ≤ 100) (ln : name.length ≤ 100) (la : a ≤ 100) {σ : Sto} {Q : D → Sto → Prop} (h : Q (.bool (fits run name a)) σ) :
    Fn g (k + 1) (Str.ofString "_law_fits") [.lst (rd run), .str name, .int (a : Int)] σ Q := by
  refine Fn_enter F2.fits (fun L a₀ cd => ?_) (fun _ _ _ vs hl => ?_) (by rfl) (by decide)
  · walk_at "w"
    rw [show (a : Int) + (run.length : Int) = ((a + run.length : Nat) : Int) from by omega, cut_nat, show a + run.length - a = run.length from by omega]
    have hle : ((name.drop a).take run.length).length ≤ 100 := by simp; omega
    unfold fits at h
    generalize (name.drop a).take run.length = here at *
    walk_at "w"
    refine WE_And2 ?_
    walk_at "w"
    refine split_dec (fun q => ?_) fun q => ?_
    · walk_at "w"
      refine WE_ListComp (cl := _) [("run", .lst (rd run)), ("here", .str here)] ⟨rfl, .cons rfl rfl rfl (.cons rfl rfl rfl .nil), (by show ([Str.ofString "run", Str.ofString "here"] : List Str).Nodup; decide), rfl, rfl, rfl, rfl, rfl, rfl⟩ ?_
      walk_at "w"
      refine F_range1 ⟨_, draws_upto _ (by omega), fun C acc hacc => ?_⟩
      refine fits_loop F run here [] [] [] (by omega) rfl (by simpa using lr) (by simp) fun ds' hds => ⟨ds', σ, rfl, ?_⟩
      refine WE_List ?_
      walk_at "w"
      refine ⟨by rw [sizeLine_eq]; exact (by decide : 0 ≤ 16777216), ?_⟩
      refine O_eqNil ?_
      rw [hds]
      exact Drop.same (by simpa using h)
    · have : fitsL run here = false := fitsL_len (by intro e; exact q (by rw [e]))
      rw [this] at h
      rw [decide_eq_false q]
      exact Drop.same h
  · obtain ⟨v, u, w, rfl⟩ := len3 hl; rfl
-- M4
noncomputable def places (r : Run) (n : List Nat) (a c : Nat) : List Nat := (List.range' a c).filter (fits r n ·)
noncomputable def mid : List Run → List Nat → Nat → Option Nat
  | [], _, a => some a
  | r :: rs, n, a => match places r n a (n.length + 1 - a) with
    | [] => none
    | p :: _ => mid rs n (p + r.length)
noncomputable def takesR : List Run → List Nat → Bool
  | [], _ => false
  | r0 :: rest, n => fits r0 n 0 && match rest.getLast? with
    | none => decide (r0.length = n.length)
    | some last => match mid rest.dropLast n r0.length with
      | none => false
      | some a => decide (a + last.length ≤ n.length) && fits last n (n.length - last.length)
theorem takesR_cons (r0 : Run) (rest : List Run) (n : List Nat) : takesR (r0 :: rest) n = (fits r0 n 0 && match rest.getLast? with
    | none => decide (r0.length = n.length)
    | some last => match mid rest.dropLast n r0.length with
      | none => false
      | some a => decide (a + last.length ≤ n.length) && fits last n (n.length - last.length)) := rfl
noncomputable abbrev rds (rs : List Run) : List D := rs.map fun r => .lst (rd r)
theorem fitsL_len' {r : Run} {n : List Nat} (h : fitsL r n = true) : r.length = n.length := by
  rcases Nat.decEq r.length n.length with q | q
  · rw [fitsL_len q] at h; cases h
  · exact q
theorem fits_le {r : Run} {n : List Nat} {p : Nat} (hp : p ≤ n.length) (h : fits r n p = true) : p + r.length ≤ n.length := by
  have := fitsL_len' h
  simp at this; omega
noncomputable def takesComp : Expr × Expr × List Expr × Scope := match forB (fBody P 23) 3 with | Stmt.Assign _ c _ :: _ => compParts c | _ => default
theorem takes_comp {g : G} (F : Fns g) (F2 : Fns2 g) {C L a₀ acc : Addr} {cd : Value} {k : Nat} {σ : Sto} {cl : List (Str × Addr)} {Q : Sto → Prop} {r : Run} {n : List Nat} (lr : r.length ≤ 100) (ln : n.length ≤ 99) :
    ∀ (c a : Nat) (ds : List Nat), a + c ≤ n.length + 1 → ds.length ≤ a →
    Q ((acc, (ds ++ places r n a c).map fun (p : Nat) => D.int (p : Int)) :: σ) →
    CL g (compFm (mkFm (Str.ofString "_law_takes") (fScope P 23) L a₀ cd (k + 1)) takesComp.2.2.2 cl C) takesComp.1 takesComp.2.1 takesComp.2.2.1 acc (rngFrom a c)
      [("run", .lst (rd r)), ("name", .str n)] ((acc, ds.map fun (p : Nat) => D.int (p : Int)) :: σ) Q := by
  intro c
  induction c with
  | zero =>
    intro a ds h1 h2 h
    refine CL_nil ?_
    simpa [places] using h
  | succ c ih =>
    intro a ds h1 h2 h
    refine CL_cons (OA_Name ?_)
    refine ⟨?_, ?_⟩
    · walk_at "sub"
    refine WIf_one ?_
    walk_at "w"
    refine WE_CallF F2.fits ?_
    walk_at "w"
    refine fits_ok F F2 lr (by omega) (by omega) ?_
    refine O_truthyB ?_
    cases hf : fits r n a with
    | true =>
      refine ite_T ?_
      show TE g _ Rd (eval (Expr.Name (Str.ofString "place") _) _) _ _ _
      walk_at "w"
      refine ⟨[], σ, _, rfl, by rw [sizeLine_eq, List.length_map]; omega, ?_⟩
      have := ih (a + 1) (ds ++ [a]) (by omega) (by simp; omega) (by
        have e : ds ++ [a] ++ places r n (a + 1) c = ds ++ places r n a (c + 1) := by
          unfold places; rw [List.range'_succ, List.filter_cons_of_pos (by simpa using hf)]; simp
        rw [e]; exact h)
      simpa using this
    | false =>
      walk_at "w"
      have := ih (a + 1) ds (by omega) (by omega) (by
        have e : places r n (a + 1) c = places r n a (c + 1) := by
          unfold places; rw [List.range'_succ, List.filter_cons_of_neg (by simp [hf])]
        rw [e]; exact h)
      simpa using this
theorem rngItems_at (n : Nat) : ∀ a : Nat, rngItems (a : Int) 1 n = rngFrom a n := by
  induction n with
  | zero => intro a; rfl
  | succ n ih =>
    intro a
    have := ih (a + 1)
    unfold rngItems at this ⊢
    rw [List.range_succ_eq_map, List.map_cons, List.map_map]
    show D.int _ :: _ = D.int _ :: rngFrom (a + 1) n
    rw [← this]
    have e1 : (a : Int) + ((0 : Nat) : Int) * 1 = (a : Int) := by omega
    have e2 : ((fun (i : Nat) => D.int ((a : Int) + (i : Int) * 1)) ∘ Nat.succ) = fun (i : Nat) => D.int (((a + 1 : Nat) : Int) + (i : Int) * 1) := by
      funext i; show D.int _ = D.int _; congr 1; simp; omega
    rw [e1, e2]
theorem draws_from (a c : Nat) (b : Int) (hb : b = ((a + c : Nat) : Int)) (h : a + c ≤ 100000) : Draws (.rng (a : Int) b 1) (rngFrom a c) := by
  subst hb
  rw [← rngItems_at]
  have hz : Builtin.Range.rangeSize (a : Int) ((a + c : Nat) : Int) 1 = c := by
    unfold Builtin.Range.rangeSize
    simp only [show (1 : Int) > 0 from by decide, if_true]
    split <;> omega
  exact .rng _ _ _ _ (small_one (by omega) (by omega) (by omega) (by omega)) hz
theorem takes_loop {g : G} (F : Fns g) (F2 : Fns2 g) {L a₀ : Addr} {cd : Value} {k : Nat} {σ : Sto} {Q : Fl → Loc → Sto → Prop} {n : List Nat} (ln : n.length ≤ 99) {runs : D} :
    ∀ (rs : List Run) (a : Nat), (∀ r ∈ rs, r.length ≤ 100) → a ≤ n.length →
    (∀ ρ, mid rs n a = none → Q (.ret (.bool false)) ρ σ) → (∀ a', mid rs n a = some a' → a' ≤ n.length → Q .next [("runs", runs), ("name", .str n), ("at", .int (a' : Int))] σ) →
    FL g (mkFm (Str.ofString "_law_takes") (fScope P 23) L a₀ cd (k + 1)) (forT (fBody P 23) 3) (forB (fBody P 23) 3) (rds rs) [("runs", runs), ("name", .str n), ("at", .int (a : Int))] σ Q := by
  intro rs
  induction rs with
  | nil => intro a hr ha h1 h2; exact FL_nil (h2 a rfl ha)
  | cons r rs ih =>
    intro a hr ha h1 h2
    refine FL_cons (OA_Name ?_)
    refine WSs_cons (WS_AssignComp (cl := _) [("run", .lst (rd r)), ("name", .str n)] ⟨rfl, .cons rfl rfl rfl (.cons rfl rfl rfl .nil), (by show ([Str.ofString "run", Str.ofString "name"] : List Str).Nodup; decide), rfl, rfl, rfl, rfl, rfl, rfl⟩ ?_)
    walk_at "w"
    refine F_range2 ⟨_, draws_from a (n.length + 1 - a) _ (by omega) (by omega), fun C acc hacc => ?_⟩
    have hlr := hr r List.mem_cons_self
    refine takes_comp F F2 hlr ln (n.length + 1 - a) a [] (by omega) (by simp) ⟨_, σ, rfl, ?_⟩
    rw [List.nil_append]
    walk_at "w"
    refine WE_List ?_
    walk_at "w"
    refine ⟨by rw [sizeLine_eq]; exact (by decide : 0 ≤ 16777216), ?_⟩
    refine O_eqNil ?_
    refine ⟨_, rfl, ?_⟩
    refine split_dec (fun q => ?_) fun q => ?_
    · walk_at "w"
      refine h1 _ ?_
      have : places r n a (n.length + 1 - a) = [] := by simpa using q
      simp [mid, this]
    · walk_at "w"
      cases hp : places r n a (n.length + 1 - a) with
      | nil => rw [hp] at q; simp at q
      | cons p ps =>
        have hpm : p ∈ places r n a (n.length + 1 - a) := by rw [hp]; exact List.mem_cons_self
        unfold places at hpm
        rw [List.mem_filter, List.mem_range'_1] at hpm
        have hle := fits_le (by omega) hpm.2
        have hpl : (p :: ps).length ≤ 100 := by
          rw [← hp]; unfold places
          exact Nat.le_trans (List.length_filter_le _ _) (by rw [List.length_range']; omega)
        refine WI_lst (d := .int (p : Int)) (by rw [show (0 : Int) = ((0 : Nat) : Int) from rfl, at_nat]; simp) (by rw [sizeLine_eq, List.length_map]; omega) ?_
        walk_at "w"
        have := ih (p + r.length) (fun x hx => hr x (List.mem_cons_of_mem _ hx)) hle (fun ρ' h => h1 ρ' (by simp only [mid, hp]; exact h)) (fun a' h => h2 a' (by simp only [mid, hp]; exact h))
        refine FL_sub ?_ this
        rw [show ((p + r.length : Nat) : Int) = (p : Int) + (r.length : Int) from by omega]
        walk_at "sub"
theorem takes_ok {g : G} (F : Fns g) (F2 : Fns2 g) {k : Nat} {r0 : Run} {rest : List Run} {n : List Nat} (ln : n.length ≤ 99) (lr : ∀ r ∈ r0 :: rest, r.length ≤ 100) (lrs : rest.length ≤ 1000) {σ : Sto} {Q : D → Sto → Prop} (h : Q (.bool (takesR (r0 :: rest) n)) σ) :
    Fn g (k + 2) (Str.ofString "_law_takes") [.lst (rds (r0 :: rest)), .str n] σ Q := by
  refine Fn_enter F2.takes (fun L a₀ cd => ?_) (fun _ _ _ vs hl => ?_) (by rfl) (by decide)
  · have hsz : (rds (r0 :: rest)).length ≤ sizeLine := by rw [sizeLine_eq, List.length_map, List.length_cons]; omega
    have l0 := lr r0 List.mem_cons_self
    walk_at "w"
    refine WE_CallF F2.fits ?_
    walk_at "w"
    refine WI_lst (d := .lst (rd r0)) (by rw [show (0 : Int) = ((0 : Nat) : Int) from rfl, at_nat]; simp) hsz ?_
    walk_at "w"
    refine fits_ok F F2 (a := 0) l0 (by omega) (by omega) ?_
    refine O_truthyB ?_
    rw [takesR_cons] at h
    cases hf : fits r0 n 0 with
    | false =>
      rw [hf, Bool.false_and] at h
      refine ite_T ?_
      walk_at "w"
      exact Drop.same h
    | true =>
      rw [hf, Bool.true_and] at h
      refine ite_F ?_
      walk_at "w"
      refine WI_lst (d := .lst (rd r0)) (by rw [show (0 : Int) = ((0 : Nat) : Int) from rfl, at_nat]; simp) hsz ?_
      walk_at "w"
      rcases List.eq_nil_or_concat rest with rfl | ⟨mids, last, rfl⟩
      · rw [decide_eq_true (show (([r0] : List Run).length : Int) = 1 from rfl)]
        walk_at "w"
        have e : decide ((r0.length : Int) = (n.length : Int)) = decide (r0.length = n.length) := by
          by_cases q : r0.length = n.length
          · rw [decide_eq_true q, decide_eq_true (by rw [q])]
          · rw [decide_eq_false q, decide_eq_false (by omega)]
        rw [e]
        exact Drop.same h
      rw [List.concat_eq_append] at *
      rw [decide_eq_false (by simp; omega)]
      walk_at "w"
      refine ⟨some 1, some (-1), _, rfl, rfl, .lst _ _ _ hsz, ?_⟩
      have ec : cut (rds (r0 :: (mids ++ [last]))) (some 1) (some (-1)) = rds mids := by
        unfold cut
        simp only [Option.elim]
        rw [show (-1 : Int) = -((1 : Nat) : Int) from rfl, clip_neg _ _ (Nat.le_refl 1), show (1 : Int) = ((1 : Nat) : Int) from rfl, clip_nat]
        simp
      rw [ec]
      refine ⟨_, .lst _, ?_⟩
      have f0 := fits_le (Nat.zero_le _) hf
      simp only [List.getLast?_append, List.getLast?_singleton, Option.some_or, List.dropLast_concat] at h
      refine FL_sub ?_ (takes_loop F F2 (L := L) (a₀ := a₀) (cd := cd) (k := k) (σ := σ) (n := n) (runs := .lst (rds (r0 :: (mids ++ [last])))) ln mids r0.length (fun r hr => lr r (List.mem_cons_of_mem _ (List.mem_append_left _ hr))) (by omega) (fun ρ' hm => ?_) fun a' hm ha' => ?_)
      · walk_at "sub"
      · rw [hm] at h; exact Drop.same h
      rw [hm] at h
      have hlast : at? (rds (r0 :: (mids ++ [last]))) (-1) = some (.lst (rd last)) := by
        have := at_last (rds (r0 :: mids)) (D.lst (rd last))
        rw [← this]; congr 1; simp
      have ll := lr last (List.mem_cons_of_mem _ (List.mem_append_right _ List.mem_cons_self))
      walk_at "w"
      refine WI_lst hlast hsz ?_
      walk_at "w"
      refine WE_And2 ?_
      walk_at "w"
      refine split_dec (fun q => ?_) fun q => ?_
      · refine WE_CallF F2.fits ?_
        walk_at "w"
        refine WI_lst hlast hsz ?_
        walk_at "w"
        rw [show (n.length : Int) - (last.length : Int) = ((n.length - last.length : Nat) : Int) from by omega]
        refine fits_ok F F2 ll (by omega) (by omega) ?_
        dsimp only at h
        rw [decide_eq_true (show a' + last.length ≤ n.length by omega), Bool.true_and] at h
        exact Drop.same h
      · dsimp only at h
        rw [decide_eq_false (show ¬ a' + last.length ≤ n.length by omega), Bool.false_and] at h
        rw [decide_eq_false q]
        exact Drop.same h
  · obtain ⟨v, u, rfl⟩ := len2 hl; rfl
-- M5
inductive ItemTx : List Nat → List Nat → Prop
  | lit (c) : special c = false → ItemTx [c] [c]
  | esc (c) : special c = true → ItemTx [92, c] [c]
  | any : ItemTx [46] []
  | br (c) : c = 42 ∨ c = 63 → ItemTx [91, c, 93] [c]
  | brb : ItemTx [91, 92, 91, 93] [91]
noncomputable abbrev rnLoc (tx inner : List Nat) (r : Addr) (m : Nat) (i : Nat) : Loc := [("text", .str tx), ("inner", .str inner), ("runs", .val (.ref r)), ("mode", .int (m : Int)), ("k", .int (i : Int))]
noncomputable abbrev rnSto (r c : Addr) (fr : List Run) (cur : Run) (σ : Sto) : Sto := (r, rds fr ++ [.val (.ref c)]) :: (c, rd cur) :: σ
noncomputable abbrev rnB : List Stmt := whB (fBody P 21) 2
section
variable (pre r : List Nat) (x : Nat)
theorem tx_at : at? (pre ++ x :: r) (pre.length : Int) = some x := by rw [at_nat]; simp
theorem tx_cut (i j : Nat) : cut (pre ++ x :: r) (some ((pre.length : Int) + (i : Int))) (some ((pre.length : Int) + (j : Int))) = ((x :: r).drop i).take (j - i) := by
  rw [show (pre.length : Int) + (i : Int) = ((pre.length + i : Nat) : Int) from by omega, show (pre.length : Int) + (j : Int) = ((pre.length + j : Nat) : Int) from by omega, cut_nat, ← List.drop_drop, List.drop_left, show pre.length + j - (pre.length + i) = j - i from by omega]
theorem tx_cut0 (j : Nat) : cut (pre ++ x :: r) (some (pre.length : Int)) (some ((pre.length : Int) + (j : Int))) = (x :: r).take j := by
  have := tx_cut pre r x 0 j
  simpa using this
end
noncomputable abbrev rnLoc2 (tx inner : List Nat) (r : Addr) (m : Nat) (i : Nat) (x : Nat) (b : List Nat) : Loc := [("text", .str tx), ("inner", .str inner), ("runs", .val (.ref r)), ("mode", .int (m : Int)), ("k", .int (i : Int)), ("sign", .str [x]), ("behind", .str b)]
noncomputable abbrev rnFm (L a₀ : Addr) (cd : Value) (k : Nat) : Fm := mkFm (Str.ofString "_law_runs") (fScope P 21) L a₀ cd (k + 1)
theorem rn_pre {g : G} (F : Fns g) {L a₀ : Addr} {cd : Value} {k : Nat} {σ : Sto} {Q : Fl → Loc → Sto → Prop} {tx inner : List Nat} {r : Addr} {m : Nat} {pre rs : List Nat} {x : Nat} (e : inner = pre ++ x :: rs) (hl : inner.length ≤ 1000)
    (h : WSs g (rnFm L a₀ cd k) (rnB.drop 1) (rnLoc2 tx inner r m pre.length x (rs.take 1)) σ Q) : WSs g (rnFm L a₀ cd k) rnB (rnLoc tx inner r m pre.length) σ Q := by
  show WSs g _ [_, _] _ _ _
  walk_at "w"
  refine WS_Swap2 ?_
  walk_at "w"
  refine WI_str (by rw [e]; exact tx_at pre rs x) (by walk_at "fits") ?_
  walk_at "w"
  rw [show cut inner (some ((pre.length : Int) + 1)) (some ((pre.length : Int) + 2)) = rs.take 1 from by rw [e]; exact tx_cut pre rs x 1 2]
  walk_at "w"
  refine ⟨by rw [sizeLine_eq]; exact (by decide : 2 ≤ 16777216), _, _, rfl, ?_⟩
  refine TS_sub ?_ h
  walk_at "sub"
theorem in02 (m : Nat) : decide ((m : Int) ∈ [(0 : Int), 2]) = decide (m = 0 ∨ m = 2) := by
  by_cases h : m = 0 ∨ m = 2
  · rw [decide_eq_true h, decide_eq_true]
    rcases h with rfl | rfl <;> simp
  · rw [decide_eq_false h, decide_eq_false]
    simp; omega
theorem rn_lit {g : G} (F : Fns g) {L a₀ : Addr} {cd : Value} {k : Nat} {σ : Sto} {Q : Fl → Loc → Sto → Prop} {tx inner : List Nat} {r c : Addr} {m : Nat} (hm : m ≠ 2) {pre rs : List Nat} {x : Nat} (hx : special x = false) {fr : List Run} {cur : Run}
    (e : inner = pre ++ x :: (rs)) (hl : inner.length ≤ 1000) (hc : cur.length ≤ 1000) (hf : fr.length ≤ 1000)
    (h : ∀ ρ', Sub (rnLoc tx inner r m (pre.length + 1)) ρ' → Q .next ρ' (rnSto r c fr (cur ++ [[x]]) σ)) :
    WSs g (rnFm L a₀ cd k) rnB (rnLoc tx inner r m pre.length) (rnSto r c fr cur σ) Q := by
  refine rn_pre F e hl ?_
  have hlast : at? (rds fr ++ [D.val (.ref c)]) (-1) = some (.val (.ref c)) := at_last _ _
  have hls : (rds fr ++ [D.val (.ref c)]).length ≤ sizeLine := by rw [sizeLine_eq, List.length_append, List.length_map]; simp; omega
  have hlc : (rd cur).length ≤ sizeLine := by rw [sizeLine_eq, List.length_map]; omega
  have hne : ∀ y, special y = true → x ≠ y := fun y hy q => by rw [q, hy] at hx; cases hx
  have hno : ∀ l : List Nat, (∀ y ∈ l, special y = true) → x ∉ l := fun l hy q => hne x (hy x q) rfl
  show WSs g _ [_] _ _ _
  walk_at "w"
  rw [show cut inner (some (pre.length : Int)) (some ((pre.length : Int) + 6)) = x :: (rs).take 5 from by rw [e]; exact tx_cut0 pre (rs) x 6]
  walk_at "w"
  rw [decide_eq_false (show ¬ x :: (rs).take 5 = [40, 63, 62, 46, 42, 63] from (by intro q; exact hne 40 (by decide) (List.cons.inj q).1))]
  walk_at "w"
  rw [decide_eq_false (show ¬ [x] = [41] from (by intro q; exact hne 41 (by decide) (List.cons.inj q).1))]
  walk_at "w"
  refine O_addS (by rw [sizeLine_eq]; simp only [List.length_cons, List.length_nil, List.length_take]; omega) ?_
  walk_at "w"
  rw [decide_eq_false (show ¬ [x] ++ (rs).take 1 = [46, 42] from (by intro q; exact hne 46 (by decide) (List.cons.inj q).1))]
  walk_at "w"
  rw [decide_eq_false (show ¬ (m : Int) = 2 by omega)]
  walk_at "w"
  refine O_inS ?_
  walk_at "w"
  rw [decide_eq_false (show ¬ x ∈ [40, 41, 42, 43, 63, 123, 125, 124, 94, 36] from (hno [40, 41, 42, 43, 63, 123, 125, 124, 94, 36] (by decide)))]
  walk_at "w"
  rw [decide_eq_false (show ¬ [x] = [92] from (by intro q; exact hne 92 (by decide) (List.cons.inj q).1))]
  walk_at "w"
  rw [decide_eq_false (show ¬ [x] = [91] from (by intro q; exact hne 91 (by decide) (List.cons.inj q).1))]
  walk_at "w"
  rw [decide_eq_false (show ¬ [x] = [91] from (by intro q; exact hne 91 (by decide) (List.cons.inj q).1))]
  walk_at "w"
  refine O_inS ?_
  walk_at "w"
  rw [decide_eq_false (show ¬ x ∈ [91, 92] from (hno [91, 92] (by decide)))]
  walk_at "w"
  refine WE_append ?_
  walk_at "w"
  refine WI_own List.mem_cons_self hlast hls ?_
  refine ⟨c, _, rfl, List.mem_cons_of_mem _ List.mem_cons_self, ?_⟩
  walk_at "w"
  rw [decide_eq_false (show ¬ [x] = [46] from (by intro q; exact hne 46 (by decide) (List.cons.inj q).1))]
  walk_at "w"
  refine ⟨[_], σ, rd cur, rfl, hlc, ?_⟩
  walk_at "w"
  have := h (setL (rnLoc2 tx inner r m pre.length x ((rs).take 1)) "k" (.int ((pre.length : Int) + 1))) ?_
  · show Q Fl.next _ ((r, _) :: (c, rd cur ++ [D.str [x]]) :: σ)
    rw [show rd cur ++ [D.str [x]] = rd (cur ++ [[x]]) from by simp]
    exact this
  · unfold rnLoc
    rw [show ((pre.length + 1 : Nat) : Int) = (pre.length : Int) + 1 from by omega]
    walk_at "sub"
theorem alnum_special : ∀ d ∈ specials, Txt.isalnum ⟨[d].toArray⟩ = false := by decide +kernel
theorem rn_esc {g : G} (F : Fns g) {L a₀ : Addr} {cd : Value} {k : Nat} {σ : Sto} {Q : Fl → Loc → Sto → Prop} {tx inner : List Nat} {r c : Addr} {m : Nat} (hm : m ≠ 2) {pre rs : List Nat} {x : Nat} (hx : special x = true) {fr : List Run} {cur : Run}
    (e : inner = pre ++ 92 :: (x :: rs)) (hl : inner.length ≤ 1000) (hc : cur.length ≤ 1000) (hf : fr.length ≤ 1000)
    (h : ∀ ρ', Sub (rnLoc tx inner r m (pre.length + 2)) ρ' → Q .next ρ' (rnSto r c fr (cur ++ [[x]]) σ)) :
    WSs g (rnFm L a₀ cd k) rnB (rnLoc tx inner r m pre.length) (rnSto r c fr cur σ) Q := by
  refine rn_pre F e hl ?_
  have hlast : at? (rds fr ++ [D.val (.ref c)]) (-1) = some (.val (.ref c)) := at_last _ _
  have hls : (rds fr ++ [D.val (.ref c)]).length ≤ sizeLine := by rw [sizeLine_eq, List.length_append, List.length_map]; simp; omega
  have hlc : (rd cur).length ≤ sizeLine := by rw [sizeLine_eq, List.length_map]; omega
  show WSs g _ [_] _ _ _
  walk_at "w"
  rw [show cut inner (some (pre.length : Int)) (some ((pre.length : Int) + 6)) = 92 :: (x :: rs).take 5 from by rw [e]; exact tx_cut0 pre (x :: rs) 92 6]
  walk_at "w"
  rw [decide_eq_false (show ¬ 92 :: (x :: rs).take 5 = [40, 63, 62, 46, 42, 63] from (by intro q; exact absurd (List.cons.inj q).1 (by decide)))]
  walk_at "w"
  rw [decide_eq_false (show ¬ [92] = [41] from (by intro q; exact absurd (List.cons.inj q).1 (by decide)))]
  walk_at "w"
  refine O_addS (by rw [sizeLine_eq]; simp only [List.length_cons, List.length_nil, List.length_take]; omega) ?_
  walk_at "w"
  rw [decide_eq_false (show ¬ [92] ++ (x :: rs).take 1 = [46, 42] from (by intro q; exact absurd (List.cons.inj q).1 (by decide)))]
  walk_at "w"
  rw [decide_eq_false (show ¬ (m : Int) = 2 by omega)]
  walk_at "w"
  refine O_inS ?_
  walk_at "w"
  rw [decide_eq_false (show ¬ 92 ∈ [40, 41, 42, 43, 63, 123, 125, 124, 94, 36] from (by decide))]
  walk_at "w"
  rw [decide_eq_true (show [92] = [92] from rfl)]
  walk_at "w"
  rw [show decide ((x :: rs).take 1 ≠ []) = true from by simp]
  walk_at "w"
  refine WE_isalnum ?_
  walk_at "w"
  rw [show Txt.isalnum ⟨((x :: rs).take 1).toArray⟩ = false from alnum_special x (by simpa [special] using hx)]
  walk_at "w"
  refine WE_append ?_
  walk_at "w"
  refine WI_own List.mem_cons_self hlast hls ?_
  refine ⟨c, _, rfl, List.mem_cons_of_mem _ List.mem_cons_self, ?_⟩
  walk_at "w"
  refine ⟨[_], σ, rd cur, rfl, hlc, ?_⟩
  walk_at "w"
  have := h (setL (rnLoc2 tx inner r m pre.length 92 ((x :: rs).take 1)) "k" (.int ((pre.length : Int) + 2))) ?_
  · show Q Fl.next _ ((r, _) :: (c, rd cur ++ [D.str [x]]) :: σ)
    rw [show rd cur ++ [D.str [x]] = rd (cur ++ [[x]]) from by simp]
    exact this
  · unfold rnLoc
    rw [show ((pre.length + 2 : Nat) : Int) = (pre.length : Int) + 2 from by omega]
    walk_at "sub"
theorem rn_any {g : G} (F : Fns g) {L a₀ : Addr} {cd : Value} {k : Nat} {σ : Sto} {Q : Fl → Loc → Sto → Prop} {tx inner : List Nat} {r c : Addr} {m : Nat} (hm : m ≠ 2) {pre rs : List Nat} (ha : m = 0 → rs.head? ≠ some 42) {fr : List Run} {cur : Run}
    (e : inner = pre ++ 46 :: (rs)) (hl : inner.length ≤ 1000) (hc : cur.length ≤ 1000) (hf : fr.length ≤ 1000)
    (h : ∀ ρ', Sub (rnLoc tx inner r m (pre.length + 1)) ρ' → Q .next ρ' (rnSto r c fr (cur ++ [[]]) σ)) :
    WSs g (rnFm L a₀ cd k) rnB (rnLoc tx inner r m pre.length) (rnSto r c fr cur σ) Q := by
  refine rn_pre F e hl ?_
  have hlast : at? (rds fr ++ [D.val (.ref c)]) (-1) = some (.val (.ref c)) := at_last _ _
  have hls : (rds fr ++ [D.val (.ref c)]).length ≤ sizeLine := by rw [sizeLine_eq, List.length_append, List.length_map]; simp; omega
  have hlc : (rd cur).length ≤ sizeLine := by rw [sizeLine_eq, List.length_map]; omega
  have hq : [46] ++ rs.take 1 ≠ [46, 42] ∨ ([46] ++ rs.take 1 = [46, 42] ∧ m ≠ 0) := by
    by_cases q : [46] ++ rs.take 1 = [46, 42]
    · right; refine ⟨q, fun h0 => ha h0 ?_⟩
      cases rs with
      | nil => simp at q
      | cons y ys => have := (List.cons.inj (List.cons.inj q).2).1; rw [this]; rfl
    · exact .inl q
  show WSs g _ [_] _ _ _
  walk_at "w"
  rw [show cut inner (some (pre.length : Int)) (some ((pre.length : Int) + 6)) = 46 :: (rs).take 5 from by rw [e]; exact tx_cut0 pre (rs) 46 6]
  walk_at "w"
  rw [decide_eq_false (show ¬ 46 :: (rs).take 5 = [40, 63, 62, 46, 42, 63] from (by intro q; exact absurd (List.cons.inj q).1 (by decide)))]
  walk_at "w"
  rw [decide_eq_false (show ¬ [46] = [41] from (by intro q; exact absurd (List.cons.inj q).1 (by decide)))]
  walk_at "w"
  refine O_addS (by rw [sizeLine_eq]; simp only [List.length_cons, List.length_nil, List.length_take]; omega) ?_
  walk_at "w"
  rcases hq with hq | ⟨hq, hm0⟩
  · rw [decide_eq_false hq]
    walk_at "w"
    rw [decide_eq_false (show ¬ (m : Int) = 2 by omega)]
    walk_at "w"
    refine O_inS ?_
    walk_at "w"
    rw [decide_eq_false (show ¬ 46 ∈ [40, 41, 42, 43, 63, 123, 125, 124, 94, 36] from (by decide))]
    walk_at "w"
    rw [decide_eq_false (show ¬ [46] = [92] from (by intro q; exact absurd (List.cons.inj q).1 (by decide)))]
    walk_at "w"
    rw [decide_eq_false (show ¬ [46] = [91] from (by intro q; exact absurd (List.cons.inj q).1 (by decide)))]
    walk_at "w"
    rw [decide_eq_false (show ¬ [46] = [91] from (by intro q; exact absurd (List.cons.inj q).1 (by decide)))]
    walk_at "w"
    refine O_inS ?_
    walk_at "w"
    rw [decide_eq_false (show ¬ 46 ∈ [91, 92] from (by decide))]
    walk_at "w"
    refine WE_append ?_
    walk_at "w"
    refine WI_own List.mem_cons_self hlast hls ?_
    refine ⟨c, _, rfl, List.mem_cons_of_mem _ List.mem_cons_self, ?_⟩
    walk_at "w"
    rw [decide_eq_true (show [46] = [46] from rfl)]
    walk_at "w"
    refine ⟨[_], σ, rd cur, rfl, hlc, ?_⟩
    walk_at "w"
    have := h (setL (rnLoc2 tx inner r m pre.length 46 ((rs).take 1)) "k" (.int ((pre.length : Int) + 1))) ?_
    · show Q Fl.next _ ((r, _) :: (c, rd cur ++ [D.str []]) :: σ)
      rw [show rd cur ++ [D.str []] = rd (cur ++ [[]]) from by simp]
      exact this
    · unfold rnLoc
      rw [show ((pre.length + 1 : Nat) : Int) = (pre.length : Int) + 1 from by omega]
      walk_at "sub"
  · rw [decide_eq_true hq]
    walk_at "w"
    refine ⟨by rw [sizeLine_eq]; exact (by decide : 2 ≤ 16777216), ?_⟩
    refine O_inTI (cs := [0, 2]) rfl ?_
    walk_at "w"
    rw [in02, decide_eq_false (by omega)]
    walk_at "w"
    rw [decide_eq_false (show ¬ (m : Int) = 2 by omega)]
    walk_at "w"
    refine O_inS ?_
    walk_at "w"
    rw [decide_eq_false (show ¬ 46 ∈ [40, 41, 42, 43, 63, 123, 125, 124, 94, 36] from (by decide))]
    walk_at "w"
    rw [decide_eq_false (show ¬ [46] = [92] from (by intro q; exact absurd (List.cons.inj q).1 (by decide)))]
    walk_at "w"
    rw [decide_eq_false (show ¬ [46] = [91] from (by intro q; exact absurd (List.cons.inj q).1 (by decide)))]
    walk_at "w"
    rw [decide_eq_false (show ¬ [46] = [91] from (by intro q; exact absurd (List.cons.inj q).1 (by decide)))]
    walk_at "w"
    refine O_inS ?_
    walk_at "w"
    rw [decide_eq_false (show ¬ 46 ∈ [91, 92] from (by decide))]
    walk_at "w"
    refine WE_append ?_
    walk_at "w"
    refine WI_own List.mem_cons_self hlast hls ?_
    refine ⟨c, _, rfl, List.mem_cons_of_mem _ List.mem_cons_self, ?_⟩
    walk_at "w"
    rw [decide_eq_true (show [46] = [46] from rfl)]
    walk_at "w"
    refine ⟨[_], σ, rd cur, rfl, hlc, ?_⟩
    walk_at "w"
    have := h (setL (rnLoc2 tx inner r m pre.length 46 ((rs).take 1)) "k" (.int ((pre.length : Int) + 1))) ?_
    · show Q Fl.next _ ((r, _) :: (c, rd cur ++ [D.str []]) :: σ)
      rw [show rd cur ++ [D.str []] = rd (cur ++ [[]]) from by simp]
      exact this
    · unfold rnLoc
      rw [show ((pre.length + 1 : Nat) : Int) = (pre.length : Int) + 1 from by omega]
      walk_at "sub"
theorem rn_br {g : G} (F : Fns g) {L a₀ : Addr} {cd : Value} {k : Nat} {σ : Sto} {Q : Fl → Loc → Sto → Prop} {tx inner : List Nat} {r c : Addr} {m : Nat} (hm : m ≠ 2) {pre rs : List Nat} {x : Nat} (hx : x = 42 ∨ x = 63) {fr : List Run} {cur : Run}
    (e : inner = pre ++ 91 :: (x :: 93 :: rs)) (hl : inner.length ≤ 1000) (hc : cur.length ≤ 1000) (hf : fr.length ≤ 1000)
    (h : ∀ ρ', Sub (rnLoc tx inner r m (pre.length + 3)) ρ' → Q .next ρ' (rnSto r c fr (cur ++ [[x]]) σ)) :
    WSs g (rnFm L a₀ cd k) rnB (rnLoc tx inner r m pre.length) (rnSto r c fr cur σ) Q := by
  refine rn_pre F e hl ?_
  have hlast : at? (rds fr ++ [D.val (.ref c)]) (-1) = some (.val (.ref c)) := at_last _ _
  have hls : (rds fr ++ [D.val (.ref c)]).length ≤ sizeLine := by rw [sizeLine_eq, List.length_append, List.length_map]; simp; omega
  have hlc : (rd cur).length ≤ sizeLine := by rw [sizeLine_eq, List.length_map]; omega
  show WSs g _ [_] _ _ _
  walk_at "w"
  rw [show cut inner (some (pre.length : Int)) (some ((pre.length : Int) + 6)) = 91 :: (x :: 93 :: rs).take 5 from by rw [e]; exact tx_cut0 pre (x :: 93 :: rs) 91 6]
  walk_at "w"
  rw [decide_eq_false (show ¬ 91 :: (x :: 93 :: rs).take 5 = [40, 63, 62, 46, 42, 63] from (by intro q; exact absurd (List.cons.inj q).1 (by decide)))]
  walk_at "w"
  rw [decide_eq_false (show ¬ [91] = [41] from (by intro q; exact absurd (List.cons.inj q).1 (by decide)))]
  walk_at "w"
  refine O_addS (by rw [sizeLine_eq]; simp only [List.length_cons, List.length_nil, List.length_take]; omega) ?_
  walk_at "w"
  rw [decide_eq_false (show ¬ [91] ++ (x :: 93 :: rs).take 1 = [46, 42] from (by intro q; exact absurd (List.cons.inj q).1 (by decide)))]
  walk_at "w"
  rw [decide_eq_false (show ¬ (m : Int) = 2 by omega)]
  walk_at "w"
  refine O_inS ?_
  walk_at "w"
  rw [decide_eq_false (show ¬ 91 ∈ [40, 41, 42, 43, 63, 123, 125, 124, 94, 36] from (by decide))]
  walk_at "w"
  rw [decide_eq_false (show ¬ [91] = [92] from (by intro q; exact absurd (List.cons.inj q).1 (by decide)))]
  walk_at "w"
  rw [decide_eq_true (show [91] = [91] from rfl)]
  walk_at "w"
  refine O_notInSS ?_
  rw [show (!isIn ((x :: 93 :: rs).take 1) [93, 94, 92]) = true from by rw [show (x :: 93 :: rs).take 1 = [x] from rfl, isIn_one]; rcases hx with rfl | rfl <;> decide]
  walk_at "w"
  rw [show cut inner (some ((pre.length : Int) + 2)) (some ((pre.length : Int) + 3)) = [93] from by rw [e]; exact tx_cut pre (x :: 93 :: rs) 91 2 3]
  walk_at "w"
  rw [decide_eq_true (show [93] = [93] from rfl)]
  walk_at "w"
  refine WE_append ?_
  walk_at "w"
  refine WI_own List.mem_cons_self hlast hls ?_
  refine ⟨c, _, rfl, List.mem_cons_of_mem _ List.mem_cons_self, ?_⟩
  walk_at "w"
  refine ⟨[_], σ, rd cur, rfl, hlc, ?_⟩
  walk_at "w"
  have := h (setL (rnLoc2 tx inner r m pre.length 91 ((x :: 93 :: rs).take 1)) "k" (.int ((pre.length : Int) + 3))) ?_
  · show Q Fl.next _ ((r, _) :: (c, rd cur ++ [D.str [x]]) :: σ)
    rw [show rd cur ++ [D.str [x]] = rd (cur ++ [[x]]) from by simp]
    exact this
  · unfold rnLoc
    rw [show ((pre.length + 3 : Nat) : Int) = (pre.length : Int) + 3 from by omega]
    walk_at "sub"
theorem rn_brb {g : G} (F : Fns g) {L a₀ : Addr} {cd : Value} {k : Nat} {σ : Sto} {Q : Fl → Loc → Sto → Prop} {tx inner : List Nat} {r c : Addr} {m : Nat} (hm : m ≠ 2) {pre rs : List Nat} {fr : List Run} {cur : Run}
    (e : inner = pre ++ 91 :: (92 :: 91 :: 93 :: rs)) (hl : inner.length ≤ 1000) (hc : cur.length ≤ 1000) (hf : fr.length ≤ 1000)
    (h : ∀ ρ', Sub (rnLoc tx inner r m (pre.length + 4)) ρ' → Q .next ρ' (rnSto r c fr (cur ++ [[91]]) σ)) :
    WSs g (rnFm L a₀ cd k) rnB (rnLoc tx inner r m pre.length) (rnSto r c fr cur σ) Q := by
  refine rn_pre F e hl ?_
  have hlast : at? (rds fr ++ [D.val (.ref c)]) (-1) = some (.val (.ref c)) := at_last _ _
  have hls : (rds fr ++ [D.val (.ref c)]).length ≤ sizeLine := by rw [sizeLine_eq, List.length_append, List.length_map]; simp; omega
  have hlc : (rd cur).length ≤ sizeLine := by rw [sizeLine_eq, List.length_map]; omega
  show WSs g _ [_] _ _ _
  walk_at "w"
  rw [show cut inner (some (pre.length : Int)) (some ((pre.length : Int) + 6)) = 91 :: (92 :: 91 :: 93 :: rs).take 5 from by rw [e]; exact tx_cut0 pre (92 :: 91 :: 93 :: rs) 91 6]
  walk_at "w"
  rw [decide_eq_false (show ¬ 91 :: (92 :: 91 :: 93 :: rs).take 5 = [40, 63, 62, 46, 42, 63] from (by intro q; exact absurd (List.cons.inj q).1 (by decide)))]
  walk_at "w"
  rw [decide_eq_false (show ¬ [91] = [41] from (by intro q; exact absurd (List.cons.inj q).1 (by decide)))]
  walk_at "w"
  refine O_addS (by rw [sizeLine_eq]; simp only [List.length_cons, List.length_nil, List.length_take]; omega) ?_
  walk_at "w"
  rw [decide_eq_false (show ¬ [91] ++ (92 :: 91 :: 93 :: rs).take 1 = [46, 42] from (by intro q; exact absurd (List.cons.inj q).1 (by decide)))]
  walk_at "w"
  rw [decide_eq_false (show ¬ (m : Int) = 2 by omega)]
  walk_at "w"
  refine O_inS ?_
  walk_at "w"
  rw [decide_eq_false (show ¬ 91 ∈ [40, 41, 42, 43, 63, 123, 125, 124, 94, 36] from (by decide))]
  walk_at "w"
  rw [decide_eq_false (show ¬ [91] = [92] from (by intro q; exact absurd (List.cons.inj q).1 (by decide)))]
  walk_at "w"
  rw [decide_eq_true (show [91] = [91] from rfl)]
  walk_at "w"
  refine O_notInSS ?_
  rw [show (!isIn ((92 :: 91 :: 93 :: rs).take 1) [93, 94, 92]) = false from by rw [show (92 :: 91 :: 93 :: rs).take 1 = [92] from rfl, isIn_one]; decide]
  walk_at "w"
  rw [decide_eq_true (show [91] = [91] from rfl)]
  walk_at "w"
  rw [decide_eq_true (show (92 :: 91 :: 93 :: rs).take 1 = [92] from rfl)]
  walk_at "w"
  rw [show cut inner (some ((pre.length : Int) + 3)) (some ((pre.length : Int) + 4)) = [93] from by rw [e]; exact tx_cut pre (92 :: 91 :: 93 :: rs) 91 3 4]
  walk_at "w"
  rw [decide_eq_true (show [93] = [93] from rfl)]
  walk_at "w"
  refine WE_append ?_
  walk_at "w"
  refine WI_own List.mem_cons_self hlast hls ?_
  refine ⟨c, _, rfl, List.mem_cons_of_mem _ List.mem_cons_self, ?_⟩
  walk_at "w"
  refine WI_str (c := 91) (by rw [e]; have := at_off pre (91 :: 92 :: 91 :: 93 :: rs) [] 2 (by simp); simpa using this) (by walk_at "fits") ?_
  refine ⟨[_], σ, rd cur, rfl, hlc, ?_⟩
  walk_at "w"
  have := h (setL (rnLoc2 tx inner r m pre.length 91 ((92 :: 91 :: 93 :: rs).take 1)) "k" (.int ((pre.length : Int) + 4))) ?_
  · show Q Fl.next _ ((r, _) :: (c, rd cur ++ [D.str [91]]) :: σ)
    rw [show rd cur ++ [D.str [91]] = rd (cur ++ [[91]]) from by simp]
    exact this
  · unfold rnLoc
    rw [show ((pre.length + 4 : Nat) : Int) = (pre.length : Int) + 4 from by omega]
    walk_at "sub"
-- M6
theorem rn_open {g : G} (F : Fns g) {L a₀ : Addr} {cd : Value} {k : Nat} {σ : Sto} {Q : Fl → Loc → Sto → Prop} {tx inner : List Nat} {r c : Addr} {m : Nat} (hm : m = 0 ∨ m = 2) {pre rs : List Nat} {fr : List Run} {cur : Run}
    (e : inner = pre ++ 40 :: (63 :: 62 :: 46 :: 42 :: 63 :: rs)) (hl : inner.length ≤ 1000) (hf : fr.length ≤ 1000)
    (h : ∀ ρ' c', Sub (rnLoc tx inner r 1 (pre.length + 6)) ρ' → Q .next ρ' (rnSto r c' (fr ++ [cur]) [] σ)) :
    WSs g (rnFm L a₀ cd k) rnB (rnLoc tx inner r m pre.length) (rnSto r c fr cur σ) Q := by
  refine rn_pre F e hl ?_
  show WSs g _ [_] _ _ _
  walk_at "w"
  rw [show cut inner (some (pre.length : Int)) (some ((pre.length : Int) + 6)) = [40, 63, 62, 46, 42, 63] from by rw [e]; exact tx_cut0 pre _ 40 6]
  walk_at "w"
  rw [decide_eq_true (show [40, 63, 62, 46, 42, 63] = [40, 63, 62, 46, 42, 63] from rfl)]
  walk_at "w"
  refine ⟨by rw [sizeLine_eq]; exact (by decide : 2 ≤ 16777216), ?_⟩
  refine O_inTI (cs := [0, 2]) rfl ?_
  walk_at "w"
  rw [in02, decide_eq_true hm]
  refine ite_T (WAll_nilA (ite_T ?_))
  refine TS_conv Conv.last ?_
  walk_at "w"
  refine WE_append ?_
  walk_at "w"
  refine ⟨r, _, rfl, List.mem_cons_self, ?_⟩
  refine WE_ListOwn (WL_nil ⟨by rw [sizeLine_eq]; exact (by decide : 0 ≤ 16777216), fun c' hc' => ?_⟩)
  refine ⟨[(c', [])], σ, _, rfl, by rw [sizeLine_eq, List.length_append, List.length_map]; simp; omega, ?_⟩
  walk_at "w"
  refine TS_conv Conv.swap ?_
  refine WS_Swap2 ?_
  walk_at "w"
  refine ⟨by rw [sizeLine_eq]; exact (by decide : 2 ≤ 16777216), _, _, rfl, ?_⟩
  walk_at "w"
  have := h (setL (setL (rnLoc2 tx inner r m pre.length 40 (List.take 1 (63 :: 62 :: 46 :: 42 :: 63 :: rs))) "k" (.int ((pre.length : Int) + 6))) "mode" (.int 1)) c' ?_
  · show Q Fl.next _ ((r, rds fr ++ [D.lst (rd cur)] ++ [.val (.ref c')]) :: (c', []) :: σ)
    rw [show rds fr ++ [D.lst (rd cur)] = rds (fr ++ [cur]) from by simp]
    exact this
  · unfold rnLoc
    rw [show ((pre.length + 6 : Nat) : Int) = (pre.length : Int) + 6 from by omega]
    walk_at "sub"
theorem rn_close {g : G} (F : Fns g) {L a₀ : Addr} {cd : Value} {k : Nat} {σ : Sto} {Q : Fl → Loc → Sto → Prop} {tx inner : List Nat} {r c : Addr} {pre rs : List Nat} {fr : List Run} {cur : Run}
    (e : inner = pre ++ 41 :: rs) (hl : inner.length ≤ 1000)
    (h : ∀ ρ', Sub (rnLoc tx inner r 2 (pre.length + 1)) ρ' → Q .next ρ' (rnSto r c fr cur σ)) :
    WSs g (rnFm L a₀ cd k) rnB (rnLoc tx inner r 1 pre.length) (rnSto r c fr cur σ) Q := by
  refine rn_pre F e hl ?_
  show WSs g _ [_] _ _ _
  walk_at "w"
  rw [show cut inner (some (pre.length : Int)) (some ((pre.length : Int) + 6)) = 41 :: (rs).take 5 from by rw [e]; exact tx_cut0 pre (rs) 41 6]
  walk_at "w"
  rw [decide_eq_false (show ¬ 41 :: (rs).take 5 = [40, 63, 62, 46, 42, 63] from (by intro q; exact absurd (List.cons.inj q).1 (by decide)))]
  walk_at "w"
  rw [decide_eq_true (show [41] = [41] from rfl)]
  walk_at "w"
  rw [decide_eq_true (show ((1 : Nat) : Int) = 1 from rfl)]
  walk_at "w"
  refine WS_Swap2 ?_
  walk_at "w"
  refine ⟨by rw [sizeLine_eq]; exact (by decide : 2 ≤ 16777216), _, _, rfl, ?_⟩
  walk_at "w"
  refine h _ ?_
  unfold rnLoc
  rw [show ((pre.length + 1 : Nat) : Int) = (pre.length : Int) + 1 from by omega]
  walk_at "sub"
theorem rn_star {g : G} (F : Fns g) {L a₀ : Addr} {cd : Value} {k : Nat} {σ : Sto} {Q : Fl → Loc → Sto → Prop} {tx inner : List Nat} {r c : Addr} {m : Nat} (hm : m = 0 ∨ m = 2) {pre rs : List Nat} {fr : List Run} {cur : Run}
    (e : inner = pre ++ 46 :: (42 :: rs)) (hl : inner.length ≤ 1000) (hf : fr.length ≤ 1000)
    (h : ∀ ρ' c', Sub (rnLoc tx inner r 3 (pre.length + 2)) ρ' → Q .next ρ' (rnSto r c' (fr ++ [cur]) [] σ)) :
    WSs g (rnFm L a₀ cd k) rnB (rnLoc tx inner r m pre.length) (rnSto r c fr cur σ) Q := by
  refine rn_pre F e hl ?_
  show WSs g _ [_] _ _ _
  walk_at "w"
  rw [show cut inner (some (pre.length : Int)) (some ((pre.length : Int) + 6)) = 46 :: (42 :: rs).take 5 from by rw [e]; exact tx_cut0 pre _ 46 6]
  walk_at "w"
  rw [decide_eq_false (show ¬ 46 :: (42 :: rs).take 5 = [40, 63, 62, 46, 42, 63] from (by intro q; exact absurd (List.cons.inj q).1 (by decide)))]
  walk_at "w"
  rw [decide_eq_false (show ¬ [46] = [41] by decide)]
  walk_at "w"
  refine O_addS (by rw [sizeLine_eq]; simp only [List.length_cons, List.length_nil, List.length_take]; omega) ?_
  walk_at "w"
  rw [decide_eq_true (show [46] ++ (42 :: rs).take 1 = [46, 42] from rfl)]
  walk_at "w"
  refine ⟨by rw [sizeLine_eq]; exact (by decide : 2 ≤ 16777216), ?_⟩
  refine O_inTI (cs := [0, 2]) rfl ?_
  walk_at "w"
  rw [in02, decide_eq_true hm]
  refine ite_T (WAll_nilA (ite_T ?_))
  refine TS_conv Conv.last ?_
  walk_at "w"
  refine WE_append ?_
  walk_at "w"
  refine ⟨r, _, rfl, List.mem_cons_self, ?_⟩
  refine WE_ListOwn (WL_nil ⟨by rw [sizeLine_eq]; exact (by decide : 0 ≤ 16777216), fun c' hc' => ?_⟩)
  refine ⟨[(c', [])], σ, _, rfl, by rw [sizeLine_eq, List.length_append, List.length_map]; simp; omega, ?_⟩
  walk_at "w"
  refine TS_conv Conv.swap ?_
  refine WS_Swap2 ?_
  walk_at "w"
  refine ⟨by rw [sizeLine_eq]; exact (by decide : 2 ≤ 16777216), _, _, rfl, ?_⟩
  walk_at "w"
  have := h (setL (setL (rnLoc2 tx inner r m pre.length 46 (List.take 1 (42 :: rs))) "k" (.int ((pre.length : Int) + 2))) "mode" (.int 3)) c' ?_
  · show Q Fl.next _ ((r, rds fr ++ [D.lst (rd cur)] ++ [.val (.ref c')]) :: (c', []) :: σ)
    rw [show rds fr ++ [D.lst (rd cur)] = rds (fr ++ [cur]) from by simp]
    exact this
  · unfold rnLoc
    rw [show ((pre.length + 2 : Nat) : Int) = (pre.length : Int) + 2 from by omega]
    walk_at "sub"
inductive Parses : Nat → List Run → Run → List Nat → List Run → Prop
  | done0 (fr cur) : Parses 0 fr cur [] (fr ++ [cur])
  | done3 (fr cur) : Parses 3 fr cur [] (fr ++ [cur])
  | lit {m fr cur x rs R} : m ≠ 2 → special x = false → Parses m fr (cur ++ [[x]]) rs R → Parses m fr cur (x :: rs) R
  | esc {m fr cur x rs R} : m ≠ 2 → special x = true → Parses m fr (cur ++ [[x]]) rs R → Parses m fr cur (92 :: x :: rs) R
  | any {m fr cur rs R} : m ≠ 2 → (m = 0 → rs.head? ≠ some 42) → Parses m fr (cur ++ [[]]) rs R → Parses m fr cur (46 :: rs) R
  | br {m fr cur x rs R} : m ≠ 2 → (x = 42 ∨ x = 63) → Parses m fr (cur ++ [[x]]) rs R → Parses m fr cur (91 :: x :: 93 :: rs) R
  | brb {m fr cur rs R} : m ≠ 2 → Parses m fr (cur ++ [[91]]) rs R → Parses m fr cur (91 :: 92 :: 91 :: 93 :: rs) R
  | opn {m fr cur rs R} : (m = 0 ∨ m = 2) → Parses 1 (fr ++ [cur]) [] rs R → Parses m fr cur (40 :: 63 :: 62 :: 46 :: 42 :: 63 :: rs) R
  | cls {fr cur rs R} : Parses 2 fr cur rs R → Parses 1 fr cur (41 :: rs) R
  | star {m fr cur rs R} : (m = 0 ∨ m = 2) → Parses 3 (fr ++ [cur]) [] rs R → Parses m fr cur (46 :: 42 :: rs) R
theorem rn_loop {g : G} (F : Fns g) {L a₀ r : Addr} {cd : Value} {k : Nat} {σ : Sto} {Q : Fl → Loc → Sto → Prop} {tx inner : List Nat} (hl : inner.length ≤ 800) {R : List Run}
    (h : ∀ m fr cur c, (m = 0 ∨ m = 3) → R = fr ++ [cur] → R.length ≤ 1000 → Q .next (rnLoc tx inner r m inner.length) (rnSto r c fr cur σ)) {m : Nat} {fr : List Run} {cur : Run} {rest : List Nat} (hp : Parses m fr cur rest R) :
    ∀ (c : Addr) (pre : List Nat), inner = pre ++ rest → cur.length ≤ pre.length → fr.length ≤ pre.length →
    LW g (rnFm L a₀ cd k) (whT (fBody P 21) 2) rnB (rnLoc tx inner r m pre.length) (rnSto r c fr cur σ) Q := by
  have go : ∀ (m : Nat) (fr : List Run) (cur : Run) (c : Addr) (pre rest : List Nat), inner = pre ++ rest → rest ≠ [] →
      (WSs g (rnFm L a₀ cd k) rnB (rnLoc tx inner r m pre.length) (rnSto r c fr cur σ) fun fl ρ₂ σ₂ => match fl with
        | .next | .cont => LW g (rnFm L a₀ cd k) (whT (fBody P 21) 2) rnB ρ₂ σ₂ Q
        | .brk => Q .next ρ₂ σ₂ | .ret d => Q (.ret d) ρ₂ σ₂) →
      LW g (rnFm L a₀ cd k) (whT (fBody P 21) 2) rnB (rnLoc tx inner r m pre.length) (rnSto r c fr cur σ) Q := by
    intro m fr cur c pre rest e hne hb
    have hlt : pre.length < inner.length := by rw [e, List.length_append]; have := List.length_pos_iff.mpr hne; omega
    refine LW_step (WT_Compare ?_)
    walk_at "w"
    rw [decide_eq_true (show (pre.length : Int) < (inner.length : Int) by omega)]
    exact ite_T hb
  have fin : ∀ (m : Nat) (fr : List Run) (cur : Run) (c : Addr) (pre : List Nat), inner = pre ++ [] → (m = 0 ∨ m = 3) → R = fr ++ [cur] → R.length ≤ 1000 →
      LW g (rnFm L a₀ cd k) (whT (fBody P 21) 2) rnB (rnLoc tx inner r m pre.length) (rnSto r c fr cur σ) Q := by
    intro m fr cur c pre e hm hR hRl
    rw [List.append_nil] at e
    subst e
    refine LW_step (WT_Compare ?_)
    walk_at "w"
    rw [decide_eq_false (show ¬ (inner.length : Int) < (inner.length : Int) by omega)]
    exact ite_F (h m fr cur c hm hR hRl)
  induction hp with
  | done0 fr cur => intro c pre e h1 h2; exact fin 0 fr cur c pre e (.inl rfl) rfl (by rw [e] at hl; simp at hl ⊢; omega)
  | done3 fr cur => intro c pre e h1 h2; exact fin 3 fr cur c pre e (.inr rfl) rfl (by rw [e] at hl; simp at hl ⊢; omega)
  | @lit m fr cur x rs R hm hx hp ih =>
    intro c pre e h1 h2
    refine go m fr cur c pre _ e (by simp) (rn_lit F hm hx e (by omega) (by rw [e] at hl; simp at hl; omega) (by rw [e] at hl; simp at hl; omega) fun ρ' hs => ?_)
    have := ih h fin c (pre ++ [x]) (by rw [e]; simp) (by simp; omega) (by simp; omega)
    rw [show (pre ++ [x] : List Nat).length = pre.length + 1 from by simp] at this
    exact LW_sub hs this
  | @esc m fr cur x rs R hm hx hp ih =>
    intro c pre e h1 h2
    refine go _ fr cur c pre _ e (by simp) (rn_esc F hm hx e (by omega) (by rw [e] at hl; simp at hl; omega) (by rw [e] at hl; simp at hl; omega) fun ρ' hs => ?_)
    have := ih h fin c (pre ++ [92, x]) (by rw [e]; simp) (by simp; omega) (by simp; omega)
    rw [show (pre ++ [92, x] : List Nat).length = pre.length + 2 from by simp] at this
    exact LW_sub hs this
  | @any m fr cur rs R hm ha hp ih =>
    intro c pre e h1 h2
    refine go _ fr cur c pre _ e (by simp) (rn_any F hm ha e (by omega) (by rw [e] at hl; simp at hl; omega) (by rw [e] at hl; simp at hl; omega) fun ρ' hs => ?_)
    have := ih h fin c (pre ++ [46]) (by rw [e]; simp) (by simp; omega) (by simp; omega)
    rw [show (pre ++ [46] : List Nat).length = pre.length + 1 from by simp] at this
    exact LW_sub hs this
  | @br m fr cur x rs R hm hx hp ih =>
    intro c pre e h1 h2
    refine go _ fr cur c pre _ e (by simp) (rn_br F hm hx e (by omega) (by rw [e] at hl; simp at hl; omega) (by rw [e] at hl; simp at hl; omega) fun ρ' hs => ?_)
    have := ih h fin c (pre ++ [91, x, 93]) (by rw [e]; simp) (by simp; omega) (by simp; omega)
    rw [show (pre ++ [91, x, 93] : List Nat).length = pre.length + 3 from by simp] at this
    exact LW_sub hs this
  | @brb m fr cur rs R hm hp ih =>
    intro c pre e h1 h2
    refine go _ fr cur c pre _ e (by simp) (rn_brb F hm e (by omega) (by rw [e] at hl; simp at hl; omega) (by rw [e] at hl; simp at hl; omega) fun ρ' hs => ?_)
    have := ih h fin c (pre ++ [91, 92, 91, 93]) (by rw [e]; simp) (by simp; omega) (by simp; omega)
    rw [show (pre ++ [91, 92, 91, 93] : List Nat).length = pre.length + 4 from by simp] at this
    exact LW_sub hs this
  | @opn m fr cur rs R hm hp ih =>
    intro c pre e h1 h2
    refine go _ fr cur c pre _ e (by simp) (rn_open F hm e (by omega) (by rw [e] at hl; simp at hl; omega) fun ρ' c' hs => ?_)
    have := ih h fin c' (pre ++ [40, 63, 62, 46, 42, 63]) (by rw [e]; simp) (by simp) (by simp; omega)
    rw [show (pre ++ [40, 63, 62, 46, 42, 63] : List Nat).length = pre.length + 6 from by simp] at this
    exact LW_sub hs this
  | @cls fr cur rs R hp ih =>
    intro c pre e h1 h2
    refine go _ fr cur c pre _ e (by simp) (rn_close F e (by omega) fun ρ' hs => ?_)
    have := ih h fin c (pre ++ [41]) (by rw [e]; simp) (by simp; omega) (by simp; omega)
    rw [show (pre ++ [41] : List Nat).length = pre.length + 1 from by simp] at this
    exact LW_sub hs this
  | @star m fr cur rs R hm hp ih =>
    intro c pre e h1 h2
    refine go _ fr cur c pre _ e (by simp) (rn_star F hm e (by omega) (by rw [e] at hl; simp at hl; omega) fun ρ' c' hs => ?_)
    have := ih h fin c' (pre ++ [46, 42]) (by rw [e]; simp) (by simp) (by simp; omega)
    rw [show (pre ++ [46, 42] : List Nat).length = pre.length + 2 from by simp] at this
    exact LW_sub hs this
theorem runs_ok {g : G} (F : Fns g) (F2 : Fns2 g) {k : Nat} {inner : List Nat} (hl : inner.length ≤ 800) {R : List Run} (hp : Parses 0 [] [] inner R) {σ : Sto} {Q : D → Sto → Prop} (h : R.length ≤ 1000 → Q (.lst (rds R)) σ) :
    Fn g (k + 2) (Str.ofString "_law_runs") [.str ([40, 63, 115, 58] ++ inner ++ [41, 92, 90])] σ Q := by
  refine Fn_enter F2.runs (fun L a₀ cd => ?_) (fun _ _ _ vs hl => ?_) (by rfl) (by decide)
  · have htl : ([40, 63, 115, 58] ++ inner ++ [41, 92, 90]).length ≤ 900 := by simp; omega
    have c4 : cut ([40, 63, 115, 58] ++ inner ++ [41, 92, 90]) none (some 4) = [40, 63, 115, 58] := by rw [show (4 : Int) = ((4 : Nat) : Int) from rfl, cut_upto]; rfl
    have c3 : cut ([40, 63, 115, 58] ++ inner ++ [41, 92, 90]) (some (-3)) none = [41, 92, 90] := by
      unfold cut; simp only [Option.elim]
      rw [show (-3 : Int) = -((3 : Nat) : Int) from rfl, clip_neg _ _ (by decide)]
      have e : ([40, 63, 115, 58] ++ inner ++ [41, 92, 90]).length - 3 = ([40, 63, 115, 58] ++ inner : List Nat).length := by simp
      rw [e, List.drop_left]
      simp
    have c43 : cut ([40, 63, 115, 58] ++ inner ++ [41, 92, 90]) (some 4) (some (-3)) = inner := by
      unfold cut; simp only [Option.elim]
      rw [show (-3 : Int) = -((3 : Nat) : Int) from rfl, clip_neg _ _ (by decide), show (4 : Int) = ((4 : Nat) : Int) from rfl, clip_nat]
      simp
    generalize [40, 63, 115, 58] ++ inner ++ [41, 92, 90] = tx at *
    walk_at "w"
    rw [c4]
    walk_at "w"
    rw [decide_eq_false (show ¬ [40, 63, 115, 58] ≠ [40, 63, 115, 58] by decide)]
    walk_at "w"
    rw [c3]
    walk_at "w"
    rw [decide_eq_false (show ¬ [41, 92, 90] ≠ [41, 92, 90] by decide)]
    walk_at "w"
    refine WS_AssignT ?_
    walk_at "w"
    rw [c43]
    refine WE_ListOwn (WL_cons (WE_ListOwn (WL_nil ⟨by rw [sizeLine_eq]; exact (by decide : 0 ≤ 16777216), fun c hc => WL_nil ⟨by rw [sizeLine_eq]; exact (by decide : 1 ≤ 16777216), fun r hr => ?_⟩⟩)))
    walk_at "w"
    refine ⟨by rw [sizeLine_eq]; exact (by decide : 4 ≤ 16777216), OA_Tuple (OAs_cons (OA_Name (OAs_cons (OA_Name (OAs_cons (OA_Name (OAs_cons (OA_Name (OAs_nil ?_))))))))) rfl⟩
    walk_at "w"
    refine LW_sub ?_ (rn_loop F (L := L) (a₀ := a₀) (cd := cd) (k := k) (σ := σ) (r := r) (tx := tx) (inner := inner) hl (fun m fr cur c hm hR hRl => ?_) hp c [] rfl (by simp) (by simp))
    · walk_at "sub"
    have eR : rds R = rds fr ++ [.lst (rd cur)] := by rw [hR]; simp
    have h := h hRl
    refine TS_conv (Conv.last.trans (Conv.top (ρ' := [("runs", .lst (rds R)), ("mode", .int (m : Int))]) ?_)) ?_
    · rw [eR]
      exact SubF.cons2 rfl (SubF.cons1 rfl SubF.nil)
    walk_at "w"
    refine ⟨by rw [sizeLine_eq]; exact (by decide : 2 ≤ 16777216), ?_⟩
    refine O_inTI (cs := [0, 3]) rfl ?_
    walk_at "w"
    rw [decide_eq_true (show (m : Int) ∈ [(0 : Int), 3] by rcases hm with rfl | rfl <;> simp)]
    walk_at "w"
    exact Drop.same h
  · obtain ⟨v, rfl⟩ := len1 hl; rfl
-- M7
inductive It where
  | any | lit (c : Nat) | br (c : Nat)
noncomputable def It.ok : It → Prop
  | .any => True
  | .lit c => c ≠ 42 ∧ c ≠ 63 ∧ c ≠ 91
  | .br c => c = 42 ∨ c = 63 ∨ c = 91
noncomputable def It.pat : It → List Nat
  | .any => [63] | .lit c => [c] | .br c => [91, c, 93]
noncomputable def It.txt : It → List Nat
  | .any => [46] | .lit c => escOf c | .br c => brText c
noncomputable def It.val : It → List Nat
  | .any => [] | .lit c => [c] | .br c => [c]
noncomputable def It.piece (i : It) : Piece := ⟨i.pat, fun acc => acc ++ [some i.txt]⟩
noncomputable def starP : Piece := ⟨[42], starUpd⟩
theorem It.pieceOk {g : G} (F : Fns g) {i : It} (h : i.ok) : PieceOk g i.piece := by
  cases i with
  | any => exact ⟨body_any F, by simp [It.piece, It.pat], fun acc => by rw [It.piece]; simp⟩
  | lit c => exact ⟨body_lit F h.1 h.2.1 h.2.2, by simp [It.piece, It.pat], fun acc => by rw [It.piece]; simp⟩
  | br c => exact ⟨body_br F h, by simp [It.piece, It.pat], fun acc => by rw [It.piece]; simp⟩
theorem starOk {g : G} (F : Fns g) : PieceOk g starP := ⟨body_star F, by simp [starP], fun acc => by show (starUpd acc).length ≤ _; unfold starUpd; split <;> simp⟩
theorem escOf_len (c : Nat) : (escOf c).length ≤ 2 := by unfold escOf; split <;> simp
theorem brText_len (c : Nat) : (brText c).length ≤ 4 := by unfold brText; split <;> simp
theorem It.txt_len (i : It) : i.txt.length ≤ 4 := by
  cases i with
  | any => exact (by decide : 1 ≤ 4)
  | lit c => exact Nat.le_trans (escOf_len c) (by decide)
  | br c => exact brText_len c
theorem It.txt_head {i : It} (h : i.ok) (l : List Nat) : (i.txt ++ l).head? ≠ some 42 := by
  cases i with
  | any => simp [It.txt]
  | lit c =>
    show (escOf c ++ l).head? ≠ some 42
    by_cases hs : special c = true
    · simp [escOf, hs]
    · simp [escOf, hs]; exact h.1
  | br c =>
    show (brText c ++ l).head? ≠ some 42
    by_cases hs : c = 91
    · simp [brText, hs]
    · simp [brText, hs]
noncomputable def txts (is : List It) : List Nat := (is.map It.txt).flatten
noncomputable abbrev vals (is : List It) : Run := is.map It.val
theorem parse_items {m : Nat} (hm : m ≠ 2) {fr : List Run} {rest : List Nat} {R : List Run} : ∀ {is : List It} {cur : Run}, (∀ i ∈ is, i.ok) → (m = 0 → is ≠ [] → rest.head? ≠ some 42) →
    Parses m fr (cur ++ vals is) rest R → Parses m fr cur (txts is ++ rest) R
  | [], cur, _, _, hp => by simpa [txts] using hp
  | i :: is, cur, hok, h0, hp => by
    have hi := hok i List.mem_cons_self
    have ih := parse_items (is := is) (cur := cur ++ [i.val]) hm (fun j hj => hok j (List.mem_cons_of_mem _ hj)) (fun a b => h0 a (by simp)) (by simpa using hp)
    have e : txts (i :: is) ++ rest = i.txt ++ (txts is ++ rest) := by simp [txts]
    rw [e]
    cases i with
    | any =>
      refine .any hm (fun a => ?_) ih
      cases is with
      | nil => simpa [txts] using h0 a (by simp)
      | cons j js =>
        have := It.txt_head (hok j (by simp)) (txts js ++ rest)
        simpa [txts] using this
    | lit c =>
      show Parses m fr cur (escOf c ++ _) R
      by_cases hs : special c = true
      · rw [show escOf c = [92, c] from by simp [escOf, hs]]; exact .esc hm hs ih
      · rw [show escOf c = [c] from by simp [escOf, hs]]; exact .lit hm (by simpa using hs) ih
    | br c =>
      show Parses m fr cur (brText c ++ _) R
      by_cases hc : c = 91
      · subst hc; exact .brb hm ih
      · rw [show brText c = [91, c, 93] from by simp [brText, hc]]
        refine .br hm ?_ ih
        rcases hi with h | h | h
        · exact .inl h
        · exact .inr h
        · exact absurd h hc
/-! ### the patterns of row 03: items between two places for a star -/
noncomputable def frontOf (b : Bool) : List Piece := if b then [starP] else []
theorem run_items (is : List It) (acc : PS) : runPs (is.map It.piece) acc = acc ++ is.map fun i => some i.txt := by
  unfold runPs
  induction is generalizing acc with
  | nil => simp
  | cons i is ih => rw [List.map_cons, List.foldl_cons, ih]; simp [It.piece]
theorem runPs_append (a b : List Piece) (acc : PS) : runPs (a ++ b) acc = runPs b (runPs a acc) := by unfold runPs; rw [List.foldl_append]
noncomputable def runs3 (f b : Bool) (is : List It) : List Run :=
  match f, b with
  | false, false => [vals is]
  | true, false => [[], vals is]
  | false, true => [vals is, []]
  | true, true => if is = [] then [[], []] else [[], vals is, []]
noncomputable def parts3 (f b : Bool) (is : List It) : PS := runPs (frontOf f ++ is.map It.piece ++ frontOf b) []
theorem heads_somes (is : List It) (l : PS) : heads (is.map (fun i => some i.txt) ++ l) = is.map It.txt ++ heads l := by
  induction is with
  | nil => rfl
  | cons i is ih => exact congrArg (i.txt :: ·) ih
theorem behind_somes (is : List It) (l : PS) : behind (is.map (fun i => some i.txt) ++ l) = behind l := by
  induction is with
  | nil => rfl
  | cons i is ih => exact ih
theorem heads_somes0 (is : List It) : heads (is.map (fun i => some i.txt)) = is.map It.txt := by
  have := heads_somes is []; simpa [heads] using this
theorem behind_somes0 (is : List It) : behind (is.map (fun i => some i.txt)) = [] := by
  have := behind_somes is []; simpa [behind] using this
theorem parts3_eq (f b : Bool) (is : List It) : parts3 f b is = (if f then [none] else []) ++ is.map (fun i => some i.txt) ++ (if b ∧ ¬ (f ∧ is = []) then [none] else []) := by
  unfold parts3
  rw [runPs_append, runPs_append, run_items]
  cases f with
  | false =>
    cases b with
    | false => simp [frontOf, runPs]
    | true =>
      rcases List.eq_nil_or_concat is with rfl | ⟨js, i, rfl⟩
      · simp [frontOf, runPs, starP, starUpd]
      · simp [frontOf, runPs, starP, starUpd]
  | true =>
    cases b with
    | false => simp [frontOf, runPs, starP, starUpd]
    | true =>
      rcases List.eq_nil_or_concat is with rfl | ⟨js, i, rfl⟩
      · simp [frontOf, runPs, starP, starUpd]
      · simp only [frontOf, runPs, starP, starUpd, if_true, List.foldl_cons, List.foldl_nil, List.map_append, List.map_cons, List.map_nil, List.concat_eq_append]
        rw [if_neg (show ¬ ([] : PS).getLast? = some none by simp)]
        have hg : ¬ ([] ++ [none] ++ (List.map (fun (i : It) => some i.txt) js ++ [some i.txt]) : PS).getLast? = some none := by
          rw [← List.append_assoc, List.getLast?_concat]; simp
        rw [if_neg hg]
        simp
noncomputable def inner3 (f b : Bool) (is : List It) : List Nat := (heads (parts3 f b is) ++ starParts (behind (parts3 f b is)).length (behind (parts3 f b is))).flatten
theorem parse3 {f b : Bool} {is : List It} (hok : ∀ i ∈ is, i.ok) : Parses 0 [] [] (inner3 f b is) (runs3 f b is) := by
  unfold inner3
  rw [parts3_eq]
  cases f with
  | false =>
    cases b with
    | false =>
      have := parse_items (m := 0) (by decide) (fr := []) (rest := []) (R := [vals is]) (is := is) (cur := []) hok (by simp) (.done0 [] _)
      simpa [runs3, heads_somes, behind_somes, heads_somes0, behind_somes0, heads, behind, starParts, txts] using this
    | true =>
      have := parse_items (m := 0) (by decide) (fr := []) (rest := [46, 42]) (R := [vals is, []]) (is := is) (cur := []) hok (by simp) (.star (.inl rfl) (.done3 _ []))
      simpa [runs3, heads_somes, behind_somes, heads_somes0, behind_somes0, heads, behind, starParts, txts] using this
  | true =>
    cases is with
    | nil =>
      have : Parses 0 [] [] [46, 42] [[], []] := .star (.inl rfl) (.done3 _ [])
      cases b <;> simpa [runs3, heads, behind, starParts] using this
    | cons i is =>
      cases b with
      | false =>
        have h1 := parse_items (m := 3) (by decide) (fr := [[]]) (rest := []) (R := [[], vals (i :: is)]) (is := i :: is) (cur := []) hok (by simp) (.done3 [[]] _)
        have : Parses 0 [] [] ([46, 42] ++ (txts (i :: is) ++ [])) [[], vals (i :: is)] := .star (.inl rfl) h1
        have hb := behind_somes (i :: is) []
        have hh := heads_somes (i :: is) []
        simp only [List.append_nil, List.map_cons] at hb hh
        simpa [runs3, heads_somes, behind_somes, heads_somes0, behind_somes0, heads, behind, starParts, txts] using this
      | true =>
        have h2 : Parses 2 [[]] (vals (i :: is)) [46, 42] [[], vals (i :: is), []] := .star (.inr rfl) (.done3 _ [])
        have h1 := parse_items (m := 1) (by decide) (fr := [[]]) (rest := 41 :: [46, 42]) (R := [[], vals (i :: is), []]) (is := i :: is) (cur := []) hok (by simp) (.cls h2)
        have : Parses 0 [] [] ([40, 63, 62, 46, 42, 63] ++ (txts (i :: is) ++ 41 :: [46, 42])) [[], vals (i :: is), []] := .opn (.inl rfl) h1
        have hb := behind_somes (i :: is) [none]
        have hh := heads_somes (i :: is) [none]
        simp only [List.map_cons, List.cons_append] at hb hh
        simpa [runs3, heads_somes, behind_somes, heads_somes0, behind_somes0, heads, behind, starParts, txts] using this
-- S9
noncomputable abbrev prO : KeyOrd where
  α := Int × List Nat
  blt a b := decide (a.1 < b.1 ∨ (a.1 = b.1 ∧ a.2 < b.2))
  irrefl a := by simp [List.lt_irrefl]
  trans a b c h1 h2 := by
    simp only [decide_eq_true_eq] at *
    rcases h1 with h1 | ⟨e1, h1⟩
    · rcases h2 with h2 | ⟨e2, h2⟩
      · exact .inl (Int.lt_trans h1 h2)
      · exact .inl (e2 ▸ h1)
    · rcases h2 with h2 | ⟨e2, h2⟩
      · exact .inl (e1 ▸ h2)
      · exact .inr ⟨e1.trans e2, List.lt_trans h1 h2⟩
  negTrans a b c h := by
    simp only [decide_eq_true_eq] at *
    rcases h with h | ⟨e, h⟩
    · by_cases q : a.1 < b.1
      · exact .inl (.inl q)
      · exact .inr (.inl (by omega))
    · by_cases q : a.1 < b.1
      · exact .inl (.inl q)
      · by_cases q2 : b.1 < c.1
        · exact .inr (.inl q2)
        · by_cases hab : a.2 < b.2
          · exact .inl (.inr ⟨by omega, hab⟩)
          · exact .inr (.inr ⟨by omega, List.lt_of_le_of_lt (List.not_lt.mp hab) h⟩)
  total a b h1 h2 := by
    simp only [decide_eq_false_iff_not, not_or, not_and] at *
    have e : a.1 = b.1 := by omega
    exact Prod.ext e (List.le_antisymm (List.not_lt.mp (h2.2 e.symm)) (List.not_lt.mp (h1.2 e)))
noncomputable def TupAt (h : Heap) (v : Value) (p : Int) (t : List Nat) : Prop := ∃ a n tk tk', v = .ref a ∧ h.get? a = some (tupObj [.int p tk, .str ⟨t.toArray⟩ tk'] n)
noncomputable def keyT (h : Heap) (x : Keyed) : Int × List Nat := match x.1 with
  | .ref a => match h.get? a with
    | some o => match o.data with
      | .seq arr _ => match arr.toList with
        | .int p _ :: .str s _ :: _ => (p, s.cps.toList)
        | _ => (0, [])
      | _ => (0, [])
    | none => (0, [])
  | _ => (0, [])
theorem keyT_eq {h : Heap} {x : Keyed} {p : Int} {t : List Nat} (hx : TupAt h x.1 p t) : keyT h x = (p, t) := by
  obtain ⟨a, n, tk, tk', e, g⟩ := hx
  unfold keyT
  rw [e]; dsimp only; rw [g]
noncomputable def elT (h : Heap) (x : Keyed) : Prop := ∃ p t, TupAt h x.1 p t
section
variable {prog : Program} {w : World} {A : Around} {E : Value → Shared → Prop} {s : Shared}
theorem ltOk_tup : LtOk prog w A E s prO (keyT s.heap) (elT s.heap) (tuples' true) := by
  intro st hk x y ⟨p, t, hx⟩ ⟨q, u, hy⟩ Q' hQ
  rw [keyT_eq hx, keyT_eq hy] at hQ
  obtain ⟨a, n, tk, tk', ea, ga⟩ := hx
  obtain ⟨b, m, tk2, tk3, eb, gb⟩ := hy
  rw [lt'_eq]
  refine wpS_bind (wpS_get ?_)
  rw [hk, ea, eb]
  refine wpS_bind (wpS_lift (wpAny_attempt ?_))
  refine kat_lt ga rfl gb rfl ?_
  have fin : ∀ c : Bool, c = prO.blt (p, t) (q, u) → (s = s ∧ wpS (model prog w) A E s (pure (some c)) Q' st) := fun c hc => ⟨rfl, wpS_pure (hc ▸ hQ)⟩
  refine kat_cons (wpAny_eqBool_int ?_)
  refine kat_go (fun h1 => ?_) fun h1 => ?_
  · have h1 : p = q := by simpa using h1
    refine kat_yes (kat_cons (eqBool_str ?_))
    refine kat_go (fun h2 => ?_) fun h2 => ?_
    · have h2 : t = u := by simpa using h2
      refine kat_yes (kat_nil ?_)
      exact fin _ (by subst h1; subst h2; simp [List.lt_irrefl])
    · refine kat_no ?_
      refine kat_one _ _ ?_
      refine PyProof.Rows.lt_str ?_
      exact fin _ (by subst h1; simp)
  · have h1 : p ≠ q := by simpa using h1
    refine kat_no (oneLt_int ?_)
    exact fin _ (by simp [h1])
end
-- S10
section
variable {prog : Program} {w : World} {A : Around} {E : Value → Shared → Prop} {s : Shared}
theorem TupAt.keeps {h h' : Heap} {v : Value} {p : Int} {t : List Nat} (x : TupAt h v p t) (hk : ∀ b o, h.get? b = some o → o.cls = .type "tuple" → h'.get? b = some o) : TupAt h' v p t :=
  let ⟨a, n, tk, tk', e, g⟩ := x; ⟨a, n, tk, tk', e, hk _ _ g rfl⟩
theorem katTups_of {h : Heap} : ∀ {vs : List Value}, (∀ v ∈ vs, ∃ p t, TupAt h v p t) → ∃ fs, KatTups h vs fs ∧ fs.length = vs.length ∧ ∀ f ∈ fs, ∃ p tk, f = .int p tk
  | [], _ => ⟨[], .nil, rfl, fun f hf => by cases hf⟩
  | v :: vs, hv => by
    obtain ⟨p, t, a, n, tk, tk', e, g⟩ := hv v List.mem_cons_self
    obtain ⟨fs, h1, h2, h3⟩ := katTups_of (vs := vs) fun u hu => hv u (List.mem_cons_of_mem _ hu)
    subst e
    refine ⟨.int p tk :: fs, KatTups.cons g rfl rfl (by simp) h1, by simp [h2], fun f hf => ?_⟩
    rcases List.mem_cons.mp hf with rfl | hf
    · exact ⟨p, tk, rfl⟩
    · exact h3 f hf
theorem zipSelf_snd {xs : Array Keyed} {vs : List Value} (hp : xs.Perm (pairsOf vs)) : (xs.map (·.2)).toList.Perm vs ∧ ∀ x ∈ xs.toList, x.1 = x.2 := by
  have hl : xs.toList.Perm (vs.zip vs) := by rw [← pairsOf_toList]; exact Array.perm_iff_toList_perm.mp hp
  refine ⟨?_, fun x hx => (mem_zip_self (hl.mem_iff.mp hx)).1⟩
  rw [Array.toList_map]
  have := hl.map (fun x => x.2)
  rwa [show (vs.zip vs).map (fun x => x.2) = vs from List.map_snd_zip (Nat.le_refl _)] at this
theorem list_sort_tup {a : Addr} {vs : List Value} {n : Nat} {P : PySem.Fin → Shared → Prop} (ho : s.heap.get? a = some (seqObj "list" vs.toArray n)) (hv : ∀ v ∈ vs, ∃ p t, TupAt s.heap v p t) (h64 : vs.length ≤ 64)
    (h : ∀ (us : List Value) (h' : Heap) (n' : Nat), us.Perm vs → us.Pairwise (fun x y => prO.kle (keyT h' (x, x)) (keyT h' (y, y))) → (∀ b o, b ≠ a → s.heap.get? b = some o → h'.get? b = some o) → h'.get? a = some (seqObj "list" us.toArray n') → s.heap.objs.size ≤ h'.objs.size →
      P (.done (.ret .none)) { s with heap := h' }) : wpAny (model prog w) A (Builtin.«list.sort» ⟨[.ref a], []⟩) P E s := by
  rw [list_sort_plain]
  have ha : a < s.heap.objs.size := Heap.lt_size ho
  have hsl : vs.length ≤ sizeLine := by rw [sizeLine_eq]; omega
  refine wpAny_bind (listItems_at ho rfl ?_)
  refine wpAny_bind (listUpdate_at ho rfl ?_ (by rw [List.size_toArray]; exact hsl) (Nat.zero_le _))
  obtain ⟨e1, ho1⟩ : ∃ e1, (s.heap.update a (Obj.mapSeq fun _ => (#[] : Array Value))).get? a = some (seqObj "list" #[] e1) := ⟨_, get?_update_seq ho fun _ => #[]⟩
  refine wpAny_bind (seqEpoch_at ho1 rfl ?_)
  refine wpAny_bind (wpAny_newTuple ?_ (by show vs.length ≤ _; exact hsl))
  refine wpAny_bind (wpAny_newList ?_ (Nat.zero_le _))
  refine wpAny_holding ?_
  have k2 : ∀ b o, b ≠ a → s.heap.get? b = some o → (((s.heap.update a (Obj.mapSeq fun _ => (#[] : Array Value))).push (seqObj "tuple" vs.toArray 0)).push (seqObj "list" #[] 0)).get? b = some o := fun b o hb e =>
    Heap.get?_push_of_some _ (Heap.get?_push_of_some _ (by rw [Heap.get?_update_ne _ _ _ _ hb]; exact e))
  have o2 : (((s.heap.update a (Obj.mapSeq fun _ => (#[] : Array Value))).push (seqObj "tuple" vs.toArray 0)).push (seqObj "list" #[] 0)).get? a = some (seqObj "list" #[] e1) := Heap.get?_push_of_some _ (Heap.get?_push_of_some _ ho1)
  have z2 : s.heap.objs.size ≤ (((s.heap.update a (Obj.mapSeq fun _ => (#[] : Array Value))).push (seqObj "tuple" vs.toArray 0)).push (seqObj "list" #[] 0)).objs.size := by
    rw [Heap.size_push, Heap.size_push, Heap.size_update]; omega
  show wpAny (model prog w) A _ P E { s with heap := ((s.heap.update a (Obj.mapSeq fun _ => (#[] : Array Value))).push (seqObj "tuple" vs.toArray 0)).push (seqObj "list" #[] 0) }
  generalize ((s.heap.update a (Obj.mapSeq fun _ => (#[] : Array Value))).push (seqObj "tuple" vs.toArray 0)).push (seqObj "list" #[] 0) = H2 at k2 o2 z2
  have hv2 : ∀ v ∈ vs, ∃ p t, TupAt H2 v p t := fun v hm => by
    obtain ⟨p, t, x⟩ := hv v hm
    exact ⟨p, t, x.keeps fun b o e ec => k2 b o (fun q => by rw [q, ho] at e; cases e; exact absurd ec (by simp)) e⟩
  have fin : ∀ (st' : SortSt) (X : Sem PySem.Fin), (arrOf st').Perm (pairsOf vs) → failedOf st' = none → Srt prO (keyT H2) (arrOf st').toList → wpAny (model prog w) A (do
      let d ← seqEpoch a
      Builtin.List.listUpdate (Value.ref a) fun x => Array.map (fun x => x.snd) (arrOf st')
      if (d != e1) = true then X else ret Value.none) P E { s with heap := H2 } := by
    intro st' X hp hf hs
    obtain ⟨hpm, hself⟩ := zipSelf_snd hp
    refine wpAny_bind (seqEpoch_at o2 rfl ?_)
    refine wpAny_bind (listUpdate_at o2 rfl ?_ (Nat.zero_le _) (by rw [Array.size_map, hp.size_eq, pairsOf_size]; omega))
    rw [if_neg (by simp)]
    have s3 := Heap.SameBut.update H2 a (Obj.mapSeq fun _ => (arrOf st').map (·.2))
    obtain ⟨c2, hc2⟩ : ∃ c2, (H2.update a (Obj.mapSeq fun _ => (arrOf st').map (·.2))).get? a = some (seqObj "list" ((arrOf st').map (·.2)) c2) := ⟨_, get?_update_seq o2 fun _ => (arrOf st').map (·.2)⟩
    refine wpAny_pure (h ((arrOf st').map (·.2)).toList _ c2 hpm ?_ (fun b o hb e => (s3.2 b hb).trans (k2 b o hb e)) (by rw [Array.toArray_toList]; exact hc2) (by rw [Heap.size_update]; exact z2))
    rw [Array.toList_map, List.pairwise_map]
    refine List.Pairwise.imp_of_mem (fun {x y} hx hy hxy => ?_) hs
    have key : ∀ x ∈ (arrOf st').toList, keyT (H2.update a (Obj.mapSeq fun _ => (arrOf st').map (·.2))) (x.2, x.2) = keyT H2 x := fun x hx => by
      have e12 := hself x hx
      have hm : x.2 ∈ vs := hpm.mem_iff.mp (by rw [Array.toList_map]; exact List.mem_map_of_mem hx)
      obtain ⟨p, t, xt⟩ := hv2 _ hm
      have xt' : TupAt (H2.update a (Obj.mapSeq fun _ => (arrOf st').map (·.2))) x.2 p t := xt.keeps fun b o e ec => (s3.2 b (fun q => by rw [q, o2] at e; cases e; exact absurd ec (by simp))).trans e
      rw [keyT_eq (x := (x.2, x.2)) xt', keyT_eq (x := x) (by rw [e12]; exact xt)]
    show prO.kle (keyT _ (x.2, x.2)) (keyT _ (y.2, y.2))
    rw [key x hx, key y hy]; exact hxy
  by_cases h2 : vs.toArray.size < 2
  · rw [if_pos h2]
    refine wpAny_bind (wpAny_pure ?_)
    dsimp only
    rw [if_pos h2]
    refine wpAny_bind (wpAny_pure ?_)
    dsimp only
    refine fin (SortSt.mk' general' (vs.toArray.zip vs.toArray) #[] 7 none) _ (Array.Perm.refl _) rfl ?_
    have : (pairsOf vs).toList.length < 2 := by rw [Array.length_toList, pairsOf_size]; simpa using h2
    show Srt prO _ (pairsOf vs).toList
    match hz : (pairsOf vs).toList, this with
    | [], _ => exact List.Pairwise.nil
    | [x], _ => exact List.pairwise_singleton _ _
    | _ :: _ :: _, hlt => exact absurd hlt (by simp only [List.length_cons]; omega)
  · rw [if_neg h2]
    obtain ⟨fs, t1, t2, t3⟩ := katTups_of hv2
    have hl2 : 2 ≤ vs.length := by simpa using h2
    refine wpAny_bind (kat_kind (T := .type "int") t1 (by omega) (fun v hm => ?_) rfl ?_)
    · obtain ⟨p, tk, rfl⟩ := t3 v hm
      exact Looks.of_pure rfl
    dsimp only
    rw [if_neg h2]
    refine wpAny_bind (wpAny_mono (wpS_runs (ltOk_tup (prog := prog) (w := w) (A := A) (E := E) (s := { s with heap := H2 })) (a₀ := pairsOf vs) (st := SortSt.mk' (tuples' true) (vs.toArray.zip vs.toArray) #[] 7 none)
      (Q := fun _ st' => (arrOf st').Perm (pairsOf vs) ∧ failedOf st' = none ∧ Srt prO (keyT H2) (arrOf st').toList) ⟨rfl, rfl, Array.Perm.refl _⟩ rfl (fun x hx => ?_) (by rw [pairsOf_size]; exact hl2) (by rw [pairsOf_size]; exact h64) fun st' a1 a2 a3 => ⟨a1, a2, a3⟩) ?_ fun _ _ e => e)
    · rw [pairsOf_toList] at hx
      obtain ⟨e, hm⟩ := mem_zip_self hx
      exact hv2 _ hm
    · rintro ⟨⟨⟩, st'⟩ s' ⟨rfl, hp, hf, hs⟩
      dsimp only
      rw [hf]
      exact fin st' _ hp hf hs
end
-- S11
section
variable {prog : Program} {w : World} {A : Around} {E : Value → Shared → Prop} {s : Shared}
theorem sorted_tup {l : Addr} {vs : List Value} {Q : Value → Shared → Prop} (hl : s.heap.IsList l vs.toArray) (hv : ∀ v ∈ vs, ∃ p t, TupAt s.heap v p t) (h64 : vs.length ≤ 64)
    (h : ∀ (us : List Value) (h' : Heap) (n' : Nat) (D : Addr), us.Perm vs → us.Pairwise (fun x y => prO.kle (keyT h' (x, x)) (keyT h' (y, y))) → (∀ b o, s.heap.get? b = some o → h'.get? b = some o) → s.heap.get? D = none → h'.get? D = some (seqObj "list" us.toArray n') → s.heap.objs.size ≤ h'.objs.size →
      Q (.ref D) { s with heap := h' }) : wpAny (model prog w) A (call (.builtin "sorted") [.ref l]) Q E s := by
  refine Calls.call_function_entry kind_sorted plain_sorted entry_sorted (args_sorted1 _) ?_
  unfold Builtin.«sorted»
  have hsl : vs.length ≤ sizeLine := by rw [sizeLine_eq]; omega
  refine wpAny_bind (m := checkCount "sorted" 1 1 _) (wpAny_pure ?_)
  refine wpAny_bind (collect_list hl ?_ hsl)
  refine wpAny_bind (wpAny_newList ?_ hsl)
  have hsz : ((s.heap.push (seqObj "list" #[] 0)).update s.heap.objs.size (Obj.mapSeq (· ++ vs.toArray))).objs.size = s.heap.objs.size + 1 := by
    rw [Heap.size_update, size_push']
  have hoL : (((s.heap.push (seqObj "list" #[] 0)).update s.heap.objs.size (Obj.mapSeq (· ++ vs.toArray))).push (seqObj "list" vs.toArray 0)).get? (s.heap.objs.size + 1) = some (seqObj "list" vs.toArray 0) := by
    rw [← hsz]; exact Heap.get?_push_size _ rfl
  have keep : ∀ b o, s.heap.get? b = some o → (((s.heap.push (seqObj "list" #[] 0)).update s.heap.objs.size (Obj.mapSeq (· ++ vs.toArray))).push (seqObj "list" vs.toArray 0)).get? b = some o := fun b o e =>
    Heap.get?_push_of_some _ (by rw [Heap.get?_update_ne _ _ _ _ (Nat.ne_of_lt (Heap.lt_size e))]; exact Heap.get?_push_of_some _ e)
  have hsz2 : (((s.heap.push (seqObj "list" #[] 0)).update s.heap.objs.size (Obj.mapSeq (· ++ vs.toArray))).push (seqObj "list" vs.toArray 0)).objs.size = s.heap.objs.size + 2 := by rw [size_push', hsz]
  show wpAny _ _ _ _ _ { s with heap := ((s.heap.push (seqObj "list" #[] 0)).update s.heap.objs.size (Obj.mapSeq (· ++ vs.toArray))).push (seqObj "list" vs.toArray 0) }
  rw [hsz]
  generalize ((s.heap.push (seqObj "list" #[] 0)).update s.heap.objs.size (Obj.mapSeq (· ++ vs.toArray))).push (seqObj "list" vs.toArray 0) = H1 at hoL keep hsz2
  refine wpAny_bind (wpAny_holding (wpAny_call_entry slot_list_sort ⟨_, hoL, rfl⟩ entry_list_sort (list_sort_tup (s := { s with heap := H1 }) hoL (fun v hm => ?_) h64 fun us h' n' x1 x2 x3 x4 x5 => ?_) (args_list_sort _)))
  · obtain ⟨p, t, x⟩ := hv v hm
    exact ⟨p, t, x.keeps fun b o e _ => keep b o e⟩
  · have x5 : H1.objs.size ≤ h'.objs.size := x5
    have x6 : s.heap.objs.size ≤ h'.objs.size := Nat.le_trans (by rw [hsz2]; exact Nat.le_add_right _ _) x5
    have hn : s.heap.get? (s.heap.objs.size + 1) = none := by
      cases q : s.heap.get? (s.heap.objs.size + 1) with
      | none => rfl
      | some o => exact absurd (Heap.lt_size q) (Nat.not_lt.mpr (Nat.le_succ _))
    exact ⟨_, rfl, wpAny_pure ⟨_, rfl, h us h' n' _ x1 x2 (fun b o e => x3 b o (fun q => by rw [q, hn] at e; cases e) (keep b o e)) hn x4 x6⟩⟩
end
section
variable {g : G} {f : Fm} {ρ : Loc} {σ : Sto}
noncomputable def rowD (r : Int × List Nat) : D := .tup [.int r.1, .str r.2]
theorem Rd.tupAt {h : Heap} {o : Addr → Prop} {v : Value} {r : Int × List Nat} (x : Rd h o v (rowD r)) : TupAt h v r.1 r.2 := by
  obtain ⟨a, vs, n, rfl, e, rl⟩ := x.tupE
  obtain ⟨v1, u1, rfl, q1, rl⟩ := rl.consE
  obtain ⟨v2, u2, rfl, q2, rl⟩ := rl.consE
  obtain rfl := rl.nilE
  obtain ⟨t1, rfl⟩ := q1.intE
  obtain ⟨t2, rfl⟩ := q2.strE
  exact ⟨a, n, t1, t2, rfl, e⟩
theorem TupAt.rd {h : Heap} {o : Addr → Prop} {v : Value} {p : Int} {t : List Nat} (x : TupAt h v p t) : Rd h o v (rowD (p, t)) := by
  obtain ⟨a, n, tk, tk', rfl, e⟩ := x
  exact .tup a _ n _ e (.cons (.int p tk) (.cons (.str t tk') .nil))
theorem rdl_rows {h : Heap} {o : Addr → Prop} : ∀ {vs : List Value} {rows : List (Int × List Nat)}, RdL h o vs (rows.map rowD) → vs.map (fun v => keyT h (v, v)) = rows ∧ ∀ v ∈ vs, ∃ p t, TupAt h v p t
  | vs, [], r => by obtain rfl := r.nilE; exact ⟨rfl, fun v hv => by cases hv⟩
  | vs, row :: rows, r => by
    obtain ⟨v, us, rfl, q, rl⟩ := r.consE
    have x := q.tupAt
    obtain ⟨h1, h2⟩ := rdl_rows rl
    refine ⟨?_, fun u hu => ?_⟩
    · rw [List.map_cons, h1, keyT_eq (x := (v, v)) x]
    · rcases List.mem_cons.mp hu with rfl | hu
      · exact ⟨_, _, x⟩
      · exact h2 u hu
theorem rows_rdl {h : Heap} {o : Addr → Prop} : ∀ {us : List Value}, (∀ v ∈ us, ∃ p t, TupAt h v p t) → RdL h o us ((us.map fun v => keyT h (v, v)).map rowD)
  | [], _ => .nil
  | u :: us, hu => by
    obtain ⟨p, t, x⟩ := hu u List.mem_cons_self
    refine .cons ?_ (rows_rdl fun v hv => hu v (List.mem_cons_of_mem _ hv))
    show Rd h o u (rowD (keyT h (u, u)))
    rw [keyT_eq (x := (u, u)) x]
    exact x.rd
noncomputable def rowLe (a b : Int × List Nat) : Prop := prO.kle a b
theorem F_sorted {rows : List (Int × List Nat)} {Q : D → Sto → Prop} (hl : rows.length ≤ 64) (h : ∀ rows' : List (Int × List Nat), rows'.Perm rows → rows'.Pairwise rowLe → Q (.lst (rows'.map rowD)) σ) : OL g f Rd (fun vs => call (.builtin "sorted") vs) [.lst (rows.map rowD)] ρ σ Q := fun A s vs Q' hA hS r post => by
  obtain ⟨v, us, rfl, q, rl⟩ := r.consE
  obtain rfl := rl.nilE
  obtain ⟨a, ws, n, rfl, e, no, rw_⟩ := q.lstE
  obtain ⟨k1, k2⟩ := rdl_rows rw_
  have hlen : ws.length = rows.length := by have := rw_.length; rwa [List.length_map] at this
  refine sorted_tup (vs := ws) ⟨_, e, rfl, n, rfl⟩ k2 (by omega) fun us h' n' D x1 x2 x3 x4 x5 x6 => ?_
  have hu : ∀ v ∈ us, ∃ p t, TupAt h' v p t := fun v hv => by
    obtain ⟨p, t, x⟩ := k2 v (x1.mem_iff.mp hv)
    exact ⟨p, t, x.keeps fun b o e _ => x3 b o e⟩
  have hperm : (us.map fun v => keyT h' (v, v)).Perm rows := by
    rw [← k1]
    refine (x1.map _).trans (List.Perm.of_eq ?_)
    refine List.map_congr_left fun v hv => ?_
    obtain ⟨p, t, x⟩ := k2 v hv
    rw [keyT_eq (x := (v, v)) x, keyT_eq (x := (v, v)) (x.keeps fun b o e _ => x3 b o e)]
  have hs : (us.map fun v => keyT h' (v, v)).Pairwise rowLe := List.pairwise_map.mpr x2
  have S' := hS.grow x3 x6 s.toks
  have p' : Step g f.vol σ s _ σ := .grow x3 x6 s.toks
  refine post _ _ _ _ (h _ hperm hs) S' ?_ p'
  refine .lst D us n' _ x5 (fun hD => ?_) (rows_rdl hu)
  obtain ⟨vs', m, e'⟩ := big_own hS.base hD
  rw [x4] at e'; cases e'
end
-- N1
local macro_rules | `(tactic| walk_at "w3") => `(tactic| first
  | (with_reducible guard_target = O2 _ _ _ (binaryOp Operator.Add) (D.str _) (D.str _) _ _ _); refine O_addS (by walk_at "fits") ?_
  | (with_reducible guard_target = List.length _ ≤ sizeLine ∧ _); refine ⟨by walk_at "fits", ?_⟩)
noncomputable abbrev Row := Int × List Nat
noncomputable def bareTx (c : Nat) : List Nat := if c ∈ [42, 63, 91] then [91] ++ [c] ++ [93] else [c]
noncomputable def mkStep (c : Nat) (r : Row) : List Row := [(r.1 - 2, r.2 ++ bareTx c ++ [42])] ++ (if turn c = c then [] else [(r.1 - 1, r.2 ++ [turn c] ++ [42])]) ++ [(r.1, r.2 ++ [63, 42]), (r.1 + 2, r.2)]
noncomputable def mkAll (w : List Nat) (rows : List Row) : List Row := w.foldl (fun rows c => rows.flatMap (mkStep c)) rows
structure Fns3 (g : G) : Prop where
  marked : FnI g 20 "_law_marked"
  price : FnI g 24 "_law_price"
  right : FnI g 25 "_law_right"
noncomputable abbrev rowDs (rows : List Row) : List D := rows.map rowD
theorem bareTx_len (c : Nat) : (bareTx c).length ≤ 3 := by unfold bareTx; split <;> simp
theorem mkStep_len (c : Nat) (r : Row) : (mkStep c r).length ≤ 4 := by unfold mkStep; split <;> simp
theorem mkStep_txt {c : Nat} {r x : Row} (h : x ∈ mkStep c r) : x.2.length ≤ r.2.length + 4 := by
  have hb := bareTx_len c
  unfold mkStep at h
  simp only [List.mem_append, List.mem_cons, List.not_mem_nil, or_false] at h
  rcases h with (rfl | h) | rfl | rfl
  · simp; omega
  · split at h
    · cases h
    · obtain rfl := List.mem_singleton.mp h
      simp
  · simp
  · simp
theorem flat_len4 {c : Nat} : ∀ rows : List Row, (rows.flatMap (mkStep c)).length ≤ 4 * rows.length
  | [] => by simp
  | r :: rows => by
    have := mkStep_len c r
    have := flat_len4 (c := c) rows
    rw [List.flatMap_cons, List.length_append, List.length_cons]; omega
theorem mk_inner {g : G} (F : Fns g) (F2 : Fns2 g) (F3 : Fns3 g) {L a₀ q : Addr} {cd : Value} {k : Nat} {σ : Sto} {Q : Fl → Loc → Sto → Prop} {word : List Nat} {c : Nat} {rws : D} :
    ∀ (rows acc : List Row), (∀ r ∈ rows, r.2.length ≤ 100) → acc.length + 4 * rows.length ≤ 5000 →
    Q .next [("word", .str word), ("longer", .val (.ref q))] ((q, rowDs (acc ++ rows.flatMap (mkStep c))) :: σ) →
    FL g (mkFm (Str.ofString "_law_marked") (fScope P 20) L a₀ cd (k + 1)) (forT (forB (fBody P 20) 1) 2) (forB (forB (fBody P 20) 1) 2) (rowDs rows)
      [("word", .str word), ("sign", .str [c]), ("bare", .str (bareTx c)), ("longer", .val (.ref q)), ("rows", rws)] ((q, rowDs acc) :: σ) Q := by
  intro rows
  induction rows with
  | nil =>
    intro acc h1 h2 h
    refine FL_sub (ρ' := [("word", .str word), ("longer", .val (.ref q))]) (by walk_at "sub") ?_
    exact FL_nil (by simpa using h)
  | cons r rows ih =>
    intro acc h1 h2 h
    obtain ⟨p, t⟩ := r
    have ht : t.length ≤ 100 := h1 (p, t) List.mem_cons_self
    have hb := bareTx_len c
    rw [List.length_cons] at h2
    refine FL_cons (OA_Tuple (OAs_cons (OA_Name (OAs_cons (OA_Name (OAs_nil ?_))))) rfl)
    walk_at "w"
    refine WE_append ?_
    walk_at "w"
    refine ⟨q, _, rfl, List.mem_cons_self, ?_⟩
    walk_at "w"
    refine ⟨[], σ, rowDs acc, rfl, by rw [sizeLine_eq, List.length_map]; omega, ?_⟩
    walk_at "w"
    refine WE_CallF F2.turned ?_
    walk_at "w"
    refine turned_ok F F2 ?_
    walk_at "w"
    have fin : ∀ (l : List Row) (ρ' : Loc) (σ' : Sto), l.length ≤ 1 → (if turn c = c then [] else [(p - 1, t ++ [turn c] ++ [42])]) = l →
        σ' = (q, rowDs (acc ++ [(p - 2, t ++ bareTx c ++ [42])] ++ l)) :: σ → Sub [("word", .str word), ("sign", .str [c]), ("bare", .str (bareTx c)), ("longer", .val (.ref q)), ("rows", rws), ("price", .int p), ("pattern", .str t)] ρ' →
        WSs g (mkFm (Str.ofString "_law_marked") (fScope P 20) L a₀ cd (k + 1)) ((forB (forB (fBody P 20) 1) 2).drop 2) ρ' σ' fun fl ρ₂ σ₂ => match fl with
          | .next | .cont => FL g (mkFm (Str.ofString "_law_marked") (fScope P 20) L a₀ cd (k + 1)) (forT (forB (fBody P 20) 1) 2) (forB (forB (fBody P 20) 1) 2) (rowDs rows) ρ₂ σ₂ Q
          | .brk => Q .next ρ₂ σ₂
          | .ret d => Q (.ret d) ρ₂ σ₂ := by
      intro l ρ' σ' hl he hσ hs
      subst hσ
      refine TS_sub hs ?_
      show WSs g _ [_, _] _ _ _
      walk_at "w"
      refine WE_append ?_
      walk_at "w"
      refine ⟨q, _, rfl, List.mem_cons_self, ?_⟩
      walk_at "w"
      refine ⟨[], σ, _, rfl, by rw [sizeLine_eq, List.length_map]; simp; omega, ?_⟩
      walk_at "w"
      refine WE_append ?_
      walk_at "w"
      refine ⟨q, _, rfl, List.mem_cons_self, ?_⟩
      walk_at "w"
      refine ⟨[], σ, _, rfl, by rw [sizeLine_eq]; simp; omega, ?_⟩
      walk_at "w"
      have := ih (acc ++ mkStep c (p, t)) (fun r hr => h1 r (List.mem_cons_of_mem _ hr)) (by unfold mkStep; rw [he]; simp; omega) (by simpa using h)
      refine FL_sub ?_ (by
        have e : rowDs (acc ++ mkStep c (p, t)) = rowDs (acc ++ [(p - 2, t ++ bareTx c ++ [42])] ++ l) ++ [D.tup [.int p, .str (t ++ [63, 42])]] ++ [D.tup [.int (p + 2), .str t]] := by
          unfold mkStep; rw [he]; simp [rowD]
        rw [e] at this; exact this)
      walk_at "sub"
    refine split_dec (fun q1 => ?_) fun q1 => ?_
    · have q1 : turn c ≠ c := by simpa using q1
      walk_at "w"
      refine WE_append ?_
      walk_at "w"
      refine ⟨q, _, rfl, List.mem_cons_self, ?_⟩
      walk_at "w"
      refine WE_CallF F2.turned ?_
      walk_at "w"
      refine turned_ok F F2 ?_
      walk_at "w"
      refine ⟨[], σ, _, rfl, by rw [sizeLine_eq]; simp; omega, ?_⟩
      refine ⟨rfl, WSs_nil ?_⟩
      refine fin [(p - 1, t ++ [turn c] ++ [42])] _ _ (by simp) (if_neg q1) ?_ ?_
      · simp [rowD]
      · walk_at "sub"
    · have q1 : turn c = c := by simpa using q1
      refine WSs_nil ?_
      refine fin [] _ _ (by simp) (if_pos q1) ?_ ?_
      · simp [rowD]
      · walk_at "sub"
theorem mk_outer {g : G} (F : Fns g) (F2 : Fns2 g) (F3 : Fns3 g) {L a₀ : Addr} {cd : Value} {k : Nat} {σ : Sto} {Q : Fl → Loc → Sto → Prop} {word : List Nat} :
    ∀ (w : List Nat) (rows : List Row), (∀ r ∈ rows, r.2.length + 4 * w.length ≤ 100) → rows.length * 4 ^ w.length ≤ 64 →
    Q .next [("rows", .lst (rowDs (mkAll w rows)))] σ →
    FL g (mkFm (Str.ofString "_law_marked") (fScope P 20) L a₀ cd (k + 1)) (forT (fBody P 20) 1) (forB (fBody P 20) 1) (w.map fun c => .str [c])
      [("word", .str word), ("rows", .lst (rowDs rows))] σ Q := by
  intro w
  induction w with
  | nil =>
    intro rows h1 h2 h
    refine FL_sub (ρ' := [("rows", .lst (rowDs rows))]) (by walk_at "sub") ?_
    exact FL_nil h
  | cons c w ih =>
    intro rows h1 h2 h
    rw [List.length_cons] at h1 h2
    have h4 : rows.length * 4 ≤ 64 := by
      have : 1 ≤ 4 ^ w.length := Nat.pow_pos (by decide)
      rw [Nat.pow_succ, Nat.mul_comm (4 ^ w.length) 4, ← Nat.mul_assoc] at h2
      have := Nat.le_mul_of_pos_right (rows.length * 4) this
      omega
    refine FL_cons (OA_Name ?_)
    refine WSs_cons (WS_Assign (TE.mono (Q := fun d σ₁ => d = .str (bareTx c) ∧ σ₁ = σ) ?_ ?_))
    · walk_at "w"
      refine O_inS ?_
      walk_at "w"
      refine split_dec (fun q => ?_) fun q => ?_
      · walk_at "w"
        exact ⟨by unfold bareTx; rw [if_pos q], rfl⟩
      · walk_at "w"
        exact ⟨by unfold bareTx; rw [if_neg q], rfl⟩
    · rintro d σ₁ ⟨rfl, rfl⟩
      walk_at "w"
      refine WE_ListOwn (WL_nil ⟨by rw [sizeLine_eq]; exact (by decide : 0 ≤ 16777216), fun q hq => ?_⟩)
      walk_at "w"
      refine ⟨_, .lst _, ?_⟩
      refine FL_sub ?_ (mk_inner F F2 F3 (L := L) (a₀ := a₀) (cd := cd) (k := k) (σ := σ₁) (q := q) (word := word) (c := c) (rws := .lst (rowDs rows)) rows [] (fun r hr => by have := h1 r hr; omega) (by simp; omega) ?_)
      · walk_at "sub"
      walk_at "w"
      refine FL_conv (Conv.top (ρ' := [("word", .str word), ("rows", .lst (rowDs (rows.flatMap (mkStep c))))]) ?_) ?_
      · exact SubF.cons1 rfl (SubF.cons2 rfl SubF.nil)
      refine ih (rows.flatMap (mkStep c)) (fun x hx => ?_) ?_ h
      · obtain ⟨r, hr, hx⟩ := List.mem_flatMap.mp hx
        have := mkStep_txt hx
        have := h1 r hr
        omega
      · have := flat_len4 (c := c) rows
        have := Nat.mul_le_mul_right (4 ^ w.length) this
        rw [Nat.pow_succ, Nat.mul_comm (4 ^ w.length) 4, ← Nat.mul_assoc, Nat.mul_comm rows.length 4] at h2
        omega
theorem mkAll_len : ∀ (w : List Nat) (rows : List Row), (mkAll w rows).length ≤ rows.length * 4 ^ w.length
  | [], rows => by simp [mkAll]
  | c :: w, rows => by
    have h1 := mkAll_len w (rows.flatMap (mkStep c))
    have h2 := flat_len4 (c := c) rows
    have h3 := Nat.mul_le_mul_right (4 ^ w.length) h2
    rw [List.length_cons, Nat.pow_succ, Nat.mul_comm (4 ^ w.length) 4, ← Nat.mul_assoc, Nat.mul_comm rows.length 4]
    exact Nat.le_trans h1 h3
theorem marked_ok {g : G} (F : Fns g) (F2 : Fns2 g) (F3 : Fns3 g) {k : Nat} {word : List Nat} {cost : Int} (hw : word.length ≤ 3) {σ : Sto} {Q : D → Sto → Prop} (h : ∀ rows' : List Row, rows'.Perm (mkAll word [(cost, [42])]) → rows'.Pairwise rowLe → Q (.lst (rowDs rows')) σ) :
    Fn g (k + 2) (Str.ofString "_law_marked") [.str word, .int cost] σ Q := by
  refine Fn_enter F3.marked (fun L a₀ cd => ?_) (fun _ _ _ vs hl => ?_) (by rfl) (by decide)
  · walk_at "w"
    refine WE_List ?_
    walk_at "w"
    refine ⟨_, .str _, ?_⟩
    have hp : 4 ^ word.length ≤ 64 := Nat.le_trans (Nat.pow_le_pow_right (by decide) hw) (by decide)
    refine FL_sub ?_ (mk_outer F F2 F3 (L := L) (a₀ := a₀) (cd := cd) (k := k) (σ := σ) (word := word) word [(cost, [42])] (fun r hr => by obtain rfl := List.mem_singleton.mp hr; simp; omega) (by simpa using hp) ?_)
    · walk_at "sub"
    walk_at "w"
    refine WE_CallB (F.free "sorted" (by simp)) rfl ?_
    walk_at "w"
    exact F_sorted (by have := mkAll_len word [(cost, [42])]; simp at this; omega) fun rows' h1 h2 => Drop.same (h rows' h1 h2)
  · obtain ⟨v, u, rfl⟩ := len2 hl; rfl
-- N2
noncomputable abbrev RowI := Int × List It
noncomputable def pat2 (is : List It) : List Nat := [42] ++ is.flatMap fun i => i.pat ++ [42]
noncomputable def toRow (r : RowI) : Row := (r.1, pat2 r.2)
noncomputable def bareIt (c : Nat) : It := if c ∈ [42, 63, 91] then .br c else .lit c
noncomputable def mkStepI (c : Nat) (r : RowI) : List RowI := [(r.1 - 2, r.2 ++ [bareIt c])] ++ (if turn c = c then [] else [(r.1 - 1, r.2 ++ [.lit (turn c)])]) ++ [(r.1, r.2 ++ [.any]), (r.1 + 2, r.2)]
noncomputable def mkAllI (w : List Nat) (rows : List RowI) : List RowI := w.foldl (fun rows c => rows.flatMap (mkStepI c)) rows
theorem bareIt_pat (c : Nat) : (bareIt c).pat = bareTx c := by unfold bareIt bareTx; split <;> simp [It.pat]
theorem pat2_snoc (is : List It) (i : It) : pat2 (is ++ [i]) = pat2 is ++ i.pat ++ [42] := by simp [pat2]
theorem mkStep_row (c : Nat) (r : RowI) : mkStep c (toRow r) = (mkStepI c r).map toRow := by
  unfold mkStep mkStepI toRow
  have e1 : (It.lit (turn c)).pat = [turn c] := rfl
  have e2 : It.any.pat = [63] := rfl
  split
  · simp [pat2_snoc, bareIt_pat, e2]
  · simp [pat2_snoc, bareIt_pat, e1, e2]
theorem mkAll_row : ∀ (w : List Nat) (rows : List RowI), mkAll w (rows.map toRow) = (mkAllI w rows).map toRow
  | [], rows => rfl
  | c :: w, rows => by
    show mkAll w ((rows.map toRow).flatMap (mkStep c)) = (mkAllI w (rows.flatMap (mkStepI c))).map toRow
    rw [← mkAll_row w, List.flatMap_map, List.map_flatMap]
    congr 2
    funext r; exact mkStep_row c r
theorem perm_lift {α β : Type} {f : α → β} {r s : List β} (h : r.Perm s) : ∀ l : List α, s = l.map f → ∃ l' : List α, l'.Perm l ∧ l'.map f = r := by
  induction h with
  | nil => intro l e; exact ⟨l, .refl _, e.symm⟩
  | cons x h ih =>
    intro l e
    cases l with
    | nil => cases e
    | cons a l =>
      obtain ⟨ea, et⟩ := List.cons.inj e
      obtain ⟨l', p, e'⟩ := ih l et
      exact ⟨a :: l', p.cons a, by rw [List.map_cons, e', ea]⟩
  | swap x y l0 =>
    intro l e
    match l, e with
    | a :: b :: l, e =>
      obtain ⟨ea, e2⟩ := List.cons.inj e
      obtain ⟨eb, et⟩ := List.cons.inj e2
      exact ⟨b :: a :: l, .swap a b l, by rw [List.map_cons, List.map_cons, ← ea, ← eb, ← et]⟩
  | trans h1 h2 ih1 ih2 =>
    intro l e
    obtain ⟨l', p, e'⟩ := ih2 l e
    obtain ⟨l'', p', e''⟩ := ih1 l' e'.symm
    exact ⟨l'', p'.trans p, e''⟩
/-! ### what the text of a marked pattern reads as -/
noncomputable def pieces2 (is : List It) : List Piece := starP :: is.flatMap fun i => [i.piece, starP]
theorem render2 (is : List It) : render (pieces2 is) = pat2 is := by
  unfold render pieces2 pat2
  simp only [List.map_cons, List.flatten_cons]
  congr 1
  induction is with
  | nil => rfl
  | cons i is ih => simp only [List.flatMap_cons, List.map_append, List.flatten_append, ih]; simp [It.piece, starP]
noncomputable def parts2 (is : List It) : PS := none :: is.flatMap fun i => [some i.txt, none]
theorem run2 (is : List It) : runPs (pieces2 is) [] = parts2 is := by
  have key : ∀ (is : List It) (acc : PS), runPs (is.flatMap fun i => [i.piece, starP]) (acc ++ [none]) = acc ++ none :: is.flatMap fun i => [some i.txt, none] := by
    intro is
    induction is with
    | nil => intro acc; simp [runPs]
    | cons i is ih =>
      intro acc
      rw [List.flatMap_cons, runPs_append, List.flatMap_cons]
      have : runPs [i.piece, starP] (acc ++ [none]) = (acc ++ [none, some i.txt]) ++ [none] := by
        simp only [runPs, List.foldl_cons, List.foldl_nil, It.piece, starP, starUpd]
        rw [if_neg (by rw [List.getLast?_concat]; simp)]
        simp
      rw [this, ih]; simp
  show runPs (is.flatMap fun i => [i.piece, starP]) (starUpd []) = _
  exact key is []
theorem starParts2 : ∀ (is : List It) (f : Nat), (parts2 is).length ≤ f → starParts f (parts2 is) = (is.map fun i => [40, 63, 62, 46, 42, 63] ++ i.txt ++ [41]) ++ [[46, 42]]
  | [], f, h => by
    obtain ⟨f, rfl⟩ : ∃ g, f = g + 1 := ⟨f - 1, by simp [parts2] at h; omega⟩
    rfl
  | i :: is, f, h => by
    obtain ⟨f, rfl⟩ : ∃ g, f = g + 1 := ⟨f - 1, by simp [parts2] at h; omega⟩
    have ih := starParts2 is f (by simp [parts2] at h ⊢; omega)
    have e : parts2 (i :: is) = none :: some i.txt :: parts2 is := by simp [parts2]
    rw [e]
    have hb : behind (some i.txt :: parts2 is) = parts2 is := rfl
    have hh : heads (some i.txt :: parts2 is) = [i.txt] := rfl
    show (match behind (some i.txt :: parts2 is) with
      | [] => [[46, 42], (heads (some i.txt :: parts2 is)).flatten]
      | z :: more => ([40, 63, 62, 46, 42, 63] ++ (heads (some i.txt :: parts2 is)).flatten ++ [41]) :: starParts f (z :: more)) = _
    rw [hb, hh]
    show ([40, 63, 62, 46, 42, 63] ++ [i.txt].flatten ++ [41]) :: starParts f (parts2 is) = _
    rw [ih]; simp
noncomputable def inner2 (is : List It) : List Nat := (is.flatMap fun i => [40, 63, 62, 46, 42, 63] ++ i.txt ++ [41]) ++ [46, 42]
theorem join2 (is : List It) : joinText (parts2 is) = [40, 63, 115, 58] ++ inner2 is ++ [41, 92, 90] := by
  unfold joinText
  have h1 : heads (parts2 is) = [] := rfl
  have h2 : behind (parts2 is) = parts2 is := rfl
  rw [h1, h2, starParts2 is _ (Nat.le_refl _)]
  unfold inner2
  rw [List.nil_append, List.flatten_append, ← List.flatMap_def]; simp
noncomputable abbrev mids (is : List It) : List Run := is.map fun i => [i.val]
noncomputable def runs2 (is : List It) : List Run := [] :: (mids is ++ [[]])
theorem parse2go {is : List It} (hok : ∀ i ∈ is, i.ok) : ∀ (m : Nat) (fr : List Run) (cur : Run), (m = 0 ∨ m = 2) → Parses m fr cur (inner2 is) (fr ++ [cur] ++ (mids is ++ [[]])) := by
  induction is with
  | nil =>
    intro m fr cur hm
    have := Parses.star hm (.done3 (fr ++ [cur]) [])
    simpa [inner2] using this
  | cons i is ih =>
    intro m fr cur hm
    have h1 := ih (fun j hj => hok j (List.mem_cons_of_mem _ hj)) 2 (fr ++ [cur]) [i.val] (.inr rfl)
    have h2 := parse_items (m := 1) (by decide) (fr := fr ++ [cur]) (rest := 41 :: inner2 is) (R := fr ++ [cur] ++ [[i.val]] ++ (mids is ++ [[]])) (is := [i]) (cur := []) (fun j hj => hok j (by rw [List.mem_singleton.mp hj]; exact List.mem_cons_self)) (by simp) (.cls (by simpa using h1))
    have h3 := Parses.opn hm h2
    simpa [inner2, txts] using h3
theorem parse2 {is : List It} (hok : ∀ i ∈ is, i.ok) : Parses 0 [] [] (inner2 is) (runs2 is) := by
  have := parse2go hok 0 [] [] (.inl rfl)
  simpa [runs2] using this
theorem noTwo2 (is : List It) : NoTwo (parts2 is) := by
  have key : ∀ (is : List It) (pre post : PS), (is.flatMap fun i => [some i.txt, none]) ≠ pre ++ none :: none :: post := by
    intro is
    induction is with
    | nil => intro pre post h; simp at h
    | cons i is ih =>
      intro pre post h
      rw [List.flatMap_cons] at h
      match pre, h with
      | [], h => simp at h
      | [a], h =>
        simp at h
        have := h.2
        cases is with
        | nil => simp at this
        | cons j js => simp at this
      | a :: b :: pre, h => simp at h; exact ih pre post h.2.2
  intro pre post h
  unfold parts2 at h
  match pre, h with
  | [], h =>
    simp at h
    cases is with
    | nil => simp at h
    | cons j js => simp at h
  | a :: pre, h => simp at h; exact key is pre post h.2
-- N3
noncomputable def takes2 (is : List It) (name : List Nat) : Bool := takesR (runs2 is) name
theorem pat2_len {is : List It} : (pat2 is).length ≤ 1 + 4 * is.length := by
  unfold pat2
  induction is with
  | nil => simp
  | cons i is ih =>
    have : i.pat.length ≤ 3 := by cases i <;> simp [It.pat]
    rw [List.flatMap_cons]
    simp only [List.length_append, List.length_cons, List.length_nil] at ih ⊢
    omega
theorem flatMap_len {α β : Type} {f : α → List β} {n : Nat} : ∀ (l : List α), (∀ a ∈ l, (f a).length ≤ n) → (l.flatMap f).length ≤ n * l.length
  | [], _ => by simp
  | a :: l, h => by
    have h1 := h a List.mem_cons_self
    have h2 := flatMap_len l fun b hb => h b (List.mem_cons_of_mem _ hb)
    rw [List.flatMap_cons, List.length_append, List.length_cons, Nat.mul_add]; omega
theorem runsOf2 {g : G} (F : Fns g) (F2 : Fns2 g) {k : Nat} {is : List It} (hok : ∀ i ∈ is, i.ok) (hl : is.length ≤ 10) {σ : Sto} {Q : D → Sto → Prop} (h : Q (.lst (rds (runs2 is))) σ) :
    Fn g (k + 3) (Str.ofString "translate") [.str (pat2 is)] σ fun d σ₁ => Fn g (k + 3) (Str.ofString "_law_runs") [d] σ₁ Q := by
  have l1 : (pieces2 is).length ≤ 200 := by
    have := flatMap_len (f := fun i : It => [i.piece, starP]) (n := 2) is (fun a _ => by simp)
    unfold pieces2; rw [List.length_cons]; omega
  have l2 : (parts2 is).length ≤ 200 := by
    have := flatMap_len (f := fun i : It => [some i.txt, none]) (n := 2) is (fun a _ => by simp)
    unfold parts2; rw [List.length_cons]; omega
  have l3 := pat2_len (is := is)
  have l4 : (inner2 is).length ≤ 800 := by
    have := flatMap_len (f := fun i : It => [40, 63, 62, 46, 42, 63] ++ i.txt ++ [41]) (n := 11) is (fun i _ => by have := i.txt_len; simp; omega)
    unfold inner2; rw [List.length_append]; simp only [List.length_cons, List.length_nil]; omega
  rw [← render2]
  refine translateF_ok F (by rw [render2]; omega) l1 (fun p hp => ?_) (by rw [run2]; exact l2) (by rw [run2]; exact noTwo2 is) (fun t ht => ?_) ?_
  · unfold pieces2 at hp
    rcases List.mem_cons.mp hp with rfl | hp
    · exact starOk F
    · obtain ⟨i, hi, hp⟩ := List.mem_flatMap.mp hp
      simp only [List.mem_cons, List.not_mem_nil, or_false] at hp
      rcases hp with rfl | rfl
      · exact It.pieceOk F (hok i hi)
      · exact starOk F
  · rw [run2] at ht
    unfold parts2 at ht
    rcases List.mem_cons.mp ht with e | ht
    · cases e
    · obtain ⟨i, hi, ht⟩ := List.mem_flatMap.mp ht
      simp only [List.mem_cons, List.not_mem_nil, or_false, Option.some.injEq, reduceCtorEq] at ht
      have := i.txt_len
      rw [ht]; omega
  · rw [run2, join2]
    exact (runs_ok F F2 (k := k + 1) l4 (parse2 hok) fun _ => h)
noncomputable def firstTakes (name : List Nat) (rows : List RowI) : Int := match rows.find? (fun r => takes2 r.2 name) with
  | some r => r.1
  | none => -1
theorem price_loop {g : G} (F : Fns g) (F2 : Fns2 g) {L a₀ : Addr} {cd : Value} {k : Nat} {σ : Sto} {Q : Fl → Loc → Sto → Prop} {word name : List Nat} (hn : name.length ≤ 6) :
    ∀ (rows : List RowI), (∀ r ∈ rows, (∀ i ∈ r.2, i.ok) ∧ r.2.length ≤ 10) →
    (∀ ρ p, firstTakes name rows = p → Q (.ret (.int p)) ρ σ) → (firstTakes name rows = -1 → Q .next [] σ) →
    FL g (mkFm (Str.ofString "_law_price") (fScope P 24) L a₀ cd (k + 3)) (forT (fBody P 24) 0) (forB (fBody P 24) 0) (rowDs (rows.map toRow)) [("word", .str word), ("name", .str name)] σ Q := by
  intro rows
  induction rows with
  | nil =>
    intro hr h1 h2
    refine FL_sub (ρ' := []) (by walk_at "sub") ?_
    exact FL_nil (h2 rfl)
  | cons r rows ih =>
    intro hr h1 h2
    obtain ⟨p, is⟩ := r
    obtain ⟨hok, hl⟩ := hr (p, is) List.mem_cons_self
    have hl : is.length ≤ 10 := hl
    refine FL_cons (OA_Tuple (OAs_cons (OA_Name (OAs_cons (OA_Name (OAs_nil ?_))))) rfl)
    walk_at "w"
    refine WE_CallF F2.runs ?_
    walk_at "w"
    refine WE_CallF F.tr ?_
    walk_at "w"
    refine (runsOf2 F F2 (k := k) hok hl ?_).mono fun d σ₁ h => WL_nil h
    walk_at "w"
    refine WE_List (WL_nil ⟨by rw [sizeLine_eq]; exact (by decide : 0 ≤ 16777216), ?_⟩)
    refine O_eqNil ?_
    refine ⟨_, rfl, ?_⟩
    rw [show decide (rds (runs2 is) = []) = false from rfl]
    walk_at "w"
    refine WE_CallF F2.takes ?_
    walk_at "w"
    refine takes_ok F F2 (k := k + 1) (by omega) (fun r hr => ?_) (by rw [List.length_append, List.length_map]; simp; omega) ?_
    · rcases List.mem_cons.mp hr with rfl | hr
      · simp
      · rcases List.mem_append.mp hr with hr | hr
        · obtain ⟨i, hi, rfl⟩ := List.mem_map.mp hr
          simp
        · rw [List.mem_singleton.mp hr]; simp
    refine O_truthyB ?_
    show if takes2 is name = true then _ else _
    cases ht : takes2 is name with
    | true =>
      walk_at "w"
      refine h1 _ _ ?_
      unfold firstTakes
      rw [List.find?_cons_of_pos (by exact ht)]
      rfl
    | false =>
      walk_at "w"
      have e : firstTakes name ((p, is) :: rows) = firstTakes name rows := by
        unfold firstTakes
        rw [List.find?_cons_of_neg (by simp [ht])]
      rw [e] at h1 h2
      refine FL_sub ?_ (ih (fun r hr' => hr r (List.mem_cons_of_mem _ hr')) h1 h2)
      walk_at "sub"
theorem price_ok {g : G} (F : Fns g) (F2 : Fns2 g) (F3 : Fns3 g) {k : Nat} {word name : List Nat} (hw : word.length ≤ 3) (hn : name.length ≤ 6) (hok : ∀ r ∈ mkAllI word [(2 * (name.length : Int), [])], (∀ i ∈ r.2, i.ok) ∧ r.2.length ≤ 10) {σ : Sto} {Q : D → Sto → Prop}
    (h : ∀ rows : List RowI, rows.Perm (mkAllI word [(2 * (name.length : Int), [])]) → (rows.map toRow).Pairwise rowLe → Q (.int (firstTakes name rows)) σ) :
    Fn g (k + 4) (Str.ofString "_law_price") [.str word, .str name] σ Q := by
  refine Fn_enter F3.price (fun L a₀ cd => ?_) (fun _ _ _ vs hl => ?_) (by rfl) (by decide)
  · walk_at "w"
    refine WE_CallF F3.marked ?_
    walk_at "w"
    refine marked_ok F F2 F3 (k := k + 1) hw fun rows' h1 h2 => ?_
    have e0 := mkAll_row word [(2 * (name.length : Int), [])]
    rw [show [((2 * (name.length : Int)), ([] : List It))].map toRow = [((2 * (name.length : Int)), [42])] from rfl] at e0
    rw [e0] at h1
    obtain ⟨rows, hp, rfl⟩ := perm_lift h1 _ rfl
    walk_at "w"
    refine ⟨_, .lst _, ?_⟩
    refine FL_sub ?_ (price_loop F F2 (L := L) (a₀ := a₀) (cd := cd) (k := k) (σ := σ) (word := word) hn rows (fun r hr => hok r (hp.mem_iff.mp hr)) (fun ρ p e => ?_) fun e => ?_)
    · walk_at "sub"
    · rw [← e]; exact Drop.same (h rows hp h2)
    · walk_at "w"
      have := h rows hp h2
      rw [e] at this
      exact Drop.same this
  · obtain ⟨v, u, rfl⟩ := len2 hl; rfl
-- N4
noncomputable def toldComp : Expr × Expr × List Expr × Scope := match fBody P 25 with | Stmt.Assign _ c _ :: _ => compParts c | _ => default
theorem told_loop {g : G} (F : Fns g) {C L a₀ acc : Addr} {cd : Value} {k : Nat} {σ : Sto} {cl : List (Str × Addr)} {Q : Sto → Prop} {x y : List Nat} (lx : x.length ≤ 100) (ly : y.length ≤ 100) :
    ∀ (bs ds : List Int), ds.length + bs.length ≤ 100 → Q ((acc, il (ds ++ bs.map (lev x y))) :: σ) →
    CL g (compFm (mkFm (Str.ofString "_law_right") (fScope P 25) L a₀ cd (k + 2)) toldComp.2.2.2 cl C) toldComp.1 toldComp.2.1 toldComp.2.2.1 acc (il bs)
      [("left", .str x), ("right", .str y)] ((acc, il ds) :: σ) Q := by
  intro bs
  induction bs with
  | nil => intro ds h1 h; exact CL_nil (by simpa using h)
  | cons b bs ih =>
    intro ds h1 h
    rw [List.length_cons] at h1
    refine CL_cons (OA_Name ⟨?_, ?_⟩)
    · walk_at "sub"
    refine WIf_nil (ite_T ?_)
    show TE g _ Rd (eval (Expr.Call (Expr.Name (Str.ofString "_levenshtein_distance") _) _ _ _) _) _ _ _
    refine WE_CallF F.lev ?_
    walk_at "w"
    refine lev_ok F lx ly ?_
    refine ⟨[], σ, _, rfl, by rw [sizeLine_eq]; simp [il]; omega, ?_⟩
    have := ih (ds ++ [lev x y b]) (by simp; omega) (by simpa using h)
    simpa [il] using this
noncomputable def typeComp : Expr × Expr × List Expr × Scope := match (fBody P 25)[1]? with | some (Stmt.If (Expr.BoolOp _ [_, Expr.Compare c _ _ _] _) _ _ _) => compParts c | _ => default
theorem type_loop {g : G} (F : Fns g) {C L a₀ acc : Addr} {cd : Value} {k : Nat} {σ : Sto} {cl : List (Str × Addr)} {Q : Sto → Prop} :
    ∀ (bs : List Int) (n : Nat), n + bs.length ≤ 100 → Q ((acc, (List.replicate (n + bs.length) (Value.type "int")).map D.val) :: σ) →
    CL g (compFm (mkFm (Str.ofString "_law_right") (fScope P 25) L a₀ cd (k + 2)) typeComp.2.2.2 cl C) typeComp.1 typeComp.2.1 typeComp.2.2.1 acc (il bs)
      [] ((acc, (List.replicate n (Value.type "int")).map D.val) :: σ) Q := by
  intro bs
  induction bs with
  | nil => intro ds h1 h; exact CL_nil h
  | cons b bs ih =>
    intro n h1 h
    rw [List.length_cons] at h1 h
    refine CL_cons (OA_Name ⟨?_, ?_⟩)
    · walk_at "sub"
    refine WIf_nil (ite_T ?_)
    show TE g _ Rd (eval (Expr.Call (Expr.Name (Str.ofString "type") _) _ _ _) _) _ _ _
    refine WE_CallT (F.free "type" (by simp)) rfl ?_
    walk_at "w"
    refine F_typeI ?_
    refine ⟨[], σ, _, rfl, by rw [sizeLine_eq]; simp; omega, ?_⟩
    have := ih (n + 1) (by omega) (by rw [show n + 1 + bs.length = n + (bs.length + 1) by omega]; exact h)
    have e : (List.replicate (n + 1) (Value.type "int")).map D.val = (List.replicate n (Value.type "int")).map D.val ++ [D.val (.type "int")] := by
      rw [List.replicate_succ']; simp
    rw [e] at this
    exact this
theorem right_ok {g : G} (F : Fns g) (F2 : Fns2 g) (F3 : Fns3 g) {k : Nat} {x y : List Nat} {due more : Int} (lx : x.length ≤ 100) (ly : y.length ≤ 100) {σ : Sto} {Q : D → Sto → Prop}
    (h1 : lev x y (due - 1) = due) (h2 : lev x y due = due) (h3 : lev x y (due + 1 + more) = due) (h4 : lev x y (due - 2 - more) = due ∨ lev x y (due - 2 - more) = due - 1 - more) (h : Q (.bool true) σ) :
    Fn g (k + 3) (Str.ofString "_law_right") [.str x, .str y, .int due, .int more] σ Q := by
  refine Fn_enter F3.right (fun L a₀ cd => ?_) (fun _ _ _ vs hl => ?_) (by rfl) (by decide)
  · refine WSs_cons (WS_AssignComp (cl := _) [("left", .str x), ("right", .str y)] ⟨rfl, .cons rfl rfl rfl (.cons rfl rfl rfl .nil), (by show ([Str.ofString "right", Str.ofString "left"] : List Str).Nodup; decide), rfl, rfl, rfl, rfl, rfl, rfl⟩ ?_)
    walk_at "w"
    refine ⟨_, .tup _, fun C acc hacc => ?_⟩
    refine told_loop F (k := k) lx ly [due - 1, due, due + 1 + more] [] (by simp) ⟨_, σ, rfl, ?_⟩
    simp only [List.map_cons, List.map_nil, List.nil_append, h1, h2, h3]
    walk_at "w"
    refine WE_List ?_
    walk_at "w"
    refine O_neLI (is := [due, due, due]) (js := [due, due, due]) rfl rfl rfl ?_
    walk_at "w"
    rw [decide_eq_false (show ¬ [due, due, due] ≠ [due, due, due] by simp)]
    walk_at "w"
    refine WE_ListComp (cl := []) [] ⟨rfl, .nil, by decide, rfl, rfl, rfl, rfl, rfl, rfl⟩ ?_
    walk_at "w"
    refine ⟨_, .lst _, fun C acc hacc => ?_⟩
    refine type_loop F (k := k) [due, due, due] 0 (by simp) ⟨_, σ, rfl, ?_⟩
    refine WE_List ?_
    refine WL_cons (WE_builtin (F.free "int" (by simp)) rfl (WL_cons (WE_builtin (F.free "int" (by simp)) rfl (WL_cons (WE_builtin (F.free "int" (by simp)) rfl (WL_nil ?_))))))
    refine ⟨by rw [sizeLine_eq]; exact (by decide : 3 ≤ 16777216), ?_⟩
    refine O_neLV (us := [.type "int", .type "int", .type "int"]) rfl rfl ?_
    walk_at "w"
    refine WE_CallF F.lev ?_
    walk_at "w"
    refine lev_ok F lx ly ?_
    walk_at "w"
    refine O_inTI (cs := [due, due - 1 - more]) rfl ?_
    rw [decide_eq_true (show lev x y (due - 2 - more) ∈ [due, due - 1 - more] by simpa using h4)]
    exact Drop.same h
  · obtain ⟨v, u, w, z, rfl⟩ := len4 hl; rfl
-- N5
noncomputable abbrev lawFm (L a : Addr) (cd : Value) (k : Nat) : Fm := mkFm (Str.ofString "law") (fScope P 26) L a cd k
noncomputable def moreComp : Expr × Expr × List Expr × Scope := match (fBody P 26)[2]? with | some (Stmt.Assign _ (Expr.Call _ [c] _ _) _) => compParts c | _ => default
theorem more_loop {g : G} (F : Fns g) {C L a₀ acc : Addr} {cd : Value} {k : Nat} {σ : Sto} {cl : List (Str × Addr)} {Q : Sto → Prop} :
    ∀ (bs ds : List Int), ds.length + bs.length ≤ 100 → Q ((acc, il (ds ++ bs.map fun x => x.fmod 100)) :: σ) →
    CL g (compFm (lawFm L a₀ cd (k + 2)) moreComp.2.2.2 cl C) moreComp.1 moreComp.2.1 moreComp.2.2.1 acc (il bs) [] ((acc, il ds) :: σ) Q := by
  intro bs
  induction bs with
  | nil => intro ds h1 h; exact CL_nil (by simpa using h)
  | cons b bs ih =>
    intro ds h1 h
    rw [List.length_cons] at h1
    refine CL_cons (OA_Name ⟨?_, ?_⟩)
    · walk_at "sub"
    refine WIf_nil (ite_T ?_)
    show TE g _ Rd (eval (Expr.BinOp _ _ _ _) _) _ _ _
    walk_at "w"
    refine O_modI (by decide) (by decide) ?_
    refine ⟨[], σ, _, rfl, by rw [sizeLine_eq]; simp [il]; omega, ?_⟩
    have := ih (ds ++ [b.fmod 100]) (by simp; omega) (by simpa using h)
    simpa [il] using this
theorem fmod_bounds (x : Int) : 0 ≤ x.fmod 100 ∧ x.fmod 100 < 100 := by
  obtain ⟨n, h, e⟩ := fmod_pos x 100 (by decide)
  have e : x.fmod 100 = (n : Int) := e
  rw [e]; omega
theorem sum_bounds : ∀ l : List Int, (∀ x ∈ l, 0 ≤ x) → 0 ≤ l.sum
  | [], _ => by simp
  | x :: l, h => by
    have h1 := h x List.mem_cons_self
    have h2 := sum_bounds l fun y hy => h y (List.mem_cons_of_mem _ hy)
    rw [List.sum_cons]; omega
noncomputable def Plain02 : Prop := ∀ w n : List Nat, (∀ c ∈ w, Gd c) → (∀ c ∈ n, Gd c) → w.length ≤ 3 → n.length ≤ 6 →
  (∀ r ∈ mkAllI w [(2 * (n.length : Int), [])], (∀ i ∈ r.2, i.ok) ∧ r.2.length ≤ 10) ∧
  ∀ rows : List RowI, rows.Perm (mkAllI w [(2 * (n.length : Int), [])]) → (rows.map toRow).Pairwise rowLe → ∃ due : Int, firstTakes n rows = due ∧ 0 ≤ due ∧
    ∀ m : Int, (lev w n m = due ∨ (m < due ∧ lev w n m = m + 1)) ∧ (lev n w m = due ∨ (m < due ∧ lev n w m = m + 1))
theorem law_body {g : G} (F : Fns g) (F2 : Fns2 g) (F3 : Fns3 g) (PL : Plain02) {L a₀ : Addr} {cd : Value} {k : Nat} {is : List Int} (hl : is.length ≤ 63) {σ : Sto} :
    WSs g (lawFm L a₀ cd (k + 4)) (fBody P 26) [("script", .lst (is.map D.int))] σ fun fl _ σ' => fl = .ret (.bool true) ∧ σ' = σ := by
  show WSs g _ [_, _, _, _, _] _ _ _
  refine WSs_cons (WS_AssignT ?_)
  refine WE_CallF F2.two ?_
  walk_at "w"
  refine two_ok F F2 (k := k + 2) hl fun w n hw hn lw ln => ?_
  obtain ⟨ok, pl⟩ := PL w n hw hn lw ln
  refine OA_Tuple (OAs_cons (OA_Name (OAs_cons (OA_Name (OAs_nil ?_))))) rfl
  walk_at "w"
  refine WE_CallF F3.price ?_
  walk_at "w"
  refine price_ok F F2 F3 (k := k) lw ln ok fun rows h1 h2 => ?_
  obtain ⟨due, e, h0, hlev⟩ := pl rows h1 h2
  rw [e]
  walk_at "w"
  refine WE_CallB (F.free "sum" (by simp)) rfl ?_
  refine WL_cons (WE_ListComp (cl := []) [] ⟨rfl, .nil, by decide, rfl, rfl, rfl, rfl, rfl, rfl⟩ ?_)
  walk_at "w"
  refine ⟨none, some 6, _, rfl, rfl, .lst _ _ _ (by rw [List.length_map, sizeLine_eq]; omega), ?_⟩
  rw [show cut (is.map D.int) none (some 6) = il (is.take 6) from by rw [show (6 : Int) = ((6 : Nat) : Int) from rfl, cut_upto, ← List.map_take]; rfl]
  refine ⟨_, .lst _, fun C acc hacc => ?_⟩
  refine more_loop F (k := k + 2) (is.take 6) [] (by simp; omega) ⟨_, σ, rfl, ?_⟩
  rw [List.nil_append]
  walk_at "w"
  refine F_sum rfl ?_
  have hs : 0 ≤ ((is.take 6).map fun x => x.fmod 100).sum := sum_bounds _ fun x hx => by obtain ⟨y, _, rfl⟩ := List.mem_map.mp hx; exact (fmod_bounds y).1
  generalize ((is.take 6).map fun x => x.fmod 100).sum = more at hs
  walk_at "w"
  rw [decide_eq_false (show ¬ due < 0 by omega)]
  walk_at "w"
  refine WE_And2 ?_
  refine WE_CallF F3.right ?_
  walk_at "w"
  have l1 : ∀ m, due ≤ m + 1 → lev w n m = due := fun m h => by rcases (hlev m).1 with q | ⟨q1, q2⟩ <;> omega
  have l2 : ∀ m, due ≤ m + 1 → lev n w m = due := fun m h => by rcases (hlev m).2 with q | ⟨q1, q2⟩ <;> omega
  have l3 : lev w n (due - 2 - more) = due ∨ lev w n (due - 2 - more) = due - 1 - more := by rcases (hlev (due - 2 - more)).1 with q | ⟨q1, q2⟩ <;> omega
  have l4 : lev n w (due - 2 - more) = due ∨ lev n w (due - 2 - more) = due - 1 - more := by rcases (hlev (due - 2 - more)).2 with q | ⟨q1, q2⟩ <;> omega
  refine right_ok F F2 F3 (k := k + 1) (by omega) (by omega) (l1 _ (by omega)) (l1 _ (by omega)) (l1 _ (by omega)) l3 ?_
  refine O_truthyB (ite_T ?_)
  refine WE_CallF F3.right ?_
  walk_at "w"
  refine right_ok F F2 F3 (k := k + 1) (by omega) (by omega) (l2 _ (by omega)) (l2 _ (by omega)) (l2 _ (by omega)) l4 ?_
  exact ⟨rfl, rfl⟩
-- Q1
/-! ## the distance as it should be -/
theorem sub_nonneg (a b : Nat) : 0 ≤ sub a b := by unfold sub; split <;> (try split) <;> omega
theorem sub_le (a b : Nat) : sub a b ≤ 2 := by unfold sub; split <;> (try split) <;> omega
theorem sub_self (a : Nat) : sub a a = 0 := by unfold sub; rw [if_pos rfl]
theorem sub_comm (a b : Nat) : sub a b = sub b a := by
  have e1 : (a = b) = (b = a) := propext eq_comm
  have e2 : (lowerOf [a] = lowerOf [b]) = (lowerOf [b] = lowerOf [a]) := propext eq_comm
  by_cases h : a = b
  · rw [h]
  · have h' : ¬ b = a := fun q => h q.symm
    unfold sub
    rw [if_neg h, if_neg h']
    by_cases h2 : lowerOf [a] = lowerOf [b]
    · rw [if_pos h2, if_pos h2.symm]
    · have h2' : ¬ lowerOf [b] = lowerOf [a] := fun q => h2 q.symm
      rw [if_neg h2, if_neg h2']
noncomputable def ed : List Nat → List Nat → Int
  | [], b => 2 * (b.length : Int)
  | x :: a, [] => 2 * ((a.length : Int) + 1)
  | x :: a, y :: b => min (ed a b + sub x y) (min (ed a (y :: b) + 2) (ed (x :: a) b + 2))
termination_by a b => a.length + b.length
theorem ed_nil (b : List Nat) : ed [] b = 2 * (b.length : Int) := by rw [ed]
theorem ed_nil' (a : List Nat) : ed a [] = 2 * (a.length : Int) := by cases a <;> rw [ed] <;> simp
theorem ed_cons (x y : Nat) (a b : List Nat) : ed (x :: a) (y :: b) = min (ed a b + sub x y) (min (ed a (y :: b) + 2) (ed (x :: a) b + 2)) := by rw [ed]
theorem ed_comm : ∀ a b : List Nat, ed a b = ed b a
  | [], b => by rw [ed_nil, ed_nil']
  | x :: a, [] => by rw [ed_nil, ed_nil']
  | x :: a, y :: b => by
    rw [ed_cons, ed_cons, ed_comm a b, ed_comm a (y :: b), ed_comm (x :: a) b, sub_comm x y]
    omega
termination_by a b => a.length + b.length
theorem ed_nonneg : ∀ a b : List Nat, 0 ≤ ed a b
  | [], b => by rw [ed_nil]; omega
  | x :: a, [] => by rw [ed_nil']; omega
  | x :: a, y :: b => by
    rw [ed_cons]
    have := ed_nonneg a b; have := ed_nonneg a (y :: b); have := ed_nonneg (x :: a) b; have := sub_nonneg x y
    omega
termination_by a b => a.length + b.length
theorem ed_drop : ∀ (a b : List Nat) (y : Nat), ed a b ≤ ed a (y :: b) + 2
  | [], b, y => by rw [ed_nil, ed_nil]; simp; omega
  | x :: a, b, y => by
    rw [ed_cons]
    have h1 : ed (x :: a) b ≤ ed a b + 2 := by
      cases b with
      | nil => rw [ed_nil', ed_nil']; simp; omega
      | cons z b => rw [ed_cons]; omega
    have h2 := ed_drop a b y
    have := sub_nonneg x y
    omega
theorem ed_drop' (a b : List Nat) (x : Nat) : ed a b ≤ ed (x :: a) b + 2 := by rw [ed_comm a b, ed_comm (x :: a) b]; exact ed_drop b a x
theorem ed_cons_le1 (x : Nat) (a b : List Nat) : ed (x :: a) b ≤ ed a b + 2 := by
  cases b with
  | nil => rw [ed_nil', ed_nil']; simp; omega
  | cons y b => rw [ed_cons]; omega
theorem ed_cons_le2 (y : Nat) (a b : List Nat) : ed a (y :: b) ≤ ed a b + 2 := by rw [ed_comm a, ed_comm a]; exact ed_cons_le1 y b a
theorem ed_same (x : Nat) (a b : List Nat) : ed (x :: a) (x :: b) = ed a b := by
  rw [ed_cons, sub_self]
  have h1 := ed_drop a b x
  have h2 := ed_drop' a b x
  omega
/-! alignments: what costs so much at the most -/
inductive Al : List Nat → List Nat → Int → Prop
  | nil : Al [] [] 0
  | sub {x y a b c} : Al a b c → Al (x :: a) (y :: b) (c + sub x y)
  | del {x a b c} : Al a b c → Al (x :: a) b (c + 2)
  | ins {y a b c} : Al a b c → Al a (y :: b) (c + 2)
theorem al_del : ∀ a : List Nat, Al a [] (2 * (a.length : Int))
  | [] => .nil
  | x :: a => by have := (al_del a).del (x := x); rw [show 2 * (((x :: a).length : Nat) : Int) = 2 * (a.length : Int) + 2 by simp; omega]; exact this
theorem al_ins : ∀ b : List Nat, Al [] b (2 * (b.length : Int))
  | [] => .nil
  | y :: b => by have := (al_ins b).ins (y := y); rw [show 2 * (((y :: b).length : Nat) : Int) = 2 * (b.length : Int) + 2 by simp; omega]; exact this
theorem al_ed : ∀ a b : List Nat, Al a b (ed a b)
  | [], b => by rw [ed_nil]; exact al_ins b
  | x :: a, [] => by rw [ed_nil']; exact al_del (x :: a)
  | x :: a, y :: b => by
    rw [ed_cons]
    have h1 := (al_ed a b).sub (x := x) (y := y)
    have h2 := (al_ed a (y :: b)).del (x := x)
    have h3 := (al_ed (x :: a) b).ins (y := y)
    rcases Int.le_total (ed a b + sub x y) (min (ed a (y :: b) + 2) (ed (x :: a) b + 2)) with q | q
    · rw [Int.min_eq_left q]; exact h1
    · rw [Int.min_eq_right q]
      rcases Int.le_total (ed a (y :: b) + 2) (ed (x :: a) b + 2) with q | q
      · rw [Int.min_eq_left q]; exact h2
      · rw [Int.min_eq_right q]; exact h3
termination_by a b => a.length + b.length
theorem ed_le_al {a b : List Nat} {c : Int} (h : Al a b c) : ed a b ≤ c := by
  induction h with
  | nil => rw [ed_nil]; simp
  | sub h ih => rw [ed_cons]; omega
  | del h ih => exact Int.le_trans (ed_cons_le1 _ _ _) (by omega)
  | ins h ih => exact Int.le_trans (ed_cons_le2 _ _ _) (by omega)
theorem Al.append {a b : List Nat} {c : Int} (h : Al a b c) : ∀ {a' b' : List Nat} {c' : Int}, Al a' b' c' → Al (a ++ a') (b ++ b') (c + c') := by
  induction h with
  | nil => intro a' b' c' h'; simpa using h'
  | @sub x y a b c h ih => intro a' b' c' h'; have := (ih h').sub (x := x) (y := y); rw [show ∀ p q r : Int, p + q + r = p + r + q by intros; omega]; exact this
  | @del x a b c h ih => intro a' b' c' h'; have := (ih h').del (x := x); rw [show ∀ p q r : Int, p + q + r = p + r + q by intros; omega]; exact this
  | @ins y a b c h ih => intro a' b' c' h'; have := (ih h').ins (y := y); rw [show ∀ p q r : Int, p + q + r = p + r + q by intros; omega]; exact this
theorem Al.reverse {a b : List Nat} {c : Int} (h : Al a b c) : Al a.reverse b.reverse c := by
  induction h with
  | nil => exact .nil
  | @sub x y a b c h ih =>
    rw [List.reverse_cons, List.reverse_cons]
    have := ih.append (Al.nil.sub (x := x) (y := y))
    rw [Int.zero_add] at this; exact this
  | @del x a b c h ih =>
    rw [List.reverse_cons]
    have := ih.append (Al.nil.del (x := x))
    rw [Int.zero_add, List.append_nil] at this; exact this
  | @ins y a b c h ih =>
    rw [List.reverse_cons]
    have := ih.append (Al.nil.ins (y := y))
    rw [Int.zero_add, List.append_nil] at this; exact this
theorem ed_reverse (a b : List Nat) : ed a.reverse b.reverse = ed a b := by
  have h1 := ed_le_al (al_ed a b).reverse
  have h2 := ed_le_al (al_ed a.reverse b.reverse).reverse
  rw [List.reverse_reverse, List.reverse_reverse] at h2
  omega
theorem ed_trimPre (a b : List Nat) : ed (trimPre a b).1 (trimPre a b).2 = ed a b := by
  fun_induction trimPre a b with
  | case1 x xs ys ih => rw [ih, ed_same]
  | case2 x xs y ys h => rfl
  | case3 xs ys h => rfl
theorem ed_trimPost (a b : List Nat) : ed (trimPost a b).1 (trimPost a b).2 = ed a b := by
  unfold trimPost
  rw [ed_reverse, ed_trimPre, ed_reverse]
theorem ed_refl : ∀ a : List Nat, ed a a = 0
  | [] => by rw [ed_nil]; simp
  | x :: a => by rw [ed_same, ed_refl a]
theorem ed_diff : ∀ a b : List Nat, 2 * ((b.length : Int) - a.length) ≤ ed a b
  | [], b => by rw [ed_nil]; simp
  | x :: a, [] => by rw [ed_nil']; simp; omega
  | x :: a, y :: b => by
    rw [ed_cons]
    have h1 := ed_diff a b; have h2 := ed_diff a (y :: b); have h3 := ed_diff (x :: a) b; have := sub_nonneg x y
    simp only [List.length_cons] at *
    omega
termination_by a b => a.length + b.length
theorem ed_le (a b : List Nat) : ed a b ≤ 2 * ((a.length : Int) + b.length) := by
  have := ed_le_al ((al_del a).append (al_ins b))
  simp at this
  omega
-- Q2
noncomputable def rowOf (rb : List Nat) : List Nat → List Nat → List Int
  | _, [] => []
  | ra, x :: xs => ed rb (x :: ra) :: rowOf rb (x :: ra) xs
theorem rowOf_len (rb : List Nat) : ∀ (xs ra : List Nat), (rowOf rb ra xs).length = xs.length
  | [], _ => rfl
  | x :: xs, ra => by show (rowOf rb (x :: ra) xs).length + 1 = _; rw [rowOf_len rb xs]; rfl
theorem rowOf_first : ∀ (xs ra : List Nat), rowOf [] ra xs = (List.range xs.length).map fun (i : Nat) => 2 * ((ra.length : Int) + (i : Int) + 1)
  | [], _ => rfl
  | x :: xs, ra => by
    show ed [] (x :: ra) :: rowOf [] (x :: ra) xs = _
    rw [rowOf_first xs (x :: ra), show (x :: xs).length = xs.length + 1 from rfl, List.range_succ_eq_map, List.map_cons, List.map_map, ed_nil]
    have e1 : 2 * (((x :: ra).length : Nat) : Int) = 2 * ((ra.length : Int) + ((0 : Nat) : Int) + 1) := by simp
    rw [e1]
    congr 1
    apply List.map_congr_left
    intro i hi
    show 2 * ((((x :: ra).length : Nat) : Int) + (i : Int) + 1) = 2 * ((ra.length : Int) + ((i.succ : Nat) : Int) + 1)
    simp only [List.length_cons]; omega
theorem firstRow_eq (a : List Nat) : firstRow a.length = rowOf [] [] a := by
  rw [rowOf_first]
  unfold firstRow
  apply List.map_congr_left
  intro i hi; simp
theorem inner_spec (rb : List Nat) (bc : Nat) : ∀ (xs ra : List Nat) (res mn : Int), (res = ed (bc :: rb) ra ∨ (ra = [] ∧ res = 2 * (rb.length : Int))) →
    (inner bc xs (rowOf rb ra xs) (ed rb ra) res mn).row = rowOf (bc :: rb) ra xs ∧
    (∀ v ∈ (inner bc xs (rowOf rb ra xs) (ed rb ra) res mn).row, (inner bc xs (rowOf rb ra xs) (ed rb ra) res mn).mn ≤ v) ∧
    (inner bc xs (rowOf rb ra xs) (ed rb ra) res mn).mn ≤ mn ∧
    (xs ≠ [] → (inner bc xs (rowOf rb ra xs) (ed rb ra) res mn).res = ed (bc :: rb) (xs.reverse ++ ra))
  | [], ra, res, mn, h => by
    refine ⟨rfl, fun v hv => ?_, Int.le_refl _, fun h => absurd rfl h⟩
    cases hv
  | x :: xs, ra, res, mn, h => by
    have key : min (min res (ed rb (x :: ra)) + 2) (ed rb ra + sub bc x) = ed (bc :: rb) (x :: ra) := by
      rw [ed_cons]
      rcases h with h | ⟨h1, h2⟩
      · rw [h]; omega
      · have hs := sub_le bc x
        have h3 : ed (bc :: rb) ra = 2 * ((rb.length : Int) + 1) := by rw [h1, ed_nil']; simp
        have h4 : ed rb ra = 2 * (rb.length : Int) := by rw [h1, ed_nil']
        rw [h3, h4, h2]; omega
    have ih := inner_spec rb bc xs (x :: ra) (ed (bc :: rb) (x :: ra)) (if ed (bc :: rb) (x :: ra) < mn then ed (bc :: rb) (x :: ra) else mn) (.inl rfl)
    have e : inner bc (x :: xs) (rowOf rb ra (x :: xs)) (ed rb ra) res mn =
        { inner bc xs (rowOf rb (x :: ra) xs) (ed rb (x :: ra)) (ed (bc :: rb) (x :: ra)) (if ed (bc :: rb) (x :: ra) < mn then ed (bc :: rb) (x :: ra) else mn) with
          row := ed (bc :: rb) (x :: ra) :: (inner bc xs (rowOf rb (x :: ra) xs) (ed rb (x :: ra)) (ed (bc :: rb) (x :: ra)) (if ed (bc :: rb) (x :: ra) < mn then ed (bc :: rb) (x :: ra) else mn)).row } := by
      rw [← key]; rfl
    rw [e]
    obtain ⟨i1, i2, i3, i4⟩ := ih
    refine ⟨?_, fun v hv => ?_, ?_, fun _ => ?_⟩
    · show _ :: _ = _ :: _; rw [i1]
    · rcases List.mem_cons.mp hv with rfl | hv
      · refine Int.le_trans i3 ?_
        split <;> omega
      · exact i2 v hv
    · refine Int.le_trans i3 ?_
      split <;> omega
    · cases xs with
      | nil => rfl
      | cons z zs =>
        have := i4 (by simp)
        simpa using this
theorem suffix_le (rb : List Nat) : ∀ s A : List Nat, ∃ u A', A = u ++ A' ∧ ed rb A' ≤ ed (s ++ rb) A
  | [], A => ⟨[], A, rfl, Int.le_refl _⟩
  | c :: s, [] => ⟨[], [], rfl, by rw [ed_nil', ed_nil']; simp; omega⟩
  | c :: s, x :: A => by
    obtain ⟨u1, A1, e1, h1⟩ := suffix_le rb s A
    obtain ⟨u2, A2, e2, h2⟩ := suffix_le rb s (x :: A)
    obtain ⟨u3, A3, e3, h3⟩ := suffix_le rb (c :: s) A
    have e : ed (c :: s ++ rb) (x :: A) = min (ed (s ++ rb) A + sub c x) (min (ed (s ++ rb) (x :: A) + 2) (ed (c :: s ++ rb) A + 2)) := by
      rw [List.cons_append, ed_cons]
    have hs := sub_nonneg c x
    rcases Int.le_total (ed (s ++ rb) A + sub c x) (min (ed (s ++ rb) (x :: A) + 2) (ed (c :: s ++ rb) A + 2)) with q | q
    · exact ⟨x :: u1, A1, by rw [e1]; rfl, by rw [e, Int.min_eq_left q]; omega⟩
    · rcases Int.le_total (ed (s ++ rb) (x :: A) + 2) (ed (c :: s ++ rb) A + 2) with q2 | q2
      · exact ⟨u2, A2, e2, by rw [e]; omega⟩
      · exact ⟨x :: u3, A3, by rw [e3]; rfl, by rw [e]; omega⟩
termination_by s A => s.length + A.length
theorem mem_rowOf (rb : List Nat) : ∀ (xs ra u A' : List Nat), xs.reverse ++ ra = u ++ A' → ra.length < A'.length → ed rb A' ∈ rowOf rb ra xs
  | [], ra, u, A', e, h => by
    have := congrArg List.length e
    simp at this; omega
  | x :: xs, ra, u, A', e, h => by
    rw [List.reverse_cons, List.append_assoc] at e
    have e : xs.reverse ++ (x :: ra) = u ++ A' := e
    by_cases q : A'.length = (x :: ra).length
    · have : A' = x :: ra := (List.append_inj_right' e.symm q)
      rw [this]; exact List.mem_cons_self
    · exact List.mem_cons_of_mem _ (mem_rowOf rb xs (x :: ra) u A' e (by simp at q ⊢; omega))
theorem outer_spec (a : List Nat) (ha : a ≠ []) (m : Int) : ∀ (bs rb : List Nat) (res : Int), (bs = [] → res = ed rb a.reverse) →
    outer a m bs rb.length (rowOf rb [] a) res = ed (bs.reverse ++ rb) a.reverse ∨ (m < ed (bs.reverse ++ rb) a.reverse ∧ outer a m bs rb.length (rowOf rb [] a) res = m + 1)
  | [], rb, res, h => .inl (by show res = _; rw [h rfl]; rfl)
  | bc :: bs, rb, res, h => by
    have sp := inner_spec rb bc a [] ((rb.length : Int) * 2) big (.inr ⟨rfl, by omega⟩)
    have hd : ed rb [] = (rb.length : Int) * 2 := by rw [ed_nil']; omega
    rw [hd] at sp
    obtain ⟨s1, s2, _, s4⟩ := sp
    have s4 := s4 ha
    rw [List.append_nil] at s4
    have eo : outer a m (bc :: bs) rb.length (rowOf rb [] a) res =
        if m < (inner bc a (rowOf rb [] a) ((rb.length : Int) * 2) ((rb.length : Int) * 2) big).mn then m + 1
        else outer a m bs (rb.length + 1) (inner bc a (rowOf rb [] a) ((rb.length : Int) * 2) ((rb.length : Int) * 2) big).row (inner bc a (rowOf rb [] a) ((rb.length : Int) * 2) ((rb.length : Int) * 2) big).res := rfl
    rw [eo]
    have er : (bc :: bs).reverse ++ rb = bs.reverse ++ (bc :: rb) := by simp
    rw [er]
    by_cases q : m < (inner bc a (rowOf rb [] a) ((rb.length : Int) * 2) ((rb.length : Int) * 2) big).mn
    · rw [if_pos q]
      refine .inr ⟨?_, rfl⟩
      obtain ⟨u, A', e, hle⟩ := suffix_le (bc :: rb) bs.reverse a.reverse
      have hrow : ∀ A', (∃ u, a.reverse = u ++ A') → A' ≠ [] → m < ed (bc :: rb) A' := fun A' ⟨u, e⟩ hne => by
        have := mem_rowOf (bc :: rb) a [] u A' (by rw [List.append_nil]; exact e) (by simpa using List.length_pos_iff.mpr hne)
        rw [← s1] at this
        exact Int.lt_of_lt_of_le q (s2 _ this)
      by_cases hA : A' = []
      · subst hA
        rw [ed_nil'] at hle
        obtain ⟨x, hx⟩ : ∃ x, ∃ v, a.reverse = v ++ [x] := by
          have hne : a.reverse ≠ [] := by simpa using ha
          exact ⟨a.reverse.getLast hne, a.reverse.dropLast, (List.dropLast_concat_getLast hne).symm⟩
        have h1 := hrow [x] hx (by simp)
        have h2 : ed (bc :: rb) [x] ≤ ed rb [] + sub bc x := by rw [ed_cons]; omega
        have h3 := sub_le bc x
        rw [ed_nil'] at h2
        simp at hle
        omega
      · exact Int.lt_of_lt_of_le (hrow A' ⟨u, e⟩ hA) hle
    · rw [if_neg q, s1]
      exact outer_spec a ha m bs (bc :: rb) _ (fun hb => by rw [s4])
theorem levCore_spec {a b : List Nat} (ha : a ≠ []) (hb : b ≠ []) (m : Int) : levCore a b m = ed a b ∨ (m < ed a b ∧ levCore a b m = m + 1) := by
  unfold levCore
  by_cases q : m < ((b.length : Int) - a.length) * 2
  · rw [if_pos q]
    have := ed_diff a b
    exact .inr ⟨by omega, rfl⟩
  · rw [if_neg q, firstRow_eq]
    have := outer_spec a ha m b [] 0 (fun h => absurd h hb)
    rw [List.append_nil, ed_reverse, ed_comm b a] at this
    exact this
theorem levTrim_spec {a b : List Nat} (la : a.length ≤ 40) (lb : b.length ≤ 40) (m : Int) : levTrim a b m = ed a b ∨ (m < ed a b ∧ levTrim a b m = m + 1) := by
  unfold levTrim
  by_cases q : a = [] ∨ b = []
  · rw [if_pos q]
    left
    rcases q with rfl | rfl
    · rw [ed_nil]; simp
    · rw [ed_nil']; simp
  · rw [if_neg q, if_neg (by omega)]
    rw [not_or] at q
    by_cases q2 : b.length < a.length
    · rw [if_pos q2, ed_comm]; exact levCore_spec q.2 q.1 m
    · rw [if_neg q2]; exact levCore_spec q.1 q.2 m
theorem trimPre_len' (a b : List Nat) : (trimPre a b).1.length ≤ a.length ∧ (trimPre a b).2.length ≤ b.length := by
  fun_induction trimPre a b with
  | case1 x xs ys ih => simp only [List.length_cons]; omega
  | case2 x xs y ys h => simp
  | case3 xs ys h => simp
theorem trimPost_len' (a b : List Nat) : (trimPost a b).1.length ≤ a.length ∧ (trimPost a b).2.length ≤ b.length := by
  have := trimPre_len' a.reverse b.reverse
  unfold trimPost
  simpa using this
theorem lev_spec {a b : List Nat} (la : a.length ≤ 40) (lb : b.length ≤ 40) (m : Int) : lev a b m = ed a b ∨ (m < ed a b ∧ lev a b m = m + 1) := by
  unfold lev
  by_cases q : a = b
  · rw [if_pos q, q, ed_refl]; exact .inl rfl
  · rw [if_neg q]
    have l1 := trimPre_len' a b
    have l2 := trimPost_len' (trimPre a b).1 (trimPre a b).2
    have := levTrim_spec (a := (trimPost (trimPre a b).1 (trimPre a b).2).1) (b := (trimPost (trimPre a b).1 (trimPre a b).2).2) (by omega) (by omega) m
    rw [ed_trimPost, ed_trimPre] at this
    exact this
-- Q3
theorem shifted_none {c : Nat} : ∀ l : List (Nat × Nat × Nat), (∀ e ∈ l, c < e.1 ∨ e.2.1 < c) → Unicode.shifted l c = none
  | [], _ => rfl
  | (a, b, t) :: l, h => by
    unfold Unicode.shifted
    have h1 := h (a, b, t) List.mem_cons_self
    by_cases q : c < a
    · rw [if_pos q]
    · rw [if_neg q, if_neg (by simp at h1; omega)]
      exact shifted_none l fun e he => h e (List.mem_cons_of_mem _ he)
theorem one_off : ∀ e ∈ UnicodeData.oneLower, e.2.1 < 19968 ∨ 22016 ≤ e.1 := by decide +kernel
theorem several_off : ∀ e ∈ UnicodeData.severalLower, e.1 < 19968 ∨ 22016 ≤ e.1 := by decide +kernel
theorem look_none {α : Type} {c : Nat} : ∀ l : List (Nat × α), (∀ e ∈ l, e.1 ≠ c) → l.lookup c = none
  | [], _ => rfl
  | (a, b) :: l, h => by
    rw [List.lookup_cons, show (c == a) = false from by simpa using fun q => h (a, b) List.mem_cons_self q.symm]
    exact look_none l fun e he => h e (List.mem_cons_of_mem _ he)
theorem lower_one {c : Nat} (h : c ≠ 0x3A3) : lowerOf [c] = Unicode.lowerOf c := by
  unfold lowerOf Txt.lower
  show (placed ⟨[c].toArray⟩ fun i _ => Unicode.lowerAt [c].toArray i).toList = _
  have e : Unicode.lowerAt [c].toArray 0 = Unicode.lowerOf c := by
    unfold Unicode.lowerAt
    simp [h]
  simp [placed, e]
noncomputable def low (c : Nat) : Nat := if c = 65 then 97 else if c = 66 then 98 else c
theorem lower_small : ∀ c ∈ low4 ++ odd16, lowerOf [c] = [low c] := by decide +kernel
theorem lower_gd {c : Nat} (h : Gd c) : lowerOf [c] = [low c] := by
  rcases h with h | h | ⟨h1, h2⟩
  · exact lower_small c (List.mem_append_left _ h)
  · exact lower_small c (List.mem_append_right _ h)
  · rw [lower_one (by omega)]
    unfold Unicode.lowerOf Unicode.image
    rw [look_none _ (fun e he q => by have := several_off e he; omega)]
    dsimp only
    rw [shifted_none _ (fun e he => by have := one_off e he; omega)]
    unfold low
    rw [if_neg (by omega), if_neg (by omega)]; rfl
theorem turn_of_sub {x y : Nat} (hx : Gd x) (hy : Gd y) (h : sub x y = 1) : y = turn x ∧ turn x ≠ x := by
  unfold sub at h
  by_cases q : x = y
  · rw [if_pos q] at h; omega
  · rw [if_neg q] at h
    by_cases q2 : lowerOf [x] = lowerOf [y]
    · rw [lower_gd hx, lower_gd hy] at q2
      have q2 : low x = low y := by simpa using q2
      unfold low at q2
      unfold turn
      repeat' split at q2
      all_goals (repeat' split) <;> omega
    · rw [if_neg q2] at h; omega
theorem sub_turn : ∀ c, turn c ≠ c → sub c (turn c) ≤ 1 := by
  intro c h
  have h4 : c = 97 ∨ c = 65 ∨ c = 98 ∨ c = 66 := by
    unfold turn at h
    by_cases a1 : c = 97
    · exact .inl a1
    · by_cases a2 : c = 65
      · exact .inr (.inl a2)
      · by_cases a3 : c = 98
        · exact .inr (.inr (.inl a3))
        · by_cases a4 : c = 66
          · exact .inr (.inr (.inr a4))
          · rw [if_neg a1, if_neg a2, if_neg a3, if_neg a4] at h; exact absurd rfl h
  have l : ∀ c ∈ low4, lowerOf [c] = [low c] := fun c hc => lower_small c (List.mem_append_left _ hc)
  have key : ∀ c ∈ low4, turn c ∈ low4 ∧ low c = low (turn c) := by decide
  have hc : c ∈ low4 := by rcases h4 with rfl | rfl | rfl | rfl <;> decide
  unfold sub
  rw [if_neg (fun q => h q.symm), if_pos (by rw [l c hc, l _ (key c hc).1, (key c hc).2])]
  exact Int.le_refl 1
theorem sub_cases (x y : Nat) : (x = y ∧ sub x y = 0) ∨ sub x y = 1 ∨ sub x y = 2 := by
  unfold sub
  by_cases q : x = y
  · exact .inl ⟨q, by rw [if_pos q]⟩
  · rw [if_neg q]
    by_cases q2 : lowerOf [x] = lowerOf [y]
    · rw [if_pos q2]; exact .inr (.inl rfl)
    · rw [if_neg q2]; exact .inr (.inr rfl)
-- Q4
/-! ## a pattern with a star ahead of all, between each two, behind all -/
inductive SubM : List It → List Nat → Prop
  | nil (n) : SubM [] n
  | skip {is c n} : SubM is n → SubM is (c :: n)
  | take {i is c n} : okAt i.val c = true → SubM is n → SubM (i :: is) (c :: n)
theorem SubM.tail {i : It} {is : List It} {n : List Nat} (h : SubM (i :: is) n) : SubM is n := by
  generalize e : i :: is = l at h
  induction h with
  | nil => cases e
  | skip h ih => exact .skip (ih e)
  | take h1 h2 ih => cases e; exact .skip h2
theorem SubM.split {i : It} {is : List It} {n : List Nat} (h : SubM (i :: is) n) : ∃ s c r, n = s ++ c :: r ∧ okAt i.val c = true ∧ SubM is r := by
  generalize e : i :: is = l at h
  induction h with
  | nil => cases e
  | @skip is' c n h ih =>
    obtain ⟨s, d, r, e1, h1, h2⟩ := ih e
    exact ⟨c :: s, d, r, by rw [e1]; rfl, h1, h2⟩
  | @take i' is' c n h1 h2 ih => cases e; exact ⟨[], c, n, rfl, h1, h2⟩
noncomputable def gr : List It → List Nat → Bool
  | [], _ => true
  | _ :: _, [] => false
  | i :: is, c :: n => if okAt i.val c = true then gr is n else gr (i :: is) n
theorem gr_sub : ∀ (is : List It) (n : List Nat), gr is n = true ↔ SubM is n
  | [], n => ⟨fun _ => .nil n, fun _ => by unfold gr; rfl⟩
  | i :: is, [] => ⟨fun h => (by unfold gr at h; cases h), fun h => (by cases h)⟩
  | i :: is, c :: n => by
    unfold gr
    by_cases q : okAt i.val c = true
    · rw [if_pos q]
      rw [gr_sub is n]
      refine ⟨fun h => .take q h, fun h => ?_⟩
      cases h with
      | skip h => exact h.tail
      | take _ h => exact h
    · rw [if_neg q, gr_sub (i :: is) n]
      refine ⟨fun h => .skip h, fun h => ?_⟩
      cases h with
      | skip h => exact h
      | take h1 _ => exact absurd h1 q
theorem fits_one (v : List Nat) (n : List Nat) (a : Nat) : fits [v] n a = match n.drop a with
    | [] => false
    | c :: _ => okAt v c := by
  unfold fits
  cases h : n.drop a with
  | nil => rfl
  | cons c r =>
    show (okAt v c && fitsL [] _) = okAt v c
    have : fitsL [] (List.take 0 r) = true := rfl
    simp [List.take]
    cases r <;> simp [fitsL]
theorem mid_gr : ∀ (k : Nat) (is : List It) (n : List Nat) (a : Nat), a ≤ n.length → n.length - a = k →
    match mid (mids is) n a with
    | none => gr is (n.drop a) = false
    | some b => gr is (n.drop a) = true ∧ b ≤ n.length
  | k, [], n, a, ha, hk => by
    show gr [] _ = true ∧ a ≤ n.length
    exact ⟨by unfold gr; rfl, ha⟩
  | 0, i :: is, n, a, ha, hk => by
    have e : a = n.length := by omega
    subst e
    have : mid (mids (i :: is)) n n.length = none := by
      show (match places [i.val] n n.length (n.length + 1 - n.length) with | [] => none | p :: _ => mid (mids is) n (p + [i.val].length)) = none
      rw [show n.length + 1 - n.length = 1 by omega]
      have : places [i.val] n n.length 1 = [] := by
        unfold places
        rw [List.range'_one, List.filter_cons_of_neg (by rw [fits_one, List.drop_length]; simp)]; rfl
      rw [this]
    rw [this, List.drop_length]
    rfl
  | k + 1, i :: is, n, a, ha, hk => by
    have hlt : a < n.length := by omega
    have hd : n.drop a = n[a] :: n.drop (a + 1) := List.drop_eq_getElem_cons hlt
    have em : mid (mids (i :: is)) n a = match places [i.val] n a (n.length + 1 - a) with | [] => none | p :: _ => mid (mids is) n (p + 1) := rfl
    have em' : mid (mids (i :: is)) n (a + 1) = match places [i.val] n (a + 1) (n.length + 1 - (a + 1)) with | [] => none | p :: _ => mid (mids is) n (p + 1) := rfl
    have hc : n.length + 1 - a = (n.length + 1 - (a + 1)) + 1 := by omega
    rw [hd]
    unfold gr
    by_cases q : okAt i.val n[a] = true
    · rw [if_pos q]
      have : places [i.val] n a (n.length + 1 - a) = a :: places [i.val] n (a + 1) (n.length + 1 - (a + 1)) := by
        unfold places
        rw [hc, List.range'_succ, List.filter_cons_of_pos (by rw [fits_one, hd]; exact q)]
      rw [em, this]
      exact mid_gr k is n (a + 1) (by omega) (by omega)
    · rw [if_neg q]
      have : places [i.val] n a (n.length + 1 - a) = places [i.val] n (a + 1) (n.length + 1 - (a + 1)) := by
        unfold places
        rw [hc, List.range'_succ, List.filter_cons_of_neg (by rw [fits_one, hd]; exact q)]
      rw [em, this, ← em']
      exact mid_gr k (i :: is) n (a + 1) (by omega) (by omega)
theorem fits_nil (n : List Nat) (a : Nat) : fits [] n a = true := by
  unfold fits
  show fitsL [] (List.take 0 _) = true
  rw [List.take_zero]; rfl
theorem takes2_iff (is : List It) (n : List Nat) : takes2 is n = true ↔ SubM is n := by
  unfold takes2 runs2
  rw [takesR_cons, fits_nil, Bool.true_and, List.getLast?_concat, List.dropLast_concat]
  have := mid_gr n.length is n 0 (Nat.zero_le _) (by omega)
  rw [List.drop_zero] at this
  show (match mid (mids is) n 0 with | none => false | some a => decide (a + 0 ≤ n.length) && fits [] n (n.length - 0)) = true ↔ _
  rw [← gr_sub]
  cases hm : mid (mids is) n 0 with
  | none => rw [hm] at this; rw [this]
  | some b =>
    rw [hm] at this
    rw [this.1]
    have e : (decide (b + 0 ≤ n.length) && fits [] n (n.length - 0)) = true := by rw [fits_nil, decide_eq_true (by have := this.2; omega)]; rfl
    exact ⟨fun _ => rfl, fun _ => e⟩
/-! ## the marked patterns of a word and their prices -/
inductive Mk : List Nat → Int → List It → Prop
  | nil : Mk [] 0 []
  | keep {c w p is} : Mk w p is → Mk (c :: w) (-2 + p) (bareIt c :: is)
  | turn {c w p is} : turn c ≠ c → Mk w p is → Mk (c :: w) (-1 + p) (.lit (turn c) :: is)
  | any {c w p is} : Mk w p is → Mk (c :: w) p (.any :: is)
  | drop {c w p is} : Mk w p is → Mk (c :: w) (2 + p) is
theorem mem_mkAllI : ∀ (w : List Nat) (rows : List RowI) (r : RowI), r ∈ mkAllI w rows ↔ ∃ r0 ∈ rows, ∃ p js, Mk w p js ∧ r = (r0.1 + p, r0.2 ++ js)
  | [], rows, r => by
    constructor
    · intro h; exact ⟨r, h, 0, [], .nil, by simp⟩
    · rintro ⟨r0, h0, p, js, hm, rfl⟩
      cases hm
      have e : (r0.1 + 0, r0.2 ++ []) = r0 := by simp
      rw [e]; exact h0
  | c :: w, rows, r => by
    show r ∈ mkAllI w (rows.flatMap (mkStepI c)) ↔ _
    rw [mem_mkAllI w]
    constructor
    · rintro ⟨r1, h1, p, js, hm, rfl⟩
      obtain ⟨r0, h0, h1⟩ := List.mem_flatMap.mp h1
      refine ⟨r0, h0, ?_⟩
      unfold mkStepI at h1
      simp only [List.mem_append, List.mem_cons, List.not_mem_nil, or_false] at h1
      rcases h1 with (rfl | h1) | rfl | rfl
      · exact ⟨_, _, .keep hm, by simp; omega⟩
      · split at h1
        · cases h1
        · rename_i ht
          obtain rfl := List.mem_singleton.mp h1
          exact ⟨_, _, .turn ht hm, by simp; omega⟩
      · exact ⟨_, _, .any hm, by simp⟩
      · exact ⟨_, _, .drop hm, by simp; omega⟩
    · rintro ⟨r0, h0, p, js, hm, rfl⟩
      have mem : ∀ r1, r1 ∈ mkStepI c r0 → r1 ∈ rows.flatMap (mkStepI c) := fun r1 h => List.mem_flatMap.mpr ⟨r0, h0, h⟩
      cases hm with
      | keep hm => exact ⟨(r0.1 - 2, r0.2 ++ [bareIt c]), mem _ (by simp [mkStepI]), _, _, hm, by simp; omega⟩
      | turn ht hm => exact ⟨(r0.1 - 1, r0.2 ++ [.lit (turn c)]), mem _ (by simp [mkStepI, ht]), _, _, hm, by simp; omega⟩
      | any hm => exact ⟨(r0.1, r0.2 ++ [.any]), mem _ (by simp [mkStepI]), _, _, hm, by simp⟩
      | drop hm => exact ⟨(r0.1 + 2, r0.2), mem _ (by simp [mkStepI]), _, _, hm, by simp; omega⟩
theorem bareIt_val (c : Nat) : (bareIt c).val = [c] := by unfold bareIt; split <;> rfl
theorem bareIt_ok (c : Nat) : (bareIt c).ok := by
  unfold bareIt
  split
  · rename_i h
    simpa [It.ok] using h
  · rename_i h
    simp only [List.mem_cons, List.not_mem_nil, or_false, not_or] at h
    exact h
theorem turn_lit {c : Nat} (h : turn c ≠ c) : (It.lit (turn c)).ok := by
  have h4 : c = 97 ∨ c = 65 ∨ c = 98 ∨ c = 66 := by
    by_cases a1 : c = 97
    · exact .inl a1
    · by_cases a2 : c = 65
      · exact .inr (.inl a2)
      · by_cases a3 : c = 98
        · exact .inr (.inr (.inl a3))
        · by_cases a4 : c = 66
          · exact .inr (.inr (.inr a4))
          · unfold turn at h; rw [if_neg a1, if_neg a2, if_neg a3, if_neg a4] at h; exact absurd rfl h
  rcases h4 with rfl | rfl | rfl | rfl <;> (show _ ≠ _ ∧ _ ≠ _ ∧ _ ≠ _) <;> decide
theorem Mk.ok {w : List Nat} {p : Int} {is : List It} (h : Mk w p is) : (∀ i ∈ is, i.ok) ∧ is.length ≤ w.length := by
  induction h with
  | nil => simp
  | keep h ih =>
    refine ⟨fun i hi => ?_, by simp; omega⟩
    rcases List.mem_cons.mp hi with rfl | hi
    · exact bareIt_ok _
    · exact ih.1 i hi
  | turn ht h ih =>
    refine ⟨fun i hi => ?_, by simp; omega⟩
    rcases List.mem_cons.mp hi with rfl | hi
    · exact turn_lit ht
    · exact ih.1 i hi
  | any h ih =>
    refine ⟨fun i hi => ?_, by simp; omega⟩
    rcases List.mem_cons.mp hi with rfl | hi
    · trivial
    · exact ih.1 i hi
  | drop h ih => exact ⟨ih.1, by simp; omega⟩
theorem ed_skip (a : List Nat) : ∀ s b : List Nat, ed a (s ++ b) ≤ 2 * (s.length : Int) + ed a b
  | [], b => by simp
  | c :: s, b => by
    have h1 := ed_cons_le2 c a (s ++ b)
    have h2 := ed_skip a s b
    rw [List.cons_append, List.length_cons]; omega
theorem okAt_lit {v : List Nat} {x c : Nat} (hv : v = [x]) (h : okAt v c = true) : c = x := by
  subst hv
  unfold okAt at h
  simp at h
  exact h.symm
theorem ed_step (x y : Nat) (a s b : List Nat) : ed (x :: a) (s ++ y :: b) ≤ 2 * (s.length : Int) + ed a b + sub x y := by
  have h1 := ed_skip (x :: a) s (y :: b)
  have h2 : ed (x :: a) (y :: b) ≤ ed a b + sub x y := by rw [ed_cons]; omega
  omega
theorem Mk.lower {w : List Nat} {p : Int} {is : List It} (h : Mk w p is) : ∀ n, SubM is n → ed w n ≤ 2 * (n.length : Int) + p := by
  induction h with
  | nil => intro n _; rw [ed_nil]; omega
  | @keep c w p is h ih =>
    intro n hn
    obtain ⟨s, d, r, rfl, h1, h2⟩ := hn.split
    have := ih r h2
    have e := okAt_lit (bareIt_val c) h1
    subst e
    have h3 := ed_step d d w s r
    rw [sub_self] at h3
    simp; omega
  | @turn c w p is ht h ih =>
    intro n hn
    obtain ⟨s, d, r, rfl, h1, h2⟩ := hn.split
    have := ih r h2
    have e := okAt_lit (x := Mine.turn c) rfl h1
    subst e
    have h3 := ed_step c (Mine.turn c) w s r
    have h4 := sub_turn c ht
    simp; omega
  | @any c w p is h ih =>
    intro n hn
    obtain ⟨s, d, r, rfl, h1, h2⟩ := hn.split
    have := ih r h2
    have h3 := ed_step c d w s r
    have h4 := sub_le c d
    simp; omega
  | @drop c w p is h ih =>
    intro n hn
    have := ih n hn
    have h1 := ed_cons_le1 c w n
    omega
theorem Mk.upper : ∀ (w n : List Nat), (∀ c ∈ w, Gd c) → (∀ c ∈ n, Gd c) → ∃ p is, Mk w p is ∧ SubM is n ∧ 2 * (n.length : Int) + p ≤ ed w n
  | [], n, _, _ => ⟨0, [], .nil, .nil n, by rw [ed_nil]; omega⟩
  | x :: w, [], hw, hn => by
    obtain ⟨p, is, h1, h2, h3⟩ := Mk.upper w [] (fun c hc => hw c (List.mem_cons_of_mem _ hc)) hn
    refine ⟨2 + p, is, .drop h1, h2, ?_⟩
    rw [ed_nil'] at *
    simp at *; omega
  | x :: w, y :: n, hw, hn => by
    have hw' : ∀ c ∈ w, Gd c := fun c hc => hw c (List.mem_cons_of_mem _ hc)
    have hn' : ∀ c ∈ n, Gd c := fun c hc => hn c (List.mem_cons_of_mem _ hc)
    rw [ed_cons]
    rcases Int.le_total (ed w n + sub x y) (min (ed w (y :: n) + 2) (ed (x :: w) n + 2)) with q | q
    · rw [Int.min_eq_left q]
      obtain ⟨p, is, h1, h2, h3⟩ := Mk.upper w n hw' hn'
      rcases sub_cases x y with ⟨e, hs⟩ | hs | hs
      · subst e
        refine ⟨-2 + p, bareIt x :: is, .keep h1, .take (by rw [bareIt_val]; simp [okAt]) h2, ?_⟩
        simp; omega
      · obtain ⟨e, ht⟩ := turn_of_sub (hw x List.mem_cons_self) (hn y List.mem_cons_self) hs
        subst e
        refine ⟨-1 + p, .lit (Mine.turn x) :: is, .turn ht h1, .take (by simp [okAt, It.val]) h2, ?_⟩
        simp; omega
      · refine ⟨p, .any :: is, .any h1, .take (by simp [okAt, It.val]) h2, ?_⟩
        simp; omega
    · rw [Int.min_eq_right q]
      rcases Int.le_total (ed w (y :: n) + 2) (ed (x :: w) n + 2) with q | q
      · rw [Int.min_eq_left q]
        obtain ⟨p, is, h1, h2, h3⟩ := Mk.upper w (y :: n) hw' hn
        exact ⟨2 + p, is, .drop h1, h2, by omega⟩
      · rw [Int.min_eq_right q]
        obtain ⟨p, is, h1, h2, h3⟩ := Mk.upper (x :: w) n hw hn'
        exact ⟨p, is, h1, .skip h2, by simp; omega⟩
termination_by w n => w.length + n.length
theorem find_first {α : Type} {P : α → Bool} {R : α → α → Prop} (rf : ∀ a, R a a) : ∀ {l : List α} {r x : α}, l.Pairwise R → l.find? P = some r → x ∈ l → P x = true → R r x
  | [], r, x, _, h, _, _ => by cases h
  | a :: l, r, x, hp, h, hx, px => by
    by_cases q : P a = true
    · rw [List.find?_cons_of_pos q] at h
      cases h
      rcases List.mem_cons.mp hx with rfl | hx
      · exact rf _
      · exact (List.pairwise_cons.mp hp).1 x hx
    · rw [List.find?_cons_of_neg q] at h
      rcases List.mem_cons.mp hx with rfl | hx
      · exact absurd px q
      · exact find_first rf (List.pairwise_cons.mp hp).2 h hx px
theorem rowLe_fst {a b : Row} (h : rowLe a b) : a.1 ≤ b.1 := by
  have h : decide (b.1 < a.1 ∨ (b.1 = a.1 ∧ b.2 < a.2)) = false := h
  have := of_decide_eq_false h
  omega
theorem plain02 : Plain02 := by
  intro w n hw hn lw ln
  refine ⟨fun r hr => ?_, fun rows hp hs => ?_⟩
  · obtain ⟨r0, h0, p, js, hm, rfl⟩ := (mem_mkAllI w _ r).mp hr
    obtain rfl := List.mem_singleton.mp h0
    have := hm.ok
    refine ⟨by simpa using this.1, ?_⟩
    simp; omega
  · refine ⟨ed w n, ?_, ed_nonneg w n, fun m => ⟨lev_spec (by omega) (by omega) m, ?_⟩⟩
    · have mem : ∀ r, r ∈ rows → ∃ p js, Mk w p js ∧ r = (2 * (n.length : Int) + p, js) := fun r hr => by
        obtain ⟨r0, h0, p, js, hm, rfl⟩ := (mem_mkAllI w _ r).mp (hp.mem_iff.mp hr)
        obtain rfl := List.mem_singleton.mp h0
        exact ⟨p, js, hm, by simp⟩
      obtain ⟨p, is, h1, h2, h3⟩ := Mk.upper w n hw hn
      have hx : ((2 * (n.length : Int) + p, is) : RowI) ∈ rows := hp.mem_iff.mpr ((mem_mkAllI w _ _).mpr ⟨_, List.mem_singleton_self _, p, is, h1, by simp⟩)
      have px : takes2 ((2 * (n.length : Int) + p, is) : RowI).2 n = true := (takes2_iff is n).mpr h2
      unfold firstTakes
      cases hf : rows.find? (fun r => takes2 r.2 n) with
      | none =>
        have := List.find?_eq_none.mp hf _ hx
        exact absurd px this
      | some r =>
        dsimp only
        have hr := List.mem_of_find?_eq_some hf
        have hr2 : takes2 r.2 n = true := List.find?_some (p := fun r : RowI => takes2 r.2 n) hf
        obtain ⟨p', js, hm, rfl⟩ := mem r hr
        have low := hm.lower n ((takes2_iff js n).mp hr2)
        have hle := find_first (R := fun a b : RowI => rowLe (toRow a) (toRow b)) (fun a => KeyOrd.kle_refl (O := prO) _) (List.pairwise_map.mp hs) hf hx px
        have := rowLe_fst hle
        have this : 2 * (n.length : Int) + p' ≤ 2 * (n.length : Int) + p := this
        show 2 * (n.length : Int) + p' = ed w n
        omega
    · rw [ed_comm w n]; exact lev_spec (by omega) (by omega) m
-- J2
structure ROk2 (p : Program) : Prop where
  sign : RecI p 17 "_law_sign"
  turned : RecI p 18 "_law_turned"
  two : RecI p 19 "_law_two"
  marked : RecI p 20 "_law_marked"
  runs : RecI p 21 "_law_runs"
  fits : RecI p 22 "_law_fits"
  takes : RecI p 23 "_law_takes"
  price : RecI p 24 "_law_price"
  right : RecI p 25 "_law_right"
theorem ints_of_well {q : Params} {h : Heap} : ∀ {vs : List Value} {ns : List Int}, WellAll q h vs (ofPys (ns.map PyData.int)) → IntsAre vs ns
  | _, [], w => by
    cases w; exact .nil
  | _, n :: ns, w => by
    cases w with
    | cons a b =>
      cases a
      exact .cons n _ (ints_of_well b)
theorem aok4 {env : Env} : AOk 4 (callerA.deeper env) := by
  refine ⟨rfl, ?_, ?_⟩
  · show callerA.depth + 1 + 4 < recursionLimit
    decide
  · show callerA.units + 3 + 20 * 4 + 100 < cLine
    decide
theorem join02 {w : World} {s₁ : Shared} {p : Program} {loose loose' : List Str} {mean mean' : ExcName → Option Value} {mg mb : Str → Option Value} {K : Frag} {h₁ : Heap} {m : Str → Option Value} {L l fa tc tp : Addr} {cd : Value} {vs : List Value} {ns : List Int} {tk : Nat}
    {Q : Flow → Shared → Prop} {E : Value → Shared → Prop}
    (T : Top p loose mean mg mb s₁.heap) (hT : TabsAt [(tc, tp)] s₁.heap) (T' : Top topProg loose' mean' mg mb (ghostOf s₁.heap [(tc, tp)])) (X : K.In (ghostOf s₁.heap [(tc, tp)])) (hC : CodeHd (ghostOf s₁.heap [(tc, tp)]) tc tp)
    (F' : Fr (ghostOf s₁.heap [(tc, tp)]) L h₁ m) (N' : News (ghostOf s₁.heap [(tc, tp)]) L h₁ [(tp, tabObj #[])]) (hg : s₁.gens = #[]) (hl : s₁.heap.get? l = some (listObj vs 0)) (hI : IntsAre vs ns) (hlen : ns.length ≤ 63) (hm : m "script" = some (.ref l))
    (hne : mainGlobals ≠ tp) (k : KOk p K tc tp) (r : ROk p loose) (r2 : ROk2 p)
    (fin : ∀ s' m', Fr (ghostOf s₁.heap [(tc, tp)]) L s'.heap m' → s'.gens = #[] → s'.os = s₁.os → GrownAll [(tc, tp)] s'.heap → Q (.ret (.bool true)) s') :
    wpAny (model P w) (callerA.deeper (lawFm L fa cd 4).env) (execs (fBody P 26) (lawFm L fa cd 4).env) Q E { s₁ with heap := h₁, toks := tk } := by
  have go : GOk (gd P w (ghostOf s₁.heap [(tc, tp)]) K mg mb tc tp) := gok T' X hC hT hne
  have F : Fns (gd P w (ghostOf s₁.heap [(tc, tp)]) K mg mb tc tp) := fns_of T T'.g X hT rfl rfl rfl k r
  have F2 : Fns2 (gd P w (ghostOf s₁.heap [(tc, tp)]) K mg mb tc tp) := ⟨r2.sign.at T hT rfl rfl, r2.turned.at T hT rfl rfl, r2.two.at T hT rfl rfl, r2.runs.at T hT rfl rfl, r2.fits.at T hT rfl rfl, r2.takes.at T hT rfl rfl⟩
  have F3 : Fns3 (gd P w (ghostOf s₁.heap [(tc, tp)]) K mg mb tc tp) := ⟨r2.marked.at T hT rfl rfl, r2.price.at T hT rfl rfl, r2.right.at T hT rfl rfl⟩
  have S : St (gd P w (ghostOf s₁.heap [(tc, tp)]) K mg mb tc tp) (lawFm L fa cd 4) { s₁ with heap := h₁, toks := tk } [("script", .lst (ns.map D.int))] [] :=
    st_of (s := { s₁ with heap := h₁, toks := tk }) go F' N' hg hT hl hI hm (by rfl) (by rfl) (fun L => by rfl) (fun y hy => by
      have h2 := mem_of_lookup hy
      have : ∀ q ∈ (fScope P 26).names, q.2 ≠ NameKind.cell := by decide
      exact this _ h2 rfl)
  refine wpAny_mono (law_body F F2 F3 plain02 (k := 0) hlen _ _ (fun a s' => Q a s') aok4 S fun a b s' ρ' σ' q S' r' p' => ?_) (fun _ _ h => h) fun _ _ h => h.elim
  obtain ⟨rfl, rfl⟩ := q
  cases r' with
  | ret rv =>
    obtain rfl := rv.boolE
    obtain ⟨m', hm'⟩ := S'.ns
    have hr : (s'.os, s'.gens) = (s₁.os, s₁.gens) := p'.os
    obtain ⟨ps, ht, _⟩ := S'.base.tab
    exact fin s' m' ⟨hm', S'.base.keep0, F'.above⟩ ((Prod.mk.inj hr).2.trans hg) (Prod.mk.inj hr).1 ⟨⟨ps, ht⟩, trivial⟩
-- Hk
noncomputable def Kof (as : List Addr) (h : Heap) : Frag := as.filterMap fun a => (h.get? a).map fun o => (a, o)
theorem frag_mem : ∀ {l : List (Addr × Obj)} {a : Addr} {o : Obj}, l.lookup a = some o → (a, o) ∈ l
  | [], _, _, e => by cases e
  | (b, x) :: l, a, o, e => by
    rw [List.lookup_cons] at e
    cases z : a == b with
    | true => rw [z] at e; cases e; rw [beq_iff_eq.mp z]; exact List.mem_cons_self
    | false => rw [z] at e; exact List.mem_cons_of_mem _ (frag_mem e)
theorem Kof_in (as : List Addr) (h : Heap) : (Kof as h).In h := fun a o e => by
  obtain ⟨b, _, q⟩ := List.mem_filterMap.mp (frag_mem e)
  obtain ⟨o', q, z⟩ := Option.map_eq_some_iff.mp q
  cases z; exact q
noncomputable def norm (v : Value) : Value := Value.casesOn (motive := fun _ => Value) v v v v (fun _ => v) (fun i _ => .int i 0) (fun _ _ => v) (fun s _ => .str s 0) (fun _ _ => v) (fun _ => v) (fun _ => v) (fun _ => v)
theorem norm_int {v : Value} {i : Int} (h : norm v = .int i 0) : ∃ t, v = .int i t := by
  cases v <;> first | (cases h; exact ⟨_, rfl⟩) | cases h
theorem norm_str {v : Value} {s : Str} (h : norm v = .str s 0) : ∃ t, v = .str s t := by
  cases v <;> first | (cases h; exact ⟨_, rfl⟩) | cases h
theorem escL_of : ∀ {cs : List Nat} {es : List DictEntry}, (es.map fun e => (e.hash, norm e.key, norm e.val)) = (cs.map fun (c : Nat) => ((c : Int), Value.int (c : Int) 0, Value.str ⟨#[92, c]⟩ 0)) → EscL cs es
  | [], [], _ => .nil
  | [], _ :: _, h => nomatch h
  | _ :: _, [], h => nomatch h
  | c :: cs, ⟨h', k, v⟩ :: es, h => by
    rw [List.map_cons, List.map_cons] at h
    obtain ⟨a, b⟩ := List.cons.inj h
    have a1 : h' = (c : Int) := congrArg Prod.fst a
    obtain ⟨t, rfl⟩ := norm_int (congrArg (fun x => x.2.1) a)
    obtain ⟨t', rfl⟩ := norm_str (congrArg (fun x => x.2.2) a)
    subst a1
    exact .cons (escL_of b)
noncomputable def plainIs (T : Value) (o : Obj) : Bool := decide (o.cls = T) && decide (o.dict = none) && o.slots.isEmpty
theorem plainIs_ok {T : Value} {o : Obj} (h : plainIs T o = true) : o = { cls := T, data := o.data } := by
  obtain ⟨c, d, dt, sl⟩ := o
  simp only [plainIs, Bool.and_eq_true, decide_eq_true_eq, Array.isEmpty_iff] at h
  obtain ⟨⟨rfl, rfl⟩, rfl⟩ := h
  rfl
noncomputable def seqOf (d : Data) : Option (List Value) := match d with | .seq vs _ => some vs.toList | _ => none
noncomputable def fldOf (d : Data) : Option (List Value) := match d with | .fields vs => some vs.toList | _ => none
noncomputable def dctOf (d : Data) : Option (List DictEntry) := match d with | .dict es _ => some es.toList | _ => none
theorem seqOf_ok {d : Data} {l : List Value} (h : seqOf d = some l) : ∃ n, d = .seq l.toArray n := by cases d <;> first | (cases h; exact ⟨_, rfl⟩) | cases h
theorem fldOf_ok {d : Data} {l : List Value} (h : fldOf d = some l) : d = .fields l.toArray := by cases d <;> first | (cases h; rfl) | cases h
theorem dctOf_ok {d : Data} {l : List DictEntry} (h : dctOf d = some l) : ∃ n, d = .dict l.toArray n := by cases d <;> first | (cases h; exact ⟨_, rfl⟩) | cases h
noncomputable def datAt (K : Frag) (a : Addr) (T : String) : Option Data := (K.lookup a).bind fun o => if plainIs (.type T) o = true then some o.data else none
theorem datAt_ok {K : Frag} {a : Addr} {T : String} {d : Data} (h : datAt K a T = some d) : K.lookup a = some { cls := .type T, data := d } := by
  obtain ⟨o, e, h⟩ := Option.bind_eq_some_iff.mp h
  by_cases q : plainIs (.type T) o = true
  · rw [if_pos q] at h; cases h; rw [e, ← plainIs_ok q]
  · rw [if_neg q] at h; cases h
noncomputable abbrev gl (K : Frag) (x : Str) : Option (Option Value) := nsIn K mainGlobals x
theorem gl_int {K : Frag} {x : Str} {i : Int} (h : (gl K x).map (·.map norm) = some (some (.int i 0))) : ∃ t, gl K x = some (some (.int i t)) := by
  obtain ⟨v, e, h⟩ := Option.map_eq_some_iff.mp h
  cases v with
  | none => cases h
  | some v =>
    obtain ⟨t, rfl⟩ := norm_int (Option.some.inj h)
    exact ⟨t, e⟩
structure Look (K : Frag) (tc tp d a c : Addr) : Prop where
  tran : tabIn K (Str.ofString "_translate") = some (tc, tp)
  hd : codeHdIn K tc tp = true
  move : (gl K "_MOVE_COST").map (·.map norm) = some (some (.int 2 0))
  case : (gl K "_CASE_COST").map (·.map norm) = some (some (.int 1 0))
  maxs : (gl K "_MAX_STRING_SIZE").map (·.map norm) = some (some (.int 40 0))
  esc : gl K "_special_chars_map" = some (some (.ref d))
  dm : (d == sysModules) = false
  esct : ((datAt K d "dict").bind dctOf).map (fun l => l.map fun e => (e.hash, norm e.key, norm e.val)) = some (specials.map fun (c : Nat) => ((c : Int), Value.int (c : Int) 0, Value.str ⟨#[92, c]⟩ 0))
  twin : gl K "_twin_re_1" = some (some (.ref a))
  pat : ((datAt K a "re.Pattern").bind fldOf).map (fun l => ((l.take 2).map norm, l.drop 2)) = some ([.str "([&~|])" 0, .int 32 0], [.int 1 0, .none, .none, .ref c, .int 0 0])
  code : (datAt K c "tuple").bind seqOf = some (twinCode.map fun (k : Nat) => Value.int (k : Int) 0)
  cls : (K.all fun p => decide (p.2.cls ≠ .none)) = true
noncomputable def lookK (K : Frag) (tc tp d a c : Addr) : Bool := decide (tabIn K (Str.ofString "_translate") = some (tc, tp)) && (codeHdIn K tc tp && (decide ((gl K "_MOVE_COST").map (·.map norm) = some (some (.int 2 0))) && (decide ((gl K "_CASE_COST").map (·.map norm) = some (some (.int 1 0))) &&
  (decide ((gl K "_MAX_STRING_SIZE").map (·.map norm) = some (some (.int 40 0))) && (decide (gl K "_special_chars_map" = some (some (.ref d))) && (decide ((d == sysModules) = false) &&
  (decide (((datAt K d "dict").bind dctOf).map (fun l => l.map fun e => (e.hash, norm e.key, norm e.val)) = some (specials.map fun (c : Nat) => ((c : Int), Value.int (c : Int) 0, Value.str ⟨#[92, c]⟩ 0))) && (decide (gl K "_twin_re_1" = some (some (.ref a))) &&
  (decide (((datAt K a "re.Pattern").bind fldOf).map (fun l => ((l.take 2).map norm, l.drop 2)) = some ([.str "([&~|])" 0, .int 32 0], [.int 1 0, .none, .none, .ref c, .int 0 0])) &&
  (decide ((datAt K c "tuple").bind seqOf = some (twinCode.map fun (k : Nat) => Value.int (k : Int) 0)) && (K.all fun p => decide (p.2.cls ≠ .none))))))))))))
theorem look_of {K : Frag} {tc tp d a c : Addr} (h : lookK K tc tp d a c = true) : Look K tc tp d a c := by
  simp only [lookK, Bool.and_eq_true, decide_eq_true_eq] at h
  exact ⟨h.1, h.2.1, h.2.2.1, h.2.2.2.1, h.2.2.2.2.1, h.2.2.2.2.2.1, h.2.2.2.2.2.2.1, h.2.2.2.2.2.2.2.1, h.2.2.2.2.2.2.2.2.1, h.2.2.2.2.2.2.2.2.2.1, h.2.2.2.2.2.2.2.2.2.2.1, h.2.2.2.2.2.2.2.2.2.2.2⟩
theorem kok_of {p : Program} {K : Frag} {tc tp d a c : Addr} (x : Look K tc tp d a c) : KOk p K tc tp where
  tran := x.tran
  move := gl_int x.move
  case := gl_int x.case
  maxs := gl_int x.maxs
  esc := by
    obtain ⟨l, e, h⟩ := Option.map_eq_some_iff.mp x.esct
    obtain ⟨dt, e, q⟩ := Option.bind_eq_some_iff.mp e
    obtain ⟨n, rfl⟩ := dctOf_ok q
    exact ⟨d, l.toArray, n, x.esc, x.dm, datAt_ok e, escL_of h⟩
  twin := by
    obtain ⟨l, e, h⟩ := Option.map_eq_some_iff.mp x.pat
    obtain ⟨dt, e, q⟩ := Option.bind_eq_some_iff.mp e
    obtain rfl := fldOf_ok q
    obtain ⟨h1, h2⟩ := Prod.mk.inj h
    obtain ⟨dt', e', q'⟩ := Option.bind_eq_some_iff.mp x.code
    obtain ⟨n, rfl⟩ := seqOf_ok q'
    match l, h1, h2 with
    | u :: v :: r, h1, h2 =>
      have h2 : r = _ := h2
      subst h2
      obtain ⟨b1, b2⟩ := List.cons.inj h1
      obtain ⟨t, rfl⟩ := norm_str b1
      obtain ⟨t', rfl⟩ := norm_int (List.cons.inj b2).1
      exact ⟨a, c, n, t, t', x.twin, datAt_ok e, datAt_ok e'⟩
    | [u], _, h2 => cases h2
    | [], _, h2 => cases h2
theorem frag_ghost {K : Frag} {h : Heap} {tabs : List (Addr × Addr)} (x : K.In h) (hT : TabsAt tabs h) (hc : (K.all fun p => decide (p.2.cls ≠ .none)) = true) : K.In (ghostOf h tabs) := fun a o e =>
  ghost_get hT (x a o e) fun z => of_decide_eq_true (List.all_eq_true.mp hc (a, o) (frag_mem e)) (by subst z; rfl)
noncomputable def lookB (as : List Addr) (tc tp d a c : Addr) (h : Heap) : Bool := lookK (Kof as h) tc tp d a c && decide (((h.get? tp).bind fun o => if plainIs .none o = true then fldOf o.data else none) = some [])
theorem lookB_tab {as : List Addr} {tc tp d a c : Addr} {h : Heap} (e : lookB as tc tp d a c h = true) : h.get? tp = some (tabObj #[]) := by
  obtain ⟨o, e, q⟩ := Option.bind_eq_some_iff.mp (of_decide_eq_true (Bool.and_eq_true_iff.mp e).2)
  by_cases z : plainIs .none o = true
  · rw [if_pos z] at q
    rw [e, plainIs_ok z, fldOf_ok q]
  · rw [if_neg z] at q; cases q
noncomputable def topHook (as : List Addr) (tc tp d a c : Addr) : Hook where
  α := Bool
  obs := fun s => lookB as tc tp d a c s.heap
  val := fun _ => true
  says := fun _ h => ∃ K : Frag, K.In h ∧ Look K tc tp d a c ∧ h.get? tp = some (tabObj #[])
  of := fun w s e => ⟨Kof as s.heap, Kof_in as s.heap, look_of (Bool.and_eq_true_iff.mp e).1, lookB_tab e⟩
  keeps := fun w h h' ⟨K, x, e, t⟩ k => ⟨K, fun a o z => k _ _ (x a o z), e, k _ _ t⟩
-- HdQ
section
set_option maxHeartbeats 0
noncomputable abbrev pwQ := PySem.Challenge.pw_ij0204_02
noncomputable def qv : Program := PySem.W.view pwQ [0,2,3,4,5,6,8,9,11,12,14,15,17,18,19,20,21,22,23,24,25,26]
noncomputable def loose0 : List Str := [Str.ofString "_twin_re_1", Str.ofString "_special_chars_map"]
noncomputable abbrev as0 : List Addr := [mainGlobals, 49, 50, 59, 75, 76]
noncomputable def Xt0 (q : Program) (s : Shared) : Bool := xlAt q [] s && recOk [] s
noncomputable def lookQ (w : World) : Prop := (openEnds PySem.W.Fast.tw14364793385576792824 pwQ w 3956).map (fun s => (PySem.W.Fast.tw4187177175401517315 qv loose0 (importedModules pwQ.main.body) (Xt0 qv) true s, lookB as0 75 71 59 50 49 s.heap)) = some (openGood qv loose0, true)
theorem left1 : ∀ w : World, lookQ ((w.withFollow "comprehension-iter-twice" false).withFollow "special-get-raises" false) := fun w => by unfold lookQ; kernel_rfl
theorem left2 : ∀ w : World, lookQ ((w.withFollow "comprehension-iter-twice" false).withFollow "special-get-raises" true) := fun w => by unfold lookQ; kernel_rfl
theorem left3 : ∀ w : World, lookQ ((w.withFollow "comprehension-iter-twice" true).withFollow "special-get-raises" false) := fun w => by unfold lookQ; kernel_rfl
theorem left4 : ∀ w : World, lookQ ((w.withFollow "comprehension-iter-twice" true).withFollow "special-get-raises" true) := fun w => by unfold lookQ; kernel_rfl
theorem leftQ : ∀ w, lookQ w := fun w => byRow2 "special-get-raises" (P := lookQ) (fun w => byRow2 "comprehension-iter-twice" (P := fun w => lookQ (w.withFollow "special-get-raises" false)) left1 left3 w) (fun w => byRow2 "comprehension-iter-twice" (P := fun w => lookQ (w.withFollow "special-get-raises" true)) left2 left4 w) w
end
-- HdR
section
set_option maxHeartbeats 8000000
noncomputable def qv0 : Program := PySem.W.view PySem.Challenge.pw_ij0204_02 [0,2,3,4,5,6,8,9,11,12,14,15,17,18,19,20,21,22,23,24,25,26]
theorem left0 : LeftO PySem.Challenge.pw_ij0204_02 qv0 loose0 (Xt0 qv0) (topHook as0 75 71 59 50 49).obs (topHook as0 75 71 59 50 49).val 3956 := fun w => by
  have h := leftQ w
  unfold lookQ at h
  rw [← PySem.W.Fast.te14364793385576792824, ← PySem.W.Fast.te4187177175401517315] at h
  exact h
theorem rok02 : ROk qv0 (looseW qv0 loose0) where
  tr := ⟨_, by rfl⟩
  esc := ⟨_, by rfl⟩
  tran := ⟨_, by rfl⟩
  join := ⟨_, by rfl⟩
  sub := ⟨_, by rfl⟩
  lev := ⟨_, by rfl⟩
  free := by decide +kernel
theorem rok2_02 : ROk2 qv0 := ⟨⟨_, by rfl⟩, ⟨_, by rfl⟩, ⟨_, by rfl⟩, ⟨_, by rfl⟩, ⟨_, by rfl⟩, ⟨_, by rfl⟩, ⟨_, by rfl⟩, ⟨_, by rfl⟩, ⟨_, by rfl⟩⟩
end
end Mine
set_option maxHeartbeats 8000000 in
theorem PySem.Challenge.cw_ij0204_02_holds : PySem.Challenge.rw_ij0204_02.Holds := by
  w_on
  refine holds_law (by kernel_rfl) fun said => ?_
  refine holds_open (q := Mine.qv0) (loose := Mine.loose0) (Xt := Mine.Xt0 Mine.qv0) (XP := XL Mine.qv0 []) (Yf := (Mine.topHook Mine.as0 75 71 59 50 49).obs) (Ya := (Mine.topHook Mine.as0 75 71 59 50 49).val) (YP := (Mine.topHook Mine.as0 75 71 59 50 49).says) (N := 3956) Mine.left0 (Mine.topHook Mine.as0 75 71 59 50 49).of (Mine.topHook Mine.as0 75 71 59 50 49).keeps (fun s e => xl_of s (Bool.and_eq_true_iff.mp e).1) XL.keeps (by rfl) (by rfl) (by rfl) (fun s e => recFacts_of (Bool.and_eq_true_iff.mp e).2) (by rfl) (by first | assumption | decide +kernel) (by decide +kernel) ⟨rfl, rfl, rfl, rfl, rfl, by decide +kernel⟩ ?hw ?hc
  case hw => w_witness2
  case hc =>
    intro w s₀ s₁ mg mb G Y fa o pm cd doc dV kV ho hd hcd hD hmg hg args vals as hpre hlay hrd hwl hlo
    have X := (Ground.X G).1
    have V := (Ground.X G).2
    refine Ground.open G ?_
    intro T B D TE TW
    obtain ⟨K, XK, hk, h71⟩ := Y
    have k := Mine.kok_of (p := Mine.qv0) hk
    have hcodeK := hk.hd
    have hcls := hk.cls
    have hT9 : TabsAt [(75, 71)] s₁.heap := List.forall_mem_cons.mpr ⟨⟨codeHd_of_K XK hcodeK, h71⟩, fun _ h => nomatch h⟩
    clear hmg
    wrow_args hpre hlay hrd hwl hlo
    all_goals (
      first | refine callC_kw (enter_call ?_) | refine enter_call ?_
      w_top on
      kn_posts
      w_call any ho hd hcd hD T F
      clear hd)
    rename News _ _ _ _ => N
    rename IntsAre _ _ => hI
    rename Well _ _ _ _ => W1
    rename ¬ ((63 : Nat) : Int) < _ => hlen
    have C' := ghost_code hT9
    have T' := ghost_top hT9 T
    have N' := ghost_news hT9 F N
    have F' := ghost_fr hT9 F
    have X' := Mine.frag_ghost XK hT9 hcls
    simp only [tabNews, List.map_cons, List.map_nil, List.nil_append, List.cons_append] at N'
    cases W1 with
    | list hl hw =>
      refine Mine.join02 (tc := 75) (tp := 71) T hT9 T' X' C'.1 F' N' hg hl (Mine.ints_of_well hw) (by omega) (by rfl) (by decide) k Mine.rok02 Mine.rok2_02 fun s' m' Fz hz hos hG => ⟨?_, hG⟩
      exact goodW_bool Fz hz (raisesW_false (by intro ct h; cases h)) (postW_of rfl (w_eq_bool (w_res rfl) w_lit) rfl) hos
