import JvmDerived
import JvmDerived.Pilot.@@N@@Statement
import JvmDerived.Pilot.@@N@@Code
set_option linter.unusedVariables false
set_option linter.unusedSimpArgs false
namespace Jvm.OwnKit
/-! numbers -/
section Nums
theorem n_int {i : Nat} (hi : i < 2147483648) : (Int32.ofNat i).toInt = i := Int32.toInt_ofNat_small (by simpa using hi)
theorem n_lt {i n : Nat} (hi : i < 2147483648) (hn : n < 2147483648) : Int32.ofNat i < Int32.ofNat n ↔ i < n := by
  rw [Int32.lt_iff_toInt_lt, n_int hi, n_int hn]; omega
theorem n_nn {i : Nat} (hi : i < 2147483648) : ¬ Int32.ofNat i < 0 := by
  rw [Int32.lt_iff_toInt_lt, n_int hi, show (0 : Int32).toInt = 0 from by decide]; omega
theorem n_nat {i : Nat} (hi : i < 2147483648) : (Int32.ofNat i).toNatClampNeg = i := by
  rw [Int32.toNatClampNeg, n_int hi]; simp
theorem n_add (i j : Nat) : Int32.ofNat i + Int32.ofNat j = Int32.ofNat (i + j) := (Int32.ofNat_add i j).symm
theorem n_succ (i : Nat) : Int32.ofNat i + 1 = Int32.ofNat (i + 1) := n_add i 1
theorem n_inj {i n : Nat} (hi : i < 2147483648) (hn : n < 2147483648) : Int32.ofNat i = Int32.ofNat n ↔ i = n := by
  rw [← Int32.toInt_inj, n_int hi, n_int hn]; omega
theorem i_eq {x y : Int32} (h : x.toInt = y.toInt) : x = y := Int32.toInt_inj.mp h
theorem i_lt {x y : Int32} : x < y ↔ x.toInt < y.toInt := Int32.lt_iff_toInt_lt
/-- lists by their places -/
def tab (n : Nat) (f : Nat → Value) : List Value := (List.range n).map f
theorem tab_len (n : Nat) (f : Nat → Value) : (tab n f).length = n := by simp [tab]
theorem tab_get {n i : Nat} {f : Nat → Value} (hi : i < n) : (tab n f)[i]? = some (f i) := by simp [tab, hi]
theorem tab_set (n i : Nat) (f : Nat → Value) (v : Value) : (tab n f).set i v = tab n (fun j => if j = i then v else f j) := by
  refine List.ext_getElem? fun j => ?_
  by_cases hj : j < n
  · rw [tab_get hj, List.getElem?_set]
    by_cases e : i = j
    · subst e; simp [tab_len, hj]
    · rw [if_neg e, tab_get hj, if_neg (fun q => e q.symm)]
  · rw [List.getElem?_eq_none (by simpa [tab] using hj), List.getElem?_eq_none (by simpa [tab] using hj)]
theorem tab_congr {n : Nat} {f g : Nat → Value} (h : ∀ j, j < n → f j = g j) : tab n f = tab n g := by
  refine List.ext_getElem? fun j => ?_
  by_cases hj : j < n
  · rw [tab_get hj, tab_get hj, h j hj]
  · rw [List.getElem?_eq_none (by simpa [tab] using hj), List.getElem?_eq_none (by simpa [tab] using hj)]
theorem tab_rep (n : Nat) (v : Value) : List.replicate n v = tab n (fun _ => v) := by
  refine List.ext_getElem? fun j => ?_
  by_cases hj : j < n
  · rw [tab_get hj, List.getElem?_replicate, if_pos hj]
  · rw [List.getElem?_eq_none (by simpa using hj), List.getElem?_eq_none (by simpa [tab] using hj)]
theorem tab_list (vs : List Value) (d : Value) : vs = tab vs.length (fun j => vs.getD j d) := by
  refine List.ext_getElem? fun j => ?_
  by_cases hj : j < vs.length
  · rw [tab_get hj, List.getD_eq_getElem?_getD, List.getElem?_eq_getElem hj]; rfl
  · rw [List.getElem?_eq_none (by omega), List.getElem?_eq_none (by simpa [tab] using hj)]
theorem map_tab (cs : List Int32) (f : Int32 → Value) : cs.map f = tab cs.length (fun j => f (cs.getD j 0)) := by
  refine List.ext_getElem? fun j => ?_
  by_cases hj : j < cs.length
  · rw [tab_get hj, List.getElem?_map, List.getElem?_eq_getElem hj, List.getD_eq_getElem?_getD, List.getElem?_eq_getElem hj]; rfl
  · rw [List.getElem?_eq_none (by simpa using hj), List.getElem?_eq_none (by simpa [tab] using hj)]
end Nums
end Jvm.OwnKit
namespace Jvm.OwnKit
open Jvm Jvm.ClassFile Sem Op Lib Jvm.Free Jvm.Stand Jvm.LawKit Jvm.RoadKit Bundle
/-! 1. WHAT A WALK KNOWS OF THE HEAP: cells by address: M (made here, writable), N (frozen here), P (handed in, frozen) -/
abbrev Mem : Type := List (Addr × Cell)
abbrev dom (M : Mem) : List Addr := M.map Prod.fst
def OKp (h h' : Heap) (ws : List Addr) : Prop := h.size ≤ h'.size ∧ ∀ (x : Addr) (c : Cell), h[x]? = some c → x ∉ ws → h'[x]? = some c
def OInv (Z : State) (EL : List (String × Nat)) (vmS : Vm) (h0 : Heap) (ws : List Addr) (vm : Vm) (h : Heap) (M N P : Mem) : Prop :=
  CHr Z EL vmS h0 vm h ∧ Ext Z.heap h ∧
  (∀ q ∈ M, h[q.1]? = some q.2 ∧ Safe Z EL vm h q.1 ∧ Z.heap.size ≤ q.1 ∧ (h0.size ≤ q.1 ∨ q.1 ∈ ws)) ∧ (dom M).Nodup ∧
  (∀ q ∈ N, h[q.1]? = some q.2 ∧ q.1 ∉ dom M ∧ (h0.size ≤ q.1 ∨ q.1 ∈ ws ∨ Bk Z EL vmS h0 q.1)) ∧
  (∀ q ∈ P, h[q.1]? = some q.2 ∧ q.1 ∉ dom M)
section Inv
variable {Z : State} {EL : List (String × Nat)} {vmS vm vm1 vm2 : Vm} {h0 h h' h2 : Heap} {ws : List Addr} {M N P M' N' : Mem} {a x : Addr} {c c' cl : Cell} {i sl : Nat} {v : Value}
theorem lt_of (q : h[x]? = some c) : x < h.size := (Array.getElem?_eq_some_iff.mp q).1
theorem ext_trans (E : Ext h h') (E' : Ext h' h2) : Ext h h2 := ⟨Nat.le_trans E.1 E'.1, fun a c q => E'.2 a c (E.2 a c q)⟩
theorem ext_refl (h : Heap) : Ext h h := ⟨Nat.le_refl _, fun _ _ q => q⟩
theorem dom_set (hi : M[i]? = some (a, c)) : dom (M.set i (a, c')) = dom M := by
  induction M generalizing i with
  | nil => simp
  | cons q M ih =>
    cases i with
    | zero => simp at hi; subst hi; rfl
    | succ i => simp only [List.set_cons_succ, dom, List.map_cons]; exact congrArg _ (ih (by simpa using hi))
theorem mem_set (hn : (dom M).Nodup) (hi : M[i]? = some (a, c)) : ∀ q ∈ M.set i (a, c'), q = (a, c') ∨ (q ∈ M ∧ q.1 ≠ a) := by
  induction M generalizing i with
  | nil => simp at hi
  | cons r M ih =>
    have hn' := List.nodup_cons.mp (show (r.1 :: dom M).Nodup from hn)
    cases i with
    | zero =>
      simp at hi; subst hi
      intro q hq
      rcases List.mem_cons.mp (show q ∈ (a, c') :: M from hq) with rfl | hq
      · exact Or.inl rfl
      · exact Or.inr ⟨List.mem_cons_of_mem _ hq, fun e => hn'.1 (List.mem_map.mpr ⟨q, hq, e⟩)⟩
    | succ i =>
      have hi' : M[i]? = some (a, c) := by simpa using hi
      intro q hq
      rcases List.mem_cons.mp (show q ∈ r :: M.set i (a, c') from hq) with rfl | hq
      · exact Or.inr ⟨List.mem_cons_self .., fun e => hn'.1 (List.mem_map.mpr ⟨(a, c), List.mem_of_getElem? hi', e.symm⟩)⟩
      · rcases ih hn'.2 hi' q hq with e | ⟨e1, e2⟩
        · exact Or.inl e
        · exact Or.inr ⟨List.mem_cons_of_mem _ e1, e2⟩
theorem OInv.alloc (I : OInv Z EL vmS h0 ws vm h M N P) (E : Ext h h') (hc : h'[h.size]? = some c) : OInv Z EL vmS h0 ws vm h' ((h.size, c) :: M) N P := by
  obtain ⟨C, EZ, hM, hn, hN, hP⟩ := I
  have nin : ∀ q : Addr × Cell, h[q.1]? = some q.2 → q.1 ≠ h.size := fun q e z => absurd z (Nat.ne_of_lt (lt_of e))
  refine ⟨C.trans (CHr.ext E C.1), ext_trans EZ E, fun q hq => ?_, ?_, fun q hq => ?_, fun q hq => ?_⟩
  · rcases List.mem_cons.mp hq with rfl | hq
    · exact ⟨hc, Safe.ext E C.1 (Safe.new (Nat.le_refl _)), EZ.1, Or.inl C.2.1⟩
    · obtain ⟨a1, a2, a3, a4⟩ := hM q hq
      exact ⟨E.2 _ _ a1, a2.ext E C.1, a3, a4⟩
  · refine List.nodup_cons.mpr ⟨fun z => ?_, hn⟩
    obtain ⟨q, hq, e⟩ := List.mem_map.mp z
    exact nin q (hM q hq).1 e
  · obtain ⟨a1, a2, a3⟩ := hN q hq
    exact ⟨E.2 _ _ a1, fun z => (List.mem_cons.mp z).elim (nin q a1) a2, a3⟩
  · obtain ⟨a1, a2⟩ := hP q hq
    exact ⟨E.2 _ _ a1, fun z => (List.mem_cons.mp z).elim (nin q a1) a2⟩
theorem OInv.write (I : OInv Z EL vmS h0 ws vm h M N P) (hi : M[i]? = some (a, c)) (W : Wr h h' a sl v) : OInv Z EL vmS h0 ws vm h' (M.set i (a, c.setSlot sl v)) N P := by
  obtain ⟨C, EZ, hM, hn, hN, hP⟩ := I
  obtain ⟨b1, b2, b3, b4⟩ := hM _ (List.mem_of_getElem? hi)
  have W0 := W
  obtain ⟨cell, w1, w2, w3, rfl⟩ := W
  have e : cell = c := Option.some.inj (w1.symm.trans b1)
  subst e
  have ne : ∀ {y : Addr}, y ≠ a → (h.setIfInBounds a (cell.setSlot sl v))[y]? = h[y]? := fun {y} q => Array.getElem?_setIfInBounds_ne (Ne.symm q)
  have dm := dom_set (c' := cell.setSlot sl v) hi
  refine ⟨C.trans (CHr.wr W0 b2 C.1), ⟨by simpa using EZ.1, fun y cy q => ?_⟩, fun q hq => ?_, by rw [dm]; exact hn, fun q hq => ?_, fun q hq => ?_⟩
  · exact (ne (Nat.ne_of_lt (Nat.lt_of_lt_of_le (lt_of q) b3))).trans (EZ.2 _ _ q)
  · rcases mem_set hn hi q hq with rfl | ⟨hq, e⟩
    · exact ⟨by have := lt_of w1; simp [this], b2.wr W0 C.1 b2, b3, b4⟩
    · obtain ⟨a1, a2, a3, a4⟩ := hM q hq
      exact ⟨by rw [ne e]; exact a1, b2.wr W0 C.1 a2, a3, a4⟩
  · obtain ⟨a1, a2, a3⟩ := hN q hq
    exact ⟨(ne fun z => a2 (by rw [z]; exact List.mem_map.mpr ⟨_, List.mem_of_getElem? hi, rfl⟩)).trans a1, by rw [dm]; exact a2, a3⟩
  · obtain ⟨a1, a2⟩ := hP q hq
    exact ⟨(ne fun z => a2 (by rw [z]; exact List.mem_map.mpr ⟨_, List.mem_of_getElem? hi, rfl⟩)).trans a1, by rw [dm]; exact a2⟩
theorem OInv.later (I : OInv Z EL vmS h0 ws vm h M N P) (D : CHr Z EL vm h vm1 h') (E : Ext h h') : OInv Z EL vmS h0 ws vm1 h' M N P := by
  obtain ⟨C, EZ, hM, hn, hN, hP⟩ := I
  refine ⟨C.trans D, ext_trans EZ E, fun q hq => ?_, hn, fun q hq => ?_, fun q hq => ?_⟩
  · obtain ⟨a1, a2, a3⟩ := hM q hq
    exact ⟨E.2 _ _ a1, D.safe (lt_of a1) a2, a3⟩
  · obtain ⟨a1, a2⟩ := hN q hq
    exact ⟨E.2 _ _ a1, a2⟩
  · obtain ⟨a1, a2⟩ := hP q hq
    exact ⟨E.2 _ _ a1, a2⟩
/-- what is booked may be frozen knowledge too -/
theorem OInv.learn (I : OInv Z EL vmS h0 ws vm h M N P) (q1 : h[a]? = some c) (q2 : a ∉ dom M) (q3 : h0.size ≤ a ∨ a ∈ ws ∨ Bk Z EL vmS h0 a) : OInv Z EL vmS h0 ws vm h M ((a, c) :: N) P := by
  obtain ⟨C, EZ, hM, hn, hN, hP⟩ := I
  refine ⟨C, EZ, hM, hn, fun q hq => ?_, hP⟩
  rcases List.mem_cons.mp hq with rfl | hq
  · exact ⟨q1, q2, q3⟩
  · exact hN q hq
theorem OInv.sub (I : OInv Z EL vmS h0 ws vm h M N P) (hm : M'.Sublist M) (hn' : ∀ q ∈ N', q ∈ N) : OInv Z EL vmS h0 ws vm h M' N' [] := by
  obtain ⟨C, EZ, hM, hn, hN, hP⟩ := I
  exact ⟨C, EZ, fun q hq => hM q (hm.subset hq), (hm.map Prod.fst).nodup hn, fun q hq => ⟨(hN q (hn' q hq)).1, fun z => (hN q (hn' q hq)).2.1 ((hm.map Prod.fst).subset z), (hN q (hn' q hq)).2.2⟩, fun q hq => nomatch hq⟩
/-- one cell of M is written no more -/
theorem OInv.freeze (I : OInv Z EL vmS h0 ws vm h ((a, c) :: M) N P) : OInv Z EL vmS h0 ws vm h M ((a, c) :: N) P := by
  obtain ⟨C, EZ, hM, hn, hN, hP⟩ := I
  have hn' := List.nodup_cons.mp (show (a :: dom M).Nodup from hn)
  obtain ⟨b1, b2, b3, b4⟩ := hM _ (List.mem_cons_self ..)
  refine ⟨C, EZ, fun q hq => hM q (List.mem_cons_of_mem _ hq), hn'.2, fun q hq => ?_, fun q hq => ⟨(hP q hq).1, fun z => (hP q hq).2 (List.mem_cons_of_mem _ z)⟩⟩
  rcases List.mem_cons.mp hq with rfl | hq
  · exact ⟨b1, hn'.1, b4.imp id Or.inl⟩
  · exact ⟨(hN q hq).1, fun z => (hN q hq).2.1 (List.mem_cons_of_mem _ z), (hN q hq).2.2⟩
/-- the cells of M in another order -/
theorem OInv.perm (I : OInv Z EL vmS h0 ws vm h M N P) (hp : M'.Perm M) : OInv Z EL vmS h0 ws vm h M' N P := by
  obtain ⟨C, EZ, hM, hn, hN, hP⟩ := I
  have hd : (dom M').Perm (dom M) := hp.map _
  exact ⟨C, EZ, fun q hq => hM q (hp.subset hq), hd.nodup_iff.mpr hn, fun q hq => ⟨(hN q hq).1, fun z => (hN q hq).2.1 (hd.subset z), (hN q hq).2.2⟩, fun q hq => ⟨(hP q hq).1, fun z => (hP q hq).2 (hd.subset z)⟩⟩
theorem OInv.at (I : OInv Z EL vmS h0 ws vm h M N P) {q : Addr × Cell} (hq : q ∈ M ++ (N ++ P)) : h[q.1]? = some q.2 := by
  rcases List.mem_append.mp hq with hq | hq
  · exact (I.2.2.1 q hq).1
  · rcases List.mem_append.mp hq with hq | hq
    · exact (I.2.2.2.2.1 q hq).1
    · exact (I.2.2.2.2.2 q hq).1
variable {Mi Mr Mo No Pc : Mem}
/-- what a callee may ask -/
theorem OInv.hand (I : OInv Z EL vmS h0 ws vm h (Mi ++ Mr) N P) (D : CHr Z EL vm h vm1 h) (hp : ∀ q ∈ Pc, q ∈ Mr ++ (N ++ P)) : OInv Z EL vm1 h (dom Mi) vm1 h Mi [] Pc := by
  obtain ⟨C, EZ, hM, hn, hN, hP⟩ := I.later D (ext_refl h)
  rw [dom, List.map_append] at hn
  obtain ⟨n1, n2, n3⟩ := List.nodup_append.mp hn
  refine ⟨CHr.refl D.1, EZ, fun q hq => ?_, n1, fun q hq => (nomatch hq), fun q hq => ?_⟩
  · obtain ⟨a1, a2, a3, -⟩ := hM q (List.mem_append_left _ hq)
    exact ⟨a1, a2, a3, Or.inr (List.mem_map.mpr ⟨q, hq, rfl⟩)⟩
  · rcases List.mem_append.mp (hp q hq) with hq | hq
    · exact ⟨(hM q (List.mem_append_right _ hq)).1, fun z => n3 _ z _ (List.mem_map.mpr ⟨q, hq, rfl⟩) rfl⟩
    · have sub : q.1 ∈ dom Mi → q.1 ∈ dom (Mi ++ Mr) := fun z => by rw [dom, List.map_append]; exact List.mem_append_left _ z
      rcases List.mem_append.mp hq with hq | hq
      · exact ⟨(hN q hq).1, fun z => (hN q hq).2.1 (sub z)⟩
      · exact ⟨(hP q hq).1, fun z => (hP q hq).2 (sub z)⟩
/-- what stands behind a call -/
theorem OInv.call (I : OInv Z EL vmS h0 ws vm h (Mi ++ Mr) N P) (D : CHr Z EL vm h vm1 h) (J : OInv Z EL vm1 h (dom Mi) vm2 h2 Mo No []) (K : OKp h h2 (dom Mi)) : OInv Z EL vmS h0 ws vm2 h2 (Mo ++ Mr) (No ++ N) P := by
  obtain ⟨C, EZ, hM, hn, hN, hP⟩ := I.later D (ext_refl h)
  obtain ⟨C', EZ', hM', hn', hN', -⟩ := J
  rw [dom, List.map_append] at hn
  obtain ⟨n1, n2, n3⟩ := List.nodup_append.mp hn
  have sub : ∀ {y : Addr}, y ∈ dom Mi → y ∈ dom (Mi ++ Mr) := fun {y} z => by rw [dom, List.map_append]; exact List.mem_append_left _ z
  have subr : ∀ {y : Addr}, y ∈ dom Mr → y ∈ dom (Mi ++ Mr) := fun {y} z => by rw [dom, List.map_append]; exact List.mem_append_right _ z
  have up : ∀ {y : Addr}, h.size ≤ y ∨ y ∈ dom Mi → h0.size ≤ y ∨ y ∈ ws := fun {y} z => by
    rcases z with z | z
    · exact Or.inl (Nat.le_trans C.2.1 z)
    · obtain ⟨q, hq, rfl⟩ := List.mem_map.mp z
      exact (hM q (List.mem_append_left _ hq)).2.2.2
  have far : ∀ {y : Addr} {q : Addr × Cell}, h.size ≤ y ∨ y ∈ dom Mi → q ∈ Mr → q.1 ≠ y := fun {y q} z hq e => by
    rcases z with z | z
    · rw [← e] at z; exact Nat.not_lt.mpr z (lt_of (hM q (List.mem_append_right _ hq)).1)
    · exact n3 _ z _ (List.mem_map.mpr ⟨q, hq, rfl⟩) e.symm
  refine ⟨C.trans C', EZ', fun q hq => ?_, ?_, fun q hq => ?_, fun q hq => ?_⟩
  · rcases List.mem_append.mp hq with hq | hq
    · obtain ⟨a1, a2, a3, a4⟩ := hM' q hq
      exact ⟨a1, a2, a3, up a4⟩
    · obtain ⟨a1, a2, a3, a4⟩ := hM q (List.mem_append_right _ hq)
      exact ⟨K.2 _ _ a1 fun z => n3 _ z _ (List.mem_map.mpr ⟨q, hq, rfl⟩) rfl, C'.safe (lt_of a1) a2, a3, a4⟩
  · rw [dom, List.map_append]
    refine List.nodup_append.mpr ⟨hn', n2, fun y hy z hz e => ?_⟩
    obtain ⟨q, hq, rfl⟩ := List.mem_map.mp hy
    obtain ⟨r, hr, rfl⟩ := List.mem_map.mp hz
    exact far (hM' q hq).2.2.2 hr e.symm
  · rcases List.mem_append.mp hq with hq | hq
    · obtain ⟨a1, a2, a3⟩ := hN' q hq
      refine ⟨a1, fun z => ?_, ?_⟩
      · rw [dom, List.map_append] at z
        rcases List.mem_append.mp z with z | z
        · exact a2 z
        · obtain ⟨r, hr, e⟩ := List.mem_map.mp z
          rcases a3 with a3 | a3 | a3
          · exact far (Or.inl a3) hr e
          · exact far (Or.inr a3) hr e
          · exact (hM r (List.mem_append_right _ hr)).2.1 (e ▸ a3)
      · rcases a3 with a3 | a3 | a3
        · exact (up (Or.inl a3)).imp id Or.inl
        · exact (up (Or.inr a3)).imp id Or.inl
        · exact (C.2.2 _ a3).elim (fun z => Or.inr (Or.inr z)) Or.inl
    · obtain ⟨a1, a2, a3⟩ := hN q hq
      refine ⟨K.2 _ _ a1 fun z => a2 (sub z), fun z => ?_, a3⟩
      rw [dom, List.map_append] at z
      rcases List.mem_append.mp z with z | z
      · obtain ⟨r, hr, e⟩ := List.mem_map.mp z
        rcases (hM' r hr).2.2.2 with b | b
        · rw [e] at b; exact Nat.not_lt.mpr b (lt_of a1)
        · rw [e] at b; exact a2 (sub b)
      · exact a2 (subr z)
  · obtain ⟨a1, a2⟩ := hP q hq
    refine ⟨K.2 _ _ a1 fun z => a2 (sub z), fun z => ?_⟩
    rw [dom, List.map_append] at z
    rcases List.mem_append.mp z with z | z
    · obtain ⟨r, hr, e⟩ := List.mem_map.mp z
      rcases (hM' r hr).2.2.2 with b | b
      · rw [e] at b; exact Nat.not_lt.mpr b (lt_of a1)
      · rw [e] at b; exact a2 (sub b)
    · exact a2 (subr z)
end Inv
/-! 2. A WALK: OSt (where it stands), OWp (it comes to the end that Q says), OCon (a method's contract) -/
def OSt (p : Program) (l : Launch) (e : Env) (R : Room) (s : State) (m : MethodId) (args : Array Value) (below : List Frame) (meth : Method) (c : Code) (own : String) (Z : State) (EL : List (String × Nat)) (ws : List Addr) (P : Mem)
    (T : State) (M N : Mem) (cells slots : Nat) : Prop :=
  ∃ (vm0 : Vm) (k0 : Nat) (locs : List Loc), Stand p l e R (s.setVm vm0) m args below meth c T locs cells slots ∧ s.Since vm0 k0 ∧ k0 ≤ T.heap.size ∧ Z.Warmed39 vm0 ∧ vm0.findClass own = some m.cls ∧
    (∀ y ∈ locs, s.heap.size ≤ y.base ∨ y.base ∈ ws) ∧ OInv Z EL s.vm s.heap ws vm0 T.heap M N P
def OEnd (e : Env) (R : Room) (s : State) (below : List Frame) (Z : State) (EL : List (String × Nat)) (ws : List Addr) (Q : Option Value → Mem → Mem → Prop) (U : State) : Prop :=
  ∃ (v : Option Value) (L : List Loc), U.status = .running ∧ Ended U below (.returned v) ∧ (∃ M N, Q v M N ∧ OInv Z EL s.vm s.heap ws U.vm U.heap M N []) ∧ OKp s.heap U.heap ws ∧ (∀ y ∈ L, s.heap.size ≤ y.base ∨ y.base ∈ ws) ∧ ReturnedEndW s (.returned v) U L R.cells R.slots
def OWp (p : Program) (l : Launch) (e : Env) (R : Room) (s : State) (m : MethodId) (args : Array Value) (below : List Frame) (meth : Method) (c : Code) (own : String) (Z : State) (EL : List (String × Nat)) (ws : List Addr) (P : Mem)
    (Q : Option Value → Mem → Mem → Prop) (M N : Mem) (cells slots pc : Nat) (L : List Slot) (S : List Value) : Prop :=
  ∀ T, OSt p l e R s m args below meth c own Z EL ws P T M N cells slots → ∃ U, Steps p.tables e below (T.setTop (mkF m pc L.toArray S)) U ∧ OEnd e R s below Z EL ws Q U
def OOk (p : Program) (bytes : ByteArray) (maxL : Nat) (ret : Option FieldType) (nm : String) (meth : Method) (c : Code) (Z : State) (a0 : Array Value) (EL : List (String × Nat)) : Prop :=
  p.tables.exec = Jvm.exec ∧ c.code = bytes ∧ c.maxLocals = maxL ∧ meth.sig.returnType = ret ∧ meth.locks = false ∧ meth.name = nm ∧ EW Z a0 EL
def OCon (l : Launch) (Z : State) (EL : List (String × Nat)) (y : MethodName) (bytes : ByteArray) (maxL : Nat) (ret : Option FieldType) (xs : List Jvm.Cond) (rm : Room) (as' : Array Value) (Mi P : Mem) (Q : Option Value → Mem → Mem → Prop) : Prop :=
  MetFree l y (head1 (Jvm.Cond.code y bytes maxL ret :: xs) rm) (fun a U => a = as' ∧ Z.Warmed39 U.vm ∧ OInv Z EL U.vm U.heap (dom Mi) U.vm U.heap Mi [] P) (fun _ _ _ _ _ => True)
    (fun _ U o U' => ∃ v L, o = .returned v ∧ (∃ M N, Q v M N ∧ OInv Z EL U.vm U.heap (dom Mi) U'.vm U'.heap M N []) ∧ OKp U.heap U'.heap (dom Mi) ∧ (∀ y ∈ L, U.heap.size ≤ y.base ∨ y.base ∈ dom Mi) ∧ ReturnedEndW U o U' L rm.cells rm.slots)
section Walk
variable {p : Program} {l : Launch} {e : Env} {R : Room} {s : State} {m : MethodId} {args : Array Value} {below : List Frame} {meth : Method} {c : Code} {own : String} {Z : State} {a0 : Array Value} {EL : List (String × Nat)} {ws : List Addr} {P : Mem} {Q : Option Value → Mem → Mem → Prop} {M N : Mem} {cells slots pc pc' : Nat} {L L' : List Slot} {S S' rest : List Value} {bytes : ByteArray} {maxL : Nat} {ret : Option FieldType} {nm : String}
theorem okp_of {vm0 : Vm} {T : State} {locs : List Loc} (X : Stand p l e R (s.setVm vm0) m args below meth c T locs cells slots) (hL : ∀ y ∈ locs, s.heap.size ≤ y.base ∨ y.base ∈ ws) : OKp s.heap T.heap ws := by
  obtain ⟨-, q1, -, -, -, q2⟩ := X.same
  refine ⟨q1, fun x cx hx hnx => ?_⟩
  obtain ⟨c', r1, r2, r3, r4⟩ := q2 x cx hx
  have r1 : T.heap[x]? = some c' := r1
  have e : c'.slots = cx.slots := Array.ext_getElem? fun i => r4 i fun z => by
    rcases hL _ z with y | y
    · have := lt_of hx; exact absurd y (Nat.not_le.mpr this)
    · exact hnx y
  rw [r1, r2, e]
theorem chat {vm0 vm1 : Vm} {h : Heap} (hW : (s.setVm vm0).WarmedH vm1) (hZ : Z.Warmed39 vm0) (w : EW Z a0 EL) (H : CHv Z EL vm0 h) : CHr Z EL vm0 h vm1 h := by
  have q := CHv.later (h' := h) hZ (hW := (show (Wst Z vm0 h).Warmed39 vm1 from hW.wide)) w ⟨Nat.le_refl _, fun _ _ q => q⟩ (Or.inl hW.interned_eq) H
  exact ⟨q.1, Nat.le_refl _, q.2⟩
/-- a contract by its walk -/
theorem OCon.of_wp {y : MethodName} {xs : List Jvm.Cond} {rm : Room} {as' : Array Value} {Mi : Mem} {L0 : List Slot} (hpl : plainFor y = true) (hEL : EW Z a0 EL) (hent : ∀ m, entryFrame m as' maxL = mkF m 0 L0.toArray [])
    (H : ∀ p e s m below meth c, OOk p bytes maxL ret y.name meth c Z a0 EL → OWp p l e rm s m as' below meth c y.cls Z EL (dom Mi) P Q Mi [] 0 0 0 L0 []) : OCon l Z EL y bytes maxL ret xs rm as' Mi P Q := by
  refine MetFree.of_bodySF hpl hisR ?_
  intro p e s m args below meth c s₁ Bd hml0 hP hK
  obtain ⟨rfl, hZ, I⟩ := hP
  have X0 : Stand p l e rm s m args below meth c s₁ [] 0 0 := Stand.of_body Bd
  have hown : s.vm.findClass y.cls = some m.cls := findClass_of_methodNamed Bd.named
  have hnm := (name_of_methodNamed Bd.named Bd.method).1
  have hh : s₁.heap = s.heap := by rw [Bd.state]; rfl
  obtain ⟨U, st, v, L, h1, h2, h3, h4, h5, h6⟩ := H p e s m below meth c ⟨Bd.exec, Bd.bytes, hml0, Bd.returns, Bd.notSynchronized, hnm, hEL⟩ s₁
    ⟨s.vm, 0, [], X0, (State.WarmedH.refl s).since 0, Nat.zero_le _, hZ, hown, fun _ q => (nomatch q), by rw [hh]; exact I⟩
  refine ⟨U, .returned v, ?_, h1, h2, v, L, rfl, h3, h4, h5, h6⟩
  rw [hent m]; exact st
/-- a step that leaves all but the frame -/
theorem OWp.pure (H : ∀ T target, At T m c below → Steps p.tables e below (T.setTop (mkF m pc' L'.toArray S')) target → Steps p.tables e below (T.setTop (mkF m pc L.toArray S)) target)
    (k : OWp p l e R s m args below meth c own Z EL ws P Q M N cells slots pc' L' S') : OWp p l e R s m args below meth c own Z EL ws P Q M N cells slots pc L S := fun T hT => by
  obtain ⟨U, st, r⟩ := k T hT
  obtain ⟨vm0, k0, locs, X, -⟩ := hT
  exact ⟨U, H T U X.here st, r⟩
/-- one word lies in the slot, or none -/
def o1 : Slot → Bool
  | .unset => true
  | .val w => w.category == 1
  | .second => false
theorem store_l {L : List Slot} {k : Nat} {v : Value} (ho : (L[k]?).any o1 = true) (hv : v.category = 1) : storeLocals L.toArray k v = some (L.set k (.val v)).toArray := by
  cases hk : L[k]? with
  | none => rw [hk] at ho; cases ho
  | some o =>
    rw [hk] at ho
    have ho' : o1 o = true := ho
    rw [Jvm.Free.XS.store1 (l := L.toArray) (i := k) (o := o) (by simpa using hk) (by cases o <;> simp [o1] at ho' ⊢; exact ho') hv]
    simp
section Pure
variable (hk : OOk p bytes maxL ret nm meth c Z a0 EL)
theorem OWp.aload_n {k : Fin 4} {v : Value} (hk : OOk p bytes maxL ret nm meth c Z a0 EL) (hd : decode bytes pc = .ok (.aload_n k, 1)) (hp : pc' = pc + 1) (hl : L[k.val]? = some (.val v)) (hv : v.isRef = true)
    (kk : OWp p l e R s m args below meth c own Z EL ws P Q M N cells slots pc' L (v :: S)) : OWp p l e R s m args below meth c own Z EL ws P Q M N cells slots pc L S := by
  subst hp; exact OWp.pure (fun T t h k => XS.aloadN h hk.1 rfl (hb hk.2.1 hd) (by simpa using hl) hv k) kk
theorem OWp.aload {k : Nat} {v : Value} (hk : OOk p bytes maxL ret nm meth c Z a0 EL) (hd : decode bytes pc = .ok (.aload k, 2)) (hp : pc' = pc + 2) (hl : L[k]? = some (.val v)) (hv : v.isRef = true)
    (kk : OWp p l e R s m args below meth c own Z EL ws P Q M N cells slots pc' L (v :: S)) : OWp p l e R s m args below meth c own Z EL ws P Q M N cells slots pc L S := by
  subst hp; exact OWp.pure (fun T t h k => XS.aload h hk.1 rfl (hb hk.2.1 hd) (by simpa using hl) hv k) kk
theorem OWp.iload_n {k : Fin 4} {v : Int32} (hk : OOk p bytes maxL ret nm meth c Z a0 EL) (hd : decode bytes pc = .ok (.iload_n k, 1)) (hp : pc' = pc + 1) (hl : L[k.val]? = some (.val (.int v)))
    (kk : OWp p l e R s m args below meth c own Z EL ws P Q M N cells slots pc' L (.int v :: S)) : OWp p l e R s m args below meth c own Z EL ws P Q M N cells slots pc L S := by
  subst hp; exact OWp.pure (fun T t h k => XS.iloadN h hk.1 rfl (hb hk.2.1 hd) (by simpa using hl) k) kk
theorem OWp.iload {k : Nat} {v : Int32} (hk : OOk p bytes maxL ret nm meth c Z a0 EL) (hd : decode bytes pc = .ok (.iload k, 2)) (hp : pc' = pc + 2) (hl : L[k]? = some (.val (.int v)))
    (kk : OWp p l e R s m args below meth c own Z EL ws P Q M N cells slots pc' L (.int v :: S)) : OWp p l e R s m args below meth c own Z EL ws P Q M N cells slots pc L S := by
  subst hp; exact OWp.pure (fun T t h k => XS.iload h hk.1 rfl (hb hk.2.1 hd) (by simpa using hl) k) kk
theorem OWp.lload_n {k : Fin 4} {v : Int64} (hk : OOk p bytes maxL ret nm meth c Z a0 EL) (hd : decode bytes pc = .ok (.lload_n k, 1)) (hp : pc' = pc + 1) (hl : L[k.val]? = some (.val (.long v)))
    (kk : OWp p l e R s m args below meth c own Z EL ws P Q M N cells slots pc' L (.long v :: S)) : OWp p l e R s m args below meth c own Z EL ws P Q M N cells slots pc L S := by
  subst hp; exact OWp.pure (fun T t h k => XS.lloadN h hk.1 rfl (hb hk.2.1 hd) (by simpa using hl) k) kk
theorem OWp.lload {k : Nat} {v : Int64} (hk : OOk p bytes maxL ret nm meth c Z a0 EL) (hd : decode bytes pc = .ok (.lload k, 2)) (hp : pc' = pc + 2) (hl : L[k]? = some (.val (.long v)))
    (kk : OWp p l e R s m args below meth c own Z EL ws P Q M N cells slots pc' L (.long v :: S)) : OWp p l e R s m args below meth c own Z EL ws P Q M N cells slots pc L S := by
  subst hp; exact OWp.pure (fun T t h k => XS.lload h hk.1 rfl (hb hk.2.1 hd) (by simpa using hl) k) kk
theorem OWp.iconst {i : Int} {z : Int32} (hk : OOk p bytes maxL ret nm meth c Z a0 EL) (hd : decode bytes pc = .ok (.iconst i, 1)) (hp : pc' = pc + 1) (hz : Int32.ofInt i = z)
    (kk : OWp p l e R s m args below meth c own Z EL ws P Q M N cells slots pc' L (.int z :: S)) : OWp p l e R s m args below meth c own Z EL ws P Q M N cells slots pc L S := by
  subst hp hz; exact OWp.pure (fun T t h k => XS.iconst h hk.1 rfl (hb hk.2.1 hd) k) kk
theorem OWp.bipush {i : Int} {z : Int32} (hk : OOk p bytes maxL ret nm meth c Z a0 EL) (hd : decode bytes pc = .ok (.bipush i, 2)) (hp : pc' = pc + 2) (hz : (Int8.ofInt i).toInt32 = z)
    (kk : OWp p l e R s m args below meth c own Z EL ws P Q M N cells slots pc' L (.int z :: S)) : OWp p l e R s m args below meth c own Z EL ws P Q M N cells slots pc L S := by
  subst hp hz; exact OWp.pure (fun T t h k => XS.bipush h hk.1 rfl (hb hk.2.1 hd) k) kk
theorem OWp.sipush {i : Int} {z : Int32} (hk : OOk p bytes maxL ret nm meth c Z a0 EL) (hd : decode bytes pc = .ok (.sipush i, 3)) (hp : pc' = pc + 3) (hz : (Int16.ofInt i).toInt32 = z)
    (kk : OWp p l e R s m args below meth c own Z EL ws P Q M N cells slots pc' L (.int z :: S)) : OWp p l e R s m args below meth c own Z EL ws P Q M N cells slots pc L S := by
  subst hp hz; exact OWp.pure (fun T t h k => XS.sipush h hk.1 rfl (hb hk.2.1 hd) k) kk
theorem OWp.lconst {i : Fin 2} {z : Int64} (hk : OOk p bytes maxL ret nm meth c Z a0 EL) (hd : decode bytes pc = .ok (.lconst i, 1)) (hp : pc' = pc + 1) (hz : Int64.ofNat i = z)
    (kk : OWp p l e R s m args below meth c own Z EL ws P Q M N cells slots pc' L (.long z :: S)) : OWp p l e R s m args below meth c own Z EL ws P Q M N cells slots pc L S := by
  subst hp hz; exact OWp.pure (fun T t h k => XS.lconst h hk.1 rfl (hb hk.2.1 hd) k) kk
theorem OWp.aconst_null (hk : OOk p bytes maxL ret nm meth c Z a0 EL) (hd : decode bytes pc = .ok (.aconst_null, 1)) (hp : pc' = pc + 1)
    (kk : OWp p l e R s m args below meth c own Z EL ws P Q M N cells slots pc' L (.null :: S)) : OWp p l e R s m args below meth c own Z EL ws P Q M N cells slots pc L S := by
  subst hp; exact OWp.pure (fun T t h k => XS.aconstNull h hk.1 rfl (hb hk.2.1 hd) k) kk
theorem OWp.iadd {x : Int32} {y : Int32} (hk : OOk p bytes maxL ret nm meth c Z a0 EL) (hd : decode bytes pc = .ok (.iadd, 1)) (hp : pc' = pc + 1) 
    (kk : OWp p l e R s m args below meth c own Z EL ws P Q M N cells slots pc' L (.int (x + y) :: rest)) : OWp p l e R s m args below meth c own Z EL ws P Q M N cells slots pc L (.int y :: .int x :: rest) := by
  subst hp; exact OWp.pure (fun T t h k => XS.iadd h hk.1 rfl (hb hk.2.1 hd) rfl k) kk
theorem OWp.isub {x : Int32} {y : Int32} (hk : OOk p bytes maxL ret nm meth c Z a0 EL) (hd : decode bytes pc = .ok (.isub, 1)) (hp : pc' = pc + 1) 
    (kk : OWp p l e R s m args below meth c own Z EL ws P Q M N cells slots pc' L (.int (x - y) :: rest)) : OWp p l e R s m args below meth c own Z EL ws P Q M N cells slots pc L (.int y :: .int x :: rest) := by
  subst hp; exact OWp.pure (fun T t h k => XS.isub h hk.1 rfl (hb hk.2.1 hd) rfl k) kk
theorem OWp.imul {x : Int32} {y : Int32} (hk : OOk p bytes maxL ret nm meth c Z a0 EL) (hd : decode bytes pc = .ok (.imul, 1)) (hp : pc' = pc + 1) 
    (kk : OWp p l e R s m args below meth c own Z EL ws P Q M N cells slots pc' L (.int (x * y) :: rest)) : OWp p l e R s m args below meth c own Z EL ws P Q M N cells slots pc L (.int y :: .int x :: rest) := by
  subst hp; exact OWp.pure (fun T t h k => XS.imul h hk.1 rfl (hb hk.2.1 hd) rfl k) kk
theorem OWp.iand {x : Int32} {y : Int32} (hk : OOk p bytes maxL ret nm meth c Z a0 EL) (hd : decode bytes pc = .ok (.iand, 1)) (hp : pc' = pc + 1) 
    (kk : OWp p l e R s m args below meth c own Z EL ws P Q M N cells slots pc' L (.int (x &&& y) :: rest)) : OWp p l e R s m args below meth c own Z EL ws P Q M N cells slots pc L (.int y :: .int x :: rest) := by
  subst hp; exact OWp.pure (fun T t h k => XS.iand h hk.1 rfl (hb hk.2.1 hd) rfl k) kk
theorem OWp.ior {x : Int32} {y : Int32} (hk : OOk p bytes maxL ret nm meth c Z a0 EL) (hd : decode bytes pc = .ok (.ior, 1)) (hp : pc' = pc + 1) 
    (kk : OWp p l e R s m args below meth c own Z EL ws P Q M N cells slots pc' L (.int (x ||| y) :: rest)) : OWp p l e R s m args below meth c own Z EL ws P Q M N cells slots pc L (.int y :: .int x :: rest) := by
  subst hp; exact OWp.pure (fun T t h k => XS.ior h hk.1 rfl (hb hk.2.1 hd) rfl k) kk
theorem OWp.ixor {x : Int32} {y : Int32} (hk : OOk p bytes maxL ret nm meth c Z a0 EL) (hd : decode bytes pc = .ok (.ixor, 1)) (hp : pc' = pc + 1) 
    (kk : OWp p l e R s m args below meth c own Z EL ws P Q M N cells slots pc' L (.int (x ^^^ y) :: rest)) : OWp p l e R s m args below meth c own Z EL ws P Q M N cells slots pc L (.int y :: .int x :: rest) := by
  subst hp; exact OWp.pure (fun T t h k => XS.ixor h hk.1 rfl (hb hk.2.1 hd) rfl k) kk
theorem OWp.ishl {x : Int32} {y : Int32} (hk : OOk p bytes maxL ret nm meth c Z a0 EL) (hd : decode bytes pc = .ok (.ishl, 1)) (hp : pc' = pc + 1) 
    (kk : OWp p l e R s m args below meth c own Z EL ws P Q M N cells slots pc' L (.int (x <<< (y &&& 31)) :: rest)) : OWp p l e R s m args below meth c own Z EL ws P Q M N cells slots pc L (.int y :: .int x :: rest) := by
  subst hp; exact OWp.pure (fun T t h k => XS.ishl h hk.1 rfl (hb hk.2.1 hd) rfl k) kk
theorem OWp.ishr {x : Int32} {y : Int32} (hk : OOk p bytes maxL ret nm meth c Z a0 EL) (hd : decode bytes pc = .ok (.ishr, 1)) (hp : pc' = pc + 1) 
    (kk : OWp p l e R s m args below meth c own Z EL ws P Q M N cells slots pc' L (.int (x >>> (y &&& 31)) :: rest)) : OWp p l e R s m args below meth c own Z EL ws P Q M N cells slots pc L (.int y :: .int x :: rest) := by
  subst hp; exact OWp.pure (fun T t h k => XS.ishr h hk.1 rfl (hb hk.2.1 hd) rfl k) kk
theorem OWp.iushr {x : Int32} {y : Int32} (hk : OOk p bytes maxL ret nm meth c Z a0 EL) (hd : decode bytes pc = .ok (.iushr, 1)) (hp : pc' = pc + 1) 
    (kk : OWp p l e R s m args below meth c own Z EL ws P Q M N cells slots pc' L (.int (XT.ushr x y) :: rest)) : OWp p l e R s m args below meth c own Z EL ws P Q M N cells slots pc L (.int y :: .int x :: rest) := by
  subst hp; exact OWp.pure (fun T t h k => XS.iushr h hk.1 rfl (hb hk.2.1 hd) rfl k) kk
theorem OWp.idiv {x : Int32} {y : Int32} (hk : OOk p bytes maxL ret nm meth c Z a0 EL) (hd : decode bytes pc = .ok (.idiv, 1)) (hp : pc' = pc + 1) (hy : y ≠ 0)
    (kk : OWp p l e R s m args below meth c own Z EL ws P Q M N cells slots pc' L (.int (x / y) :: rest)) : OWp p l e R s m args below meth c own Z EL ws P Q M N cells slots pc L (.int y :: .int x :: rest) := by
  subst hp; exact OWp.pure (fun T t h k => XS.idiv h hk.1 rfl (hb hk.2.1 hd) rfl hy k) kk
theorem OWp.ladd {x : Int64} {y : Int64} (hk : OOk p bytes maxL ret nm meth c Z a0 EL) (hd : decode bytes pc = .ok (.ladd, 1)) (hp : pc' = pc + 1) 
    (kk : OWp p l e R s m args below meth c own Z EL ws P Q M N cells slots pc' L (.long (x + y) :: rest)) : OWp p l e R s m args below meth c own Z EL ws P Q M N cells slots pc L (.long y :: .long x :: rest) := by
  subst hp; exact OWp.pure (fun T t h k => XS.ladd h hk.1 rfl (hb hk.2.1 hd) rfl k) kk
theorem OWp.lsub {x : Int64} {y : Int64} (hk : OOk p bytes maxL ret nm meth c Z a0 EL) (hd : decode bytes pc = .ok (.lsub, 1)) (hp : pc' = pc + 1) 
    (kk : OWp p l e R s m args below meth c own Z EL ws P Q M N cells slots pc' L (.long (x - y) :: rest)) : OWp p l e R s m args below meth c own Z EL ws P Q M N cells slots pc L (.long y :: .long x :: rest) := by
  subst hp; exact OWp.pure (fun T t h k => XS.lsub h hk.1 rfl (hb hk.2.1 hd) rfl k) kk
theorem OWp.lmul {x : Int64} {y : Int64} (hk : OOk p bytes maxL ret nm meth c Z a0 EL) (hd : decode bytes pc = .ok (.lmul, 1)) (hp : pc' = pc + 1) 
    (kk : OWp p l e R s m args below meth c own Z EL ws P Q M N cells slots pc' L (.long (x * y) :: rest)) : OWp p l e R s m args below meth c own Z EL ws P Q M N cells slots pc L (.long y :: .long x :: rest) := by
  subst hp; exact OWp.pure (fun T t h k => XS.lmul h hk.1 rfl (hb hk.2.1 hd) rfl k) kk
theorem OWp.land {x : Int64} {y : Int64} (hk : OOk p bytes maxL ret nm meth c Z a0 EL) (hd : decode bytes pc = .ok (.land, 1)) (hp : pc' = pc + 1) 
    (kk : OWp p l e R s m args below meth c own Z EL ws P Q M N cells slots pc' L (.long (x &&& y) :: rest)) : OWp p l e R s m args below meth c own Z EL ws P Q M N cells slots pc L (.long y :: .long x :: rest) := by
  subst hp; exact OWp.pure (fun T t h k => XS.land h hk.1 rfl (hb hk.2.1 hd) rfl k) kk
theorem OWp.lor {x : Int64} {y : Int64} (hk : OOk p bytes maxL ret nm meth c Z a0 EL) (hd : decode bytes pc = .ok (.lor, 1)) (hp : pc' = pc + 1) 
    (kk : OWp p l e R s m args below meth c own Z EL ws P Q M N cells slots pc' L (.long (x ||| y) :: rest)) : OWp p l e R s m args below meth c own Z EL ws P Q M N cells slots pc L (.long y :: .long x :: rest) := by
  subst hp; exact OWp.pure (fun T t h k => XS.lor h hk.1 rfl (hb hk.2.1 hd) rfl k) kk
theorem OWp.lshl {x : Int64} {y : Int32} (hk : OOk p bytes maxL ret nm meth c Z a0 EL) (hd : decode bytes pc = .ok (.lshl, 1)) (hp : pc' = pc + 1) 
    (kk : OWp p l e R s m args below meth c own Z EL ws P Q M N cells slots pc' L (.long (x <<< (y &&& 63).toInt64) :: rest)) : OWp p l e R s m args below meth c own Z EL ws P Q M N cells slots pc L (.int y :: .long x :: rest) := by
  subst hp; exact OWp.pure (fun T t h k => XS.lshl h hk.1 rfl (hb hk.2.1 hd) rfl k) kk
theorem OWp.lushr {x : Int64} {y : Int32} (hk : OOk p bytes maxL ret nm meth c Z a0 EL) (hd : decode bytes pc = .ok (.lushr, 1)) (hp : pc' = pc + 1) 
    (kk : OWp p l e R s m args below meth c own Z EL ws P Q M N cells slots pc' L (.long (x.toUInt64 >>> (y &&& 63).toInt64.toUInt64).toInt64 :: rest)) : OWp p l e R s m args below meth c own Z EL ws P Q M N cells slots pc L (.int y :: .long x :: rest) := by
  subst hp; exact OWp.pure (fun T t h k => XS.lushr h hk.1 rfl (hb hk.2.1 hd) rfl k) kk
theorem OWp.lshr {x : Int64} {y : Int32} (hk : OOk p bytes maxL ret nm meth c Z a0 EL) (hd : decode bytes pc = .ok (.lshr, 1)) (hp : pc' = pc + 1) 
    (kk : OWp p l e R s m args below meth c own Z EL ws P Q M N cells slots pc' L (.long (x >>> (y &&& 63).toInt64) :: rest)) : OWp p l e R s m args below meth c own Z EL ws P Q M N cells slots pc L (.int y :: .long x :: rest) := by
  subst hp; exact OWp.pure (fun T t h k => XS.lshr h hk.1 rfl (hb hk.2.1 hd) rfl k) kk
theorem OWp.i2b {x : Int32} (hk : OOk p bytes maxL ret nm meth c Z a0 EL) (hd : decode bytes pc = .ok (.i2b, 1)) (hp : pc' = pc + 1)
    (kk : OWp p l e R s m args below meth c own Z EL ws P Q M N cells slots pc' L (.int x.toInt8.toInt32 :: rest)) : OWp p l e R s m args below meth c own Z EL ws P Q M N cells slots pc L (.int x :: rest) := by
  subst hp; exact OWp.pure (fun T t h k => XS.i2b h hk.1 rfl (hb hk.2.1 hd) rfl k) kk
theorem OWp.i2c {x : Int32} (hk : OOk p bytes maxL ret nm meth c Z a0 EL) (hd : decode bytes pc = .ok (.i2c, 1)) (hp : pc' = pc + 1)
    (kk : OWp p l e R s m args below meth c own Z EL ws P Q M N cells slots pc' L (.int x.toUInt32.toUInt16.toUInt32.toInt32 :: rest)) : OWp p l e R s m args below meth c own Z EL ws P Q M N cells slots pc L (.int x :: rest) := by
  subst hp; exact OWp.pure (fun T t h k => XS.i2c h hk.1 rfl (hb hk.2.1 hd) rfl k) kk
theorem OWp.i2s {x : Int32} (hk : OOk p bytes maxL ret nm meth c Z a0 EL) (hd : decode bytes pc = .ok (.i2s, 1)) (hp : pc' = pc + 1)
    (kk : OWp p l e R s m args below meth c own Z EL ws P Q M N cells slots pc' L (.int x.toInt16.toInt32 :: rest)) : OWp p l e R s m args below meth c own Z EL ws P Q M N cells slots pc L (.int x :: rest) := by
  subst hp; exact OWp.pure (fun T t h k => XS.i2s h hk.1 rfl (hb hk.2.1 hd) rfl k) kk
theorem OWp.i2l {x : Int32} (hk : OOk p bytes maxL ret nm meth c Z a0 EL) (hd : decode bytes pc = .ok (.i2l, 1)) (hp : pc' = pc + 1)
    (kk : OWp p l e R s m args below meth c own Z EL ws P Q M N cells slots pc' L (.long x.toInt64 :: rest)) : OWp p l e R s m args below meth c own Z EL ws P Q M N cells slots pc L (.int x :: rest) := by
  subst hp; exact OWp.pure (fun T t h k => XS.i2l h hk.1 rfl (hb hk.2.1 hd) rfl k) kk
theorem OWp.l2i {x : Int64} (hk : OOk p bytes maxL ret nm meth c Z a0 EL) (hd : decode bytes pc = .ok (.l2i, 1)) (hp : pc' = pc + 1)
    (kk : OWp p l e R s m args below meth c own Z EL ws P Q M N cells slots pc' L (.int x.toInt32 :: rest)) : OWp p l e R s m args below meth c own Z EL ws P Q M N cells slots pc L (.long x :: rest) := by
  subst hp; exact OWp.pure (fun T t h k => XS.l2i h hk.1 rfl (hb hk.2.1 hd) rfl k) kk
theorem OWp.ineg {x : Int32} (hk : OOk p bytes maxL ret nm meth c Z a0 EL) (hd : decode bytes pc = .ok (.ineg, 1)) (hp : pc' = pc + 1)
    (kk : OWp p l e R s m args below meth c own Z EL ws P Q M N cells slots pc' L (.int (-x) :: rest)) : OWp p l e R s m args below meth c own Z EL ws P Q M N cells slots pc L (.int x :: rest) := by
  subst hp; exact OWp.pure (fun T t h k => XS.ineg h hk.1 rfl (hb hk.2.1 hd) rfl k) kk
theorem OWp.istore {k : Nat} {x : Int32} (hk : OOk p bytes maxL ret nm meth c Z a0 EL) (hd : decode bytes pc = .ok (.istore k, 2)) (hp : pc' = pc + 2) (ho : (L[k]?).any o1 = true) (hl : L.set k (.val (.int x)) = L')
    (kk : OWp p l e R s m args below meth c own Z EL ws P Q M N cells slots pc' L' rest) : OWp p l e R s m args below meth c own Z EL ws P Q M N cells slots pc L (.int x :: rest) := by
  subst hp hl; exact OWp.pure (fun T t h k => XS.istore h hk.1 rfl (hb hk.2.1 hd) rfl (store_l ho rfl) k) kk
theorem OWp.istore_n {k : Fin 4} {kn : Nat} {x : Int32} (hk : OOk p bytes maxL ret nm meth c Z a0 EL) (hd : decode bytes pc = .ok (.istore_n k, 1)) (hp : pc' = pc + 1) (hkn : k.val = kn) (ho : (L[kn]?).any o1 = true) (hl : L.set kn (.val (.int x)) = L')
    (kk : OWp p l e R s m args below meth c own Z EL ws P Q M N cells slots pc' L' rest) : OWp p l e R s m args below meth c own Z EL ws P Q M N cells slots pc L (.int x :: rest) := by
  subst hp hl hkn; exact OWp.pure (fun T t h k => XS.istoreN h hk.1 rfl (hb hk.2.1 hd) rfl (store_l ho rfl) k) kk
theorem OWp.astore {k : Nat} {x : Value} (hk : OOk p bytes maxL ret nm meth c Z a0 EL) (hd : decode bytes pc = .ok (.astore k, 2)) (hp : pc' = pc + 2) (hv : x.isRef = true) (ho : (L[k]?).any o1 = true) (hl : L.set k (.val x) = L')
    (kk : OWp p l e R s m args below meth c own Z EL ws P Q M N cells slots pc' L' rest) : OWp p l e R s m args below meth c own Z EL ws P Q M N cells slots pc L (x :: rest) := by
  subst hp hl; exact OWp.pure (fun T t h k => XS.astore h hk.1 rfl (hb hk.2.1 hd) rfl hv (store_l ho (XT.cat1 hv)) k) kk
theorem OWp.astore_n {k : Fin 4} {kn : Nat} {x : Value} (hk : OOk p bytes maxL ret nm meth c Z a0 EL) (hd : decode bytes pc = .ok (.astore_n k, 1)) (hp : pc' = pc + 1) (hkn : k.val = kn) (hv : x.isRef = true) (ho : (L[kn]?).any o1 = true) (hl : L.set kn (.val x) = L')
    (kk : OWp p l e R s m args below meth c own Z EL ws P Q M N cells slots pc' L' rest) : OWp p l e R s m args below meth c own Z EL ws P Q M N cells slots pc L (x :: rest) := by
  subst hp hl hkn; exact OWp.pure (fun T t h k => XS.astoreN h hk.1 rfl (hb hk.2.1 hd) rfl hv (store_l ho (XT.cat1 hv)) k) kk
theorem OWp.lstore {k : Nat} {x : Int64} (hk : OOk p bytes maxL ret nm meth c Z a0 EL) (hd : decode bytes pc = .ok (.lstore k, 2)) (hp : pc' = pc + 2) (hl : storeLocals L.toArray k (.long x) = some L'.toArray)
    (kk : OWp p l e R s m args below meth c own Z EL ws P Q M N cells slots pc' L' rest) : OWp p l e R s m args below meth c own Z EL ws P Q M N cells slots pc L (.long x :: rest) := by
  subst hp; exact OWp.pure (fun T t h k => XS.lstore h hk.1 rfl (hb hk.2.1 hd) rfl hl k) kk
theorem OWp.lstore_n {k : Fin 4} {kn : Nat} {x : Int64} (hk : OOk p bytes maxL ret nm meth c Z a0 EL) (hd : decode bytes pc = .ok (.lstore_n k, 1)) (hp : pc' = pc + 1) (hkn : k.val = kn) (hl : storeLocals L.toArray kn (.long x) = some L'.toArray)
    (kk : OWp p l e R s m args below meth c own Z EL ws P Q M N cells slots pc' L' rest) : OWp p l e R s m args below meth c own Z EL ws P Q M N cells slots pc L (.long x :: rest) := by
  subst hp hkn; exact OWp.pure (fun T t h k => XS.lstoreN h hk.1 rfl (hb hk.2.1 hd) rfl hl k) kk
theorem OWp.iinc {k : Nat} {cst : Int} {x z : Int32} (hk : OOk p bytes maxL ret nm meth c Z a0 EL) (hd : decode bytes pc = .ok (.iinc k cst, 3)) (hp : pc' = pc + 3) (hx : L[k]? = some (.val (.int x))) (hz : Int32.ofInt cst = z) (hl : L.set k (.val (.int (x + z))) = L')
    (kk : OWp p l e R s m args below meth c own Z EL ws P Q M N cells slots pc' L' S) : OWp p l e R s m args below meth c own Z EL ws P Q M N cells slots pc L S := by
  subst hp hl hz; exact OWp.pure (fun T t h k => XS.iinc h hk.1 rfl (hb hk.2.1 hd) (by simpa using hx) (store_l (by rw [hx]; rfl) rfl) k) kk
theorem OWp.dup {x : Value} (hk : OOk p bytes maxL ret nm meth c Z a0 EL) (hd : decode bytes pc = .ok (.dup, 1)) (hp : pc' = pc + 1) (hc : x.category = 1)
    (kk : OWp p l e R s m args below meth c own Z EL ws P Q M N cells slots pc' L (x :: x :: rest)) : OWp p l e R s m args below meth c own Z EL ws P Q M N cells slots pc L (x :: rest) := by
  subst hp; exact OWp.pure (fun T t h k => XS.dup h hk.1 rfl (hb hk.2.1 hd) rfl hc k) kk
theorem OWp.dup_x1 {x y : Value} (hk : OOk p bytes maxL ret nm meth c Z a0 EL) (hd : decode bytes pc = .ok (.dup_x1, 1)) (hp : pc' = pc + 1) (hc : x.category = 1) (hc' : y.category = 1)
    (kk : OWp p l e R s m args below meth c own Z EL ws P Q M N cells slots pc' L (x :: y :: x :: rest)) : OWp p l e R s m args below meth c own Z EL ws P Q M N cells slots pc L (x :: y :: rest) := by
  subst hp; exact OWp.pure (fun T t h k => XS.dupX1 h hk.1 rfl (hb hk.2.1 hd) rfl hc hc' k) kk
theorem OWp.dup2 {x y : Value} (hk : OOk p bytes maxL ret nm meth c Z a0 EL) (hd : decode bytes pc = .ok (.dup2, 1)) (hp : pc' = pc + 1) (hc : x.category = 1) (hc' : y.category = 1)
    (kk : OWp p l e R s m args below meth c own Z EL ws P Q M N cells slots pc' L (x :: y :: x :: y :: rest)) : OWp p l e R s m args below meth c own Z EL ws P Q M N cells slots pc L (x :: y :: rest) := by
  subst hp; exact OWp.pure (fun T t h k => XT.dup2 h hk.1 rfl (hb hk.2.1 hd) rfl hc hc' k) kk
theorem OWp.pop {x : Value} (hk : OOk p bytes maxL ret nm meth c Z a0 EL) (hd : decode bytes pc = .ok (.pop, 1)) (hp : pc' = pc + 1) (hc : x.category = 1)
    (kk : OWp p l e R s m args below meth c own Z EL ws P Q M N cells slots pc' L rest) : OWp p l e R s m args below meth c own Z EL ws P Q M N cells slots pc L (x :: rest) := by
  subst hp; exact OWp.pure (fun T t h k => XS.pop h hk.1 rfl (hb hk.2.1 hd) rfl hc k) kk
theorem OWp.goto {o : Int} (hk : OOk p bytes maxL ret nm meth c Z a0 EL) (hd : decode bytes pc = .ok (.goto o, 3)) (ho : 0 ≤ (pc : Int) + o) (hp : ((pc : Int) + o).toNat = pc')
    (kk : OWp p l e R s m args below meth c own Z EL ws P Q M N cells slots pc' L S) : OWp p l e R s m args below meth c own Z EL ws P Q M N cells slots pc L S := by
  exact OWp.pure (fun T t h k => XS.goto h hk.1 rfl (pc0 := pc) rfl (hb hk.2.1 hd) ho hp k) kk
theorem OWp.ifYes {cd : ClassFile.Cond} {x : Int32} {o : Int} (hk : OOk p bytes maxL ret nm meth c Z a0 EL) (hd : decode bytes pc = .ok (.ifCond cd o, 3)) (hc : ifCond.holds cd x = true) (ho : 0 ≤ (pc : Int) + o) (hp : ((pc : Int) + o).toNat = pc')
    (kk : OWp p l e R s m args below meth c own Z EL ws P Q M N cells slots pc' L rest) : OWp p l e R s m args below meth c own Z EL ws P Q M N cells slots pc L (.int x :: rest) := by
  exact OWp.pure (fun T t h k => XS.ifYes h hk.1 rfl (pc0 := pc) rfl (hb hk.2.1 hd) rfl hc ho hp k) kk
theorem OWp.ifNo {cd : ClassFile.Cond} {x : Int32} {o : Int} (hk : OOk p bytes maxL ret nm meth c Z a0 EL) (hd : decode bytes pc = .ok (.ifCond cd o, 3)) (hc : ifCond.holds cd x = false) (hp : pc' = pc + 3)
    (kk : OWp p l e R s m args below meth c own Z EL ws P Q M N cells slots pc' L rest) : OWp p l e R s m args below meth c own Z EL ws P Q M N cells slots pc L (.int x :: rest) := by
  subst hp; exact OWp.pure (fun T t h k => XS.ifNo h hk.1 rfl (hb hk.2.1 hd) rfl hc k) kk
theorem OWp.icmpYes {cd : ClassFile.Cond} {x y : Int32} {o : Int} (hk : OOk p bytes maxL ret nm meth c Z a0 EL) (hd : decode bytes pc = .ok (.if_icmp cd o, 3)) (hc : if_icmp.holds cd x y = true) (ho : 0 ≤ (pc : Int) + o) (hp : ((pc : Int) + o).toNat = pc')
    (kk : OWp p l e R s m args below meth c own Z EL ws P Q M N cells slots pc' L rest) : OWp p l e R s m args below meth c own Z EL ws P Q M N cells slots pc L (.int y :: .int x :: rest) := by
  exact OWp.pure (fun T t h k => XS.icmpYes h hk.1 rfl (pc0 := pc) rfl (hb hk.2.1 hd) rfl hc ho hp k) kk
theorem OWp.icmpNo {cd : ClassFile.Cond} {x y : Int32} {o : Int} (hk : OOk p bytes maxL ret nm meth c Z a0 EL) (hd : decode bytes pc = .ok (.if_icmp cd o, 3)) (hc : if_icmp.holds cd x y = false) (hp : pc' = pc + 3)
    (kk : OWp p l e R s m args below meth c own Z EL ws P Q M N cells slots pc' L rest) : OWp p l e R s m args below meth c own Z EL ws P Q M N cells slots pc L (.int y :: .int x :: rest) := by
  subst hp; exact OWp.pure (fun T t h k => XS.icmpNo h hk.1 rfl (hb hk.2.1 hd) rfl hc k) kk
theorem OWp.nullYes {o : Int} (hk : OOk p bytes maxL ret nm meth c Z a0 EL) (hd : decode bytes pc = .ok (.ifnull o, 3)) (ho : 0 ≤ (pc : Int) + o) (hp : ((pc : Int) + o).toNat = pc')
    (kk : OWp p l e R s m args below meth c own Z EL ws P Q M N cells slots pc' L rest) : OWp p l e R s m args below meth c own Z EL ws P Q M N cells slots pc L (.null :: rest) := by
  exact OWp.pure (fun T t h k => XS.ifnullYes h hk.1 rfl (pc0 := pc) rfl (hb hk.2.1 hd) rfl ho hp k) kk
theorem OWp.nullNo {o : Int} {b : Addr} (hk : OOk p bytes maxL ret nm meth c Z a0 EL) (hd : decode bytes pc = .ok (.ifnull o, 3)) (hp : pc' = pc + 3)
    (kk : OWp p l e R s m args below meth c own Z EL ws P Q M N cells slots pc' L rest) : OWp p l e R s m args below meth c own Z EL ws P Q M N cells slots pc L (.ref b :: rest) := by
  subst hp; exact OWp.pure (fun T t h k => XS.ifnullNo h hk.1 rfl (hb hk.2.1 hd) rfl k) kk
theorem OWp.nonnullYes {o : Int} {b : Addr} (hk : OOk p bytes maxL ret nm meth c Z a0 EL) (hd : decode bytes pc = .ok (.ifnonnull o, 3)) (ho : 0 ≤ (pc : Int) + o) (hp : ((pc : Int) + o).toNat = pc')
    (kk : OWp p l e R s m args below meth c own Z EL ws P Q M N cells slots pc' L rest) : OWp p l e R s m args below meth c own Z EL ws P Q M N cells slots pc L (.ref b :: rest) := by
  exact OWp.pure (fun T t h k => XS.ifnonnullYes h hk.1 rfl (pc0 := pc) rfl (hb hk.2.1 hd) rfl ho hp k) kk
theorem OWp.nonnullNo {o : Int} (hk : OOk p bytes maxL ret nm meth c Z a0 EL) (hd : decode bytes pc = .ok (.ifnonnull o, 3)) (hp : pc' = pc + 3)
    (kk : OWp p l e R s m args below meth c own Z EL ws P Q M N cells slots pc' L rest) : OWp p l e R s m args below meth c own Z EL ws P Q M N cells slots pc L (.null :: rest) := by
  subst hp; exact OWp.pure (fun T t h k => XS.ifnonnullNo h hk.1 rfl (hb hk.2.1 hd) rfl k) kk
theorem OWp.acmpYes {cd : ClassFile.ACond} {x y : Value} {o : Int} (hk : OOk p bytes maxL ret nm meth c Z a0 EL) (hd : decode bytes pc = .ok (.if_acmp cd o, 3)) (h1 : x.isRef = true) (h2 : y.isRef = true) (hc : XT.acmp cd x y = true) (ho : 0 ≤ (pc : Int) + o) (hp : ((pc : Int) + o).toNat = pc')
    (kk : OWp p l e R s m args below meth c own Z EL ws P Q M N cells slots pc' L rest) : OWp p l e R s m args below meth c own Z EL ws P Q M N cells slots pc L (y :: x :: rest) := by
  exact OWp.pure (fun T t h k => XT.acmpYes h hk.1 rfl (pc0 := pc) rfl (hb hk.2.1 hd) rfl h1 h2 hc ho hp k) kk
theorem OWp.acmpNo {cd : ClassFile.ACond} {x y : Value} {o : Int} (hk : OOk p bytes maxL ret nm meth c Z a0 EL) (hd : decode bytes pc = .ok (.if_acmp cd o, 3)) (h1 : x.isRef = true) (h2 : y.isRef = true) (hc : XT.acmp cd x y = false) (hp : pc' = pc + 3)
    (kk : OWp p l e R s m args below meth c own Z EL ws P Q M N cells slots pc' L rest) : OWp p l e R s m args below meth c own Z EL ws P Q M N cells slots pc L (y :: x :: rest) := by
  subst hp; exact OWp.pure (fun T t h k => XT.acmpNo h hk.1 rfl (hb hk.2.1 hd) rfl h1 h2 hc k) kk
theorem OWp.lcmp {x y : Int64} (hk : OOk p bytes maxL ret nm meth c Z a0 EL) (hd : decode bytes pc = .ok (.lcmp, 1)) (hp : pc' = pc + 1)
    (kk : OWp p l e R s m args below meth c own Z EL ws P Q M N cells slots pc' L (.int (XT.cmpL x y) :: rest)) : OWp p l e R s m args below meth c own Z EL ws P Q M N cells slots pc L (.long y :: .long x :: rest) := by
  subst hp; exact OWp.pure (fun T t h k => XS.lcmp h hk.1 rfl (hb hk.2.1 hd) rfl k) kk
end Pure
/-! 3. steps that read the heap or the tables, and leave both as they were -/
theorem OWp.pureX (H : ∀ (T target : State) (vm0 : Vm) (locs : List Loc), Stand p l e R (s.setVm vm0) m args below meth c T locs cells slots → Z.Warmed39 vm0 → vm0.findClass own = some m.cls → (∀ q ∈ M ++ (N ++ P), T.heap[q.1]? = some q.2) →
      Steps p.tables e below (T.setTop (mkF m pc' L'.toArray S')) target → Steps p.tables e below (T.setTop (mkF m pc L.toArray S)) target)
    (k : OWp p l e R s m args below meth c own Z EL ws P Q M N cells slots pc' L' S') : OWp p l e R s m args below meth c own Z EL ws P Q M N cells slots pc L S := fun T hT => by
  obtain ⟨U, st, r⟩ := k T hT
  obtain ⟨vm0, k0, locs, X, -, -, hZ, ho, -, I⟩ := hT
  exact ⟨U, H T U vm0 locs X hZ ho (fun q hq => I.at hq) st, r⟩
/-- .. the tables may be warmer behind it -/
theorem OWp.pureT (H : ∀ (T : State) (vm0 : Vm) (locs : List Loc), Stand p l e R (s.setVm vm0) m args below meth c T locs cells slots → Z.Warmed39 vm0 → vm0.findClass own = some m.cls → Ext Z.heap T.heap → (∀ q ∈ M ++ (N ++ P), T.heap[q.1]? = some q.2) →
      ∃ T', Stand p l e R (s.setVm vm0) m args below meth c T' locs cells slots ∧ T'.heap = T.heap ∧ ∀ target, Steps p.tables e below (T'.setTop (mkF m pc' L'.toArray S')) target → Steps p.tables e below (T.setTop (mkF m pc L.toArray S)) target)
    (k : OWp p l e R s m args below meth c own Z EL ws P Q M N cells slots pc' L' S') : OWp p l e R s m args below meth c own Z EL ws P Q M N cells slots pc L S := fun T hT => by
  obtain ⟨vm0, k0, locs, X, hS, hk0, hZ, ho, hL, I⟩ := hT
  obtain ⟨T', X', eh, st⟩ := H T vm0 locs X hZ ho I.2.1 (fun q hq => I.at hq)
  obtain ⟨U, st', r⟩ := k T' ⟨vm0, k0, locs, X', hS, by rw [eh]; exact hk0, hZ, ho, hL, by rw [eh]; exact I⟩
  exact ⟨U, st _ st', r⟩
theorem OWp.irem {x y : Int32} (hk : OOk p bytes maxL ret nm meth c Z a0 EL) (hd : decode bytes pc = .ok (.irem, 1)) (hp : pc' = pc + 1) (hy : y ≠ 0)
    (kk : OWp p l e R s m args below meth c own Z EL ws P Q M N cells slots pc' L (.int (x % y) :: rest)) : OWp p l e R s m args below meth c own Z EL ws P Q M N cells slots pc L (.int y :: .int x :: rest) := by
  subst hp; exact OWp.pureX (fun T t vm0 locs X _ _ _ k => iremM X hk.1 rfl (hb hk.2.1 hd) rfl hy k) kk
theorem OWp.ldcI {index : Nat} {v : Int32} (hk : OOk p bytes maxL ret nm meth c Z a0 EL) (hd : decode bytes pc = .ok (.ldc index, 2)) (hp : pc' = pc + 2) (w : (Jvm.Cond.constant own index v).before a0 Z = true)
    (kk : OWp p l e R s m args below meth c own Z EL ws P Q M N cells slots pc' L (.int v :: S)) : OWp p l e R s m args below meth c own Z EL ws P Q M N cells slots pc L S := by
  subst hp; exact OWp.pureX (fun T t vm0 locs X hZ ho _ k => X.ldcI hk.1 (own := own) ho (mvT (s := s.setVm vm0) hZ w) (g := mkF m pc L.toArray S) rfl (hb hk.2.1 hd) k) kk
theorem OWp.ldc2J {index : Nat} {v : Int64} (hk : OOk p bytes maxL ret nm meth c Z a0 EL) (hd : decode bytes pc = .ok (.ldc2_w index, 3)) (hp : pc' = pc + 3) (w : (Jvm.Cond.constantLong own index v).before a0 Z = true)
    (kk : OWp p l e R s m args below meth c own Z EL ws P Q M N cells slots pc' L (.long v :: S)) : OWp p l e R s m args below meth c own Z EL ws P Q M N cells slots pc L S := by
  subst hp; exact OWp.pureX (fun T t vm0 locs X hZ ho _ k => X.ldc2J hk.1 (own := own) ho (mvT (s := s.setVm vm0) hZ w) (g := mkF m pc L.toArray S) rfl (hb hk.2.1 hd) k) kk
/-- a field of a cell, read through the tables of the start -/
def FC (Z : State) (cl : Cell) (C n d : String) (v : Value) : Prop := ∃ (cf : ClassId) (k : Class) (i : Nat) (f : Field), Z.fieldFound? C n d = some (cf, k, i, f) ∧ f.isStatic = false ∧ cl.vm ≠ .unknown ∧ cl.vm.isStatics = false ∧ Z.vm.assignable cl.cls cf = true ∧ cl.slots[f.slot]? = some v
/-- a cell that is exactly of class C -/
def EC (Z : State) (cl : Cell) (C : String) : Prop := ∃ k : Class, Z.vm.findClass C = some cl.cls ∧ Z.vm.classes[cl.cls]? = some k ∧ cl.vm.isStatics = false ∧ (k.kind = .ordinary → cl.slots.size = k.instanceTypes.size)
/-- an array's cell: its kind and its whole list -/
def AC (Z : State) (cl : Cell) (ty : FieldType) (vs : List Value) : Prop := Z.isArrayOf cl ty ∧ cl.vm ≠ .unknown ∧ cl.slots.toList = vs ∧ vs.length < 2147483648 ∧ ∀ v ∈ vs, fits ty v = true
section Cells
variable {h h' : Heap} {a : Addr} {cl : Cell} {C C' n d O : String} {v w : Value} {ty : FieldType} {vs : List Value}
theorem FC.fld (F : FC Z cl C n d v) (hh : h[a]? = some cl) : Fld Z h a C n d v := by obtain ⟨cf, k, i, f, r⟩ := F; exact ⟨cl, cf, k, i, f, hh, r⟩
theorem FC.of (F : Fld Z h a C n d v) (hh : h[a]? = some cl) : FC Z cl C n d v := by
  obtain ⟨cl', cf, k, i, f, q, r⟩ := F; cases hh.symm.trans q; exact ⟨cf, k, i, f, r⟩
theorem FC.inj {Z : State} (F : FC Z cl C n d v) (G : FC Z cl C n d w) : v = w := by
  obtain ⟨cf, k, i, f, q1, q⟩ := F
  obtain ⟨cf', k', i', f', r1, r⟩ := G
  cases q1.symm.trans r1
  have q2 := q.2.2
  have r2 := r.2.2
  simp_all
theorem EC.exa (F : EC Z cl C) (hh : h[a]? = some cl) : Exa Z h a C := by obtain ⟨k, r1, r2⟩ := F; exact ⟨cl, k, hh, r1, r2⟩
theorem EC.of (F : Exa Z h a C) (hh : h[a]? = some cl) : EC Z cl C := by
  obtain ⟨cl', k, q, r⟩ := F; cases hh.symm.trans q; exact ⟨k, r⟩
theorem AC.arr (F : AC Z cl ty vs) (hh : h[a]? = some cl) : RoadKit.Arr Z h a cl ty := ⟨hh, F.1, F.2.1⟩
theorem AC.size (F : AC Z cl ty vs) : cl.slots.size = vs.length := by rw [← F.2.2.1]; simp
theorem AC.get (F : AC Z cl ty vs) (i : Nat) : cl.slots[i]? = vs[i]? := by rw [← F.2.2.1]; simp
theorem toNat_lt {j : Int32} {n : Nat} (h0 : ¬ j < 0) (hj : j.toNatClampNeg = n) : j.toInt = n := by rw [nat_of h0, hj]
theorem AC.inb (F : AC Z cl ty vs) {j : Int32} (h0 : ¬ j < 0) (hi : j.toNatClampNeg < vs.length) : ¬ (j < 0 ∨ cl.slots.size ≤ j.toNatClampNeg) := by
  rw [F.size]; intro q; rcases q with q | q
  · exact h0 q
  · omega
theorem AC.set (F : AC Z cl ty vs) {i : Nat} (hv : fits ty v = true) (hi : i < vs.length) : AC Z (cl.setSlot i v) ty (vs.set i v) := by
  obtain ⟨h1, h2, h3, h4, h5⟩ := F
  refine ⟨h1, h2, ?_, by simpa using h4, fun u hu => ?_⟩
  · subst h3; simp [Cell.setSlot]
  · rcases List.mem_or_eq_of_mem_set hu with hu | rfl
    · exact h5 u hu
    · exact hv
theorem AC.congr {n : Nat} {f g : Nat → Value} (F : AC Z cl ty (tab n f)) (h : ∀ j, j < n → f j = g j) : AC Z cl ty (tab n g) := by rw [← tab_congr h]; exact F
theorem AC.new {cA : ClassId} {z : Int32} (A : RoadKit.Arr Z h a (newA cA ty z) ty) (hz : ¬ z < 0) (hd : fits ty (defaultValue ty) = true) : AC Z (newA cA ty z) ty (List.replicate z.toNatClampNeg (defaultValue ty)) :=
  ⟨A.2.1, A.2.2, by simp [newA], by simp only [List.length_replicate]; exact (back32 hz).2, fun u hu => by rw [List.eq_of_mem_replicate hu]; exact hd⟩
/-- as the library's laws ask an array -/
theorem AC.arv (F : AC Z cl ty vs) (hh : h[a]? = some cl) {d : Value} : Arv Z h a cl.cls ty (Int32.ofNat vs.length) vs d := by
  have hl := F.2.2.2.1
  have hn : (Int32.ofNat vs.length).toNatClampNeg = vs.length := by
    rw [Int32.toNatClampNeg, Int32.toInt_ofNat_small (by simpa using hl)]; simp
  have h0 : ¬ Int32.ofNat vs.length < 0 := Int32.ofNat_not_neg (by simpa using hl)
  refine ⟨cl, F.arr hh, rfl, by rw [hn, F.size], h0, fun k hk => ?_, fun k hk => ?_⟩
  · rw [F.size] at hk
    rw [F.get k, List.getD_eq_getElem?_getD, List.getElem?_eq_getElem hk]; rfl
  · rw [F.size] at hk
    rw [List.getD_eq_getElem?_getD, List.getElem?_eq_getElem hk]
    exact F.2.2.2.2 _ (List.getElem_mem hk)
theorem FC.set (F : FC Z cl C n d w) : FC Z (cl.setSlot (RoadKit.slotOf Z C n d) v) C n d v := by
  obtain ⟨cf, k, i, f, h1, h2, h3, h4, h5, h6⟩ := F
  have e : RoadKit.slotOf Z C n d = f.slot := by simp [RoadKit.slotOf, h1]
  refine ⟨cf, k, i, f, h1, h2, h3, h4, h5, ?_⟩
  rw [e]; have := (Array.getElem?_eq_some_iff.mp h6).1; simp [Cell.setSlot, this]
theorem FC.other {sl : Nat} (F : FC Z cl C n d w) (hne : RoadKit.slotOf Z C n d ≠ sl) : FC Z (cl.setSlot sl v) C n d w := by
  obtain ⟨cf, k, i, f, h1, h2, h3, h4, h5, h6⟩ := F
  have e : RoadKit.slotOf Z C n d = f.slot := by simp [RoadKit.slotOf, h1]
  refine ⟨cf, k, i, f, h1, h2, h3, h4, h5, ?_⟩
  rw [e] at hne
  simp only [Cell.setSlot]; rw [Array.getElem?_setIfInBounds_ne (Ne.symm hne)]; exact h6
theorem EC.set {sl : Nat} (F : EC Z cl C) : EC Z (cl.setSlot sl v) C := by
  obtain ⟨k, h1, h2, h3, h4⟩ := F
  exact ⟨k, h1, h2, h3, fun q => by rw [sz_set]; exact h4 q⟩
end Cells
section Reads
variable {a : Addr} {cl : Cell} {ty : FieldType} {vs : List Value} {v : Value} {j : Int32} {index : Nat} {O n d R0 : String}
theorem OWp.getfield (hk : OOk p bytes maxL ret nm meth c Z a0 EL) (hd : decode bytes pc = .ok (.getfield index, 3)) (hp : pc' = pc + 3) (w : (Jvm.Cond.fieldLink own index O n d).before a0 Z = true) (hm : (a, cl) ∈ M ++ (N ++ P)) (F : FC Z cl O n d v)
    (kk : OWp p l e R s m args below meth c own Z EL ws P Q M N cells slots pc' L (v :: rest)) : OWp p l e R s m args below meth c own Z EL ws P Q M N cells slots pc L (.ref a :: rest) := by
  subst hp
  exact OWp.pureT (fun T vm0 locs X hZ ho _ hH => getF (s := s.setVm vm0) (own := own) X hk.1 hZ ho (host := "") (Or.inl w) Via.refl rfl (F.fld (hH _ hm)) (g := mkF m pc L.toArray (.ref a :: rest)) rfl rfl (hb hk.2.1 hd)) kk
theorem OWp.getfieldVia (hk : OOk p bytes maxL ret nm meth c Z a0 EL) (hd : decode bytes pc = .ok (.getfield index, 3)) (hp : pc' = pc + 3) (w : (Jvm.Cond.fieldLink own index R0 n d).before a0 Z = true) (w2 : (Jvm.Cond.sameField R0 O n d).before a0 Z = true) (hm : (a, cl) ∈ M ++ (N ++ P)) (F : FC Z cl O n d v)
    (kk : OWp p l e R s m args below meth c own Z EL ws P Q M N cells slots pc' L (v :: rest)) : OWp p l e R s m args below meth c own Z EL ws P Q M N cells slots pc L (.ref a :: rest) := by
  subst hp
  exact OWp.pureT (fun T vm0 locs X hZ ho _ hH => getF (s := s.setVm vm0) (own := own) X hk.1 hZ ho (host := "") (Or.inl w) (Via.of w2) rfl (F.fld (hH _ hm)) (g := mkF m pc L.toArray (.ref a :: rest)) rfl rfl (hb hk.2.1 hd)) kk
theorem OWp.getstatic (hk : OOk p bytes maxL ret nm meth c Z a0 EL) (hd : decode bytes pc = .ok (.getstatic index, 3)) (hp : pc' = pc + 3) (w : (Jvm.Cond.fieldLink own index O n d).before a0 Z = true) (F : Sta Z Z.heap O n d v)
    (kk : OWp p l e R s m args below meth c own Z EL ws P Q M N cells slots pc' L (v :: S)) : OWp p l e R s m args below meth c own Z EL ws P Q M N cells slots pc L S := by
  subst hp
  exact OWp.pureT (fun T vm0 locs X hZ ho hE hH => getS (s := s.setVm vm0) (own := own) X hk.1 hZ ho (host := "") w Via.refl rfl (Sta.ext hE F) (g := mkF m pc L.toArray S) rfl (hb hk.2.1 hd)) kk
theorem OWp.instY {K : String} (hk : OOk p bytes maxL ret nm meth c Z a0 EL) (hd : decode bytes pc = .ok (.instanceof index, 3)) (hp : pc' = pc + 3) (w : (Jvm.Cond.classLink own index K).before a0 Z = true) (hm : (a, cl) ∈ M ++ (N ++ P)) (F : EC Z cl K)
    (kk : OWp p l e R s m args below meth c own Z EL ws P Q M N cells slots pc' L (.int 1 :: rest)) : OWp p l e R s m args below meth c own Z EL ws P Q M N cells slots pc L (.ref a :: rest) := by
  subst hp
  exact OWp.pureT (fun T vm0 locs X hZ ho hE hH => RoadKit.instY (s := s.setVm vm0) (own := own) X hk.1 hZ ho w rfl (Ins.self (F.exa (hH _ hm))) (g := mkF m pc L.toArray (.ref a :: rest)) rfl rfl (hb hk.2.1 hd)) kk
theorem OWp.castY {K : String} (hk : OOk p bytes maxL ret nm meth c Z a0 EL) (hd : decode bytes pc = .ok (.checkcast index, 3)) (hp : pc' = pc + 3) (w : (Jvm.Cond.classLink own index K).before a0 Z = true) (hm : (a, cl) ∈ M ++ (N ++ P)) (F : EC Z cl K)
    (kk : OWp p l e R s m args below meth c own Z EL ws P Q M N cells slots pc' L (.ref a :: rest)) : OWp p l e R s m args below meth c own Z EL ws P Q M N cells slots pc L (.ref a :: rest) := by
  subst hp
  exact OWp.pureT (fun T vm0 locs X hZ ho hE hH => RoadKit.castY (s := s.setVm vm0) (own := own) X hk.1 hZ ho w rfl (Ins.self (F.exa (hH _ hm))) (g := mkF m pc L.toArray (.ref a :: rest)) rfl rfl (hb hk.2.1 hd)) kk
theorem ofNat_size (n : Nat) : n.toInt32 = Int32.ofNat n := rfl
theorem OWp.arraylength (hk : OOk p bytes maxL ret nm meth c Z a0 EL) (hd : decode bytes pc = .ok (.arraylength, 1)) (hp : pc' = pc + 1) (hm : (a, cl) ∈ M ++ (N ++ P)) (F : AC Z cl ty vs) {z : Int32} (hz : Int32.ofNat vs.length = z)
    (kk : OWp p l e R s m args below meth c own Z EL ws P Q M N cells slots pc' L (.int z :: rest)) : OWp p l e R s m args below meth c own Z EL ws P Q M N cells slots pc L (.ref a :: rest) := by
  subst hp hz
  exact OWp.pureX (fun T t vm0 locs X hZ ho hH k => X.arraylength hk.1 (hH _ hm) (State.isArrayOf_alike hZ.alike F.1) (g := mkF m pc L.toArray (.ref a :: rest)) rfl rfl (hb hk.2.1 hd) t (by rw [F.size]; exact k)) kk
theorem OWp.caload (hk : OOk p bytes maxL ret nm meth c Z a0 EL) (hd : decode bytes pc = .ok (.caload, 1)) (hp : pc' = pc + 1) (hm : (a, cl) ∈ M ++ (N ++ P)) (F : AC Z cl .char vs) (h0 : ¬ j < 0) (hv : vs[j.toNatClampNeg]? = some v)
    (kk : OWp p l e R s m args below meth c own Z EL ws P Q M N cells slots pc' L (v :: rest)) : OWp p l e R s m args below meth c own Z EL ws P Q M N cells slots pc L (.int j :: .ref a :: rest) := by
  subst hp
  exact OWp.pureX (fun T t vm0 locs X hZ ho hH k => X.caload hk.1 (hH _ hm) (State.isArrayOf_alike hZ.alike F.1) F.2.1 (F.inb h0 (List.getElem?_eq_some_iff.mp hv).1) (by rw [F.get]; exact hv) (g := mkF m pc L.toArray (.int j :: .ref a :: rest)) rfl rfl (hb hk.2.1 hd) t k) kk
theorem OWp.baload (hk : OOk p bytes maxL ret nm meth c Z a0 EL) (hd : decode bytes pc = .ok (.baload, 1)) (hp : pc' = pc + 1) (hm : (a, cl) ∈ M ++ (N ++ P)) (F : AC Z cl .byte vs) (h0 : ¬ j < 0) (hv : vs[j.toNatClampNeg]? = some v)
    (kk : OWp p l e R s m args below meth c own Z EL ws P Q M N cells slots pc' L (v :: rest)) : OWp p l e R s m args below meth c own Z EL ws P Q M N cells slots pc L (.int j :: .ref a :: rest) := by
  subst hp
  exact OWp.pureX (fun T t vm0 locs X hZ ho hH k => X.baloadBytes hk.1 (hH _ hm) (State.isArrayOf_alike hZ.alike F.1) F.2.1 (F.inb h0 (List.getElem?_eq_some_iff.mp hv).1) (by rw [F.get]; exact hv) (g := mkF m pc L.toArray (.int j :: .ref a :: rest)) rfl rfl (hb hk.2.1 hd) t k) kk
theorem OWp.aaload {k : Int32} (hk : OOk p bytes maxL ret nm meth c Z a0 EL) (hd : decode bytes pc = .ok (.aaload, 1)) (hp : pc' = pc + 1) (hm : (a, cl) ∈ M ++ (N ++ P)) (F : AC Z cl ty vs) (hty : ty.isReference = true) (h0 : ¬ k < 0) (hv : vs[k.toNatClampNeg]? = some v)
    (kk : OWp p l e R s m args below meth c own Z EL ws P Q M N cells slots pc' L (v :: rest)) : OWp p l e R s m args below meth c own Z EL ws P Q M N cells slots pc L (.int k :: .ref a :: rest) := by
  subst hp
  exact OWp.pureX (fun T t vm0 locs X hZ ho hH kk' => X.aaload hk.1 (hH _ hm) (State.isArrayOf_alike hZ.alike F.1) hty F.2.1 (F.inb h0 (List.getElem?_eq_some_iff.mp hv).1) (by rw [F.get]; exact hv) (g := mkF m pc L.toArray (.int k :: .ref a :: rest)) rfl rfl (hb hk.2.1 hd) t kk') kk
theorem OWp.initO (hk : OOk p bytes maxL ret nm meth c Z a0 EL) (hd : decode bytes pc = .ok (.invokespecial index, 3)) (hp : pc' = pc + 3) (w1 : (Jvm.Cond.methodLink own index Lib.objectInit).before a0 Z = true) (w2 : (Jvm.Cond.instanceMethod Lib.objectInit).before a0 Z = true)
    (w3 : (Jvm.Cond.code Lib.objectInit ⟨#[0xb1]⟩ 1 none).before a0 Z = true) (hsz : L.length = maxL) (hf : 1 ≤ R.frames) {W : Nat} (hW : (rest.map fun v => v.category).sum = W) (hl : W + 12 ≤ R.locals)
    (kk : OWp p l e R s m args below meth c own Z EL ws P Q M N cells slots pc' L rest) : OWp p l e R s m args below meth c own Z EL ws P Q M N cells slots pc L (.ref a :: rest) := by
  subst hp
  exact OWp.pureT (fun T vm0 locs X hZ ho hE hH => RoadKit.initO (s := s.setVm vm0) (own := own) X hk.1 hZ ho w1 w2 w3 rfl (g := mkF m pc L.toArray (.ref a :: rest)) rfl (by rw [hk.2.2.1]; simpa using hsz) rfl (hb hk.2.1 hd) hf (W := W) (by show 2 * 0 + _ ≤ _; omega) hl) kk
end Reads
/-! 4. steps that make or write cells -/
section Writes
variable {a : Addr} {cl : Cell} {ty : FieldType} {vs : List Value} {v : Value} {j x : Int32} {index i : Nat} {O n d C : String}
theorem OWp.newarray {aty : ArrayType} {z : Int32} {cap : Nat} (hk : OOk p bytes maxL ret nm meth c Z a0 EL) (hd : decode bytes pc = .ok (.newarray aty, 2)) (hp : pc' = pc + 2) (w : (Jvm.Cond.arrayClass (newarray.typeOf aty)).before a0 Z = true)
    (hz : ¬ z < 0) (hcap : z.toNatClampNeg ≤ cap) (hb8 : cap * 8 ≤ 536870912) (hc : cells + 1 ≤ R.cells) (hs : slots + cap ≤ R.slots) (hvs : List.replicate z.toNatClampNeg (defaultValue (newarray.typeOf aty)) = vs)
    (kk : ∀ a cl, AC Z cl (newarray.typeOf aty) vs → OWp p l e R s m args below meth c own Z EL ws P Q ((a, cl) :: M) N (cells + 1) (slots + cap) pc' L (.ref a :: rest)) :
    OWp p l e R s m args below meth c own Z EL ws P Q M N cells slots pc L (.int z :: rest) := fun T hT => by
  subst hp hvs
  obtain ⟨vm0, k0, locs, X, hS, hk0, hZ, ho, hL, I⟩ := hT
  obtain ⟨T', h', cA, X', e', E, A, st⟩ := newP (s := s.setVm vm0) X hk.1 hZ w rfl (g := mkF m pc L.toArray (.int z :: rest)) rfl (hb hk.2.1 hd) rfl hz hcap hb8 hc hs
  subst e'
  obtain ⟨U, st', r⟩ := kk _ _ (AC.new A hz (by cases aty <;> decide)) T' ⟨vm0, k0, locs, X', hS, Nat.le_trans hk0 E.1, hZ, ho, hL, I.alloc E A.1⟩
  exact ⟨U, st _ st', r⟩
theorem OWp.new {nf : Nat} (hk : OOk p bytes maxL ret nm meth c Z a0 EL) (hd : decode bytes pc = .ok (.new index, 3)) (hp : pc' = pc + 3) (w : (Jvm.Cond.classLink own index C).before a0 Z = true) (wi : (Jvm.Cond.instantiable C nf).before a0 Z = true) (wz : (Jvm.Cond.initialized C).before a0 Z = true)
    (hc : cells + 1 ≤ R.cells) (hs : slots + nf ≤ R.slots)
    (kk : ∀ a cl, EC Z cl C → (∀ {O nm d : String} {ty : FieldType}, Laid Z a0 C O nm d → parseFieldDescriptor d = some ty → FC Z cl O nm d (defaultValue ty)) → OWp p l e R s m args below meth c own Z EL ws P Q ((a, cl) :: M) N (cells + 1) (slots + nf) pc' L (.ref a :: S)) :
    OWp p l e R s m args below meth c own Z EL ws P Q M N cells slots pc L S := fun T hT => by
  subst hp
  obtain ⟨vm0, k0, locs, X, hS, hk0, hZ, ho, hL, I⟩ := hT
  obtain ⟨T', h', X', e', E, A, D, ⟨cell, hcell, -, -⟩, st⟩ := newO (s := s.setVm vm0) (own := own) X hk.1 hZ ho w wi wz rfl (g := mkF m pc L.toArray S) rfl (hb hk.2.1 hd) hc hs
  subst e'
  obtain ⟨U, st', r⟩ := kk _ cell (EC.of A hcell) (fun La ht => FC.of (D La ht) hcell) T' ⟨vm0, k0, locs, X', hS, Nat.le_trans hk0 E.1, hZ, ho, hL, I.alloc E hcell⟩
  exact ⟨U, st _ st', r⟩
theorem OWp.wrote {sl : Nat} (hi : M[i]? = some (a, cl)) (H : ∀ (T : State) (vm0 : Vm) (locs : List Loc), Stand p l e R (s.setVm vm0) m args below meth c T locs cells slots → Z.Warmed39 vm0 → vm0.findClass own = some m.cls → T.heap[a]? = some cl →
      ∃ T', Stand p l e R (s.setVm vm0) m args below meth c T' (locs ++ [⟨a, sl⟩]) cells slots ∧ Wr T.heap T'.heap a sl v ∧ ∀ target, Steps p.tables e below (T'.setTop (mkF m pc' L'.toArray S')) target → Steps p.tables e below (T.setTop (mkF m pc L.toArray S)) target)
    (kk : OWp p l e R s m args below meth c own Z EL ws P Q (M.set i (a, cl.setSlot sl v)) N cells slots pc' L' S') : OWp p l e R s m args below meth c own Z EL ws P Q M N cells slots pc L S := fun T hT => by
  obtain ⟨vm0, k0, locs, X, hS, hk0, hZ, ho, hL, I⟩ := hT
  obtain ⟨b1, -, -, b4⟩ := I.2.2.1 _ (List.mem_of_getElem? hi)
  obtain ⟨T', X', W, st⟩ := H T vm0 locs X hZ ho b1
  obtain ⟨U, st', r⟩ := kk T' ⟨vm0, k0, _, X', hS, by rw [W.size]; exact hk0, hZ, ho, fun y hy => by
    rcases List.mem_append.mp hy with hy | hy
    · exact hL y hy
    · cases List.mem_singleton.mp hy; exact b4, I.write hi W⟩
  exact ⟨U, st _ st', r⟩
theorem OWp.castore (hk : OOk p bytes maxL ret nm meth c Z a0 EL) (hd : decode bytes pc = .ok (.castore, 1)) (hp : pc' = pc + 1) (hi : M[i]? = some (a, cl)) (F : AC Z cl .char vs) (h0 : ¬ j < 0) {t : Nat} (ht : j.toNatClampNeg = t) (hlt : t < vs.length)
    (kk : ∀ cl', AC Z cl' .char (vs.set t (.int (nar .char x))) → OWp p l e R s m args below meth c own Z EL ws P Q (M.set i (a, cl')) N cells slots pc' L rest) :
    OWp p l e R s m args below meth c own Z EL ws P Q M N cells slots pc L (.int x :: .int j :: .ref a :: rest) := by
  subst hp ht
  refine OWp.wrote hi (fun T vm0 locs X hZ ho hh => ?_) (kk _ (F.set (fits_nar_char x) hlt))
  obtain ⟨T', h', X', e', W, st⟩ := stC (s := s.setVm vm0) X hk.1 hZ rfl (F.arr hh) (F.inb h0 hlt) (g := mkF m pc L.toArray (.int x :: .int j :: .ref a :: rest)) rfl rfl (hb hk.2.1 hd)
  subst e'
  exact ⟨T', X', W, st⟩
theorem OWp.bastore (hk : OOk p bytes maxL ret nm meth c Z a0 EL) (hd : decode bytes pc = .ok (.bastore, 1)) (hp : pc' = pc + 1) (hi : M[i]? = some (a, cl)) (F : AC Z cl .byte vs) (h0 : ¬ j < 0) {t : Nat} (ht : j.toNatClampNeg = t) (hlt : t < vs.length)
    (kk : ∀ cl', AC Z cl' .byte (vs.set t (.int x.toInt8.toInt32)) → OWp p l e R s m args below meth c own Z EL ws P Q (M.set i (a, cl')) N cells slots pc' L rest) :
    OWp p l e R s m args below meth c own Z EL ws P Q M N cells slots pc L (.int x :: .int j :: .ref a :: rest) := by
  subst hp ht
  refine OWp.wrote hi (fun T vm0 locs X hZ ho hh => ?_) (kk _ (F.set (fits_nar_byte x) hlt))
  obtain ⟨T', h', X', e', W, st⟩ := stB (s := s.setVm vm0) X hk.1 hZ rfl (F.arr hh) (F.inb h0 hlt) (g := mkF m pc L.toArray (.int x :: .int j :: .ref a :: rest)) rfl rfl (hb hk.2.1 hd)
  subst e'
  exact ⟨T', X', W, st⟩
theorem OWp.putfield {old : Value} {nf : Nat} (hk : OOk p bytes maxL ret nm meth c Z a0 EL) (hd : decode bytes pc = .ok (.putfield index, 3)) (hp : pc' = pc + 3) (w : (Jvm.Cond.fieldLink own index O n d).before a0 Z = true) (hi : M[i]? = some (a, cl)) (F : FC Z cl O n d old) (E : EC Z cl C)
    (La : (Jvm.Cond.lays C O n d).before a0 Z = true ∨ ((Jvm.Cond.laysFinal C O n d).before a0 Z = true ∧ own = O ∧ nm = "<init>")) (wi : (Jvm.Cond.instantiable C nf).before a0 Z = true) (hty : parseFieldDescriptor d = some ty) (hn : narrow ty v = v) (hf : fits ty v = true)
    (kk : ∀ cl', EC Z cl' C → FC Z cl' O n d v → (∀ {O' n' d' : String} {w' : Value}, FC Z cl O' n' d' w' → RoadKit.slotOf Z O' n' d' ≠ RoadKit.slotOf Z O n d → FC Z cl' O' n' d' w') → OWp p l e R s m args below meth c own Z EL ws P Q (M.set i (a, cl')) N cells slots pc' L rest) :
    OWp p l e R s m args below meth c own Z EL ws P Q M N cells slots pc L (v :: .ref a :: rest) := by
  subst hp
  refine OWp.wrote hi (fun T vm0 locs X hZ ho hh => ?_) (kk _ E.set F.set (fun G q => G.other q))
  obtain ⟨T', h', X', e', W, st⟩ := putF (s := s.setVm vm0) (own := own) X hk.1 hZ ho (host := "") (Or.inl w) Via.refl rfl (F.fld hh) (E.exa hh) (La.imp id fun q => ⟨q.1, q.2.1, hk.2.2.2.2.2.1.trans q.2.2⟩) wi hty hn hf (g := mkF m pc L.toArray (v :: .ref a :: rest)) rfl rfl (hb hk.2.1 hd)
  subst e'
  exact ⟨T', X', W, st⟩
theorem OWp.freeze (kk : OWp p l e R s m args below meth c own Z EL ws P Q M ((a, cl) :: N) cells slots pc L S) : OWp p l e R s m args below meth c own Z EL ws P Q ((a, cl) :: M) N cells slots pc L S := fun T hT => by
  obtain ⟨vm0, k0, locs, X, hS, hk0, hZ, ho, hL, I⟩ := hT
  exact kk T ⟨vm0, k0, locs, X, hS, hk0, hZ, ho, hL, I.freeze⟩
theorem OWp.perm {M' : Mem} (hp : M'.Perm M) (kk : OWp p l e R s m args below meth c own Z EL ws P Q M' N cells slots pc L S) : OWp p l e R s m args below meth c own Z EL ws P Q M N cells slots pc L S := fun T hT => by
  obtain ⟨vm0, k0, locs, X, hS, hk0, hZ, ho, hL, I⟩ := hT
  exact kk T ⟨vm0, k0, locs, X, hS, hk0, hZ, ho, hL, I.perm hp⟩
/-- one address, one cell -/
theorem OWp.same {a : Addr} {c1 c2 : Cell} (h1 : (a, c1) ∈ M ++ (N ++ P)) (h2 : (a, c2) ∈ M ++ (N ++ P)) (kk : c1 = c2 → OWp p l e R s m args below meth c own Z EL ws P Q M N cells slots pc L S) : OWp p l e R s m args below meth c own Z EL ws P Q M N cells slots pc L S := fun T hT => by
  have hT' := hT
  obtain ⟨vm0, k0, locs, X, hS, hk0, hZ, ho, hL, I⟩ := hT
  exact kk (Option.some.inj ((I.at h1).symm.trans (I.at h2))) T hT'
/-- frozen cells forgotten -/
theorem OWp.less {N' : Mem} (hn : ∀ q ∈ N', q ∈ N) (kk : OWp p l e R s m args below meth c own Z EL ws P Q M N' cells slots pc L S) : OWp p l e R s m args below meth c own Z EL ws P Q M N cells slots pc L S := fun T hT => by
  obtain ⟨vm0, k0, locs, X, hS, hk0, hZ, ho, hL, C, EZ, hM, hn', hN, hP⟩ := hT
  exact kk T ⟨vm0, k0, locs, X, hS, hk0, hZ, ho, hL, C, EZ, hM, hn', fun q hq => hN q (hn q hq), hP⟩
/-- more room booked than used -/
theorem OWp.more {cells' slots' : Nat} (hc : cells ≤ cells') (hs : slots ≤ slots') (kk : OWp p l e R s m args below meth c own Z EL ws P Q M N cells' slots' pc L S) : OWp p l e R s m args below meth c own Z EL ws P Q M N cells slots pc L S := fun T hT => by
  obtain ⟨vm0, k0, locs, X, r⟩ := hT
  exact kk T ⟨vm0, k0, locs, X.more hc hs, r⟩
end Writes
/-! 5. String constants -/
section Lits
variable {a : Addr} {index n : Nat} {text : String} {vs : List Value}
theorem OWp.ldcO (hk : OOk p bytes maxL ret nm meth c Z a0 EL) (hd : decode bytes pc = .ok (.ldc index, 2)) (hp : pc' = pc + 2) (w : (Jvm.Cond.stringLink own index text).before a0 Z = true) (wS : ∀ a ∈ Bundle.stringAtoms, a.before a0 Z = true)
    (hn : 4 * text.toList.length ≤ n) (hbig : n ≤ 536870912) (hc : cells + 2 ≤ R.cells) (hs : slots + (n + 4) ≤ R.slots)
    (kk : ∀ a, OWp p l e R s m args below meth c own Z EL ws P Q M N (cells + 2) (slots + (n + 4)) pc' L (.ref a :: S)) : OWp p l e R s m args below meth c own Z EL ws P Q M N cells slots pc L S := fun T hT => by
  subst hp
  obtain ⟨vm0, k0, locs, X, hS, hk0, hZ, ho, hL, I⟩ := hT
  obtain ⟨a, T', h', k1, X', e', E, hS', hk1, hZ', ho', C, -, st⟩ := ldcOH X hk.1 hZ ho w wS rfl hS hk0 hk.2.2.2.2.2.2 I.1.1 (g := mkF m pc L.toArray S) rfl (hb hk.2.1 hd) hn hbig hc hs
  subst e'
  obtain ⟨U, st', r⟩ := kk a T' ⟨T'.vm, k1, locs, X', hS', hk1, hZ', ho', hL, I.later C E⟩
  exact ⟨U, st _ st', r⟩
theorem AC.of_arv {h : Heap} {b : Addr} {k : ClassId} {ty : FieldType} {z : Int32} {d : Value} (F : Arv Z h b k ty z vs d) (hl : z.toNatClampNeg = vs.length) : ∃ ct, h[b]? = some ct ∧ AC Z ct ty vs := by
  obtain ⟨ct, A, -, hsz, hz, H, G⟩ := F
  have hlen : ct.slots.size = vs.length := hsz.trans hl
  refine ⟨ct, A.1, A.2.1, A.2.2, ?_, ?_, fun v hv => ?_⟩
  · refine List.ext_getElem? fun i => ?_
    by_cases hi : i < vs.length
    · have q := H i (by omega)
      rw [Array.getElem?_toList, q, List.getD_eq_getElem?_getD, List.getElem?_eq_getElem hi]; rfl
    · rw [List.getElem?_eq_none (by simpa [hlen] using hi), List.getElem?_eq_none (by omega)]
  · rw [← hl]; exact (back32 hz).2
  · obtain ⟨i, hi, rfl⟩ := List.getElem_of_mem hv
    have q := G i (by omega)
    rwa [List.getD_eq_getElem?_getD, List.getElem?_eq_getElem hi] at q
theorem OWp.ldcS (hk : OOk p bytes maxL ret nm meth c Z a0 EL) (hd : decode bytes pc = .ok (.ldc index, 2)) (hp : pc' = pc + 2) (w : (Jvm.Cond.stringLink own index text).before a0 Z = true) (wS : ∀ a ∈ Bundle.stringAtoms, a.before a0 Z = true) (hmem : (own, index) ∈ EL)
    (ht : (∀ c ∈ text.toList, c.toNat < 256) ∧ text.toList.map (fun c => Value.int (Jvm.Lit.byteI c.toNat.toUInt16)) = vs) (hlen : vs.length < 2147483648)
    (hn : 4 * text.toList.length ≤ n) (hbig : n ≤ 536870912) (hc : cells + 2 ≤ R.cells) (hs : slots + (n + 4) ≤ R.slots)
    (kk : ∀ a t cx ct, EC Z cx "java/lang/String" → FC Z cx "java/lang/String" "coder" "B" (.int 0) → FC Z cx "java/lang/String" "value" "[B" (.ref t) → AC Z ct .byte vs →
      OWp p l e R s m args below meth c own Z EL ws P Q M ((a, cx) :: (t, ct) :: N) (cells + 2) (slots + (n + 4)) pc' L (.ref a :: S)) : OWp p l e R s m args below meth c own Z EL ws P Q M N cells slots pc L S := fun T hT => by
  subst hp
  obtain ⟨vm0, k0, locs, X, hS, hk0, hZ, ho, hL, I⟩ := hT
  have hz : (Int32.ofNat vs.length).toNatClampNeg = vs.length := by
    rw [Int32.toNatClampNeg, Int32.toInt_ofNat_small (by simpa using hlen)]; simp
  obtain ⟨a, T', h', k1, b, k, X', e', E, hS', hk1, hZ', ho', q1, q2, q3, q4, q5, q6, C, -, hne, st⟩ := ldcCH X hk.1 hZ ho w wS rfl hS hk0 hk.2.2.2.2.2.2 hmem I.1.1 ht (z := Int32.ofNat vs.length) (Int32.ofNat_not_neg (by simpa using hlen)) hz (g := mkF m pc L.toArray S) rfl (hb hk.2.1 hd) hn hbig hc hs
  subst e'
  have J := I.later C E
  obtain ⟨cx, hcx, -⟩ : ∃ cx : Cell, T'.heap[a]? = some cx ∧ True := by obtain ⟨cx, -, h1, -⟩ := q1; exact ⟨cx, h1, trivial⟩
  obtain ⟨ct, hct, At⟩ := AC.of_arv q4 hz
  have book : ∀ y, (∀ x, Safe Z EL T'.vm T'.heap x → x ≠ y) → s.heap.size ≤ y ∨ y ∈ ws ∨ Bk Z EL s.vm s.heap y := fun y hy => by
    have hB : Bk Z EL T'.vm T'.heap y := Classical.byContradiction fun z => hy y z rfl
    exact (J.1.2.2 y hB).elim (fun z => Or.inr (Or.inr z)) Or.inl
  have nin : ∀ y, (∀ x, Safe Z EL T'.vm T'.heap x → x ≠ y) → y ∉ dom M := fun y hy z => by
    obtain ⟨q, hq, e⟩ := List.mem_map.mp z
    exact hy q.1 (J.2.2.1 q hq).2.1 e
  have J1 := J.learn hct (nin b fun x S => (hne x S).2) (book b fun x S => (hne x S).2)
  have J2 := J1.learn hcx (nin a fun x S => (hne x S).1) (book a fun x S => (hne x S).1)
  obtain ⟨U, st', r⟩ := kk a b cx ct (EC.of q1 hcx) (FC.of q2 hcx) (FC.of q3 hcx) At T' ⟨T'.vm, k1, locs, X', hS', hk1, hZ', ho', hL, J2⟩
  exact ⟨U, st _ st', r⟩
end Lits
/-! 6. calls by contract -/
section Calls
variable {y z : MethodName} {bytes' : ByteArray} {maxL' W : Nat} {ret' : Option FieldType} {rm : Room} {argsL : List Value} {Mi Mr Pc : Mem} {Qc : Option Value → Mem → Mem → Prop} {index : Nat} {a : Addr} {cl : Cell} {C : String} {as' : Array Value}
def OPost (Z : State) (EL : List (String × Nat)) (Mi : Mem) (Qc : Option Value → Mem → Mem → Prop) (rm : Room) (A : Pt) (_ : Array Value) (v : Option Value) (B : Pt) : Prop :=
  ∃ Lc, (∃ M N, Qc v M N ∧ OInv Z EL A.U.vm A.U.heap (dom Mi) B.U.vm B.U.heap M N []) ∧ OKp A.U.heap B.U.heap (dom Mi) ∧ (∀ y ∈ Lc, A.U.heap.size ≤ y.base ∨ y.base ∈ dom Mi) ∧ B.locs = A.locs ++ Lc ∧ B.cells = A.cells + rm.cells ∧ B.slots = A.slots + rm.slots
/-- who pays: a contract -/
theorem oback {vm0 : Vm} {len : Nat} {h : Heap} (hC : OCon l Z EL y bytes' maxL' ret' [] rm as' Mi Pc Qc) (hZ : Z.Warmed39 vm0) (wc : (Jvm.Cond.code y bytes' maxL' ret').before a0 Z = true) (wz : (Jvm.Cond.initialized y.cls).before a0 Z = true)
    (hf : rm.frames + 1 ≤ R.frames) (hl : W + (maxL' + 11) + rm.locals ≤ R.locals) (hEL : EW Z a0 EL) (I : OInv Z EL s.vm s.heap ws vm0 h (Mi ++ Mr) N P) (hp : ∀ q ∈ Pc, q ∈ Mr ++ (N ++ P)) :
    BackS l R p e below (s.setVm vm0) args y len W (fun A a => a = as' ∧ A.U.heap = h ∧ A.cells + rm.cells ≤ R.cells ∧ A.slots + rm.slots ≤ R.slots) (OPost Z EL Mi Qc rm) :=
  BackS.of_freeW (bytes := bytes') (maxL := maxL') (ret := ret') (E := fun _ first o t L k n => k = rm.cells ∧ n = rm.slots ∧ ∃ v, o = .returned v ∧ (∃ M N, Qc v M N ∧ OInv Z EL first.vm first.heap (dom Mi) t.vm t.heap M N []) ∧ OKp first.heap t.heap (dom Mi) ∧ (∀ y ∈ L, first.heap.size ≤ y.base ∨ y.base ∈ dom Mi)) hC hf hl
    (fun m meth c A a Y hp => have hU : Z.Warmed39 A.U.vm := wtrans (s := s.setVm vm0) hZ Y.warmed
      ⟨by show (Jvm.Cond.and _ .tt).before a A.U = true; rw [Cond.before_and, mv hU wc]; rfl, mv hU wc, mv hU wz, hp.2.2.1, hp.2.2.2⟩)
    (fun m meth c A a g mk Y hq => ⟨hq.1, wtrans (s := s.setVm vm0) hZ Y.warmed, by
      have J := I.hand (chat Y.warmed hZ hEL I.1.1) hp
      rw [← hq.2.1] at J
      exact J⟩) (fun _ _ _ _ _ _ _ _ _ => trivial)
    (fun _ _ _ _ ⟨v, L, h1, h2, h3, h4, h5⟩ => ⟨L, _, _, h5, rfl, rfl, v, h1, h2, h3, h4⟩)
    (fun m meth c A a g mk v t L k n Y hp _ _ ⟨e1, e2, v', e3, e4, e5, e6⟩ => by
      cases e3; subst e1 e2
      exact ⟨L, e4, e5, e6, rfl, rfl, rfl⟩)
/-- behind the call -/
theorem OWp.behind {T : State} {vm0 vm1 : Vm} {k0 : Nat} {locs : List Loc} {B : Pt} {v : Option Value} (hEL : EW Z a0 EL) (hS : s.Since vm0 k0) (hk0 : k0 ≤ T.heap.size) (hZ : Z.Warmed39 vm0) (ho : vm0.findClass own = some m.cls) (hL : ∀ y ∈ locs, s.heap.size ≤ y.base ∨ y.base ∈ ws) (I : OInv Z EL s.vm s.heap ws vm0 T.heap (Mi ++ Mr) N P)
    (hW1 : (s.setVm vm0).WarmedH vm1) (X' : Stand p l e R ((s.setVm vm0).setVm B.U.vm) m args below meth c B.U B.locs B.cells B.slots) (hS' : (s.setVm vm0).Since B.U.vm B.U.heap.size) (hgr : T.heap.size ≤ B.U.heap.size) (hpost : OPost Z EL Mi Qc rm ⟨T.setVm vm1, locs, cells, slots⟩ as' v B) :
    ∃ Mo No, Qc v Mo No ∧ OSt p l e R s m args below meth c own Z EL ws P B.U (Mo ++ Mr) (No ++ N) (cells + rm.cells) (slots + rm.slots) := by
  obtain ⟨X2, h2, hZ2, ho2⟩ := rebS hS hk0 X' hS' hgr hZ ho
  obtain ⟨Lc, ⟨Mo, No, hq, J⟩, K, hLc, l1, l2, l3⟩ := hpost
  refine ⟨Mo, No, hq, B.U.vm, _, B.locs, ?_, h2, Nat.le_refl _, hZ2, ho2, fun y hy => ?_, I.call (chat hW1 hZ hEL I.1.1) J K⟩
  · rw [← l2, ← l3]; exact X2
  · rw [l1] at hy
    rcases List.mem_append.mp hy with hy | hy
    · exact hL y hy
    · rcases hLc y hy with q | q
      · exact Or.inl (Nat.le_trans I.1.2.1 q)
      · obtain ⟨r, hr, e⟩ := List.mem_map.mp q
        have := (I.2.2.1 r (List.mem_append_left _ hr)).2.2.2
        rwa [e] at this
theorem OWp.callS (hk : OOk p bytes maxL ret nm meth c Z a0 EL) (hd : decode bytes pc = .ok (.invokestatic index, 3)) (hp : pc' = pc + 3) (w1 : (Jvm.Cond.methodLink own index y).before a0 Z = true) (w2 : (Jvm.Cond.static y).before a0 Z = true) (w3 : (Jvm.Cond.initialized y.cls).before a0 Z = true) (w4 : (Jvm.Cond.code y bytes' maxL' ret').before a0 Z = true)
    (hy : y.cls ≠ "java/lang/invoke/MethodHandle" ∧ y.cls ≠ "java/lang/invoke/VarHandle") (hC : OCon l Z EL y bytes' maxL' ret' [] rm argsL.toArray Mi Pc Qc) (hM : Mi ++ Mr = M) (hPc : ∀ q ∈ Pc, q ∈ Mr ++ (N ++ P)) (hsz : L.length = maxL) (hlen : ∀ sig, parseMethodDescriptor y.desc = some sig → argsL.length = sig.parameters.length) (hst : S = argsL.reverse ++ rest)
    (hW : (rest.map fun v => v.category).sum = W) (hf : rm.frames + 1 ≤ R.frames) (hl : W + (maxL' + 11) + rm.locals ≤ R.locals) (hc : cells + rm.cells ≤ R.cells) (hs : slots + rm.slots ≤ R.slots)
    (kk : ∀ v Mo No, Qc v Mo No → OWp p l e R s m args below meth c own Z EL ws P Q (Mo ++ Mr) (No ++ N) (cells + rm.cells) (slots + rm.slots) pc' L (v.toList ++ rest)) :
    OWp p l e R s m args below meth c own Z EL ws P Q M N cells slots pc L S := fun T hT => by
  subst hp hM
  obtain ⟨vm0, k0, locs, X, hS, hk0, hZ, ho, hL, I⟩ := hT
  obtain ⟨v, vm1, B, hW1, X', hS', hgr, hpost, st⟩ := callSS X hk.1 (own := own) ho (mvT (s := s.setVm vm0) hZ w1) (mvT (s := s.setVm vm0) hZ w2) (mvT (s := s.setVm vm0) hZ w3) (mvT (s := s.setVm vm0) hZ w4) hy (oback (W := W) (as' := argsL.toArray) hC hZ w4 w3 hf hl hk.2.2.2.2.2.2 I hPc)
    (g := mkF m pc L.toArray S) rfl (by rw [hk.2.2.1]; simpa using hsz) hlen hst (by show 2 * 0 + _ ≤ _; omega) (hb hk.2.1 hd) (fun _ _ => ⟨rfl, rfl, hc, hs⟩)
  obtain ⟨Mo, No, hq, hB⟩ := OWp.behind hk.2.2.2.2.2.2 hS hk0 hZ ho hL I hW1 X' hS' hgr hpost
  obtain ⟨U, st', r⟩ := kk v Mo No hq B.U hB
  exact ⟨U, st.trans st', r⟩
theorem OWp.callI (hk : OOk p bytes maxL ret nm meth c Z a0 EL) (hd : decode bytes pc = .ok (.invokespecial index, 3)) (hp : pc' = pc + 3) (hy1 : y.name = "<init>") (w1 : (Jvm.Cond.methodLink own index y).before a0 Z = true) (w2 : (Jvm.Cond.instanceMethod y).before a0 Z = true) (w3 : (Jvm.Cond.initialized y.cls).before a0 Z = true) (w4 : (Jvm.Cond.code y bytes' maxL' none).before a0 Z = true)
    (hy : y.cls ≠ "java/lang/invoke/MethodHandle" ∧ y.cls ≠ "java/lang/invoke/VarHandle") (hC : OCon l Z EL y bytes' maxL' none [] rm (.ref a :: argsL).toArray Mi Pc Qc) (hM : Mi ++ Mr = M) (hPc : ∀ q ∈ Pc, q ∈ Mr ++ (N ++ P)) (hsz : L.length = maxL) (hlen : ∀ sig, parseMethodDescriptor y.desc = some sig → argsL.length = sig.parameters.length) (hst : S = argsL.reverse ++ .ref a :: rest)
    (hW : (rest.map fun v => v.category).sum = W) (hf : rm.frames + 1 ≤ R.frames) (hl : W + (maxL' + 11) + rm.locals ≤ R.locals) (hc : cells + rm.cells ≤ R.cells) (hs : slots + rm.slots ≤ R.slots)
    (kk : ∀ v Mo No, Qc v Mo No → OWp p l e R s m args below meth c own Z EL ws P Q (Mo ++ Mr) (No ++ N) (cells + rm.cells) (slots + rm.slots) pc' L (v.toList ++ rest)) :
    OWp p l e R s m args below meth c own Z EL ws P Q M N cells slots pc L S := fun T hT => by
  subst hp hM
  obtain ⟨vm0, k0, locs, X, hS, hk0, hZ, ho, hL, I⟩ := hT
  obtain ⟨v, vm1, B, hW1, X', hS', hgr, hpost, st⟩ := X.specialBackS hk.1 (own := own) hy1 ho (mvT (s := s.setVm vm0) hZ w1) (mvT (s := s.setVm vm0) hZ w2) (mvT (s := s.setVm vm0) hZ w4) hy (oback (W := W) (as' := (.ref a :: argsL).toArray) hC hZ w4 w3 hf hl hk.2.2.2.2.2.2 I hPc)
    (g := mkF m pc L.toArray S) rfl (by rw [hk.2.2.1]; simpa using hsz) (Steps.refl _) (a := a) hlen hst (by show 2 * 0 + _ ≤ _; omega) (hb hk.2.1 hd) (fun _ _ => ⟨rfl, rfl, hc, hs⟩)
  obtain ⟨Mo, No, hq, hB⟩ := OWp.behind hk.2.2.2.2.2.2 hS hk0 hZ ho hL I hW1 X' hS' hgr hpost
  obtain ⟨U, st', r⟩ := kk v Mo No hq B.U hB
  exact ⟨U, st.trans st', r⟩
theorem OWp.callV (hk : OOk p bytes maxL ret nm meth c Z a0 EL) (hd : decode bytes pc = .ok (.invokevirtual index, 3)) (hp : pc' = pc + 3) (w1 : (Jvm.Cond.methodLink own index y).before a0 Z = true) (w2 : (Jvm.Cond.declares y).before a0 Z = true) (nf : ∀ vm0, Z.Warmed39 vm0 → NotFace (s.setVm vm0) y) (w5 : (Jvm.Cond.selects C y z).before a0 Z = true) (w6 : (Jvm.Cond.instanceMethod z).before a0 Z = true)
    (w3 : (Jvm.Cond.initialized z.cls).before a0 Z = true) (w4 : (Jvm.Cond.code z bytes' maxL' ret').before a0 Z = true) (hy : y.cls ≠ "java/lang/invoke/MethodHandle" ∧ y.cls ≠ "java/lang/invoke/VarHandle")
    (hm : (a, cl) ∈ M ++ (N ++ P)) (E : EC Z cl C)
    (hC : OCon l Z EL z bytes' maxL' ret' [] rm (.ref a :: argsL).toArray Mi Pc Qc) (hM : Mi ++ Mr = M) (hPc : ∀ q ∈ Pc, q ∈ Mr ++ (N ++ P)) (hsz : L.length = maxL) (hlen : ∀ sig, parseMethodDescriptor y.desc = some sig → argsL.length = sig.parameters.length) (hst : S = argsL.reverse ++ .ref a :: rest)
    (hW : (rest.map fun v => v.category).sum = W) (hf : rm.frames + 1 ≤ R.frames) (hl : W + (maxL' + 11) + rm.locals ≤ R.locals) (hc : cells + rm.cells ≤ R.cells) (hs : slots + rm.slots ≤ R.slots)
    (kk : ∀ v Mo No, Qc v Mo No → OWp p l e R s m args below meth c own Z EL ws P Q (Mo ++ Mr) (No ++ N) (cells + rm.cells) (slots + rm.slots) pc' L (v.toList ++ rest)) :
    OWp p l e R s m args below meth c own Z EL ws P Q M N cells slots pc L S := fun T hT => by
  subst hp hM
  obtain ⟨vm0, k0, locs, X, hS, hk0, hZ, ho, hL, I⟩ := hT
  obtain ⟨cB, kB, qa, qb, qc⟩ := isOf (s := s.setVm vm0) (T := T) hZ rfl (E.exa (I.at hm))
  obtain ⟨v, vm1, B, hW1, X', hS', hgr, hpost, st⟩ := X.virtualBackS hk.1 (own := own) ho (mvT (s := s.setVm vm0) hZ w1) (mvT (s := s.setVm vm0) hZ w2) (nf vm0 hZ) (mvT (s := s.setVm vm0) hZ w5) (mvT (s := s.setVm vm0) hZ w6) hy (oback (W := W) (as' := (.ref a :: argsL).toArray) hC hZ w4 w3 hf hl hk.2.2.2.2.2.2 I hPc) qa qc
    (g := mkF m pc L.toArray S) rfl (by rw [hk.2.2.1]; simpa using hsz) (Steps.refl _) hlen hst (by show 2 * 0 + _ ≤ _; omega) (hb hk.2.1 hd) (fun _ _ => ⟨rfl, rfl, hc, hs⟩)
  obtain ⟨Mo, No, hq, hB⟩ := OWp.behind hk.2.2.2.2.2.2 hS hk0 hZ ho hL I hW1 X' hS' hgr hpost
  obtain ⟨U, st', r⟩ := kk v Mo No hq B.U hB
  exact ⟨U, st.trans st', r⟩
theorem nfs {y : MethodName} (w : (Jvm.Cond.selects C y y).before a0 Z = true) : ∀ vm0, Z.Warmed39 vm0 → NotFace (s.setVm vm0) y := fun vm0 hZ => notFace_of_selects (args := #[]) (mvT (s := s.setVm vm0) hZ w)
/-- the class of a method that is selected is no interface -/
theorem nfs2 {y y' : MethodName} (w : (Jvm.Cond.selects C y' y').before a0 Z = true) (ec : y.cls = y'.cls) : ∀ vm0, Z.Warmed39 vm0 → NotFace (s.setVm vm0) y := fun vm0 hZ r0 h0 => by
  obtain ⟨c2, r2, m2, -, -, q3, -, kP, hkP, hkPi⟩ := Cond.selects_spec (args := #[]) (mvT (s := s.setVm vm0) hZ w)
  refine ⟨kP, ?_, hkPi⟩
  have e1 := findClass_of_methodNamed h0
  have e2 := findClass_of_methodNamed q3
  rw [ec] at e1
  rw [Option.some.inj (e1.symm.trans e2)]; exact hkP
theorem sameM {y y' : MethodName} {ret' : Option FieldType} (w : (Jvm.Cond.selects C y' y').before a0 Z = true) (ec : y.cls = y'.cls) (wi : (Jvm.Cond.instanceMethod y).before a0 Z = true) (hy : y.cls ≠ "java/lang/invoke/MethodHandle" ∧ y.cls ≠ "java/lang/invoke/VarHandle") : (Jvm.Cond.sameMethod y.cls y.cls y.name y.desc).before a0 Z = true := by
  obtain ⟨mk, methM, hnamed, hmethM, -, -⟩ := Cond.instanceMethod_spec wi
  obtain ⟨c2, r2, m2, -, -, q3, -, kP, hkP, hkPi⟩ := Cond.selects_spec w
  have e1 := findClass_of_methodNamed hnamed
  have e2 := findClass_of_methodNamed q3
  have e3 := State.methodFound?_of_named hnamed hy
  have e4 : Z.vm.classes[mk.cls]? = some kP := by rw [ec] at e1; rw [Option.some.inj (e1.symm.trans e2)]; exact hkP
  have e5 : Z.methodNamed? ⟨y.cls, y.name, y.desc⟩ = some mk := hnamed
  simp [Cond.before, Cond.holds, Cond.value, e1, e3, e5, e4, hkPi]
/-- invokevirtual of a private method -/
theorem OWp.callP (hk : OOk p bytes maxL ret nm meth c Z a0 EL) (hd : decode bytes pc = .ok (.invokevirtual index, 3)) (hp : pc' = pc + 3) (w1 : (Jvm.Cond.methodLink own index y).before a0 Z = true) (w2 : (Jvm.Cond.privateMethod y).before a0 Z = true) (w5 : (Jvm.Cond.selects C y y).before a0 Z = true) (w6 : (Jvm.Cond.instanceMethod y).before a0 Z = true)
    (w3 : (Jvm.Cond.initialized y.cls).before a0 Z = true) (w4 : (Jvm.Cond.code y bytes' maxL' ret').before a0 Z = true) (hy : y.cls ≠ "java/lang/invoke/MethodHandle" ∧ y.cls ≠ "java/lang/invoke/VarHandle")
    (hm : (a, cl) ∈ M ++ (N ++ P)) (E : EC Z cl C)
    (hC : OCon l Z EL y bytes' maxL' ret' [] rm (.ref a :: argsL).toArray Mi Pc Qc) (hM : Mi ++ Mr = M) (hPc : ∀ q ∈ Pc, q ∈ Mr ++ (N ++ P)) (hsz : L.length = maxL) (hlen : ∀ sig, parseMethodDescriptor y.desc = some sig → argsL.length = sig.parameters.length) (hst : S = argsL.reverse ++ .ref a :: rest)
    (hW : (rest.map fun v => v.category).sum = W) (hf : rm.frames + 1 ≤ R.frames) (hl : W + (maxL' + 11) + rm.locals ≤ R.locals) (hc : cells + rm.cells ≤ R.cells) (hs : slots + rm.slots ≤ R.slots)
    (kk : ∀ v Mo No, Qc v Mo No → OWp p l e R s m args below meth c own Z EL ws P Q (Mo ++ Mr) (No ++ N) (cells + rm.cells) (slots + rm.slots) pc' L (v.toList ++ rest)) :
    OWp p l e R s m args below meth c own Z EL ws P Q M N cells slots pc L S := fun T hT => by
  subst hp hM
  obtain ⟨vm0, k0, locs, X, hS, hk0, hZ, ho, hL, I⟩ := hT
  obtain ⟨cB, kB, qa, qb, qc⟩ := isOf (s := s.setVm vm0) (T := T) hZ rfl (E.exa (I.at hm))
  obtain ⟨cellB, hcellT, hclsB, hstatB⟩ := qc
  obtain ⟨mk, methM, hnamed, hmethM, hstM, habM⟩ := Cond.instanceMethod_spec (args := args) (mvT (s := s.setVm vm0) hZ w6)
  obtain ⟨methM', cM, hmethM', -, -, -, -, -, -, hsigM⟩ := Cond.code_spec (args := args) hnamed (mvT (s := s.setVm vm0) hZ w4)
  cases hmethM.symm.trans hmethM'
  obtain ⟨c2, r2, m2, -, -, q3, -, kP, hkP, hkPi⟩ := Cond.selects_spec (args := args) (mvT (s := s.setVm vm0) hZ w5)
  cases hnamed.symm.trans q3
  have hselP : selectMethod e.platform (s.setVm vm0).vm cellB.cls mk = .method mk := selectMethod_private hmethM (Cond.privateMethod_at (args := args) (mvT (s := s.setVm vm0) hZ w2) mk methM hnamed hmethM)
  obtain ⟨vm1, X1, hstep1⟩ := X.invokevirtual hk.1 (own := own) ho (mvT (s := s.setVm vm0) hZ w1) hnamed hmethM hstM hkP hkPi hy (a := a) (cell := cellB) hcellT (fun z h => by rw [h] at hstatB; cases hstatB) hselP hmethM habM hkP hkPi (g := mkF m pc L.toArray S) rfl (argsL := argsL) (rest := rest) (hlen _ hsigM) hst (hb hk.2.1 hd)
  obtain ⟨v, B, X', hS', hgr, hpost, hsteps⟩ := oback (len := 3) (W := W) (as' := (.ref a :: argsL).toArray) hC hZ w4 w3 hf hl hk.2.2.2.2.2.2 I hPc m meth c ⟨T.setVm vm1, locs, cells, slots⟩ { mkF m pc L.toArray S with stack := rest } (.invokevirtual index) mk (.ref a :: argsL).toArray X1 rfl (by rw [hk.2.2.1]; simpa using hsz) (hb hk.2.1 hd) (show 2 * 0 + (rest.map fun v => v.category).sum ≤ W by omega) (X1.named hnamed) ⟨rfl, rfl, hc, hs⟩
  have st := (Steps.refl _).trans ((hstep1 _ fun acts => by rw [doInvoke_state]; exact Steps.refl _).trans hsteps)
  obtain ⟨Mo, No, hq, hB⟩ := OWp.behind hk.2.2.2.2.2.2 hS hk0 hZ ho hL I X1.warmed X' hS' hgr hpost
  obtain ⟨U, st', r⟩ := kk v Mo No hq B.U hB
  exact ⟨U, st.trans st', r⟩
/-- invokespecial of the superclass's method -/
theorem OWp.callU (hk : OOk p bytes maxL ret nm meth c Z a0 EL) (hd : decode bytes pc = .ok (.invokespecial index, 3)) (hp : pc' = pc + 3) (w1 : (Jvm.Cond.methodLink own index y).before a0 Z = true) (w2 : (Jvm.Cond.sameMethod y.cls y.cls y.name y.desc).before a0 Z = true) (w5 : (Jvm.Cond.superclass own y.cls).before a0 Z = true) (w6 : (Jvm.Cond.instanceMethod y).before a0 Z = true) (hn : y.name ≠ "<init>")
    (w3 : (Jvm.Cond.initialized y.cls).before a0 Z = true) (w4 : (Jvm.Cond.code y bytes' maxL' ret').before a0 Z = true)
    (hm : (a, cl) ∈ M ++ (N ++ P)) (E : EC Z cl C)
    (hC : OCon l Z EL y bytes' maxL' ret' [] rm (.ref a :: argsL).toArray Mi Pc Qc) (hM : Mi ++ Mr = M) (hPc : ∀ q ∈ Pc, q ∈ Mr ++ (N ++ P)) (hsz : L.length = maxL) (hlen : ∀ sig, parseMethodDescriptor y.desc = some sig → argsL.length = sig.parameters.length) (hst : S = argsL.reverse ++ .ref a :: rest)
    (hW : (rest.map fun v => v.category).sum = W) (hf : rm.frames + 1 ≤ R.frames) (hl : W + (maxL' + 11) + rm.locals ≤ R.locals) (hc : cells + rm.cells ≤ R.cells) (hs : slots + rm.slots ≤ R.slots)
    (kk : ∀ v Mo No, Qc v Mo No → OWp p l e R s m args below meth c own Z EL ws P Q (Mo ++ Mr) (No ++ N) (cells + rm.cells) (slots + rm.slots) pc' L (v.toList ++ rest)) :
    OWp p l e R s m args below meth c own Z EL ws P Q M N cells slots pc L S := fun T hT => by
  subst hp hM
  obtain ⟨vm0, k0, locs, X, hS, hk0, hZ, ho, hL, I⟩ := hT
  obtain ⟨v, vm1, B, hW1, X', hS', hgr, hpost, st⟩ := superBackS (s := s.setVm vm0) X hk.1 hZ ho w1 w2 w6 w5 hn (oback (W := W) (as' := (.ref a :: argsL).toArray) hC hZ w4 w3 hf hl hk.2.2.2.2.2.2 I hPc) rfl (Ins.self (E.exa (I.at hm)))
    (g := mkF m pc L.toArray S) rfl (by rw [hk.2.2.1]; simpa using hsz) w4 hlen hst (by show 2 * 0 + _ ≤ _; omega) (hb hk.2.1 hd) (fun _ _ => ⟨rfl, rfl, hc, hs⟩)
  obtain ⟨Mo, No, hq, hB⟩ := OWp.behind hk.2.2.2.2.2.2 hS hk0 hZ ho hL I hW1 X' hS' hgr hpost
  obtain ⟨U, st', r⟩ := kk v Mo No hq B.U hB
  exact ⟨U, st.trans st', r⟩
end Calls
/-! 7. the end -/
section Ends
variable {v : Option Value} {M' N' : Mem} {w : Value} {x : Int32} {t : FieldType}
theorem OWp.leave (hk : OOk p bytes maxL ret nm meth c Z a0 EL) (hv : ret = none → v = none) (hQ : Q v M' N') (hm : M'.Sublist M) (hn : ∀ q ∈ N', q ∈ N) (hc : cells ≤ R.cells) (hs : slots ≤ R.slots)
    (H : ∀ (T : State) (vm0 : Vm) (locs : List Loc) (fs : List Frame), Stand p l e R (s.setVm vm0) m args below meth c T locs cells slots → (∀ (f : JFrame) (acts : List Action), f.method = m → f.locked = none → f.entered = [] → (doReturn e (T.setTop f) acts v).1 = T.setFrames fs) → Steps p.tables e below (T.setTop (mkF m pc L.toArray S)) (T.setFrames fs)) :
    OWp p l e R s m args below meth c own Z EL ws P Q M N cells slots pc L S := fun T hT => by
  obtain ⟨vm0, k0, locs, X, hS, hk0, hZ, ho, hL, I⟩ := hT
  obtain ⟨fs, h1, h2, h3, h4⟩ := X.leaveW hS hk0 (v := v) (fun q => hv (hk.2.2.2.1.symm.trans q)) hk.2.2.2.2.1
  refine ⟨T.setFrames fs, H T vm0 locs fs X h1, v, locs, h2, h3, ⟨M', N', hQ, ?_⟩, (show OKp s.heap T.heap ws from okp_of X hL), hL, h4.1, h4.2.1, h4.2.2.1, h4.2.2.2.mono hc hs⟩
  exact (I.later (chat X.warmed hZ hk.2.2.2.2.2.2 I.1.1) (ext_refl _)).sub hm hn
theorem OWp.ret0 (hk : OOk p bytes maxL none nm meth c Z a0 EL) (hd : decode bytes pc = .ok (.return_, 1)) (hQ : Q none M' N') (hm : M'.Sublist M) (hn : ∀ q ∈ N', q ∈ N) (hc : cells ≤ R.cells) (hs : slots ≤ R.slots) :
    OWp p l e R s m args below meth c own Z EL ws P Q M N cells slots pc L [] :=
  OWp.leave hk (fun _ => rfl) hQ hm hn hc hs fun T vm0 locs fs X h1 => X.returnOut hk.1 hk.2.2.2.1 (hb hk.2.1 hd) h1
theorem OWp.retI (hk : OOk p bytes maxL (some .int) nm meth c Z a0 EL) (hd : decode bytes pc = .ok (.ireturn, 1)) (hQ : Q (some (.int x)) M' N') (hm : M'.Sublist M) (hn : ∀ q ∈ N', q ∈ N) (hc : cells ≤ R.cells) (hs : slots ≤ R.slots) :
    OWp p l e R s m args below meth c own Z EL ws P Q M N cells slots pc L (.int x :: rest) :=
  OWp.leave hk (fun q => by cases q) hQ hm hn hc hs fun T vm0 locs fs X h1 => retOut X hk.1 hk.2.2.2.1 rfl (Or.inl ⟨rfl, Or.inl rfl, x, rfl⟩) (hb hk.2.1 hd) h1
theorem OWp.retN (hk : OOk p bytes maxL (some t) nm meth c Z a0 EL) (ht : t = .boolean ∨ t = .byte ∨ t = .char ∨ t = .short) (hd : decode bytes pc = .ok (.ireturn, 1)) (hQ : Q (some (.int (nar t x))) M' N') (hm : M'.Sublist M) (hn : ∀ q ∈ N', q ∈ N) (hc : cells ≤ R.cells) (hs : slots ≤ R.slots) :
    OWp p l e R s m args below meth c own Z EL ws P Q M N cells slots pc L (.int x :: rest) :=
  OWp.leave hk (fun q => by cases q) hQ hm hn hc hs fun T vm0 locs fs X h1 => RoadKit.retN X hk.1 hk.2.2.2.1 ht (hb hk.2.1 hd) h1
theorem OWp.retA (hk : OOk p bytes maxL (some t) nm meth c Z a0 EL) (ht : t.isReference = true) (hw : w.isRef = true) (hnw : narrow t w = w) (hd : decode bytes pc = .ok (.areturn, 1)) (hQ : Q (some w) M' N') (hm : M'.Sublist M) (hn : ∀ q ∈ N', q ∈ N) (hc : cells ≤ R.cells) (hs : slots ≤ R.slots) :
    OWp p l e R s m args below meth c own Z EL ws P Q M N cells slots pc L (w :: rest) :=
  OWp.leave hk (fun q => by cases q) hQ hm hn hc hs fun T vm0 locs fs X h1 => retOut X hk.1 hk.2.2.2.1 hnw (Or.inr (Or.inr (Or.inr (Or.inr ⟨rfl, ht, hw⟩)))) (hb hk.2.1 hd) h1
end Ends
/-! 8. System.arraycopy -/
section Copy
/-- an array's clone -/
theorem OWp.clone {index : Nat} {a : Addr} {cl : Cell} {ty : FieldType} {vs : List Value} {ad : String} {W cap : Nat} (hk : OOk p bytes maxL ret nm meth c Z a0 EL) (hd : decode bytes pc = .ok (.invokevirtual index, 3)) (hp : pc' = pc + 3)
    (w1 : (Jvm.Cond.methodLink own index ⟨ad, "clone", "()Ljava/lang/Object;"⟩).before a0 Z = true) (w2 : (Jvm.Cond.sameMethod ad "java/lang/Object" "clone" "()Ljava/lang/Object;").before a0 Z = true) (w3 : (Jvm.Cond.native ⟨"java/lang/Object", "clone", "()Ljava/lang/Object;"⟩).before a0 Z = true)
    (w4 : (Jvm.Cond.instanceMethod ⟨"java/lang/Object", "clone", "()Ljava/lang/Object;"⟩).before a0 Z = true) (w5 : (Jvm.Cond.selects ad ⟨ad, "clone", "()Ljava/lang/Object;"⟩ ⟨"java/lang/Object", "clone", "()Ljava/lang/Object;"⟩).before a0 Z = true) (w6 : (Jvm.Cond.castable ad "java/lang/Cloneable").before a0 Z = true)
    (hm : (a, cl) ∈ M ++ (N ++ P)) (F : AC Z cl ty vs) (E : EC Z cl ad) (hsz : L.length = maxL) (hf : 1 ≤ R.frames) (hW : (rest.map fun v => v.category).sum = W) (hl : W + 14 ≤ R.locals) (hcap : vs.length ≤ cap) (hc : cells + 1 ≤ R.cells) (hs : slots + cap ≤ R.slots)
    (kk : ∀ a' cl', AC Z cl' ty vs → EC Z cl' ad → OWp p l e R s m args below meth c own Z EL ws P Q ((a', cl') :: M) N (cells + 1) (slots + cap) pc' L (.ref a' :: rest)) :
    OWp p l e R s m args below meth c own Z EL ws P Q M N cells slots pc L (.ref a :: rest) := fun T hT => by
  subst hp
  obtain ⟨vm0, k0, locs, X, hS, hk0, hZ, ho, hL, I⟩ := hT
  have hh := I.at hm
  obtain ⟨T', h', X', e', E', A', EX, st⟩ := cloneA (s := s.setVm vm0) X hk.1 hZ ho w1 w2 w3 w4 w5 w6 rfl (F.arr hh) (E.exa hh) (fitC_of (F.arr hh) fun i hi v hv => F.2.2.2.2 v (by
      rw [← F.2.2.1]; exact Array.mem_toList_iff.mpr (Array.mem_of_getElem? hv)))
    (g := mkF m pc L.toArray (.ref a :: rest)) rfl (by rw [hk.2.2.1]; simpa using hsz) (rest := rest) rfl (hb hk.2.1 hd) hf (W := W) (by show 2 * 0 + _ ≤ _; omega) hl (cap := cap) (by rw [F.size]; exact hcap) hc hs
  subst e'
  obtain ⟨U, st', r⟩ := kk _ _ ⟨A'.2.1, A'.2.2, F.2.2.1, F.2.2.2⟩ (EC.of EX A'.1) T' ⟨vm0, k0, locs, X', hS, Nat.le_trans hk0 E'.1, hZ, ho, hL, I.alloc E' A'.1⟩
  exact ⟨U, st _ st', r⟩
/-- checkcast of null -/
theorem OWp.castN {index : Nat} {K : String} (hk : OOk p bytes maxL ret nm meth c Z a0 EL) (hd : decode bytes pc = .ok (.checkcast index, 3)) (hp : pc' = pc + 3)
    (kk : OWp p l e R s m args below meth c own Z EL ws P Q M N cells slots pc' L (.null :: rest)) : OWp p l e R s m args below meth c own Z EL ws P Q M N cells slots pc L (.null :: rest) := by
  subst hp
  exact OWp.pureX (fun T t vm0 locs X hZ ho hH k => X.checkcastNull hk.1 (g := mkF m pc L.toArray (.null :: rest)) rfl rfl (hb hk.2.1 hd) t k) kk
theorem OInv.put {vmS vm : Vm} {h0 h h' : Heap} {i : Nat} {a : Addr} {cl cl' : Cell} (I : OInv Z EL vmS h0 ws vm h M N P) (hi : M[i]? = some (a, cl)) (K : Keep h h' [a]) (hc : h'[a]? = some cl') : OInv Z EL vmS h0 ws vm h' (M.set i (a, cl')) N P := by
  obtain ⟨C, EZ, hM, hn, hN, hP⟩ := I
  obtain ⟨b1, b2, b3, b4⟩ := hM _ (List.mem_of_getElem? hi)
  have ne : ∀ {y : Addr} {cy : Cell}, y ≠ a → h[y]? = some cy → h'[y]? = some cy := fun {y cy} q r => K.2.1 y cy r fun z => q (List.mem_singleton.mp z)
  have hs : ∀ x ∈ [a], Safe Z EL vm h x := fun x hx => by cases List.mem_singleton.mp hx; exact b2
  have dm := dom_set (c' := cl') hi
  refine ⟨C.trans (CHr.keep K hs C.1), ⟨Nat.le_trans EZ.1 K.1, fun y cy q => ?_⟩, fun q hq => ?_, by rw [dm]; exact hn, fun q hq => ?_, fun q hq => ?_⟩
  · exact ne (Nat.ne_of_lt (Nat.lt_of_lt_of_le (lt_of q) b3)) (EZ.2 _ _ q)
  · rcases mem_set hn hi q hq with rfl | ⟨hq, e⟩
    · exact ⟨hc, Safe.keep K hs C.1 b2, b3, b4⟩
    · obtain ⟨a1, a2, a3, a4⟩ := hM q hq
      exact ⟨ne e a1, Safe.keep K hs C.1 a2, a3, a4⟩
  · obtain ⟨a1, a2, a3⟩ := hN q hq
    exact ⟨ne (fun z => a2 (by rw [z]; exact List.mem_map.mpr ⟨_, List.mem_of_getElem? hi, rfl⟩)) a1, by rw [dm]; exact a2, a3⟩
  · obtain ⟨a1, a2⟩ := hP q hq
    exact ⟨ne (fun z => a2 (by rw [z]; exact List.mem_map.mpr ⟨_, List.mem_of_getElem? hi, rfl⟩)) a1, by rw [dm]; exact a2⟩
/-- the places written, said by the cells' addresses alone -/
theorem restand {s' T : State} {locs : List Loc} (X : Stand p l e R s' m args below meth c T locs cells slots) (hK : OKp s'.heap T.heap ws) : ∃ L2, Stand p l e R s' m args below meth c T L2 cells slots ∧ ∀ y ∈ L2, y.base ∈ ws := by
  refine ⟨ws.flatMap fun a => (List.range ((T.heap[a]?.map fun q => q.slots.size).getD 0)).map fun i => (⟨a, i⟩ : Loc), { X with same := ?_ }, fun y hy => ?_⟩
  · obtain ⟨q1, q2, q3, q4, q5, q6⟩ := X.same
    refine ⟨q1, q2, q3, q4, q5, fun a ca ha => ?_⟩
    obtain ⟨c', r1, r2, r3, r4⟩ := q6 a ca ha
    refine ⟨c', r1, r2, r3, fun i hi => ?_⟩
    by_cases hw : a ∈ ws
    · have hlt : ¬ i < c'.slots.size := fun z => hi (List.mem_flatMap.mpr ⟨a, hw, List.mem_map.mpr ⟨i, List.mem_range.mpr (by
        have r1' : T.heap[a]? = some c' := r1
        rw [r1']; exact z), rfl⟩⟩)
      rw [Array.getElem?_eq_none (Nat.not_lt.mp hlt), Array.getElem?_eq_none (by rw [← r3]; exact Nat.not_lt.mp hlt)]
    · have e := hK.2 a ca ha hw
      have r1' : T.heap[a]? = some c' := r1
      rw [show c' = ca from Option.some.inj (r1'.symm.trans e)]
  · obtain ⟨a, ha, hb⟩ := List.mem_flatMap.mp hy
    obtain ⟨i, -, rfl⟩ := List.mem_map.mp hb
    exact ha
theorem OWp.arraycopy {index i : Nat} {a b : Addr} {ca cb : Cell} {ty : FieldType} {n1 n2 sp dp nn : Nat} {f g : Nat → Value} {W : Nat} (hk : OOk p bytes maxL ret nm meth c Z a0 EL) (hd : decode bytes pc = .ok (.invokestatic index, 3)) (hp : pc' = pc + 3)
    (w1 : (Jvm.Cond.methodLink own index Jvm.Stand.acN).before a0 Z = true) (w2 : (Jvm.Cond.native Jvm.Stand.acN).before a0 Z = true) (w3 : (Jvm.Cond.static Jvm.Stand.acN).before a0 Z = true) (w4 : (Jvm.Cond.initialized "java/lang/System").before a0 Z = true)
    (hm : (a, ca) ∈ M ++ (N ++ P)) (A : AC Z ca ty (tab n1 f)) (hi : M[i]? = some (b, cb)) (B : AC Z cb ty (tab n2 g)) (hty : refKind ty = false) (h1 : sp + nn ≤ n1) (h2 : dp + nn ≤ n2) (hsz : L.length = maxL) (hf : 1 ≤ R.frames) (hW : (rest.map fun v => v.category).sum = W) (hlo : W + (nativeFrameWords "java/lang/System" "arraycopy" 5 + 11) ≤ R.locals)
    (kk : ∀ cb', AC Z cb' ty (tab n2 fun j => if dp ≤ j ∧ j < dp + nn then f (sp + (j - dp)) else g j) → OWp p l e R s m args below meth c own Z EL ws P Q (M.set i (b, cb')) N cells slots pc' L rest) :
    OWp p l e R s m args below meth c own Z EL ws P Q M N cells slots pc L (.int (Int32.ofNat nn) :: .int (Int32.ofNat dp) :: .ref b :: .int (Int32.ofNat sp) :: .ref a :: rest) := fun T hT => by
  subst hp
  obtain ⟨vm0, k0, locs, X, hS, hk0, hZ, ho, hL, I⟩ := hT
  obtain ⟨b1, b2, b3, b4⟩ := I.2.2.1 _ (List.mem_of_getElem? hi)
  have l1 : n1 < 2147483648 := by have := A.2.2.2.1; rwa [tab_len] at this
  have l2 : n2 < 2147483648 := by have := B.2.2.2.1; rwa [tab_len] at this
  have A' : Arv Z T.heap a ca.cls ty (Int32.ofNat n1) (tab n1 f) (.int 0) := by have := A.arv (d := .int 0) (I.at hm); rwa [tab_len] at this
  have B' : Arv Z T.heap b cb.cls ty (Int32.ofNat n2) (tab n2 g) (.int 0) := by have := B.arv (d := .int 0) b1; rwa [tab_len] at this
  obtain ⟨T', h', L', X', e', -, K, B2, st⟩ := cpA (s := s.setVm vm0) (own := own) X hk.1 hZ ho w1 w2 w3 w4 rfl A' B' (Or.inl ⟨rfl, hty⟩) (sp := Int32.ofNat sp) (dp := Int32.ofNat dp) (nn := Int32.ofNat nn) (n_nn (by omega)) (n_nn (by omega)) (n_nn (by omega))
    (by rw [n_nat (by omega), n_nat (by omega), n_nat (by omega)]; exact h1) (by rw [n_nat (by omega), n_nat (by omega), n_nat (by omega)]; exact h2) rfl (by rw [n_nat (by omega), n_nat (by omega), tab_len]; exact h2) (n0 := 0) (fun _ _ => Nat.zero_le _) (Nat.zero_le _)
    (g := mkF m pc L.toArray (.int (Int32.ofNat nn) :: .int (Int32.ofNat dp) :: .ref b :: .int (Int32.ofNat sp) :: .ref a :: rest)) (rest := rest) rfl (by rw [hk.2.2.1]; simpa using hsz) rfl (hb hk.2.1 hd) hf (W := W) (by show 2 * 0 + _ ≤ _; omega) hlo
  subst e'
  rw [n_nat (show nn < 2147483648 by omega), n_nat (show dp < 2147483648 by omega), n_nat (show sp < 2147483648 by omega)] at B2
  have el : (tab n2 g).take dp ++ (List.range nn).map (fun i => (tab n1 f).getD (sp + i) (.int 0)) ++ (tab n2 g).drop (dp + nn) = tab n2 fun j => if dp ≤ j ∧ j < dp + nn then f (sp + (j - dp)) else g j := by
    refine List.ext_getElem? fun j => ?_
    by_cases hj : j < n2
    · rw [tab_get hj]
      by_cases c1 : j < dp
      · rw [List.getElem?_append_left (by simp [tab_len]; omega), List.getElem?_append_left (by simp [tab_len]; omega), List.getElem?_take, if_pos c1, tab_get hj, if_neg (by omega)]
      · by_cases c2 : j < dp + nn
        · rw [List.getElem?_append_left (by simp [tab_len]; omega), List.getElem?_append_right (by simp [tab_len]; omega)]
          have e1 : ((tab n2 g).take dp).length = dp := by simp [tab_len]; omega
          rw [e1, List.getElem?_map, List.getElem?_range (by omega), if_pos ⟨by omega, c2⟩]
          simp only [Option.map_some]
          rw [List.getD_eq_getElem?_getD, tab_get (by omega)]; rfl
        · have e1 : ((tab n2 g).take dp ++ (List.range nn).map (fun i => (tab n1 f).getD (sp + i) (.int 0))).length = dp + nn := by simp [tab_len]; omega
          rw [List.getElem?_append_right (by rw [e1]; omega), e1, List.getElem?_drop, show dp + nn + (j - (dp + nn)) = j by omega, tab_get hj, if_neg (by omega)]
    · rw [List.getElem?_eq_none (by simp [tab_len]; omega), List.getElem?_eq_none (by simp [tab_len]; omega)]
  rw [el] at B2
  obtain ⟨cb', hcb, AB⟩ := AC.of_arv B2 (by rw [n_nat l2, tab_len])
  have hK0 := okp_of X hL
  have hK1 : OKp s.heap T'.heap (b :: ws) := ⟨Nat.le_trans hK0.1 K.1, fun x cx q1 q2 => K.2.1 x cx (hK0.2 x cx q1 fun z => q2 (List.mem_cons_of_mem _ z)) fun z => q2 (by rw [List.mem_singleton.mp z]; exact List.mem_cons_self ..)⟩
  obtain ⟨L2, X2, hL2⟩ := restand (s' := s.setVm vm0) X' hK1
  obtain ⟨U, st', r⟩ := kk cb' AB T' ⟨vm0, k0, L2, X2, hS, Nat.le_trans hk0 K.1, hZ, ho, fun y hy => by
    rcases List.mem_cons.mp (hL2 y hy) with q | q
    · rw [q]; exact b4
    · exact Or.inr q, I.put hi K hcb⟩
  exact ⟨U, st _ st', r⟩
end Copy
end Walk
end Jvm.OwnKit
namespace Jvm.OwnKit
open Jvm Jvm.ClassFile Sem Op Lib Jvm.Free Jvm.Stand Jvm.LawKit Jvm.RoadKit Bundle
/-! what is known of a String: its chars -/
section StrDefs
def lo8 (c : Int32) : Int32 := c.toInt8.toInt32
def hi8 (c : Int32) : Int32 := (c >>> ((8 : Int32) &&& 31)).toInt8.toInt32
def lw8 (c : Int32) : Int32 := (c >>> ((0 : Int32) &&& 31)).toInt8.toInt32
def lat (cs : List Int32) : Bool := cs.all fun c => !decide (255 < c)
def cdOf (cs : List Int32) : Int32 := if lat cs then 0 else 1
def oWide (cs : List Int32) : List Value := tab (2 * cs.length) fun j => .int (if j % 2 = 0 then lw8 (cs.getD (j / 2) 0) else hi8 (cs.getD (j / 2) 0))
def oBytes (cs : List Int32) : List Value := if lat cs then tab cs.length (fun j => .int (lo8 (cs.getD j 0))) else oWide cs
def Chars (cs : List Int32) : Prop := (∀ c ∈ cs, ¬ c < 0 ∧ ¬ (65535 : Int32) < c) ∧ cs.length ≤ 4000
def SC (Z : State) (t : Addr) (cx ct : Cell) (cs : List Int32) : Prop :=
  EC Z cx "java/lang/String" ∧ FC Z cx "java/lang/String" "value" "[B" (.ref t) ∧ FC Z cx "java/lang/String" "coder" "B" (.int (cdOf cs)) ∧ AC Z ct .byte (oBytes cs) ∧ Chars cs
theorem lat_iff {cs : List Int32} : lat cs = true ↔ ∀ c ∈ cs, ¬ (255 : Int32) < c := by simp [lat]
theorem cd_cases (cs : List Int32) : (lat cs = true ∧ cdOf cs = 0) ∨ (lat cs = false ∧ cdOf cs = 1) := by
  cases h : lat cs
  · exact Or.inr ⟨rfl, by simp [cdOf, h]⟩
  · exact Or.inl ⟨rfl, by simp [cdOf, h]⟩
theorem nar_cd (cs : List Int32) : nar .byte (cdOf cs) = cdOf cs := by rcases cd_cases cs with ⟨-, h⟩ | ⟨-, h⟩ <;> rw [h] <;> decide
theorem bytes_len (cs : List Int32) : (oBytes cs).length = if lat cs then cs.length else 2 * cs.length := by
  unfold oBytes; split <;> simp [oWide, tab_len]
theorem bytes_lat {cs : List Int32} (h : lat cs = true) : oBytes cs = tab cs.length (fun j => .int (lo8 (cs.getD j 0))) := by simp [oBytes, h]
theorem bytes_wide {cs : List Int32} (h : lat cs = false) : oBytes cs = oWide cs := by simp [oBytes, h]
theorem getD_mem {cs : List Int32} {i : Nat} (hi : i < cs.length) : cs.getD i 0 ∈ cs := by
  rw [List.getD_eq_getElem?_getD, List.getElem?_eq_getElem hi]; exact List.getElem_mem hi
/-- length()'s shift -/
theorem shr_len (cs : List Int32) (h : cs.length ≤ 4000) : Int32.ofNat (oBytes cs).length >>> (cdOf cs &&& 31) = Int32.ofNat cs.length := by
  rw [bytes_len]
  rcases cd_cases cs with ⟨h1, h2⟩ | ⟨h1, h2⟩
  · rw [h2, h1, if_pos rfl]
    apply i_eq
    rw [c_ishr _ 0 0 (by decide)]; simp
  · rw [h2, h1, if_neg (by decide)]
    apply i_eq
    rw [c_ishr _ 1 1 (by decide), n_int (by omega), n_int (by omega)]; omega
theorem lo8_back {c : Int32} (h0 : ¬ c < 0) (h1 : ¬ (255 : Int32) < c) : (lo8 c &&& 255).toUInt32.toUInt16.toUInt32.toInt32 = c := by
  rw [i2c_mask]
  apply i_eq
  rw [c_mask _ 255 8 (by decide) (by decide)]
  have q := c_i2b c
  rw [i_lt] at h0 h1
  have e0 : (0 : Int32).toInt = 0 := by decide
  have e1 : (255 : Int32).toInt = 255 := by decide
  rw [e0] at h0; rw [e1] at h1
  have : (lo8 c).toInt = c.toInt8.toInt32.toInt := rfl
  rw [this]; omega
theorem nar_char_id {c : Int32} (h0 : ¬ c < 0) (h1 : ¬ (65535 : Int32) < c) : nar .char c = c := by
  apply i_eq
  have q := c_i2c c
  rw [i_lt] at h0 h1
  have e0 : (0 : Int32).toInt = 0 := by decide
  have e1 : (65535 : Int32).toInt = 65535 := by decide
  rw [e0] at h0; rw [e1] at h1
  show c.toUInt32.toUInt16.toUInt32.toInt32.toInt = _
  omega
theorem nar_bool01 {x : Int32} (h : x = 0 ∨ x = 1) : nar .boolean x = x := by rcases h with rfl | rfl <;> decide
theorem fits_cd (cs : List Int32) : fits .byte (.int (cdOf cs)) = true := by rcases cd_cases cs with ⟨-, h⟩ | ⟨-, h⟩ <;> rw [h] <;> decide
/-- coderFromArrayLen's answer -/
theorem cfl_val {cs : List Int32} {n : Nat} (hn : cs.length = n) (h4 : cs.length ≤ 4000) (h0 : 0 < n) : (XT.ushr (Int32.ofNat n - Int32.ofNat (oBytes cs).length) 31).toInt8.toInt32 = cdOf cs := by
  rw [bytes_len]
  rcases cd_cases cs with ⟨h1, h2⟩ | ⟨h1, h2⟩
  · rw [h2, h1, if_pos rfl, hn, Int32.sub_self]; decide
  · rw [h2, h1, if_neg (by decide)]
    have e : XT.ushr (Int32.ofNat n - Int32.ofNat (2 * cs.length)) 31 = 1 := by
      apply i_eq
      have q := c_isub (Int32.ofNat n) (Int32.ofNat (2 * cs.length))
      have r := rng32 (Int32.ofNat n - Int32.ofNat (2 * cs.length))
      rw [n_int (by omega), n_int (by omega)] at q
      have u := c_iushr (Int32.ofNat n - Int32.ofNat (2 * cs.length)) 31 31 (by decide) (by decide)
      have e1 : (1 : Int32).toInt = 1 := by decide
      show ((Int32.ofNat n - Int32.ofNat (2 * cs.length)).toUInt32 >>> ((31 : Int32) &&& 31).toUInt32).toInt32.toInt = _
      rw [u, e1]
      omega
    rw [e]; decide
theorem shl_1 (n : Nat) (h : n ≤ 100000) : Int32.ofNat n <<< ((1 : Int32) &&& 31) = Int32.ofNat (2 * n) := by
  apply i_eq
  have q := c_ishl (Int32.ofNat n) 1 1 (by decide)
  have r := rng32 (Int32.ofNat n <<< ((1 : Int32) &&& 31))
  rw [n_int (by omega)] at q
  rw [n_int (by omega)]
  omega
theorem wide_lo {cs : List Int32} {i : Nat} (hi : i < cs.length) : (oWide cs)[2 * i]? = some (.int (lw8 (cs.getD i 0))) := by
  unfold oWide; rw [tab_get (by omega), if_pos (by omega), show 2 * i / 2 = i by omega]
theorem wide_hi {cs : List Int32} {i : Nat} (hi : i < cs.length) : (oWide cs)[2 * i + 1]? = some (.int (hi8 (cs.getD i 0))) := by
  unfold oWide; rw [tab_get (by omega), if_neg (by omega), show (2 * i + 1) / 2 = i by omega]
theorem wide_back {c : Int32} (h0 : ¬ c < 0) (h1 : ¬ (65535 : Int32) < c) : (((lw8 c &&& 255) <<< ((0 : Int32) &&& 31)) ||| ((hi8 c &&& 255) <<< ((8 : Int32) &&& 31))).toUInt32.toUInt16.toUInt32.toInt32 = c := by
  have a1 := c_ishr c 0 0 (by decide)
  have a2 := c_i2b (c >>> ((0 : Int32) &&& 31))
  have a3 := c_mask (lw8 c) 255 8 (by decide) (by decide)
  have a4 := c_ishl (lw8 c &&& 255) 0 0 (by decide)
  have b1 := c_ishr c 8 8 (by decide)
  have b2 := c_i2b (c >>> ((8 : Int32) &&& 31))
  have b3 := c_mask (hi8 c) 255 8 (by decide) (by decide)
  have b4 := c_ishl (hi8 c &&& 255) 8 8 (by decide)
  have r1 := rng32 ((lw8 c &&& 255) <<< ((0 : Int32) &&& 31))
  have r2 := rng32 ((hi8 c &&& 255) <<< ((8 : Int32) &&& 31))
  have e1 : (lw8 c).toInt = (c >>> ((0 : Int32) &&& 31)).toInt8.toInt32.toInt := rfl
  have e2 : (hi8 c).toInt = (c >>> ((8 : Int32) &&& 31)).toInt8.toInt32.toInt := rfl
  have z0 : (0 : Int32).toInt = 0 := by decide
  have z1 : (65535 : Int32).toInt = 65535 := by decide
  rw [i_lt, z0] at h0
  rw [i_lt, z1] at h1
  have p8 : ((2 ^ 8 : Nat) : Int) = 256 := by decide
  have p0 : ((2 ^ 0 : Nat) : Int) = 1 := by decide
  rw [p0] at a1 a4
  rw [p8] at a3 b1 b3 b4
  have o := c_or' ((lw8 c &&& 255) <<< ((0 : Int32) &&& 31)) ((hi8 c &&& 255) <<< ((8 : Int32) &&& 31)) 8 (by decide) 256 (by decide) (by omega) (by omega) (by omega)
  have u := c_i2c (((lw8 c &&& 255) <<< ((0 : Int32) &&& 31)) ||| ((hi8 c &&& 255) <<< ((8 : Int32) &&& 31)))
  apply i_eq
  omega
theorem ch_nil : Chars [] := ⟨fun _ h => (nomatch h), by decide⟩
theorem ch_cons {cs : List Int32} (v : Int32) (h : Chars cs) (hl : cs.length < 4000) : Chars (nar .char v :: cs) := ⟨fun c hc => by
  rcases List.mem_cons.mp hc with rfl | hc
  · exact rng_char (fits_nar_char v)
  · exact h.1 c hc, hl⟩
theorem lt_65535 {c : Int32} (h : ¬ (255 : Int32) < c) : ¬ (65535 : Int32) < c := by
  rw [i_lt] at h ⊢
  have e1 : (255 : Int32).toInt = 255 := by decide
  have e2 : (65535 : Int32).toInt = 65535 := by decide
  omega
theorem msk_lat (v : Int32) : ¬ (v &&& 255).toUInt32.toUInt16.toUInt32.toInt32 < 0 ∧ ¬ (255 : Int32) < (v &&& 255).toUInt32.toUInt16.toUInt32.toInt32 := by
  rw [i2c_mask]
  have h := c_and v 255 (by decide)
  have e1 : (255 : Int32).toInt = 255 := by decide
  have e2 : (0 : Int32).toInt = 0 := by decide
  rw [i_lt, i_lt]; omega
theorem msk_nar (v : Int32) : ¬ (255 : Int32) < nar .char (v &&& 255).toUInt32.toUInt16.toUInt32.toInt32 := by
  rw [nar_char_id (msk_lat v).1 (lt_65535 (msk_lat v).2)]; exact (msk_lat v).2
theorem lo8_inj {x y : Int32} (h0 : ¬ x < 0) (h1 : ¬ (255 : Int32) < x) (k0 : ¬ y < 0) (k1 : ¬ (255 : Int32) < y) (h : lo8 x = lo8 y) : x = y := by
  rw [← lo8_back h0 h1, ← lo8_back k0 k1, h]
/-- r: where ch lies first among cs, or -1 -/
def IdxR (cs : List Int32) (ch r : Int32) : Prop := (r = -1 ∧ ∀ j, j < cs.length → ¬ cs.getD j 0 = ch) ∨ ∃ i, i < cs.length ∧ r = Int32.ofNat i ∧ cs.getD i 0 = ch ∧ ∀ j, j < i → ¬ cs.getD j 0 = ch
theorem shr_1 (n : Nat) (h : n ≤ 100000) : Int32.ofNat (2 * n) >>> ((1 : Int32) &&& 31) = Int32.ofNat n := by
  apply i_eq
  rw [c_ishr _ 1 1 (by decide), n_int (by omega), n_int (by omega)]; omega
theorem lt_65536 {c : Int32} (h : ¬ (65535 : Int32) < c) : c < 65536 := by
  rw [i_lt] at h ⊢
  have e1 : (65536 : Int32).toInt = 65536 := by decide
  have e2 : (65535 : Int32).toInt = 65535 := by decide
  omega
theorem lat_cons {c : Int32} {cs : List Int32} (h : ¬ (255 : Int32) < c) (hl : lat cs = true) : lat (c :: cs) = true := lat_iff.mpr fun q hq => by
  rcases List.mem_cons.mp hq with rfl | hq
  · exact h
  · exact lat_iff.mp hl q hq
theorem nar_nar (x : Int32) : nar .char (nar .char x) = nar .char x := nar_char_id (rng_char (fits_nar_char x)).1 (rng_char (fits_nar_char x)).2
theorem n_sub {a b : Nat} (h : a ≤ b) (hb : b < 2147483648) : Int32.ofNat b - Int32.ofNat a = Int32.ofNat (b - a) := by
  rw [← Int32.toInt_inj, n_int (by omega)]
  have q := c_isub (Int32.ofNat b) (Int32.ofNat a)
  rw [n_int hb, n_int (by omega)] at q
  have r := rng32 (Int32.ofNat b - Int32.ofNat a)
  omega
def subL (cs : List Int32) (a b : Nat) : List Int32 := (cs.drop a).take (b - a)
theorem subL_len {cs : List Int32} {a b : Nat} (hb : b ≤ cs.length) : (subL cs a b).length = b - a := by simp [subL]; omega
theorem subL_get {cs : List Int32} {a b j : Nat} (hj : j < b - a) : (subL cs a b).getD j 0 = cs.getD (a + j) 0 := by
  rw [List.getD_eq_getElem?_getD, List.getD_eq_getElem?_getD, subL, List.getElem?_take, if_pos hj, List.getElem?_drop]
theorem subL_mem {cs : List Int32} {a b : Nat} {c : Int32} (h : c ∈ subL cs a b) : c ∈ cs := List.mem_of_mem_drop (List.mem_of_mem_take h)
theorem subL_lat {cs : List Int32} {a b : Nat} (h : lat cs = true) : lat (subL cs a b) = true := lat_iff.mpr fun c hc => lat_iff.mp h c (subL_mem hc)
theorem subL_ch {cs : List Int32} {a b : Nat} (h : Chars cs) : Chars (subL cs a b) := ⟨fun c hc => h.1 c (subL_mem hc), by have := h.2; simp [subL]; omega⟩
theorem subL_all (cs : List Int32) : subL cs 0 cs.length = cs := by simp [subL]
end StrDefs
end Jvm.OwnKit
namespace Jvm.OwnKit
open Jvm Jvm.ClassFile Sem Op Lib Jvm.Free Jvm.Stand Jvm.LawKit Jvm.RoadKit Bundle
/-! what is known of a StringBuilder -/
section SbDefs
/-- a coder and its width -/
def CW (cd : Int32) (w : Nat) : Prop := (cd = 0 ∧ w = 1) ∨ (cd = 1 ∧ w = 2)
theorem shl_0 (x : Int32) : x <<< ((0 : Int32) &&& 31) = x := by
  apply i_eq
  have q := c_ishl x 0 0 (by decide)
  have r := rng32 (x <<< ((0 : Int32) &&& 31))
  have r' := rng32 x
  have p0 : ((2 ^ 0 : Nat) : Int) = 1 := by decide
  rw [p0] at q
  omega
theorem shr_0 (x : Int32) : x >>> ((0 : Int32) &&& 31) = x := by
  apply i_eq
  rw [c_ishr _ 0 0 (by decide)]
  have p0 : ((2 ^ 0 : Nat) : Int) = 1 := by decide
  rw [p0]; omega
theorem CW.shl {cd : Int32} {w k : Nat} (h : CW cd w) (hk : k ≤ 100000) : Int32.ofNat k <<< (cd &&& 31) = Int32.ofNat (w * k) := by
  rcases h with ⟨rfl, rfl⟩ | ⟨rfl, rfl⟩
  · rw [shl_0, Nat.one_mul]
  · exact shl_1 k hk
theorem CW.shr {cd : Int32} {w k : Nat} (h : CW cd w) (hk : k ≤ 100000) : Int32.ofNat (w * k) >>> (cd &&& 31) = Int32.ofNat k := by
  rcases h with ⟨rfl, rfl⟩ | ⟨rfl, rfl⟩
  · rw [shr_0, Nat.one_mul]
  · exact shr_1 k hk
theorem CW.w12 {cd : Int32} {w : Nat} (h : CW cd w) : w = 1 ∨ w = 2 := by
  rcases h with ⟨-, rfl⟩ | ⟨-, rfl⟩
  · exact Or.inl rfl
  · exact Or.inr rfl
theorem sub_pos {a b : Nat} (ha : a < 1000000000) (hb : b < 1000000000) : (0 : Int32) < Int32.ofNat a - Int32.ofNat b ↔ b < a := by
  rw [i_lt]
  have q := c_isub (Int32.ofNat a) (Int32.ofNat b)
  have r := rng32 (Int32.ofNat a - Int32.ofNat b)
  rw [n_int (by omega), n_int (by omega)] at q
  have e0 : (0 : Int32).toInt = 0 := by decide
  omega
/-- a builder's capacity behind ensureCapacityInternal -/
def grow (cap mn : Nat) : Nat := if mn ≤ cap then cap else cap + if mn - cap < cap + 2 then cap + 2 else mn - cap
theorem grow_ge (cap mn : Nat) : mn ≤ grow cap mn := by unfold grow; split <;> (try split) <;> omega
theorem grow_ge' (cap mn : Nat) : cap ≤ grow cap mn := by unfold grow; split <;> (try split) <;> omega
theorem max_n {b c : Nat} (hb : b < 2147483648) (hc : c < 2147483648) : (if Int32.ofNat b < Int32.ofNat c then Int32.ofNat c else Int32.ofNat b) = Int32.ofNat (if b < c then c else b) := by
  by_cases h : b < c
  · rw [if_pos h, if_pos ((n_lt hb hc).mpr h)]
  · rw [if_neg h, if_neg (fun q => h ((n_lt hb hc).mp q))]
def BC (Z : State) (csb : Cell) (t : Addr) (cd : Int32) (cnt : Nat) : Prop :=
  EC Z csb "java/lang/StringBuilder" ∧ FC Z csb "java/lang/AbstractStringBuilder" "value" "[B" (.ref t) ∧ FC Z csb "java/lang/AbstractStringBuilder" "coder" "B" (.int cd) ∧ FC Z csb "java/lang/AbstractStringBuilder" "count" "I" (.int (Int32.ofNat cnt))
def wOf (cs : List Int32) : Nat := if lat cs then 1 else 2
def oAt (cs : List Int32) (j : Nat) : Value := (oBytes cs).getD j (.int 0)
theorem cw_of (cs : List Int32) : CW (cdOf cs) (wOf cs) := by
  rcases cd_cases cs with ⟨h1, h2⟩ | ⟨h1, h2⟩
  · exact Or.inl ⟨h2, by simp [wOf, h1]⟩
  · exact Or.inr ⟨h2, by simp [wOf, h1]⟩
theorem oB_len (cs : List Int32) : (oBytes cs).length = wOf cs * cs.length := by
  rw [bytes_len, wOf]; split <;> omega
theorem oB_tab (cs : List Int32) : oBytes cs = tab (wOf cs * cs.length) (oAt cs) := by rw [← oB_len]; exact tab_list _ _
theorem oAt_lat {cs : List Int32} (h : lat cs = true) {j : Nat} (hj : j < cs.length) : oAt cs j = .int (lo8 (cs.getD j 0)) := by
  rw [oAt, bytes_lat h, List.getD_eq_getElem?_getD, tab_get hj]; rfl
theorem getD_app {cs ds : List Int32} {j : Nat} : (cs ++ ds).getD j 0 = if j < cs.length then cs.getD j 0 else ds.getD (j - cs.length) 0 := by
  by_cases h : j < cs.length
  · rw [if_pos h, List.getD_eq_getElem?_getD, List.getD_eq_getElem?_getD, List.getElem?_append_left h]
  · rw [if_neg h, List.getD_eq_getElem?_getD, List.getD_eq_getElem?_getD, List.getElem?_append_right (by omega)]
theorem lat_app {cs ds : List Int32} (h : lat cs = true) (h' : lat ds = true) : lat (cs ++ ds) = true := lat_iff.mpr fun c hc => by
  rcases List.mem_append.mp hc with q | q
  · exact lat_iff.mp h c q
  · exact lat_iff.mp h' c q
theorem ch_app {cs ds : List Int32} (h : Chars cs) (h' : Chars ds) (hl : cs.length + ds.length ≤ 4000) : Chars (cs ++ ds) := ⟨fun c hc => by
  rcases List.mem_append.mp hc with q | q
  · exact h.1 c q
  · exact h'.1 c q, by rw [List.length_append]; exact hl⟩
theorem oAt_app {cs ds : List Int32} (h : lat cs = true) (h' : lat ds = true) {j : Nat} (hj : j < cs.length + ds.length) : oAt (cs ++ ds) j = if j < cs.length then oAt cs j else oAt ds (j - cs.length) := by
  rw [oAt_lat (lat_app h h') (by rw [List.length_append]; exact hj), getD_app]
  by_cases q : j < cs.length
  · rw [if_pos q, if_pos q, oAt_lat h q]
  · rw [if_neg q, if_neg q, oAt_lat h' (by omega)]
/-- a builder of the chars cs, room for cap chars -/
def SBF (Z : State) (t : Addr) (csb ct : Cell) (cs : List Int32) (cap : Nat) : Prop :=
  BC Z csb t (cdOf cs) cs.length ∧ (∃ f, AC Z ct .byte (tab (wOf cs * cap) f) ∧ ∀ j, j < wOf cs * cs.length → f j = oAt cs j) ∧ cs.length ≤ cap ∧ cap ≤ 2000 ∧ Chars cs
theorem cd_lat {cs : List Int32} (h : lat cs = true) : cdOf cs = 0 := by simp [cdOf, h]
theorem w_lat {cs : List Int32} (h : lat cs = true) : wOf cs = 1 := by simp [wOf, h]
theorem byte2 (x : Int32) : x.toInt8.toInt32.toInt8.toInt32 = x.toInt8.toInt32 := by
  apply i_eq
  have a := c_i2b x
  have b := c_i2b x.toInt8.toInt32
  omega
end SbDefs
end Jvm.OwnKit
namespace Jvm.OwnKit
open Jvm Jvm.ClassFile Sem Op Lib Jvm.Free Jvm.Stand Jvm.LawKit Jvm.RoadKit Bundle
theorem ba_start {a : Array Value} {s : State} {t : Term} {d : Addr} {n : Nat} (hev : t.eval a s none [] s = some (.ref d)) (harr : (Jvm.Cond.arrayClass .byte).before a s = true) (hx : (Jvm.Cond.exactly t "[B").before a s = true) (hl : (Jvm.Cond.eq (.length t) (.int (Int32.ofNat n))).before a s = true) (hn : n < 2147483648) :
    ∃ D, s.heap[d]? = some D ∧ s.arrayAt? d = some D ∧ s.isArrayOf D .byte ∧ D.vm ≠ .unknown ∧ D.slots.size = n := by
  obtain ⟨d1, cB, D, kB, hev1, hfcB, hcellD, hkB, hstatD, hclsD, -⟩ := Cond.exactly_spec hx
  cases hev.symm.trans hev1
  have hl := Cond.eq_int hl rfl
  obtain ⟨d', D', hev', harrAt, hlen⟩ := Term.length_spec hl
  cases hev.symm.trans hev'
  obtain ⟨hcellD', hknD, -, -⟩ := State.arrayAt?_spec harrAt
  cases hcellD.symm.trans hcellD'
  have hsz : D.slots.size = n := by
    by_cases h31 : D.slots.size < 2 ^ 31
    · have e : (Term.length t).eval a s none [] s = some (.int (Int32.ofNat D.slots.size)) := by simp [Term.eval, hev, harrAt, h31]
      have := Option.some.inj (e.symm.trans hl)
      have h2 : Int32.ofNat D.slots.size = Int32.ofNat n := by simpa using this
      exact (n_inj (by omega) hn).mp h2
    · have e : (Term.length t).eval a s none [] s = none := by simp [Term.eval, hev, harrAt, h31]
      rw [e] at hl; cases hl
  obtain ⟨cB', kB', comp, hnameB, hkB', hkindB⟩ := Cond.arrayClass_spec harr
  have eBA : ("[" ++ FieldType.toString .byte) = "[B" := by decide
  rw [eBA] at hnameB
  cases hfcB.symm.trans hnameB
  cases hkB.symm.trans hkB'
  exact ⟨D, hcellD, harrAt, ⟨(fun q h => by rw [h] at hstatD; cases hstatD), kB, (by rw [hclsD]; exact hkB), comp, hkindB⟩, hknD, hsz⟩
/-- a byte[] of the start, its bytes by a formula -/
theorem ba_all {a : Array Value} {s : State} {t E : Term} {d : Addr} {n : Nat} {g : Nat → Int32} (hev : ∀ idx, t.eval a s none idx s = some (.ref d)) (harr : (Jvm.Cond.arrayClass .byte).before a s = true) (hx : (Jvm.Cond.exactly t "[B").before a s = true) (hl : (Jvm.Cond.eq (.length t) (.int (Int32.ofNat n))).before a s = true) (hn : n < 2147483648)
    (hall : (Jvm.Cond.all t (.eq (.elem t (.index 0)) E)).before a s = true) (hE : ∀ i, i < n → E.eval a s none [i] s = some (.int (g i))) (hg : ∀ i, i < n → fits .byte (.int (g i)) = true) : ∃ D, s.heap[d]? = some D ∧ AC s D .byte (tab n fun j => .int (g j)) := by
  obtain ⟨D, h1, h2, h3, h4, h5⟩ := ba_start (hev []) harr hx hl hn
  refine ⟨D, h1, h3, h4, ?_, by rw [tab_len]; exact hn, fun v hv => ?_⟩
  · refine List.ext_getElem? fun j => ?_
    by_cases hj : j < n
    · rw [tab_get hj]
      have q := Cond.all_elim (hev []) h2 (Cond.before_iff.mp hall) j (by omega)
      obtain ⟨a', j', cell, r1, r2, r3, r4, r5⟩ := Term.elem_spec (eqv_i (hE j hj) q)
      cases (hev [j]).symm.trans r1
      cases h2.symm.trans r3
      have : j' = Int32.ofNat j := by simpa [Term.eval] using r2.symm
      subst this
      rw [n_nat (by omega)] at r5
      simpa using r5
    · rw [List.getElem?_eq_none (by simp; omega), List.getElem?_eq_none (by rw [tab_len]; omega)]
  · obtain ⟨j, hj, rfl⟩ := List.getElem_of_mem hv
    rw [tab_len] at hj
    have := tab_get (f := fun j => Value.int (g j)) hj
    rw [List.getElem?_eq_getElem (by rw [tab_len]; exact hj)] at this
    rw [Option.some.inj this]; exact hg j hj
theorem eqv_ref {Z : State} {args : Array Value} {X F : Term} {y : Addr} (hF : F.eval args Z none [] Z = some (.ref y)) (h : (Jvm.Cond.eq X F).value args Z none Z [] = some true) : X.eval args Z none [] Z = some (.ref y) := by
  simp only [Cond.value, hF] at h
  cases hX : X.eval args Z none [] Z with
  | none => rw [hX] at h; simp at h
  | some v =>
    rw [hX] at h
    cases v <;> simp at h
    rw [h]
theorem eqv_null {Z : State} {args : Array Value} {X : Term} (h : (Jvm.Cond.eq X .null).value args Z none Z [] = some true) : X.eval args Z none [] Z = some .null := by
  simp only [Cond.value, Term.eval] at h
  cases hX : X.eval args Z none [] Z with
  | none => rw [hX] at h; simp at h
  | some v =>
    rw [hX] at h
    cases v <;> simp at h
    rfl
theorem fld_start {Z : State} {args : Array Value} {t : Term} {a : Addr} {C n d : String} {v : Value} (e : t.eval args Z none [] Z = some (.ref a)) (h : (Term.field t C n d).eval args Z none [] Z = some v) : Fld Z Z.heap a C n d v := by
  refine Fld.start ?_
  simp only [Term.eval, e] at h
  exact h
theorem exa_cell {Z : State} {h : Heap} {a : Addr} {C : String} (E : Exa Z h a C) : ∃ c, h[a]? = some c ∧ EC Z c C := by
  obtain ⟨cl, k, hh, r⟩ := E
  exact ⟨cl, hh, k, r⟩
/-- an array of the start, its length and its elements said one by one -/
theorem arr_start {Z : State} {args : Array Value} {t : Term} {a : Addr} {ty : FieldType} {n : Nat} {f : Nat → Value} (e : t.eval args Z none [] Z = some (.ref a)) (h : (Jvm.Cond.arrayOf t ty).value args Z none Z [] = some true) (hl : (Jvm.Cond.eq (.length t) (.int (Int32.ofNat n))).value args Z none Z [] = some true) (hn : n < 2147483648)
    (hel : ∀ j, j < n → (Term.elem t (.int (Int32.ofNat j))).eval args Z none [] Z = some (f j)) (hf : ∀ j, j < n → fits ty (f j) = true) : ∃ c, Z.heap[a]? = some c ∧ AC Z c ty (tab n f) := by
  obtain ⟨c, A⟩ := Arr.start e h
  have hl := Cond.eq_int (Cond.before_iff.mpr hl) rfl
  obtain ⟨d', D', hev', harrAt, hlen⟩ := Term.length_spec hl
  cases e.symm.trans hev'
  obtain ⟨hcellD', hknD, -, -⟩ := State.arrayAt?_spec harrAt
  cases A.1.symm.trans hcellD'
  have hsz : c.slots.size = n := by
    by_cases h31 : c.slots.size < 2 ^ 31
    · have e1 : (Term.length t).eval args Z none [] Z = some (.int (Int32.ofNat c.slots.size)) := by simp [Term.eval, e, harrAt, h31]
      have := Option.some.inj (e1.symm.trans hl)
      have h2 : Int32.ofNat c.slots.size = Int32.ofNat n := by simpa using this
      exact (n_inj (by omega) hn).mp h2
    · have e1 : (Term.length t).eval args Z none [] Z = none := by simp [Term.eval, e, harrAt, h31]
      rw [e1] at hl; cases hl
  refine ⟨c, A.1, A.2.1, A.2.2, ?_, by rw [tab_len]; exact hn, fun v hv => ?_⟩
  · refine List.ext_getElem? fun j => ?_
    by_cases hj : j < n
    · rw [tab_get hj]
      obtain ⟨a', j', cell, r1, r2, r3, r4, r5⟩ := Term.elem_spec (hel j hj)
      cases e.symm.trans r1
      cases harrAt.symm.trans r3
      have : j' = Int32.ofNat j := by simpa [Term.eval] using r2.symm
      subst this
      rw [n_nat (by omega)] at r5
      simpa using r5
    · rw [List.getElem?_eq_none (by simp; omega), List.getElem?_eq_none (by rw [tab_len]; omega)]
  · obtain ⟨j, hj, rfl⟩ := List.getElem_of_mem hv
    rw [tab_len] at hj
    have := tab_get (f := f) hj
    rw [List.getElem?_eq_getElem (by rw [tab_len]; exact hj)] at this
    rw [Option.some.inj this]; exact hf j hj
/-- a String of the start, by its chars -/
theorem str_start {Z : State} {args : Array Value} {t : Term} {a : Addr} {lit : List Int32} {n : Nat} (e : t.eval args Z none [] Z = some (.ref a)) (hx : (Jvm.Cond.exactly t "java/lang/String").value args Z none Z [] = some true) (ha : (Jvm.Cond.arrayOf (.field t "java/lang/String" "value" "[B") .byte).value args Z none Z [] = some true)
    (hl : (Jvm.Cond.eq (.length (.field t "java/lang/String" "value" "[B")) (.int (Int32.ofNat n))).value args Z none Z [] = some true) (hc : (Jvm.Cond.eq (.field t "java/lang/String" "coder" "B") (.int 0)).value args Z none Z [] = some true)
    (hel : ∀ j, j < n → (Term.elem (.field t "java/lang/String" "value" "[B") (.int (Int32.ofNat j))).eval args Z none [] Z = some (.int (lo8 (lit.getD j 0)))) (hn : lit.length = n) (hlat : lat lit = true) (hch : Chars lit) :
    ∃ u cx cu, Z.heap[a]? = some cx ∧ Z.heap[u]? = some cu ∧ SC Z u cx cu lit := by
  obtain ⟨cx, hcx, E⟩ := exa_cell (Exa.start e hx)
  have hl0 := Cond.eq_int (Cond.before_iff.mpr hl) rfl
  obtain ⟨u, D', hev', harrAt, hlen⟩ := Term.length_spec hl0
  have h4 := hch.2
  obtain ⟨cu, hcu, A⟩ := arr_start (f := fun j => .int (lo8 (lit.getD j 0))) hev' ha hl (by omega) hel (fun j hj => fits_nar_byte _)
  refine ⟨u, cx, cu, hcx, hcu, E, FC.of (fld_start e hev') hcx, ?_, ?_, hch⟩
  · rw [show cdOf lit = 0 from by simp [cdOf, hlat]]
    exact FC.of (fld_start e (eqv_i rfl hc)) hcx
  · rw [bytes_lat hlat, hn]; exact A
end Jvm.OwnKit
namespace Jvm.OwnKit
open Jvm Jvm.ClassFile Sem Op Lib Jvm.Free Jvm.Stand Jvm.LawKit Jvm.RoadKit Bundle
/-! decimal digits -/
theorem n_negI {a : Nat} (ha : a < 2147483648) : (-(Int32.ofNat a)).toInt = -(a : Int) := by
  have q := c_ineg (Int32.ofNat a)
  have r := rng32 (-(Int32.ofNat a))
  rw [n_int ha] at q
  omega
theorem neg_lt {a b : Nat} (ha : a < 2147483648) (hb : b < 2147483648) : -(Int32.ofNat a) < -(Int32.ofNat b) ↔ b < a := by
  rw [i_lt, n_negI ha, n_negI hb]; omega
theorem mul10 {q : Nat} (hq : q ≤ 200000000) : (10 : Int32) * -(Int32.ofNat q) = -(Int32.ofNat (10 * q)) := by
  apply i_eq
  have a := c_imul 10 (-(Int32.ofNat q))
  have r := rng32 ((10 : Int32) * -(Int32.ofNat q))
  have e : (10 : Int32).toInt = 10 := by decide
  rw [n_negI (by omega), e] at a
  rw [n_negI (by omega)]
  omega
theorem div100 {m : Nat} (hm : m < 2147483648) : -(Int32.ofNat m) / 100 = -(Int32.ofNat (m / 100)) := by
  apply i_eq
  have e : (100 : Int32).toInt = 100 := by decide
  have q := c_idiv (-(Int32.ofNat m)) 100 100 e (by decide)
  rw [n_negI hm] at q
  rw [n_negI (by omega)]
  rcases Nat.eq_zero_or_pos m with h | h
  · subst h; have := q.1 (by omega); rw [this]; rfl
  · have := q.2 (by omega); rw [this]; omega
theorem rem100 {m : Nat} (hm : m < 2147483648) : -(Int32.ofNat (m / 100)) * 100 - -(Int32.ofNat m) = Int32.ofNat (m % 100) := by
  apply i_eq
  have e : (100 : Int32).toInt = 100 := by decide
  have a := c_imul (-(Int32.ofNat (m / 100))) 100
  have r := rng32 (-(Int32.ofNat (m / 100)) * 100)
  rw [n_negI (by omega), e] at a
  have b := c_isub (-(Int32.ofNat (m / 100)) * 100) (-(Int32.ofNat m))
  have r2 := rng32 (-(Int32.ofNat (m / 100)) * 100 - -(Int32.ofNat m))
  rw [n_negI hm] at b
  rw [n_int (by omega)]
  omega
theorem b_small {v : Nat} (hv : v < 128) : (Int32.ofNat v).toInt8.toInt32 = Int32.ofNat v := by
  apply i_eq
  have q := c_i2b (Int32.ofNat v)
  rw [n_int (by omega)] at q ⊢
  omega
theorem n_mul (a b : Nat) : Int32.ofNat a * Int32.ofNat b = Int32.ofNat (a * b) := (Int32.ofNat_mul a b).symm
theorem n_mod {a b : Nat} (ha : a < 2147483648) (hb : b < 2147483648) : Int32.ofNat a % Int32.ofNat b = Int32.ofNat (a % b) := by
  apply i_eq
  have q := (c_irem (Int32.ofNat a) (Int32.ofNat b) b (n_int hb)).1 (by rw [n_int ha]; omega)
  have : a % b ≤ a := Nat.mod_le _ _
  rw [q, n_int ha, n_int (by omega)]; rfl
theorem n_div {a b : Nat} (ha : a < 2147483648) (hb : b < 2147483648) : Int32.ofNat a / Int32.ofNat b = Int32.ofNat (a / b) := by
  apply i_eq
  have hne : Int32.ofNat b ≠ -1 := fun z => by
    have := congrArg Int32.toInt z
    rw [n_int hb] at this
    have e : (-1 : Int32).toInt = -1 := by decide
    omega
  have q := (c_idiv (Int32.ofNat a) (Int32.ofNat b) b (n_int hb) hne).1 (by rw [n_int ha]; omega)
  have : a / b ≤ a := Nat.div_le_self _ _
  rw [q, n_int ha, n_int (by omega)]; rfl
/-- m has e digits -/
def DL (m e : Nat) : Prop := 1 ≤ e ∧ m < 10 ^ e ∧ (e = 1 ∨ 10 ^ (e - 1) ≤ m)
theorem DL.uniq {m e e' : Nat} (h : DL m e) (h' : DL m e') : e = e' := by
  have key : ∀ {e e' : Nat}, DL m e → DL m e' → ¬ e < e' := fun {e e'} h h' q => by
    rcases h'.2.2 with z | z
    · have := h.1; omega
    · have p : 10 ^ e ≤ 10 ^ (e' - 1) := Nat.pow_le_pow_right (by decide) (by omega)
      have := h.2.1; omega
  have a := key h h'
  have b := key h' h
  omega
theorem DL.step {m e : Nat} (h : DL m e) (hm : 100 ≤ m) : 3 ≤ e ∧ DL (m / 100) (e - 2) := by
  have h1 := h.1
  have h3 : 3 ≤ e := by
    by_cases q : e ≤ 2
    · have : 10 ^ e ≤ 10 ^ 2 := Nat.pow_le_pow_right (by decide) q
      have := h.2.1; omega
    · omega
  refine ⟨h3, by omega, ?_, ?_⟩
  · rw [Nat.div_lt_iff_lt_mul (by decide)]
    have : 10 ^ (e - 2) * 100 = 10 ^ e := by rw [show (100 : Nat) = 10 ^ 2 from rfl, ← Nat.pow_add]; congr 1; omega
    rw [this]; exact h.2.1
  · rcases h.2.2 with z | z
    · omega
    · refine Or.inr ((Nat.le_div_iff_mul_le (by decide)).mpr ?_)
      have : 10 ^ (e - 2 - 1) * 100 = 10 ^ (e - 1) := by rw [show (100 : Nat) = 10 ^ 2 from rfl, ← Nat.pow_add]; congr 1; omega
      rw [this]; exact z
theorem DL.last {m e : Nat} (h : DL m e) (hm : m < 100) : (e = 1 ∧ m < 10) ∨ (e = 2 ∧ 10 ≤ m) := by
  rcases h.2.2 with z | z
  · subst z; exact Or.inl ⟨rfl, h.2.1⟩
  · have h1 := h.1
    by_cases q : e = 1
    · subst q; exact Or.inl ⟨rfl, h.2.1⟩
    · by_cases q2 : e = 2
      · subst q2; exact Or.inr ⟨rfl, z⟩
      · have : 10 ^ 2 ≤ 10 ^ (e - 1) := Nat.pow_le_pow_right (by decide) (by omega)
        omega
theorem DL.le {m e b : Nat} (h : DL m e) (hm : m < 10 ^ b) (hb : 1 ≤ b) : e ≤ b := by
  rcases h.2.2 with z | z
  · omega
  · by_cases q : e ≤ b
    · exact q
    · have : 10 ^ b ≤ 10 ^ (e - 1) := Nat.pow_le_pow_right (by decide) (by omega)
      omega
/-- the decimal digits of n, d of them -/
def decL (n d : Nat) : List Int32 := (List.range d).map fun i => Int32.ofNat (48 + n / 10 ^ (d - 1 - i) % 10)
theorem decL_len (n d : Nat) : (decL n d).length = d := by simp [decL]
theorem decL_get {n d i : Nat} (hi : i < d) : (decL n d).getD i 0 = Int32.ofNat (48 + n / 10 ^ (d - 1 - i) % 10) := by
  rw [List.getD_eq_getElem?_getD, decL, List.getElem?_map, List.getElem?_range hi]; rfl
theorem decL_lat (n d : Nat) : lat (decL n d) = true := lat_iff.mpr fun c hc => by
  obtain ⟨i, -, rfl⟩ := List.mem_map.mp hc
  rw [show (255 : Int32) = Int32.ofNat 255 from rfl, n_lt (by omega) (by omega)]; omega
theorem decL_ch (n d : Nat) (hd : d ≤ 4000) : Chars (decL n d) := ⟨fun c hc => by
  obtain ⟨i, -, rfl⟩ := List.mem_map.mp hc
  exact ⟨n_nn (by omega), by rw [show (65535 : Int32) = Int32.ofNat 65535 from rfl, n_lt (by omega) (by omega)]; omega⟩, by rw [decL_len]; exact hd⟩
theorem st_idx {a : Array Value} {s : State} {C n d : String} {v : Value} (e : (Term.static C n d).eval a s none [] s = some v) : ∀ idx, (Term.static C n d).eval a s none idx s = some v := fun idx => by
  have h := e
  simp only [Term.eval] at h ⊢
  exact h
theorem dig_rem {a : Array Value} {s : State} {C n d : String} {ad : Addr} (e : (Term.static C n d).eval a s none [] s = some (.ref ad)) (harr : (Jvm.Cond.arrayClass .byte).before a s = true) (hx : (Jvm.Cond.exactly (.static C n d) "[B").before a s = true) (hl : (Jvm.Cond.eq (.length (.static C n d)) (.int 100)).before a s = true)
    (hall : (Jvm.Cond.all (.static C n d) (.eq (.elem (.static C n d) (.index 0)) (.add (.int 48) (.rem (.index 0) (.int 10))))).before a s = true) : ∃ D, s.heap[ad]? = some D ∧ AC s D .byte (tab 100 fun j => .int (Int32.ofNat (48 + j % 10))) :=
  ba_all (n := 100) (g := fun j => Int32.ofNat (48 + j % 10)) (st_idx e) harr hx hl (by decide) hall (fun i hi => by
    have e3 : (Term.add (.int 48) (.rem (.index 0) (.int 10))).eval a s none [i] s = some (Value.int (48 + Int32.ofNat i % 10)) := by simp [Term.eval]
    have e1 : Int32.ofNat i % 10 = Int32.ofNat (i % 10) := n_mod (b := 10) (by omega) (by decide)
    have e2 : (48 : Int32) + Int32.ofNat (i % 10) = Int32.ofNat (48 + i % 10) := n_add 48 _
    rw [e3, e1, e2]) fun i hi => by rw [← b_small (v := 48 + i % 10) (by omega)]; exact fits_nar_byte _
theorem dig_div {a : Array Value} {s : State} {C n d : String} {ad : Addr} (e : (Term.static C n d).eval a s none [] s = some (.ref ad)) (harr : (Jvm.Cond.arrayClass .byte).before a s = true) (hx : (Jvm.Cond.exactly (.static C n d) "[B").before a s = true) (hl : (Jvm.Cond.eq (.length (.static C n d)) (.int 100)).before a s = true)
    (hall : (Jvm.Cond.all (.static C n d) (.eq (.elem (.static C n d) (.index 0)) (.add (.int 48) (.div (.index 0) (.int 10))))).before a s = true) : ∃ D, s.heap[ad]? = some D ∧ AC s D .byte (tab 100 fun j => .int (Int32.ofNat (48 + j / 10))) :=
  ba_all (n := 100) (g := fun j => Int32.ofNat (48 + j / 10)) (st_idx e) harr hx hl (by decide) hall (fun i hi => by
    have e3 : (Term.add (.int 48) (.div (.index 0) (.int 10))).eval a s none [i] s = some (Value.int (48 + Int32.ofNat i / 10)) := by simp [Term.eval]
    have e1 : Int32.ofNat i / 10 = Int32.ofNat (i / 10) := n_div (b := 10) (by omega) (by decide)
    have e2 : (48 : Int32) + Int32.ofNat (i / 10) = Int32.ofNat (48 + i / 10) := n_add 48 _
    rw [e3, e1, e2]) fun i hi => by rw [← b_small (v := 48 + i / 10) (by omega)]; exact fits_nar_byte _
end Jvm.OwnKit
namespace Jvm.OwnKit
open Jvm Jvm.ClassFile Sem Op Lib Jvm.Free Jvm.Stand Jvm.LawKit Jvm.RoadKit Bundle
/-! a Throwable that the walk makes; contracts of callees beneath which a stack trace is recorded -/
section ExcDefs
variable {p : Program} {l : Launch} {e : Env} {R : Room} {s : State} {m : MethodId} {args : Array Value} {below : List Frame} {meth : Method} {c : Code} {own : String} {Z : State} {a0 : Array Value} {EL : List (String × Nat)} {ws : List Addr} {P : Mem} {Q : Option Value → Mem → Mem → Prop} {M N : Mem} {cells slots pc pc' : Nat} {L L' : List Slot} {S S' rest : List Value} {bytes : ByteArray} {maxL : Nat} {ret : Option FieldType} {nm : String}
variable {y : MethodName} {bytes' : ByteArray} {maxL' W : Nat} {ret' : Option FieldType} {rm : Room} {argsL : List Value} {Mi Mr Pc : Mem} {Qc : Option Value → Mem → Mem → Prop} {index i : Nat} {a : Addr} {cl : Cell} {C : String} {as' : Array Value}
/-- a cell with the marks that 'new' leaves -/
def UC (cl : Cell) : Prop := cl.vm = .none ∧ cl.monitor = {}
theorem OWp.newX {nf : Nat} (hk : OOk p bytes maxL ret nm meth c Z a0 EL) (hd : decode bytes pc = .ok (.new index, 3)) (hp : pc' = pc + 3) (w : (Jvm.Cond.classLink own index C).before a0 Z = true) (wi : (Jvm.Cond.instantiable C nf).before a0 Z = true) (wz : (Jvm.Cond.initialized C).before a0 Z = true)
    (hc : cells + 1 ≤ R.cells) (hs : slots + nf ≤ R.slots)
    (kk : ∀ a cl, UC cl → EC Z cl C → (∀ {O nm d : String} {ty : FieldType}, Laid Z a0 C O nm d → parseFieldDescriptor d = some ty → FC Z cl O nm d (defaultValue ty)) → OWp p l e R s m args below meth c own Z EL ws P Q ((a, cl) :: M) N (cells + 1) (slots + nf) pc' L (.ref a :: S)) :
    OWp p l e R s m args below meth c own Z EL ws P Q M N cells slots pc L S := fun T hT => by
  subst hp
  obtain ⟨vm0, k0, locs, X, hS, hk0, hZ, ho, hL, I⟩ := hT
  obtain ⟨T', h', X', e', E, A, D, ⟨cell, hcell, u1, u2⟩, st⟩ := newO (s := s.setVm vm0) (own := own) X hk.1 hZ ho w wi wz rfl (g := mkF m pc L.toArray S) rfl (hb hk.2.1 hd) hc hs
  subst e'
  obtain ⟨U, st', r⟩ := kk _ cell ⟨u1, u2⟩ (EC.of A hcell) (fun La ht => FC.of (D La ht) hcell) T' ⟨vm0, k0, locs, X', hS, Nat.le_trans hk0 E.1, hZ, ho, hL, I.alloc E hcell⟩
  exact ⟨U, st _ st', r⟩
/-- a contract where the tables' methods and the frames beneath are known -/
def OConK (l : Launch) (Z : State) (EL : List (String × Nat)) (y : MethodName) (bytes : ByteArray) (maxL : Nat) (ret : Option FieldType) (xs : List Jvm.Cond) (rm : Room) (as' : Array Value) (Mi P : Mem) (Q : Option Value → Mem → Mem → Prop) : Prop :=
  MetFree l y (head1 (Jvm.Cond.code y bytes maxL ret :: xs) rm) (fun a U => a = as' ∧ Z.Warmed39 U.vm ∧ OInv Z EL U.vm U.heap (dom Mi) U.vm U.heap Mi [] P) (fun _ _ bl s _ => s.vm.MethodsKnown ∧ s.vm.FramesKnown bl)
    (fun _ U o U' => ∃ v L, o = .returned v ∧ (∃ M N, Q v M N ∧ OInv Z EL U.vm U.heap (dom Mi) U'.vm U'.heap M N []) ∧ OKp U.heap U'.heap (dom Mi) ∧ (∀ y ∈ L, U.heap.size ≤ y.base ∨ y.base ∈ dom Mi) ∧ ReturnedEndW U o U' L rm.cells rm.slots)
theorem OConK.of_wp {xs : List Jvm.Cond} {L0 : List Slot} (hpl : plainFor y = true) (hEL : EW Z a0 EL) (hent : ∀ m, entryFrame m as' maxL = mkF m 0 L0.toArray [])
    (H : ∀ p e s m below meth c, OOk p bytes maxL ret y.name meth c Z a0 EL → s.vm.MethodsKnown → s.vm.FramesKnown below → Ext Z.heap s.heap → OWp p l e rm s m as' below meth c y.cls Z EL (dom Mi) P Q Mi [] 0 0 0 L0 []) : OConK l Z EL y bytes maxL ret xs rm as' Mi P Q := by
  refine MetFree.of_bodySF hpl hisR ?_
  intro p e s m args below meth c s₁ Bd hml0 hP hK
  obtain ⟨rfl, hZ, I⟩ := hP
  have X0 : Stand p l e rm s m args below meth c s₁ [] 0 0 := Stand.of_body Bd
  have hown : s.vm.findClass y.cls = some m.cls := findClass_of_methodNamed Bd.named
  have hnm := (name_of_methodNamed Bd.named Bd.method).1
  have hh : s₁.heap = s.heap := by rw [Bd.state]; rfl
  obtain ⟨U, st, v, L, h1, h2, h3, h4, h5, h6⟩ := H p e s m below meth c ⟨Bd.exec, Bd.bytes, hml0, Bd.returns, Bd.notSynchronized, hnm, hEL⟩ hK.1 hK.2 I.2.1 s₁
    ⟨s.vm, 0, [], X0, (State.WarmedH.refl s).since 0, Nat.zero_le _, hZ, hown, fun _ q => (nomatch q), by rw [hh]; exact I⟩
  refine ⟨U, .returned v, ?_, h1, h2, v, L, rfl, h3, h4, h5, h6⟩
  rw [hent m]; exact st
theorem obackK {vm0 : Vm} {len : Nat} {h : Heap} (hTK : vm0.MethodsKnown) (hB : vm0.FramesKnown below) (hC : OConK l Z EL y bytes' maxL' ret' [] rm as' Mi Pc Qc) (hZ : Z.Warmed39 vm0) (wc : (Jvm.Cond.code y bytes' maxL' ret').before a0 Z = true) (wz : (Jvm.Cond.initialized y.cls).before a0 Z = true)
    (hf : rm.frames + 1 ≤ R.frames) (hl : W + (maxL' + 11) + rm.locals ≤ R.locals) (hEL : EW Z a0 EL) (I : OInv Z EL s.vm s.heap ws vm0 h (Mi ++ Mr) N P) (hp : ∀ q ∈ Pc, q ∈ Mr ++ (N ++ P)) :
    BackS l R p e below (s.setVm vm0) args y len W (fun A a => a = as' ∧ A.U.heap = h ∧ A.cells + rm.cells ≤ R.cells ∧ A.slots + rm.slots ≤ R.slots) (OPost Z EL Mi Qc rm) :=
  BackS.of_freeWG (bytes := bytes') (maxL := maxL') (ret := ret') (E := fun _ first o t L k n => k = rm.cells ∧ n = rm.slots ∧ ∃ v, o = .returned v ∧ (∃ M N, Qc v M N ∧ OInv Z EL first.vm first.heap (dom Mi) t.vm t.heap M N []) ∧ OKp first.heap t.heap (dom Mi) ∧ (∀ y ∈ L, first.heap.size ≤ y.base ∨ y.base ∈ dom Mi)) hC hf hl
    (fun m meth c A a Y hp => have hU : Z.Warmed39 A.U.vm := wtrans (s := s.setVm vm0) hZ Y.warmed
      ⟨by show (Jvm.Cond.and _ .tt).before a A.U = true; rw [Cond.before_and, mv hU wc]; rfl, mv hU wc, mv hU wz, hp.2.2.1, hp.2.2.2⟩)
    (fun m meth c A a g mk Y hq => ⟨hq.1, wtrans (s := s.setVm vm0) hZ Y.warmed, by
      have J := I.hand (chat Y.warmed hZ hEL I.1.1) hp
      rw [← hq.2.1] at J
      exact J⟩) (fun m meth c A a g mk Y _ hg => known_frames (s := s.setVm vm0) Y hg hTK hB)
    (fun _ _ _ _ ⟨v, L, h1, h2, h3, h4, h5⟩ => ⟨L, _, _, h5, rfl, rfl, v, h1, h2, h3, h4⟩)
    (fun m meth c A a g mk v t L k n Y hp _ _ ⟨e1, e2, v', e3, e4, e5, e6⟩ => by
      cases e3; subst e1 e2
      exact ⟨L, e4, e5, e6, rfl, rfl, rfl⟩)
theorem OWp.callSK (hTK : s.vm.MethodsKnown) (hB : s.vm.FramesKnown below) (hk : OOk p bytes maxL ret nm meth c Z a0 EL) (hd : decode bytes pc = .ok (.invokestatic index, 3)) (hp : pc' = pc + 3) (w1 : (Jvm.Cond.methodLink own index y).before a0 Z = true) (w2 : (Jvm.Cond.static y).before a0 Z = true) (w3 : (Jvm.Cond.initialized y.cls).before a0 Z = true) (w4 : (Jvm.Cond.code y bytes' maxL' ret').before a0 Z = true)
    (hy : y.cls ≠ "java/lang/invoke/MethodHandle" ∧ y.cls ≠ "java/lang/invoke/VarHandle") (hC : OConK l Z EL y bytes' maxL' ret' [] rm argsL.toArray Mi Pc Qc) (hM : Mi ++ Mr = M) (hPc : ∀ q ∈ Pc, q ∈ Mr ++ (N ++ P)) (hsz : L.length = maxL) (hlen : ∀ sig, parseMethodDescriptor y.desc = some sig → argsL.length = sig.parameters.length) (hst : S = argsL.reverse ++ rest)
    (hW : (rest.map fun v => v.category).sum = W) (hf : rm.frames + 1 ≤ R.frames) (hl : W + (maxL' + 11) + rm.locals ≤ R.locals) (hc : cells + rm.cells ≤ R.cells) (hs : slots + rm.slots ≤ R.slots)
    (kk : ∀ v Mo No, Qc v Mo No → OWp p l e R s m args below meth c own Z EL ws P Q (Mo ++ Mr) (No ++ N) (cells + rm.cells) (slots + rm.slots) pc' L (v.toList ++ rest)) :
    OWp p l e R s m args below meth c own Z EL ws P Q M N cells slots pc L S := fun T hT => by
  subst hp hM
  obtain ⟨vm0, k0, locs, X, hS, hk0, hZ, ho, hL, I⟩ := hT
  obtain ⟨v, vm1, B, hW1, X', hS', hgr, hpost, st⟩ := callSS X hk.1 (own := own) ho (mvT (s := s.setVm vm0) hZ w1) (mvT (s := s.setVm vm0) hZ w2) (mvT (s := s.setVm vm0) hZ w3) (mvT (s := s.setVm vm0) hZ w4) hy (obackK (W := W) (as' := argsL.toArray) (Vm.MethodsKnown.alikeC hS.1.alike hTK) (Vm.FramesKnown.alikeC hS.1.alike hB) hC hZ w4 w3 hf hl hk.2.2.2.2.2.2 I hPc)
    (g := mkF m pc L.toArray S) rfl (by rw [hk.2.2.1]; simpa using hsz) hlen hst (by show 2 * 0 + _ ≤ _; omega) (hb hk.2.1 hd) (fun _ _ => ⟨rfl, rfl, hc, hs⟩)
  obtain ⟨Mo, No, hq, hB⟩ := OWp.behind hk.2.2.2.2.2.2 hS hk0 hZ ho hL I hW1 X' hS' hgr hpost
  obtain ⟨U, st', r⟩ := kk v Mo No hq B.U hB
  exact ⟨U, st.trans st', r⟩
/-- the constructor <init>(String) of a Throwable's class, up to Throwable itself: the message is laid, a trace recorded -/
theorem OWp.exc1 {ic n : Nat} {rc : String} {links : List Jvm.Free.Exc.Link} {msg : Value} (hk : OOk p bytes maxL ret nm meth c Z a0 EL) (hd : decode bytes pc = .ok (.invokespecial ic, 3)) (hp : pc' = pc + 3) (hl : l.stackTraces = true) (hok : Jvm.Free.Exc.linksOk 1 links = true)
    (w1 : (Jvm.Cond.methodLink own ic (Jvm.Free.Exc.ctor 1 (Jvm.Free.Exc.headName links))).before a0 Z = true) (w2 : (Jvm.Cond.instanceMethod (Jvm.Free.Exc.ctor 1 (Jvm.Free.Exc.headName links))).before a0 Z = true) (wT : (Jvm.Free.Exc.chainTab 1 rc links).before a0 Z = true) (wi : (Jvm.Cond.instantiable rc n).before a0 Z = true) (r2 : ∀ d ∈ twoRefs, d.before a0 Z = true)
    (hTK : s.vm.MethodsKnown) (hB : s.vm.FramesKnown below) (hE0 : Ext Z.heap s.heap) (hi : M[i]? = some (a, cl)) (E : EC Z cl rc) (hU : UC cl) (F1 : FC Z cl "java/lang/Throwable" "backtrace" "Ljava/lang/Object;" .null) (F2 : FC Z cl "java/lang/Throwable" "detailMessage" "Ljava/lang/String;" .null) (hmsg : msg.isRef = true)
    (hsz : L.length = maxL) (hW : (rest.map fun v => v.category).sum = W) (hf : 4 + links.length ≤ R.frames) (hlo : W + (56 + 14 * links.length) ≤ R.locals) (hc : cells + 1 ≤ R.cells) (hs : slots + 2752 ≤ R.slots)
    (kk : ∀ cl', EC Z cl' rc → FC Z cl' "java/lang/Throwable" "detailMessage" "Ljava/lang/String;" msg → OWp p l e R s m args below meth c own Z EL ws P Q (M.set i (a, cl')) N (cells + 1) (slots + 2752) pc' L rest) :
    OWp p l e R s m args below meth c own Z EL ws P Q M N cells slots pc L (msg :: .ref a :: rest) := fun T hT => by
  subst hp
  obtain ⟨vm0, k0, locs, X, hS, hk0, hZ, ho, hL, I⟩ := hT
  obtain ⟨b1, b2, b3, b4⟩ := I.2.2.1 _ (List.mem_of_getElem? hi)
  obtain ⟨T', h', X', e', K, E', -, F', -, -, st⟩ := excL1 (s := s.setVm vm0) X hk.1 hl hZ (own := own) ho hok w1 w2 wT wi r2 (ThS.ext hE0 ThS.start) (ThS.ext I.2.1 ThS.start) (Vm.MethodsKnown.alikeC hS.1.alike hTK) (Vm.FramesKnown.alikeC hS.1.alike hB) rfl (E.exa b1) ⟨cl, b1, hU⟩ (F1.fld b1) (F2.fld b1) hmsg
    (g := mkF m pc L.toArray (msg :: .ref a :: rest)) rfl (by rw [hk.2.2.1]; simpa using hsz) (rest := rest) rfl (hb hk.2.1 hd) hf (by show 2 * 0 + _ + _ ≤ _; omega) hc hs
  subst e'
  obtain ⟨cl', q1, -⟩ := K.2 _ _ b1
  obtain ⟨U, st', r⟩ := kk cl' (EC.of E' q1) (FC.of F' q1) T' ⟨vm0, k0, _, X', hS, Nat.le_trans hk0 K.1, hZ, ho, fun y hy => by
    rcases List.mem_append.mp hy with hy | hy
    · exact hL y hy
    · obtain ⟨nd, -, rfl⟩ := List.mem_map.mp hy; exact b4, I.put hi (keep_of_kp K) q1⟩
  exact ⟨U, st _ st', r⟩
/-- invokevirtual of a method that the named class inherits from 'owner' -/
theorem OWp.callVU {x z : MethodName} {owner : String} (hk : OOk p bytes maxL ret nm meth c Z a0 EL) (hd : decode bytes pc = .ok (.invokevirtual index, 3)) (hp : pc' = pc + 3) (w1 : (Jvm.Cond.methodLink own index x).before a0 Z = true) (ws' : (Jvm.Cond.sameMethod x.cls owner x.name x.desc).before a0 Z = true) (w2 : (Jvm.Cond.declares ⟨owner, x.name, x.desc⟩).before a0 Z = true) (hy : owner ≠ "java/lang/invoke/MethodHandle" ∧ owner ≠ "java/lang/invoke/VarHandle")
    (w5 : (Jvm.Cond.selects C x z).before a0 Z = true) (w6 : (Jvm.Cond.instanceMethod z).before a0 Z = true) (w3 : (Jvm.Cond.initialized z.cls).before a0 Z = true) (w4 : (Jvm.Cond.code z bytes' maxL' ret').before a0 Z = true)
    (hm : (a, cl) ∈ M ++ (N ++ P)) (E : EC Z cl C)
    (hC : OCon l Z EL z bytes' maxL' ret' [] rm (.ref a :: argsL).toArray Mi Pc Qc) (hM : Mi ++ Mr = M) (hPc : ∀ q ∈ Pc, q ∈ Mr ++ (N ++ P)) (hsz : L.length = maxL) (hlen : ∀ sig, parseMethodDescriptor x.desc = some sig → argsL.length = sig.parameters.length) (hst : S = argsL.reverse ++ .ref a :: rest)
    (hW : (rest.map fun v => v.category).sum = W) (hf : rm.frames + 1 ≤ R.frames) (hl : W + (maxL' + 11) + rm.locals ≤ R.locals) (hc : cells + rm.cells ≤ R.cells) (hs : slots + rm.slots ≤ R.slots)
    (kk : ∀ v Mo No, Qc v Mo No → OWp p l e R s m args below meth c own Z EL ws P Q (Mo ++ Mr) (No ++ N) (cells + rm.cells) (slots + rm.slots) pc' L (v.toList ++ rest)) :
    OWp p l e R s m args below meth c own Z EL ws P Q M N cells slots pc L S := fun T hT => by
  subst hp hM
  obtain ⟨vm0, k0, locs, X, hS, hk0, hZ, ho, hL, I⟩ := hT
  obtain ⟨cB, kB, qa, qb, qc⟩ := isOf (s := s.setVm vm0) (T := T) hZ rfl (E.exa (I.at hm))
  obtain ⟨v, vm1, B, hW1, X', hS', hgr, hpost, st⟩ := X.virtualBackUpS hk.1 (own := own) ho (mvT (s := s.setVm vm0) hZ w1) (mvT (s := s.setVm vm0) hZ ws') (mvT (s := s.setVm vm0) hZ w2) hy (mvT (s := s.setVm vm0) hZ w5) (mvT (s := s.setVm vm0) hZ w6) (oback (W := W) (as' := (.ref a :: argsL).toArray) hC hZ w4 w3 hf hl hk.2.2.2.2.2.2 I hPc) qa qc
    (g := mkF m pc L.toArray S) rfl (by rw [hk.2.2.1]; simpa using hsz) (Steps.refl _) hlen hst (by show 2 * 0 + _ ≤ _; omega) (hb hk.2.1 hd) (fun _ _ => ⟨rfl, rfl, hc, hs⟩)
  obtain ⟨Mo, No, hq, hB⟩ := OWp.behind hk.2.2.2.2.2.2 hS hk0 hZ ho hL I hW1 X' hS' hgr hpost
  obtain ⟨U, st', r⟩ := kk v Mo No hq B.U hB
  exact ⟨U, st.trans st', r⟩
end ExcDefs
end Jvm.OwnKit
namespace Jvm.OwnKit
open Jvm Jvm.ClassFile Sem Op Lib Jvm.Free Jvm.Stand Jvm.LawKit Jvm.RoadKit Bundle
/-! a StringBuilder whose chars may be wide -/
section WsbDefs
/-- the j-th byte of the chars cs at the width w -/
def wbAt (w : Nat) (cs : List Int32) (j : Nat) : Value := .int (if w = 1 then lo8 (cs.getD j 0) else if j % 2 = 0 then lw8 (cs.getD (j / 2) 0) else hi8 (cs.getD (j / 2) 0))
theorem w_wide {cs : List Int32} (h : lat cs = false) : wOf cs = 2 := by simp [wOf, h]
theorem cd_wide {cs : List Int32} (h : lat cs = false) : cdOf cs = 1 := by simp [cdOf, h]
theorem wbAt_o {cs : List Int32} {j : Nat} (hj : j < wOf cs * cs.length) : oAt cs j = wbAt (wOf cs) cs j := by
  cases h : lat cs
  · rw [w_wide h] at hj ⊢
    rw [oAt, bytes_wide h, oWide, List.getD_eq_getElem?_getD, tab_get hj]
    simp [wbAt]
  · rw [w_lat h, Nat.one_mul] at hj
    rw [w_lat h, oAt_lat h hj]
    simp [wbAt]
theorem wbAt_app {w : Nat} (hw : w = 1 ∨ w = 2) {cs ds : List Int32} {j : Nat} : wbAt w (cs ++ ds) j = if j < w * cs.length then wbAt w cs j else wbAt w ds (j - w * cs.length) := by
  rcases hw with rfl | rfl
  · simp only [wbAt, if_true, Nat.one_mul]
    rw [getD_app]
    by_cases h : j < cs.length
    · rw [if_pos h, if_pos h]
    · rw [if_neg h, if_neg h]
  · simp only [wbAt, show ¬ (2 = 1) by decide, if_false]
    rw [getD_app]
    by_cases h : j < 2 * cs.length
    · rw [if_pos (show j / 2 < cs.length by omega), if_pos h]
    · rw [if_neg (show ¬ j / 2 < cs.length by omega), if_neg h, show (j - 2 * cs.length) / 2 = j / 2 - cs.length by omega, show (j - 2 * cs.length) % 2 = j % 2 by omega]
theorem lat_and (cs ds : List Int32) : lat (cs ++ ds) = (lat cs && lat ds) := by simp [lat, List.all_append]
theorem w12 (cs : List Int32) : wOf cs = 1 ∨ wOf cs = 2 := (cw_of cs).w12
def BMx (Z : State) (csb : Cell) (t : Addr) (cd : Int32) (cnt : Nat) : Prop := BC Z csb t cd cnt ∧ FC Z csb "java/lang/AbstractStringBuilder" "maybeLatin1" "Z" (.int 0)
/-- a builder of the chars cs, room for cap chars -/
def SBX (Z : State) (t : Addr) (csb ct : Cell) (cs : List Int32) (cap : Nat) : Prop :=
  BMx Z csb t (cdOf cs) cs.length ∧ (∃ f, AC Z ct .byte (tab (wOf cs * cap) f) ∧ ∀ j, j < wOf cs * cs.length → f j = wbAt (wOf cs) cs j) ∧ cs.length ≤ cap ∧ cap ≤ 2000 ∧ Chars cs
theorem SBX.sbf {Z : State} {t : Addr} {csb ct : Cell} {cs : List Int32} {cap : Nat} (h : SBX Z t csb ct cs cap) : SBF Z t csb ct cs cap := by
  obtain ⟨h1, ⟨f, h2, h3⟩, h4⟩ := h
  exact ⟨h1.1, ⟨f, h2, fun j hj => by rw [h3 j hj, wbAt_o hj]⟩, h4⟩
theorem lo8_mask {c : Int32} (h0 : ¬ c < 0) (h1 : ¬ (255 : Int32) < c) : lo8 c &&& 255 = c := by
  have := lo8_back h0 h1; rwa [i2c_mask] at this
theorem or_nn {x y : Int32} (hx : ¬ x < 0) (hy : ¬ y < 0) : ¬ (x ||| y) < 0 := by
  rw [Int32.lt_iff_toBitVec_slt] at *
  simp only [Int32.toBitVec_or, BitVec.slt_zero_eq_msb, BitVec.msb_or, Int32.toBitVec_zero] at *
  simp_all
end WsbDefs
end Jvm.OwnKit
namespace Jvm.OwnKit
open Jvm Jvm.ClassFile Sem Op Lib Jvm.Free Jvm.Stand Jvm.LawKit Jvm.RoadKit Bundle
/-! Throwable.fillInStackTrace() on an object that the walk has made, where the sheet lays Throwable's fields in the object's class alone (no word lays 'suppressedExceptions' in Throwable itself: the library's bundle asks that) -/
section ThrDefs
/-- the words asked, rc the object's class -/
def thrA (rc : String) : List Jvm.Cond := [.initialized tN, .superclass tN "java/lang/Object", .instanceMethod tFill, .codeSync tFill LibCode.Throwable.Fill.code 1 (some (.object tN)), .instanceMethod tFill0, .native tFill0,
  .instanceMethod oInit, .code oInit ⟨#[0xb1]⟩ 1 none, .methodLink tN 1 oInit, .methodLink tN 27 tFill, .methodLink tN 202 tFill0,
  .fieldLink tN 7 tN "cause" "Ljava/lang/Throwable;", .fieldLink tN 17 tN "stackTrace" steD, .fieldLink tN 24 tN "suppressedExceptions" listD, .fieldLink tN 13 tN "UNASSIGNED_STACK" steD, .laysStatic tN "UNASSIGNED_STACK" steD, .fieldLink tN 20 tN "SUPPRESSED_SENTINEL" listD, .laysStatic tN "SUPPRESSED_SENTINEL" listD, .fieldLink tN 198 tN "backtrace" "Ljava/lang/Object;",
  .declares tFill, .selects rc tFill tFill, .selects rc tFill0 tFill0,
  .lays rc tN "cause" "Ljava/lang/Throwable;", .lays rc tN "stackTrace" steD, .lays rc tN "suppressedExceptions" listD, .lays rc tN "detailMessage" "Ljava/lang/String;", .lays rc tN "backtrace" "Ljava/lang/Object;", .lays rc tN "depth" "I",
  .arrayOver (.object "java/lang/Object"), .soleField tN "backtrace", .soleField tN "depth"]
theorem thr_ok {rc : String} : (thrA rc).all xOk = true := rfl
/-- what a walk wants of Throwable's tables -/
def ThrTies (T : ThrowableC) (s : State) : Prop :=
  s.methodNamed? tFill = some T.fill ∧ s.methodNamed? tFill0 = some T.fill0 ∧ s.vm.findClass tN = some T.cT ∧ s.fieldFound? tN "stackTrace" steD = some (T.cT, T.kT, T.i17, T.fStack) ∧ s.fieldFound? tN "UNASSIGNED_STACK" steD = some (T.cT, T.kT, T.i13, T.fUnassigned) ∧ T.fStack.type = .array (.object "java/lang/StackTraceElement")
theorem thr_links {args : Array Value} {s : State} {pl : Platform} {rc : String} (howns : pl.frameOwnsMonitors = true) (hfin : pl.finalization = false) (hpl : pl.magicAccessors = ({} : Platform).magicAccessors)
    (h : ∀ c ∈ thrA rc, c.before args s = true) : ∃ T : ThrowableC, T.Links pl s ∧ ThrTies T s := by
  have g : ∀ c, c ∈ thrA rc → c.holds args s none s [] = true := fun c hc => h c hc
  -- the class
  obtain ⟨⟨cT, j0⟩, mN, n0, m0, na0, co0, lk0, sg0⟩ := Cond.native_spec (g (.native tFill0) (by simp [thrA]))
  have fT : s.vm.findClass tN = some cT := findClass_of_methodNamed n0
  obtain ⟨kT, cl, nmT⟩ := Vm.findClass_spec fT
  obtain ⟨-, kx, -, -, cl', -, -, od, -, ni⟩ := Cond.superclass_spec fT (g (.superclass tN "java/lang/Object") (by simp [thrA]))
  cases cl.symm.trans cl'
  -- its methods
  obtain ⟨jF, mF, nF, rF, aF, sF, bF, -, -⟩ := Cond.ownMethod (x := tFill) fT cl (g (.instanceMethod tFill) (by simp [thrA]))
  obtain ⟨mF2, kF, rF2, cF, yF, lF, tF, lkF, -, sgF⟩ := Cond.codeSync_spec nF (g (.codeSync tFill LibCode.Throwable.Fill.code 1 (some (.object tN))) (by simp [thrA]))
  cases rF.symm.trans rF2
  obtain ⟨j0', mN2, n0', m0', a0', s0, b0, nm0, ds0⟩ := Cond.ownMethod (x := tFill0) fT cl (g (.instanceMethod tFill0) (by simp [thrA]))
  cases n0.symm.trans n0'
  cases m0.symm.trans m0'
  obtain ⟨mO, eO, nO, rO, sO, bO⟩ := Cond.instanceMethod_spec (g (.instanceMethod oInit) (by simp [thrA]))
  obtain ⟨eO2, kO, rO2, cO, yO, lO, -, lkO, -, sgO⟩ := Cond.code_spec nO (g (.code oInit ⟨#[0xb1]⟩ 1 none) (by simp [thrA]))
  cases rO.symm.trans rO2
  obtain ⟨kOb, clO, nmO⟩ := Vm.findClass_spec (findClass_of_methodNamed nO)
  obtain ⟨xnO, xdO⟩ := name_of_methodNamed nO rO
  -- its links
  obtain ⟨i1, q1, cf, l1, r1, f1, p1⟩ := Cond.linkedMethod fT cl nO (g (.methodLink tN 1 oInit) (by simp [thrA])) pl hpl
  obtain ⟨i27, q27, cf2, l27, r27, f27, p27⟩ := Cond.linkedMethod fT cl nF (g (.methodLink tN 27 tFill) (by simp [thrA])) pl hpl
  cases f1.symm.trans f27
  obtain ⟨i202, q202, cf3, l202, r202, f202, p202⟩ := Cond.linkedMethod fT cl n0 (g (.methodLink tN 202 tFill0) (by simp [thrA])) pl hpl
  cases f1.symm.trans f202
  -- its fields, each as the object's class lays it
  obtain ⟨c7, i7, f7, l7, r7, a7, s7, x7, -, -, -⟩ := Cond.ownField (C' := rc) (t := .object tN) fT cl (by decide +kernel) (g (.fieldLink tN 7 tN "cause" "Ljava/lang/Throwable;") (by simp [thrA])) (g (.lays rc tN "cause" "Ljava/lang/Throwable;") (by simp [thrA])) pl hpl
  obtain ⟨c17, i17, f17, l17, r17, a17, s17, x17, nm17, ty17, ff17⟩ := Cond.ownField (C' := rc) (t := .array (.object "java/lang/StackTraceElement")) fT cl (by decide +kernel) (g (.fieldLink tN 17 tN "stackTrace" steD) (by simp [thrA])) (g (.lays rc tN "stackTrace" steD) (by simp [thrA])) pl hpl
  obtain ⟨c24, i24, f24, l24, r24, a24, s24, x24, nm24, -, ff24⟩ := Cond.ownField (C' := rc) (t := .object "java/util/List") fT cl (by decide +kernel) (g (.fieldLink tN 24 tN "suppressedExceptions" listD) (by simp [thrA])) (g (.lays rc tN "suppressedExceptions" listD) (by simp [thrA])) pl hpl
  obtain ⟨c13, i13, f13, st, cs, l13, r13, a13, s13, -, -, hst, -, -, -, -, ff13⟩ := Cond.ownStatic (t := .array (.object "java/lang/StackTraceElement")) fT cl (by decide +kernel) (g (.fieldLink tN 13 tN "UNASSIGNED_STACK" steD) (by simp [thrA])) (g (.laysStatic tN "UNASSIGNED_STACK" steD) (by simp [thrA])) pl hpl
  obtain ⟨c20, i20, f20, -, -, l20, r20, a20, s20, -⟩ := Cond.ownStatic (t := .object "java/util/List") fT cl (by decide +kernel) (g (.fieldLink tN 20 tN "SUPPRESSED_SENTINEL" listD) (by simp [thrA])) (g (.laysStatic tN "SUPPRESSED_SENTINEL" listD) (by simp [thrA])) pl hpl
  obtain ⟨-, -, -, -, iM, fM, -, -, ffM, sM, xM, -⟩ := Cond.lays_spec (g (.lays rc tN "detailMessage" "Ljava/lang/String;") (by simp [thrA]))
  -- two of them apart
  obtain ⟨cr, kr, -, -, -, -, hcr, hkr, -⟩ := Cond.lays_spec (g (.lays rc tN "stackTrace" steD) (by simp [thrA]))
  obtain ⟨-, d1, e1, z1⟩ := Cond.laysAt hcr hkr ff17 (g (.lays rc tN "stackTrace" steD) (by simp [thrA]))
  obtain ⟨-, d2, e2, z2⟩ := Cond.laysAt hcr hkr ff24 (g (.lays rc tN "suppressedExceptions" listD) (by simp [thrA]))
  have ap : f17.slot ≠ f24.slot := Cond.laysApart e1 e2 z1 z2 (by rw [nm17, nm24]; decide)
  have par : ∀ {y : MethodName} {sg : MethodDescriptor} {ps : List FieldType}, parseMethodDescriptor y.desc = some sg → (parseMethodDescriptor y.desc).map (·.parameters) = some ps → sg.parameters = ps := fun u v => by rw [u] at v; simpa using v
  exact ⟨{ cT := cT, kT := kT, cO := cT, aS := st, fillIdx := jF, fill0Idx := j0, initSIdx := jF, obj := mO, kObj := kOb, methFill := mF, methFill0 := mN, methInitS := mF, methObj := eO, codeFill := kF, codeInitS := kF, codeObj := kO, fBack := f7, fDepth := f7, fStack := f17, fCause := f7, fSupp := f24, fMsg := fM, fUnassigned := f13, fSentinel := f20, cfT := cf, ci1 := i1, n1 := q1, ci27 := i27, n27 := q27, ci202 := i202, n202 := q202, ci7 := c7, i7 := i7, ci13 := c13, i13 := i13, ci17 := c17, i17 := i17, ci20 := c20, i20 := i20, ci24 := c24, i24 := i24 },
    { owns := howns, noFinalization := hfin, cls := cl, name := nmT, boot := Vm.findClass_boot fT cl, notInterface := ni, initialized := Cond.initialized_spec fT cl (g (.initialized tN) (by simp [thrA])), statics := hst,
      fillAt := aF, fillCode := cF, fillBytes := yF, fillLocals := lF, fillLocks := lkF, fillStatic := sF, fillAbstract := bF, fillReturns := tF, fillParams := par sgF (by decide +kernel),
      fill0At := a0', fill0Name := nm0, fill0Desc := ds0, fill0Params := par sg0 (by decide +kernel), fill0Static := s0, fill0Native := na0, fill0Code := co0, fill0Locks := lk0, fill0Abstract := b0,
      stackInstance := s17, stackNotFinal := x17, unassignedStatic := s13, objClass := clO, objClassName := nmO, objMethod := rO, objName := xnO, objStatic := sO, objAbstract := bO, objFound := by rw [xdO]; exact lookupSpecial_of_named nO rO sO, objParams := by rw [par sgO (by decide +kernel : (parseMethodDescriptor oInit.desc).map (·.parameters) = some [])]; rfl,
      objCode := cO, objBytes := yO, objLocks := lkO, causeInstance := s7, causeNotFinal := x7, sentinelStatic := s20, suppInstance := s24, suppNotFinal := x24, msgInstance := sM, msgNotFinal := xM, stackApartSupp := ap,
      file := f1, mlink1 := l1, mright1 := r1, pool1 := p1, mlink27 := l27, mright27 := r27, pool27 := p27, mlink202 := l202, mright202 := r202, pool202 := p202,
      link7 := l7, right7 := r7, at7 := a7, link13 := l13, right13 := r13, at13 := a13, link17 := l17, right17 := r17, at17 := a17, link20 := l20, right20 := r20, at20 := a20, link24 := l24, right24 := r24, at24 := a24 },
    ⟨nF, n0, fT, ff17, ff13, ty17⟩⟩
variable {p : Program} {l : Launch} {e : Env} {R : Room} {s : State} {m : MethodId} {args : Array Value} {below : List Frame} {meth : Method} {c : Code} {own : String} {Z : State} {a0 : Array Value} {EL : List (String × Nat)} {ws : List Addr} {P : Mem} {Q : Option Value → Mem → Mem → Prop} {M N : Mem} {cells slots pc pc' : Nat} {L L' : List Slot} {S S' rest : List Value} {bytes : ByteArray} {maxL : Nat} {ret : Option FieldType} {nm : String}
variable {y : MethodName} {bytes' : ByteArray} {maxL' W : Nat} {ret' : Option FieldType} {rm : Room} {argsL : List Value} {Mi Mr Pc : Mem} {Qc : Option Value → Mem → Mem → Prop} {index i : Nat} {a : Addr} {cl : Cell} {C O n d : String} {as' : Array Value} {ty : FieldType} {v : Value}
/-- putfield, the marks kept -/
theorem OWp.putfieldX {old : Value} {nf : Nat} (hk : OOk p bytes maxL ret nm meth c Z a0 EL) (hd : decode bytes pc = .ok (.putfield index, 3)) (hp : pc' = pc + 3) (w : (Jvm.Cond.fieldLink own index O n d).before a0 Z = true) (hi : M[i]? = some (a, cl)) (F : FC Z cl O n d old) (E : EC Z cl C) (hU : UC cl)
    (La : (Jvm.Cond.lays C O n d).before a0 Z = true) (wi : (Jvm.Cond.instantiable C nf).before a0 Z = true) (hty : parseFieldDescriptor d = some ty) (hn : narrow ty v = v) (hf : fits ty v = true)
    (kk : ∀ cl', EC Z cl' C → UC cl' → FC Z cl' O n d v → (∀ {O' n' d' : String} {w' : Value}, FC Z cl O' n' d' w' → RoadKit.slotOf Z O' n' d' ≠ RoadKit.slotOf Z O n d → FC Z cl' O' n' d' w') → OWp p l e R s m args below meth c own Z EL ws P Q (M.set i (a, cl')) N cells slots pc' L rest) :
    OWp p l e R s m args below meth c own Z EL ws P Q M N cells slots pc L (v :: .ref a :: rest) := by
  subst hp
  refine OWp.wrote hi (fun T vm0 locs X hZ ho hh => ?_) (kk _ E.set hU F.set (fun G q => G.other q))
  obtain ⟨T', h', X', e', W, st⟩ := putF (s := s.setVm vm0) (own := own) X hk.1 hZ ho (host := "") (Or.inl w) Via.refl rfl (F.fld hh) (E.exa hh) (Or.inl La) wi hty hn hf (g := mkF m pc L.toArray (v :: .ref a :: rest)) rfl rfl (hb hk.2.1 hd)
  subst e'
  exact ⟨T', X', W, st⟩
theorem OWp.callIK (hTK : s.vm.MethodsKnown) (hB : s.vm.FramesKnown below) (hk : OOk p bytes maxL ret nm meth c Z a0 EL) (hd : decode bytes pc = .ok (.invokespecial index, 3)) (hp : pc' = pc + 3) (hy1 : y.name = "<init>") (w1 : (Jvm.Cond.methodLink own index y).before a0 Z = true) (w2 : (Jvm.Cond.instanceMethod y).before a0 Z = true) (w3 : (Jvm.Cond.initialized y.cls).before a0 Z = true) (w4 : (Jvm.Cond.code y bytes' maxL' none).before a0 Z = true)
    (hy : y.cls ≠ "java/lang/invoke/MethodHandle" ∧ y.cls ≠ "java/lang/invoke/VarHandle") (hC : OConK l Z EL y bytes' maxL' none [] rm (.ref a :: argsL).toArray Mi Pc Qc) (hM : Mi ++ Mr = M) (hPc : ∀ q ∈ Pc, q ∈ Mr ++ (N ++ P)) (hsz : L.length = maxL) (hlen : ∀ sig, parseMethodDescriptor y.desc = some sig → argsL.length = sig.parameters.length) (hst : S = argsL.reverse ++ .ref a :: rest)
    (hW : (rest.map fun v => v.category).sum = W) (hf : rm.frames + 1 ≤ R.frames) (hl : W + (maxL' + 11) + rm.locals ≤ R.locals) (hc : cells + rm.cells ≤ R.cells) (hs : slots + rm.slots ≤ R.slots)
    (kk : ∀ v Mo No, Qc v Mo No → OWp p l e R s m args below meth c own Z EL ws P Q (Mo ++ Mr) (No ++ N) (cells + rm.cells) (slots + rm.slots) pc' L (v.toList ++ rest)) :
    OWp p l e R s m args below meth c own Z EL ws P Q M N cells slots pc L S := fun T hT => by
  subst hp hM
  obtain ⟨vm0, k0, locs, X, hS, hk0, hZ, ho, hL, I⟩ := hT
  obtain ⟨v, vm1, B, hW1, X', hS', hgr, hpost, st⟩ := X.specialBackS hk.1 (own := own) hy1 ho (mvT (s := s.setVm vm0) hZ w1) (mvT (s := s.setVm vm0) hZ w2) (mvT (s := s.setVm vm0) hZ w4) hy (obackK (W := W) (as' := (.ref a :: argsL).toArray) (Vm.MethodsKnown.alikeC hS.1.alike hTK) (Vm.FramesKnown.alikeC hS.1.alike hB) hC hZ w4 w3 hf hl hk.2.2.2.2.2.2 I hPc)
    (g := mkF m pc L.toArray S) rfl (by rw [hk.2.2.1]; simpa using hsz) (Steps.refl _) (a := a) hlen hst (by show 2 * 0 + _ ≤ _; omega) (hb hk.2.1 hd) (fun _ _ => ⟨rfl, rfl, hc, hs⟩)
  obtain ⟨Mo, No, hq, hB⟩ := OWp.behind hk.2.2.2.2.2.2 hS hk0 hZ ho hL I hW1 X' hS' hgr hpost
  obtain ⟨U, st', r⟩ := kk v Mo No hq B.U hB
  exact ⟨U, st.trans st', r⟩
/-- fillInStackTrace() on the one object that the constructor writes -/
theorem OWp.fillT {rc : String} {nf : Nat} {u : Value} (hk : OOk p bytes maxL ret nm meth c Z a0 EL) (hd : decode bytes pc = .ok (.invokevirtual 27, 3)) (hp : pc' = pc + 3) (hl : l.stackTraces = true) (ww : ∀ x ∈ thrA rc, x.before a0 Z = true) (wi : (Jvm.Cond.instantiable rc nf).before a0 Z = true)
    (hTK : s.vm.MethodsKnown) (hB : s.vm.FramesKnown below) (hE0 : Ext Z.heap s.heap) (E : EC Z cl rc) (hU : UC cl) (hu : u.isRef = true) (SU : Sta Z Z.heap tN "UNASSIGNED_STACK" steD u) (FS : FC Z cl tN "stackTrace" steD u) (FB : FC Z cl tN "backtrace" "Ljava/lang/Object;" .null)
    (hsz : L.length = maxL) (hW : (rest.map fun v => v.category).sum = W) (hf : 2 < R.frames) (hlo : W + 42 ≤ R.locals) (hc : 1 ≤ R.cells) (hs : slots + 2752 ≤ R.slots)
    (kk : ∀ cl', EC Z cl' rc → (∃ w, FC Z cl' tN "detailMessage" "Ljava/lang/String;" w) → OWp p l e R s m args below meth c tN Z EL [a] P Q [(a, cl')] N 1 (slots + 2752) pc' L (.ref a :: rest)) :
    OWp p l e R s m args below meth c tN Z EL [a] P Q [(a, cl)] N 0 slots pc L (.ref a :: rest) := fun T0 hT => by
  subst hp
  obtain ⟨vm0, k0, locs, X, hS, hk0, hZ, ho, hL, I⟩ := hT
  obtain ⟨b1, b2, b3, b4⟩ := I.2.2.1 (a, cl) (List.mem_singleton.mpr rfl)
  have hTs : ThS Z (s.setVm vm0).heap := ThS.ext hE0 ThS.start
  have hTh : ThS Z T0.heap := ThS.ext I.2.1 ThS.start
  have g : ∀ x ∈ thrA rc, x.before args (s.setVm vm0) = true := fun x hx => mvX hTs hZ (List.all_eq_true.mp thr_ok x hx) (ww x hx)
  have g' : ∀ x, x ∈ thrA rc → x.holds args (s.setVm vm0) none (s.setVm vm0) [] = true := fun x hx => g x hx
  have hpl : e.platform.magicAccessors = ({} : Platform).magicAccessors := by rw [X.admits.platform]
  obtain ⟨T, Lk, Yfill, Yfill0, Yfound, Ystack, Yunas, YstackTy⟩ := thr_links (args := args) (s := s.setVm vm0) (pl := e.platform) (rc := rc) (by rw [X.admits.platform]) (by rw [X.admits.platform]) hpl g
  -- the object's class, at the walk's base
  obtain ⟨kc, e1, e2, e3, e4⟩ := E
  have fc : (s.setVm vm0).vm.findClass rc = some cl.cls := by show vm0.findClass rc = _; rw [hZ.alike.findClass]; exact e1
  obtain ⟨kc', hk1, hk2⟩ := hZ.alike.2.2 _ _ e2
  have hord : kc.kind = .ordinary := by
    obtain ⟨c4, k2, i1, i2, i3, -⟩ := Cond.instantiable_spec wi
    cases e1.symm.trans i1
    cases e2.symm.trans i2
    exact i3
  have hord' : kc'.kind = .ordinary := by rw [hk2]; exact hord
  have hsize : cl.slots.size = kc'.instanceTypes.size := by rw [hk2]; exact e4 hord
  -- a field of the object's cell, by the base's tables
  have at' : ∀ {F D : String} {w : Value} {cc i : Nat} {k : Class} {f : Field}, FC Z cl tN F D w → (s.setVm vm0).fieldFound? tN F D = some (cc, k, i, f) → cl.slots[f.slot]? = some w := fun G hf => by
    obtain ⟨cf, kf, j, f', q1, -, -, -, -, q6⟩ := G
    obtain ⟨k', q7, -⟩ := State.fieldFound?_setVm (s := Z) hZ.alike q1
    cases (show (s.setVm vm0).fieldFound? tN _ _ = _ from q7).symm.trans hf
    exact q6
  have tk : ∀ {f : Field} {w : Value}, kc'.instanceTypes[f.slot]? = some f.type → fits f.type w = true → Jvm.Takes (s.setVm vm0) cl f w := fun h1 h2 => by
    obtain ⟨q1, q2⟩ := Takes.of_laid (s := s.setVm vm0) hk1 hord' h1 h2
    exact ⟨by rw [hsize]; simpa using q1, by rw [hU.1]; exact q2⟩
  -- Throwable's statics
  obtain ⟨zc, zk, zi, zf, za, zcell, z1, z2, z3, z4, z5, z6, -⟩ := Cond.laysStatic_spec (ww (.laysStatic tN "UNASSIGNED_STACK" steD) (by simp [thrA]))
  obtain ⟨sf, si, sk, sfl, sa, scell, y1, -, -, y4, y5, -, y7⟩ := SU
  cases z2.symm.trans y1
  cases z4.symm.trans y4
  cases z5.symm.trans y5
  obtain ⟨k', z8, z9⟩ := State.fieldFound?_setVm (s := Z) hZ.alike z2
  cases (show (s.setVm vm0).fieldFound? tN _ _ = _ from z8).symm.trans Yunas
  have hst : T.aS = za := Option.some.inj (Lk.statics.symm.trans (by rw [z9]; exact z4))
  have hcS : T0.heap[T.aS]? = some zcell := by rw [hst]; exact hTh _ _ _ _ z1 (State.fieldFound?_class z2) z4 z5 z6
  have hneS : T.aS ≠ a := fun q => by
    rw [q, b1] at hcS
    rw [← Option.some.inj hcS, hU.1] at z6
    cases z6
  have hknS : zcell.vm ≠ .unknown := fun q => by rw [q] at z6; cases z6
  -- the native's selection
  have hsel0 : selectMethod e.platform (s.setVm vm0).vm cl.cls T.fill0 = .method T.fill0 := by
    obtain ⟨c2, r2, m2, q1, q2, q3, q4, -⟩ := Cond.selects_spec (g' (.selects rc tFill0 tFill0) (by simp [thrA]))
    cases q1.symm.trans fc
    cases q2.symm.trans (State.methodFound?_of_named Yfill0 (by decide))
    cases q3.symm.trans Yfill0
    rw [Launch.admits_selectMethod X.admits]; exact q4
  -- backtrace and depth
  obtain ⟨cB, iB, fB, lB, rB, aB, sB, -, nB, tB, ffB⟩ := Cond.ownField (C' := rc) (t := .object "java/lang/Object") Yfound Lk.cls (by decide +kernel) (g' (.fieldLink tN 198 tN "backtrace" "Ljava/lang/Object;") (by simp [thrA])) (g' (.lays rc tN "backtrace" "Ljava/lang/Object;") (by simp [thrA])) e.platform hpl
  obtain ⟨-, -, cD, kD, iD, fD, -, -, ffD, sD, -⟩ := Cond.lays_spec (g' (.lays rc tN "depth" "I") (by simp [thrA]))
  cases (Cond.lays_declared (g' (.lays rc tN "depth" "I") (by simp [thrA])) ffD).symm.trans Yfound
  obtain ⟨hkD, aD⟩ := State.fieldFound?_spec ffD
  cases hkD.symm.trans Lk.cls
  obtain ⟨nD, tD⟩ := State.fieldFound?_type ffD (t := .int) (by decide +kernel)
  obtain ⟨comp, cO, kO, -, -, hkO, hkind, hO⟩ := Cond.arrayOver_spec (g (.arrayOver (.object "java/lang/Object")) (by simp [thrA]))
  have tyS := (Cond.laysAt fc hk1 Ystack (g' (.lays rc tN "stackTrace" steD) (by simp [thrA]))).1
  have tyB := (Cond.laysAt fc hk1 ffB (g' (.lays rc tN "backtrace" "Ljava/lang/Object;") (by simp [thrA]))).1
  have tyD := (Cond.laysAt fc hk1 ffD (g' (.lays rc tN "depth" "I") (by simp [thrA]))).1
  have hSE := g (.selects rc tFill tFill) (by simp [thrA])
  obtain ⟨v6, vm6, ⟨T6, L6, c6, n6⟩, hW6, X6, ⟨hv6, C6, k6, hk6, hD6, q1, q2, q3, -, hL6, hc6, hn6⟩, come⟩ := X.virtualBack hk.1 (own := tN) (C := rc) (index := 27) (y := tFill) (z := tFill) ho (g (.methodLink tN 27 tFill) (by simp [thrA])) (g (.declares tFill) (by simp [thrA])) (notFace_of_selects hSE) hSE (g (.instanceMethod tFill) (by simp [thrA])) (by decide)
    (Jvm.Free.Exc.fillPaysAny (l := l) (W := W) hk.1 (by rw [X.admits.platform]; exact hl) T Lk Yfill (u0 := ⟨u, hu⟩) (self := a) (cell := cl) (cellS := zcell) (fun k => by rw [hU.1]; simp) (by rw [hU.1]; simp) (by rw [hU.2]) (by rw [hU.2]) (at' FS Ystack) hsel0 hneS hknS y7 (tk tyS (by rw [YstackTy]; exact fits_refV_array _ ⟨u, hu⟩))
      ⟨{ ci198 := cB, i198 := iB, fBack := fB }, ⟨lB, rB, aB, sB⟩, at' FB ffB⟩ (Vm.MethodsKnown.alikeC hS.1.alike hTK) (Vm.FramesKnown.alikeC hS.1.alike hB) Yfound hO hkO hkind
      (Cond.soleField_find Yfound Lk.cls (g' (.soleField tN "backtrace") (by simp [thrA])) aB nB sB) (Cond.soleField_find Yfound Lk.cls (g' (.soleField tN "depth") (by simp [thrA])) aD nD sD)
      (fun x => tk tyB (by rw [tB]; rfl)) (fun x => tk tyD (by rw [tD]; rfl)) hf hlo)
    (b := a) (cB := cl.cls) fc ⟨cl, b1, rfl, e3⟩ (g := mkF m pc L.toArray (.ref a :: rest)) rfl (by rw [hk.2.2.1]; simpa using hsz) (Steps.refl _) (argsL := []) (rest := rest)
    (fun sig q => by rw [show parseMethodDescriptor tFill.desc = some ⟨[], some (.object tN)⟩ from by decide +kernel] at q; rw [← Option.some.inj q]; rfl) rfl (by show 2 * 0 + _ ≤ _; omega) (hb hk.2.1 hd)
    (fun vmx hWx => ⟨rfl, by show 0 + 1 ≤ _; omega, hs, b1, hcS⟩)
  dsimp only [Pt.U, Pt.locs, Pt.cells, Pt.slots] at X6 hD6 hL6 hc6 hn6 come
  subst hv6 hL6 hc6 hn6
  have hL' : ∀ z ∈ locs ++ [(⟨a, fB.slot⟩ : Loc), ⟨a, fD.slot⟩, ⟨a, T.fStack.slot⟩], s.heap.size ≤ z.base ∨ z.base ∈ [a] := fun z hz => by
    rcases List.mem_append.mp hz with hz | hz
    · exact hL z hz
    · simp only [List.mem_cons, List.not_mem_nil, or_false] at hz
      rcases hz with rfl | rfl | rfl <;> exact Or.inr (List.mem_singleton.mpr rfl)
  have O1 := okp_of X hL
  have O2 := okp_of X6 hL'
  have hsz0 : T0.heap.size ≤ s.heap.size := by have := X.same.2.2.1; simpa using this
  have back : ∀ (x : Addr) (cx : Cell), T0.heap[x]? = some cx → x ∉ [a] → T6.heap[x]? = some cx := fun x cx hx hn => by
    have hlt : x < s.heap.size := Nat.lt_of_lt_of_le (lt_of hx) hsz0
    have q := O1.2 x _ (Array.getElem?_eq_getElem hlt) hn
    cases q.symm.trans hx
    exact O2.2 x _ (Array.getElem?_eq_getElem hlt) hn
  have K : Keep T0.heap T6.heap [a] := ⟨Nat.le_trans hsz0 O2.1, back, fun x cx hx => by
    by_cases hxa : x = a
    · subst hxa
      cases b1.symm.trans hx
      exact ⟨C6, hD6, q1, q2, q3⟩
    · exact ⟨cx, back x cx hx (by simpa using hxa), rfl, rfl, rfl⟩⟩
  have E6 : EC Z C6 rc := ⟨kc, by rw [q1]; exact e1, by rw [q1]; exact e2, by rw [q2]; exact e3, fun z => by rw [q3]; exact e4 z⟩
  obtain ⟨w, Fw⟩ := fld_laid (O := tN) (n := "detailMessage") (d := "Ljava/lang/String;") (E6.exa hD6) ⟨C6, hD6, by rw [q2, hU.1]; simp⟩ wi (Or.inl (ww (.lays rc tN "detailMessage" "Ljava/lang/String;") (by simp [thrA])))
  obtain ⟨U, st', r⟩ := kk C6 E6 ⟨w, FC.of Fw hD6⟩ T6 ⟨vm0, k0, _, X6.more (Nat.le_refl _) (Nat.add_le_add_left hk6 _), hS, Nat.le_trans hk0 K.1, hZ, ho, hL', I.put (i := 0) rfl K hD6⟩
  exact ⟨U, come.trans st', r⟩
end ThrDefs
end Jvm.OwnKit
namespace Jvm.Pilot.@@N@@
open Jvm Jvm.ClassFile Sem Op Lib Jvm.Free Jvm.Stand Jvm.LawKit Jvm.RoadKit Bundle Jvm.OwnKit Jvm.Pilot.@@N@@.Jvm.D
abbrev kCap : Nat := 80
abbrev kSB : Nat := 160
theorem pd_0 : parseMethodDescriptor "()B" = some ⟨[], some .byte⟩ := by decide +kernel
theorem pd_1 : parseMethodDescriptor "(I)I" = some ⟨[.int], some .int⟩ := by decide +kernel
theorem pd_2 : parseMethodDescriptor "([BII)V" = some ⟨[(.array .byte), .int, .int], none⟩ := by decide +kernel
theorem pd_3 : parseMethodDescriptor "(I)[B" = some ⟨[.int], some (.array .byte)⟩ := by decide +kernel
theorem pd_4 : parseMethodDescriptor "([CI[BII)I" = some ⟨[(.array .char), .int, (.array .byte), .int, .int], some .int⟩ := by decide +kernel
theorem pd_5 : parseMethodDescriptor "([CII)[B" = some ⟨[(.array .char), .int, .int], some (.array .byte)⟩ := by decide +kernel
theorem pd_6 : parseMethodDescriptor "([BI)C" = some ⟨[(.array .byte), .int], some .char⟩ := by decide +kernel
theorem pd_7 : parseMethodDescriptor "([BI)B" = some ⟨[(.array .byte), .int], some .byte⟩ := by decide +kernel
theorem pd_8 : parseMethodDescriptor "([CIILjava/lang/Void;)V" = some ⟨[(.array .char), .int, .int, (.object "java/lang/Void")], none⟩ := by decide +kernel
theorem pd_9 : parseMethodDescriptor "(IILjava/util/function/BiFunction;)I" = some ⟨[.int, .int, (.object "java/util/function/BiFunction")], some .int⟩ := by decide +kernel
theorem pd_10 : parseMethodDescriptor "(II)V" = some ⟨[.int, .int], none⟩ := by decide +kernel
theorem pd_11 : parseMethodDescriptor "()Z" = some ⟨[], some .boolean⟩ := by decide +kernel
theorem pd_12 : parseMethodDescriptor "(II)I" = some ⟨[.int, .int], some .int⟩ := by decide +kernel
theorem pd_13 : parseMethodDescriptor "([BII)[B" = some ⟨[(.array .byte), .int, .int], some (.array .byte)⟩ := by decide +kernel
theorem pd_14 : parseMethodDescriptor "(III)I" = some ⟨[.int, .int, .int], some .int⟩ := by decide +kernel
theorem pd_15 : parseMethodDescriptor "([BI)[B" = some ⟨[(.array .byte), .int], some (.array .byte)⟩ := by decide +kernel
theorem pd_16 : parseMethodDescriptor "(Ljava/lang/String;)V" = some ⟨[(.object "java/lang/String")], none⟩ := by decide +kernel
theorem pd_17 : parseMethodDescriptor "([BIB)V" = some ⟨[(.array .byte), .int, .byte], none⟩ := by decide +kernel
theorem pd_18 : parseMethodDescriptor "()I" = some ⟨[], some .int⟩ := by decide +kernel
theorem pd_19 : parseMethodDescriptor "(I)V" = some ⟨[.int], none⟩ := by decide +kernel
theorem pd_20 : parseMethodDescriptor "(ILjava/lang/String;)V" = some ⟨[.int, (.object "java/lang/String")], none⟩ := by decide +kernel
theorem pd_21 : parseMethodDescriptor "(Ljava/lang/String;)Ljava/lang/AbstractStringBuilder;" = some ⟨[(.object "java/lang/String")], some (.object "java/lang/AbstractStringBuilder")⟩ := by decide +kernel
theorem pd_22 : parseMethodDescriptor "()[B" = some ⟨[], some (.array .byte)⟩ := by decide +kernel
theorem pd_23 : parseMethodDescriptor "(Ljava/lang/AbstractStringBuilder;Ljava/lang/Void;)V" = some ⟨[(.object "java/lang/AbstractStringBuilder"), (.object "java/lang/Void")], none⟩ := by decide +kernel
theorem pd_24 : parseMethodDescriptor "(Ljava/lang/StringBuilder;)V" = some ⟨[(.object "java/lang/StringBuilder")], none⟩ := by decide +kernel
theorem pd_25 : parseMethodDescriptor "(C)Z" = some ⟨[.char], some .boolean⟩ := by decide +kernel
theorem pd_26 : parseMethodDescriptor "(C)[B" = some ⟨[.char], some (.array .byte)⟩ := by decide +kernel
theorem pd_27 : parseMethodDescriptor "([BB)V" = some ⟨[(.array .byte), .byte], none⟩ := by decide +kernel
theorem pd_28 : parseMethodDescriptor "(IIILjava/util/function/BiFunction;)I" = some ⟨[.int, .int, .int, (.object "java/util/function/BiFunction")], some .int⟩ := by decide +kernel
theorem pd_29 : parseMethodDescriptor "([B)I" = some ⟨[(.array .byte)], some .int⟩ := by decide +kernel
theorem pd_30 : parseMethodDescriptor "(II[B)V" = some ⟨[.int, .int, (.array .byte)], none⟩ := by decide +kernel
theorem pd_31 : parseMethodDescriptor "([BI[BII)V" = some ⟨[(.array .byte), .int, (.array .byte), .int, .int], none⟩ := by decide +kernel
theorem pd_32 : parseMethodDescriptor "()V" = some ⟨[], none⟩ := by decide +kernel
theorem pd_33 : parseMethodDescriptor "(I[B)V" = some ⟨[.int, (.array .byte)], none⟩ := by decide +kernel
theorem pd_34 : parseMethodDescriptor "([C)V" = some ⟨[(.array .char)], none⟩ := by decide +kernel
theorem pd_35 : parseMethodDescriptor "(C)Ljava/lang/String;" = some ⟨[.char], some (.object "java/lang/String")⟩ := by decide +kernel
theorem pd_36 : parseMethodDescriptor "(I)C" = some ⟨[.int], some .char⟩ := by decide +kernel
theorem pd_37 : parseMethodDescriptor "(Ljava/lang/String;)Ljava/lang/StringBuilder;" = some ⟨[(.object "java/lang/String")], some (.object "java/lang/StringBuilder")⟩ := by decide +kernel
theorem pd_38 : parseMethodDescriptor "()Ljava/lang/String;" = some ⟨[], some (.object "java/lang/String")⟩ := by decide +kernel
theorem pd_39 : parseMethodDescriptor "(II)Ljava/lang/String;" = some ⟨[.int, .int], some (.object "java/lang/String")⟩ := by decide +kernel
theorem pd_40 : parseMethodDescriptor "(Ljava/lang/String;Ljava/lang/String;)Ljava/lang/IllegalArgumentException;" = some ⟨[(.object "java/lang/String"), (.object "java/lang/String")], some (.object "java/lang/IllegalArgumentException")⟩ := by decide +kernel
theorem pd_41 : parseMethodDescriptor "(Ljava/lang/String;)Z" = some ⟨[(.object "java/lang/String")], some .boolean⟩ := by decide +kernel
theorem pd_42 : parseMethodDescriptor "(Ljava/lang/String;ILjava/lang/String;)Z" = some ⟨[(.object "java/lang/String"), .int, (.object "java/lang/String")], some .boolean⟩ := by decide +kernel
theorem str_atoms {Z : State} {a0 : Array Value} (hw : ∀ d ∈ tables_1, d.before a0 Z = true) : ∀ a ∈ Bundle.stringAtoms, a.before a0 Z = true := fun d hd => by
  simp only [Bundle.stringAtoms, List.mem_cons, List.not_mem_nil, or_false] at hd
  rcases hd with rfl | rfl | rfl | rfl | rfl | rfl | rfl
  · exact (hw _ (List.mem_of_getElem? (i := 7) rfl))
  · exact (hw _ (List.mem_of_getElem? (i := 6) rfl))
  · exact (hw _ (List.mem_of_getElem? (i := 24) rfl))
  · exact (hw _ (List.mem_of_getElem? (i := 34) rfl))
  · exact (hw _ (List.mem_of_getElem? (i := 32) rfl))
  · exact (hw _ (List.mem_of_getElem? (i := 36) rfl))
  · exact (hw _ (List.mem_of_getElem? (i := 37) rfl))
theorem d_COD_0 : decode jdk_42_method_152_code 0 = .ok (.getstatic 38, 3) := by decide +kernel
theorem d_COD_3 : decode jdk_42_method_152_code 3 = .ok (.ifCond .eq 10, 3) := by decide +kernel
theorem d_COD_6 : decode jdk_42_method_152_code 6 = .ok (.aload_n 0, 1) := by decide +kernel
theorem d_COD_7 : decode jdk_42_method_152_code 7 = .ok (.getfield 15, 3) := by decide +kernel
theorem d_COD_10 : decode jdk_42_method_152_code 10 = .ok (.goto 4, 3) := by decide +kernel
theorem d_COD_13 : decode jdk_42_method_152_code 13 = .ok (.iconst 1, 1) := by decide +kernel
theorem d_COD_14 : decode jdk_42_method_152_code 14 = .ok (.ireturn, 1) := by decide +kernel
theorem pn_COD : plainFor (⟨"java/lang/String", "coder", "()B"⟩ : MethodName) = true := by first | exact plainFor_of_name (by first | (simp [plainName, overriddenIn]; done) | decide +kernel) | decide +kernel
theorem d_LEN_0 : decode jdk_42_method_54_code 0 = .ok (.aload_n 0, 1) := by decide +kernel
theorem d_LEN_1 : decode jdk_42_method_54_code 1 = .ok (.getfield 9, 3) := by decide +kernel
theorem d_LEN_4 : decode jdk_42_method_54_code 4 = .ok (.arraylength, 1) := by decide +kernel
theorem d_LEN_5 : decode jdk_42_method_54_code 5 = .ok (.aload_n 0, 1) := by decide +kernel
theorem d_LEN_6 : decode jdk_42_method_54_code 6 = .ok (.invokevirtual 335, 3) := by decide +kernel
theorem d_LEN_9 : decode jdk_42_method_54_code 9 = .ok (.ishr, 1) := by decide +kernel
theorem d_LEN_10 : decode jdk_42_method_54_code 10 = .ok (.ireturn, 1) := by decide +kernel
theorem pn_LEN : plainFor (⟨"java/lang/String", "length", "()I"⟩ : MethodName) = true := by first | exact plainFor_of_name (by first | (simp [plainName, overriddenIn]; done) | decide +kernel) | decide +kernel
section StrA
variable {l : Launch} {Z : State} {a0 : Array Value} {EL : List (String × Nat)} {zc : Int32} {x t : Addr} {cx ct : Cell} {cs : List Int32}
theorem c_COD (hw : ∀ d ∈ tables_1, d.before a0 Z = true) (hEL : EW Z a0 EL) (O2 : Sta Z Z.heap "java/lang/String" "COMPACT_STRINGS" "Z" (.int zc)) (hzc : ¬ zc = 0) (hs : SC Z t cx ct cs) :
    OCon l Z EL (⟨"java/lang/String", "coder", "()B"⟩ : MethodName) jdk_42_method_152_code 1 (some .byte) [] ({ frames := 0, cells := 0, slots := 0, locals := 0 } : Room) #[.ref x] [] [(x, cx), (t, ct)] (fun v M N => v = some (.int (cdOf cs)) ∧ M = [] ∧ N = []) := by
  refine OCon.of_wp (L0 := [.val (.ref x)]) pn_COD hEL (fun m => by first | (simp [entryFrame, mkF, argsToLocals, Value.category]; done) | rfl) ?_
  intro p e s m below meth c hk
  refine OWp.getstatic hk d_COD_0 (pc' := 3) rfl (hw _ (List.mem_of_getElem? (i := 19) rfl)) O2 ?_
  refine OWp.ifNo hk d_COD_3 (XT.i0_eq_f hzc) (pc' := 6) rfl ?_
  refine OWp.aload_n hk d_COD_6 (pc' := 7) rfl rfl rfl ?_
  refine OWp.getfield hk d_COD_7 (pc' := 10) rfl (hw _ (List.mem_of_getElem? (i := 31) rfl)) (by simp) hs.2.2.1 ?_
  refine OWp.goto hk d_COD_10 (by decide) (pc' := 14) rfl ?_
  exact OWp.retN hk (Or.inr (Or.inl rfl)) d_COD_14 ⟨by rw [nar_cd], rfl, rfl⟩ (List.Sublist.refl _) (fun _ h => h) (by decide) (by decide)
theorem c_LEN (hw : ∀ d ∈ tables_1, d.before a0 Z = true) (hEL : EW Z a0 EL) (O2 : Sta Z Z.heap "java/lang/String" "COMPACT_STRINGS" "Z" (.int zc)) (hzc : ¬ zc = 0) (hs : SC Z t cx ct cs) :
    OCon l Z EL (⟨"java/lang/String", "length", "()I"⟩ : MethodName) jdk_42_method_54_code 1 (some .int) [] ({ frames := 1, cells := 0, slots := 0, locals := 13 } : Room) #[.ref x] [] [(x, cx), (t, ct)] (fun v M N => v = some (.int (Int32.ofNat cs.length)) ∧ M = [] ∧ N = []) := by
  refine OCon.of_wp (L0 := [.val (.ref x)]) pn_LEN hEL (fun m => by first | (simp [entryFrame, mkF, argsToLocals, Value.category]; done) | rfl) ?_
  intro p e s m below meth c hk
  refine OWp.aload_n hk d_LEN_0 (pc' := 1) rfl rfl rfl ?_
  refine OWp.getfield hk d_LEN_1 (pc' := 4) rfl (hw _ (List.mem_of_getElem? (i := 33) rfl)) (by simp) hs.2.1 ?_
  refine OWp.arraylength hk d_LEN_4 (pc' := 5) rfl (by simp) hs.2.2.2.1 rfl ?_
  refine OWp.aload_n hk d_LEN_5 (pc' := 6) rfl rfl rfl ?_
  refine OWp.callV hk d_LEN_6 (pc' := 9) rfl (hw _ (List.mem_of_getElem? (i := 79) rfl)) (hw _ (List.mem_of_getElem? (i := 80) rfl)) (nfs (hw _ (List.mem_of_getElem? (i := 82) rfl))) (hw _ (List.mem_of_getElem? (i := 82) rfl)) (hw _ (List.mem_of_getElem? (i := 81) rfl)) (hw _ (List.mem_of_getElem? (i := 7) rfl)) (hw _ (List.mem_of_getElem? (i := 83) rfl)) (by decide) (by simp) hs.1 (c_COD hw hEL O2 hzc hs) rfl (by simp) rfl (lenOf pd_0 rfl) rfl (W := 1) rfl (by first | decide | (dsimp only; omega)) (by first | decide | (dsimp only; omega)) (by first | decide | (dsimp only; omega)) (by first | decide | (dsimp only; omega)) ?_
  rintro _ _ _ ⟨rfl, rfl, rfl⟩
  refine OWp.ishr hk d_LEN_9 (pc' := 10) rfl ?_
  exact OWp.retI hk d_LEN_10 ⟨by rw [shr_len _ hs.2.2.2.2.2], rfl, rfl⟩ (List.Sublist.refl _) (fun _ h => h) (by decide) (by decide)
end StrA
theorem d_CM5_0 : decode jdk_52_method_21_code 0 = .ok (.iconst 0, 1) := by decide +kernel
theorem d_CM5_1 : decode jdk_52_method_21_code 1 = .ok (.istore 5, 2) := by decide +kernel
theorem d_CM5_3 : decode jdk_52_method_21_code 3 = .ok (.iload 5, 2) := by decide +kernel
theorem d_CM5_5 : decode jdk_52_method_21_code 5 = .ok (.iload 4, 2) := by decide +kernel
theorem d_CM5_7 : decode jdk_52_method_21_code 7 = .ok (.if_icmp .ge 37, 3) := by decide +kernel
theorem d_CM5_10 : decode jdk_52_method_21_code 10 = .ok (.aload_n 0, 1) := by decide +kernel
theorem d_CM5_11 : decode jdk_52_method_21_code 11 = .ok (.iload_n 1, 1) := by decide +kernel
theorem d_CM5_12 : decode jdk_52_method_21_code 12 = .ok (.caload, 1) := by decide +kernel
theorem d_CM5_13 : decode jdk_52_method_21_code 13 = .ok (.istore 6, 2) := by decide +kernel
theorem d_CM5_15 : decode jdk_52_method_21_code 15 = .ok (.iload 6, 2) := by decide +kernel
theorem d_CM5_17 : decode jdk_52_method_21_code 17 = .ok (.sipush 255, 3) := by decide +kernel
theorem d_CM5_20 : decode jdk_52_method_21_code 20 = .ok (.if_icmp .le 6, 3) := by decide +kernel
theorem d_CM5_23 : decode jdk_52_method_21_code 23 = .ok (.iload 5, 2) := by decide +kernel
theorem d_CM5_25 : decode jdk_52_method_21_code 25 = .ok (.ireturn, 1) := by decide +kernel
theorem d_CM5_26 : decode jdk_52_method_21_code 26 = .ok (.aload_n 2, 1) := by decide +kernel
theorem d_CM5_27 : decode jdk_52_method_21_code 27 = .ok (.iload_n 3, 1) := by decide +kernel
theorem d_CM5_28 : decode jdk_52_method_21_code 28 = .ok (.iload 6, 2) := by decide +kernel
theorem d_CM5_30 : decode jdk_52_method_21_code 30 = .ok (.i2b, 1) := by decide +kernel
theorem d_CM5_31 : decode jdk_52_method_21_code 31 = .ok (.bastore, 1) := by decide +kernel
theorem d_CM5_32 : decode jdk_52_method_21_code 32 = .ok (.iinc 1 1, 3) := by decide +kernel
theorem d_CM5_35 : decode jdk_52_method_21_code 35 = .ok (.iinc 3 1, 3) := by decide +kernel
theorem d_CM5_38 : decode jdk_52_method_21_code 38 = .ok (.iinc 5 1, 3) := by decide +kernel
theorem d_CM5_41 : decode jdk_52_method_21_code 41 = .ok (.goto (-38), 3) := by decide +kernel
theorem d_CM5_44 : decode jdk_52_method_21_code 44 = .ok (.iload 4, 2) := by decide +kernel
theorem d_CM5_46 : decode jdk_52_method_21_code 46 = .ok (.ireturn, 1) := by decide +kernel
theorem pn_CM5 : plainFor (⟨"java/lang/StringUTF16", "compress", "([CI[BII)I"⟩ : MethodName) = true := by first | exact plainFor_of_name (by first | (simp [plainName, overriddenIn]; done) | decide +kernel) | decide +kernel
theorem d_CFL_0 : decode jdk_52_method_15_code 0 = .ok (.iload_n 1, 1) := by decide +kernel
theorem d_CFL_1 : decode jdk_52_method_15_code 1 = .ok (.aload_n 0, 1) := by decide +kernel
theorem d_CFL_2 : decode jdk_52_method_15_code 2 = .ok (.arraylength, 1) := by decide +kernel
theorem d_CFL_3 : decode jdk_52_method_15_code 3 = .ok (.isub, 1) := by decide +kernel
theorem d_CFL_4 : decode jdk_52_method_15_code 4 = .ok (.bipush 31, 2) := by decide +kernel
theorem d_CFL_6 : decode jdk_52_method_15_code 6 = .ok (.iushr, 1) := by decide +kernel
theorem d_CFL_7 : decode jdk_52_method_15_code 7 = .ok (.i2b, 1) := by decide +kernel
theorem d_CFL_8 : decode jdk_52_method_15_code 8 = .ok (.ireturn, 1) := by decide +kernel
theorem pn_CFL : plainFor (⟨"java/lang/StringUTF16", "coderFromArrayLen", "([BI)B"⟩ : MethodName) = true := by first | exact plainFor_of_name (by first | (simp [plainName, overriddenIn]; done) | decide +kernel) | decide +kernel
section StrCM5
variable {l : Launch} {Z : State} {a0 : Array Value} {EL : List (String × Nat)} {b d : Addr} {cb cd : Cell} {cs : List Int32} {n : Nat}
theorem c_CM5 (hw : ∀ d ∈ tables_1, d.before a0 Z = true) (hEL : EW Z a0 EL) (hA : AC Z cb .char (tab n fun j => .int (cs.getD j 0))) (hn : cs.length = n) (hcs : Chars cs) (hD : AC Z cd .byte (tab n fun _ => .int 0)) :
    OCon l Z EL (⟨"java/lang/StringUTF16", "compress", "([CI[BII)I"⟩ : MethodName) jdk_52_method_21_code 7 (some .int) [] ({ frames := 0, cells := 0, slots := 0, locals := 0 } : Room) #[.ref b, .int 0, .ref d, .int 0, .int (Int32.ofNat n)] [(d, cd)] [(b, cb)]
      (fun v M N => N = [] ∧ ∃ k cd', k ≤ n ∧ v = some (.int (Int32.ofNat k)) ∧ M = [(d, cd')] ∧ (k = n → lat cs = true ∧ AC Z cd' .byte (tab n fun j => .int (lo8 (cs.getD j 0)))) ∧ (k < n → (255 : Int32) < cs.getD k 0)) := by
  refine OCon.of_wp (L0 := [.val (.ref b), .val (.int 0), .val (.ref d), .val (.int 0), .val (.int (Int32.ofNat n)), .unset, .unset]) pn_CM5 hEL (fun m => by first | (simp [entryFrame, mkF, argsToLocals, Value.category]; done) | rfl) ?_
  intro p e s m below meth c hk
  have hn4 := hcs.2
  have loop : ∀ (k i : Nat) (cd' : Cell) (o6 : Slot), i + k = n → (∀ j, j < i → ¬ (255 : Int32) < cs.getD j 0) → AC Z cd' .byte (tab n fun j => if j < i then .int (lo8 (cs.getD j 0)) else .int 0) → o1 o6 = true →
      OWp p l e ({ frames := 0, cells := 0, slots := 0, locals := 0 } : Room) s m #[.ref b, .int 0, .ref d, .int 0, .int (Int32.ofNat n)] below meth c "java/lang/StringUTF16" Z EL (dom [(d, cd)]) [(b, cb)]
        (fun v M N => N = [] ∧ ∃ k cd', k ≤ n ∧ v = some (.int (Int32.ofNat k)) ∧ M = [(d, cd')] ∧ (k = n → lat cs = true ∧ AC Z cd' .byte (tab n fun j => .int (lo8 (cs.getD j 0)))) ∧ (k < n → (255 : Int32) < cs.getD k 0))
        [(d, cd')] [] 0 0 3 [.val (.ref b), .val (.int (Int32.ofNat i)), .val (.ref d), .val (.int (Int32.ofNat i)), .val (.int (Int32.ofNat n)), .val (.int (Int32.ofNat i)), o6] [] := by
    intro k
    induction k with
    | zero =>
      intro i cd' o6 hik hlo hD' ho6
      refine OWp.iload hk d_CM5_3 (pc' := 5) rfl rfl ?_
      refine OWp.iload hk d_CM5_5 (pc' := 7) rfl rfl ?_
      refine OWp.icmpYes hk d_CM5_7 (XT.ii_ge_t (by rw [n_lt (by omega) (by omega)]; omega)) (by decide) (pc' := 44) rfl ?_
      refine OWp.iload hk d_CM5_44 (pc' := 46) rfl rfl ?_
      have hlat : lat cs = true := lat_iff.mpr fun c hc => by
        obtain ⟨j, hj, rfl⟩ := List.getElem_of_mem hc
        have := hlo j (by omega)
        rwa [List.getD_eq_getElem?_getD, List.getElem?_eq_getElem hj] at this
      have hfin : AC Z cd' .byte (tab n fun j => .int (lo8 (cs.getD j 0))) := hD'.congr fun j hj => by rw [if_pos (by omega)]
      exact OWp.retI hk d_CM5_46 ⟨rfl, n, cd', Nat.le_refl _, rfl, rfl, fun _ => ⟨hlat, hfin⟩, fun q => absurd q (Nat.lt_irrefl _)⟩ (List.Sublist.refl _) (fun _ h => h) (by decide) (by decide)
    | succ k ih =>
      intro i cd' o6 hik hlo hD' ho6
      have hi : i < n := by omega
      have hc := hcs.1 _ (getD_mem (i := i) (by omega))
      refine OWp.iload hk d_CM5_3 (pc' := 5) rfl rfl ?_
      refine OWp.iload hk d_CM5_5 (pc' := 7) rfl rfl ?_
      refine OWp.icmpNo hk d_CM5_7 (XT.ii_ge_f (by rw [n_lt (by omega) (by omega)]; omega)) (pc' := 10) rfl ?_
      refine OWp.aload_n hk d_CM5_10 (pc' := 11) rfl rfl rfl ?_
      refine OWp.iload_n hk d_CM5_11 (pc' := 12) rfl rfl ?_
      refine OWp.caload hk d_CM5_12 (pc' := 13) rfl (by simp) hA (n_nn (by omega)) (by rw [n_nat (by omega)]; exact tab_get hi) ?_
      refine OWp.istore hk d_CM5_13 (pc' := 15) rfl ho6 (by simp only [List.set_cons_zero, List.set_cons_succ]; rfl) ?_
      refine OWp.iload hk d_CM5_15 (pc' := 17) rfl rfl ?_
      refine OWp.sipush hk d_CM5_17 (pc' := 20) rfl (z := 255) rfl ?_
      by_cases h255 : (255 : Int32) < cs.getD i 0
      · refine OWp.icmpNo hk d_CM5_20 (XT.ii_le_f h255) (pc' := 23) rfl ?_
        refine OWp.iload hk d_CM5_23 (pc' := 25) rfl rfl ?_
        exact OWp.retI hk d_CM5_25 ⟨rfl, i, cd', Nat.le_of_lt hi, rfl, rfl, fun q => absurd q (Nat.ne_of_lt hi), fun _ => h255⟩ (List.Sublist.refl _) (fun _ h => h) (by decide) (by decide)
      · refine OWp.icmpYes hk d_CM5_20 (XT.ii_le_t h255) (by decide) (pc' := 26) rfl ?_
        refine OWp.aload_n hk d_CM5_26 (pc' := 27) rfl rfl rfl ?_
        refine OWp.iload_n hk d_CM5_27 (pc' := 28) rfl rfl ?_
        refine OWp.iload hk d_CM5_28 (pc' := 30) rfl rfl ?_
        refine OWp.i2b hk d_CM5_30 (pc' := 31) rfl ?_
        refine OWp.bastore hk d_CM5_31 (pc' := 32) rfl (i := 0) rfl hD' (n_nn (by omega)) (n_nat (by omega)) (by rw [tab_len]; exact hi) ?_
        intro cd2 hD2
        simp only [List.nil_append, List.cons_append, List.set_cons_zero]
        refine OWp.iinc hk d_CM5_32 (pc' := 35) rfl rfl (z := 1) rfl (by simp only [List.set_cons_zero, List.set_cons_succ]; rfl) ?_
        refine OWp.iinc hk d_CM5_35 (pc' := 38) rfl rfl (z := 1) rfl (by simp only [List.set_cons_zero, List.set_cons_succ]; rfl) ?_
        refine OWp.iinc hk d_CM5_38 (pc' := 41) rfl rfl (z := 1) rfl (by simp only [List.set_cons_zero, List.set_cons_succ]; rfl) ?_
        refine OWp.goto hk d_CM5_41 (by decide) (pc' := 3) rfl ?_
        rw [n_succ]
        refine ih (i + 1) cd2 (.val (.int (cs.getD i 0))) (by omega) (fun j hj => ?_) ?_ rfl
        · by_cases e : j = i
          · subst e; exact h255
          · exact hlo j (by omega)
        · rw [tab_set] at hD2
          refine hD2.congr fun j hj => ?_
          by_cases e : j = i
          · subst e; simp [lo8]
          · simp only [e, if_false]
            by_cases q : j < i
            · rw [if_pos q, if_pos (by omega)]
            · rw [if_neg q, if_neg (by omega)]
  refine OWp.iconst hk d_CM5_0 (pc' := 1) rfl (z := 0) rfl ?_
  refine OWp.istore hk d_CM5_1 (pc' := 3) rfl rfl (by simp only [List.set_cons_zero, List.set_cons_succ]; rfl) ?_
  exact loop n 0 cd .unset (by omega) (fun j hj => absurd hj (Nat.not_lt_zero _)) (hD.congr fun j hj => by rw [if_neg (Nat.not_lt_zero _)]) rfl
theorem c_CFL (hw : ∀ d ∈ tables_1, d.before a0 Z = true) (hEL : EW Z a0 EL) {vs : List Value} {z : Int32} (hD : AC Z cd .byte vs) (hz : (XT.ushr (Int32.ofNat n - Int32.ofNat vs.length) 31).toInt8.toInt32 = z) (hz2 : nar .byte z = z) :
    OCon l Z EL (⟨"java/lang/StringUTF16", "coderFromArrayLen", "([BI)B"⟩ : MethodName) jdk_52_method_15_code 2 (some .byte) [] ({ frames := 0, cells := 0, slots := 0, locals := 0 } : Room) #[.ref d, .int (Int32.ofNat n)] [] [(d, cd)] (fun v M N => v = some (.int z) ∧ M = [] ∧ N = []) := by
  refine OCon.of_wp (L0 := [.val (.ref d), .val (.int (Int32.ofNat n))]) pn_CFL hEL (fun m => by first | (simp [entryFrame, mkF, argsToLocals, Value.category]; done) | rfl) ?_
  intro p e s m below meth c hk
  refine OWp.iload_n hk d_CFL_0 (pc' := 1) rfl rfl ?_
  refine OWp.aload_n hk d_CFL_1 (pc' := 2) rfl rfl rfl ?_
  refine OWp.arraylength hk d_CFL_2 (pc' := 3) rfl (by simp) hD rfl ?_
  refine OWp.isub hk d_CFL_3 (pc' := 4) rfl ?_
  refine OWp.bipush hk d_CFL_4 (pc' := 6) rfl (z := 31) rfl ?_
  refine OWp.iushr hk d_CFL_6 (pc' := 7) rfl ?_
  refine OWp.i2b hk d_CFL_7 (pc' := 8) rfl ?_
  exact OWp.retN hk (Or.inr (Or.inl rfl)) d_CFL_8 ⟨by rw [hz, hz2], rfl, rfl⟩ (List.Sublist.refl _) (fun _ h => h) (by decide) (by decide)
end StrCM5
theorem d_CM3_0 : decode jdk_52_method_16_code 0 = .ok (.iload_n 2, 1) := by decide +kernel
theorem d_CM3_1 : decode jdk_52_method_16_code 1 = .ok (.newarray .byte, 2) := by decide +kernel
theorem d_CM3_3 : decode jdk_52_method_16_code 3 = .ok (.astore_n 3, 1) := by decide +kernel
theorem d_CM3_4 : decode jdk_52_method_16_code 4 = .ok (.aload_n 0, 1) := by decide +kernel
theorem d_CM3_5 : decode jdk_52_method_16_code 5 = .ok (.iload_n 1, 1) := by decide +kernel
theorem d_CM3_6 : decode jdk_52_method_16_code 6 = .ok (.aload_n 3, 1) := by decide +kernel
theorem d_CM3_7 : decode jdk_52_method_16_code 7 = .ok (.iconst 0, 1) := by decide +kernel
theorem d_CM3_8 : decode jdk_52_method_16_code 8 = .ok (.iload_n 2, 1) := by decide +kernel
theorem d_CM3_9 : decode jdk_52_method_16_code 9 = .ok (.invokestatic 115, 3) := by decide +kernel
theorem d_CM3_12 : decode jdk_52_method_16_code 12 = .ok (.istore 4, 2) := by decide +kernel
theorem d_CM3_14 : decode jdk_52_method_16_code 14 = .ok (.iload 4, 2) := by decide +kernel
theorem d_CM3_16 : decode jdk_52_method_16_code 16 = .ok (.iload_n 2, 1) := by decide +kernel
theorem d_CM3_17 : decode jdk_52_method_16_code 17 = .ok (.if_icmp .eq 40, 3) := by decide +kernel
theorem d_CM3_20 : decode jdk_52_method_16_code 20 = .ok (.aload_n 0, 1) := by decide +kernel
theorem d_CM3_21 : decode jdk_52_method_16_code 21 = .ok (.iload_n 1, 1) := by decide +kernel
theorem d_CM3_22 : decode jdk_52_method_16_code 22 = .ok (.iload_n 2, 1) := by decide +kernel
theorem d_CM3_23 : decode jdk_52_method_16_code 23 = .ok (.invokestatic 119, 3) := by decide +kernel
theorem d_CM3_26 : decode jdk_52_method_16_code 26 = .ok (.astore 5, 2) := by decide +kernel
theorem d_CM3_28 : decode jdk_52_method_16_code 28 = .ok (.aload 5, 2) := by decide +kernel
theorem d_CM3_30 : decode jdk_52_method_16_code 30 = .ok (.iload 4, 2) := by decide +kernel
theorem d_CM3_32 : decode jdk_52_method_16_code 32 = .ok (.invokestatic 71, 3) := by decide +kernel
theorem d_CM3_35 : decode jdk_52_method_16_code 35 = .ok (.sipush 255, 3) := by decide +kernel
theorem d_CM3_38 : decode jdk_52_method_16_code 38 = .ok (.if_icmp .gt 16, 3) := by decide +kernel
theorem d_CM3_41 : decode jdk_52_method_16_code 41 = .ok (.aload 5, 2) := by decide +kernel
theorem d_CM3_43 : decode jdk_52_method_16_code 43 = .ok (.iconst 0, 1) := by decide +kernel
theorem d_CM3_44 : decode jdk_52_method_16_code 44 = .ok (.aload_n 3, 1) := by decide +kernel
theorem d_CM3_45 : decode jdk_52_method_16_code 45 = .ok (.iconst 0, 1) := by decide +kernel
theorem d_CM3_46 : decode jdk_52_method_16_code 46 = .ok (.iload_n 2, 1) := by decide +kernel
theorem d_CM3_47 : decode jdk_52_method_16_code 47 = .ok (.invokestatic 123, 3) := by decide +kernel
theorem d_CM3_50 : decode jdk_52_method_16_code 50 = .ok (.iload_n 2, 1) := by decide +kernel
theorem d_CM3_51 : decode jdk_52_method_16_code 51 = .ok (.if_icmp .eq 6, 3) := by decide +kernel
theorem d_CM3_54 : decode jdk_52_method_16_code 54 = .ok (.aload 5, 2) := by decide +kernel
theorem d_CM3_56 : decode jdk_52_method_16_code 56 = .ok (.areturn, 1) := by decide +kernel
theorem d_CM3_57 : decode jdk_52_method_16_code 57 = .ok (.aload_n 3, 1) := by decide +kernel
theorem d_CM3_58 : decode jdk_52_method_16_code 58 = .ok (.areturn, 1) := by decide +kernel
theorem pn_CM3 : plainFor (⟨"java/lang/StringUTF16", "compress", "([CII)[B"⟩ : MethodName) = true := by first | exact plainFor_of_name (by first | (simp [plainName, overriddenIn]; done) | decide +kernel) | decide +kernel
theorem d_TB_0 : decode jdk_52_method_14_code 0 = .ok (.iload_n 2, 1) := by decide +kernel
theorem d_TB_1 : decode jdk_52_method_14_code 1 = .ok (.invokestatic 107, 3) := by decide +kernel
theorem d_TB_4 : decode jdk_52_method_14_code 4 = .ok (.astore_n 3, 1) := by decide +kernel
theorem d_TB_5 : decode jdk_52_method_14_code 5 = .ok (.iconst 0, 1) := by decide +kernel
theorem d_TB_6 : decode jdk_52_method_14_code 6 = .ok (.istore 4, 2) := by decide +kernel
theorem d_TB_8 : decode jdk_52_method_14_code 8 = .ok (.iload 4, 2) := by decide +kernel
theorem d_TB_10 : decode jdk_52_method_14_code 10 = .ok (.iload_n 2, 1) := by decide +kernel
theorem d_TB_11 : decode jdk_52_method_14_code 11 = .ok (.if_icmp .ge 21, 3) := by decide +kernel
theorem d_TB_14 : decode jdk_52_method_14_code 14 = .ok (.aload_n 3, 1) := by decide +kernel
theorem d_TB_15 : decode jdk_52_method_14_code 15 = .ok (.iload 4, 2) := by decide +kernel
theorem d_TB_17 : decode jdk_52_method_14_code 17 = .ok (.aload_n 0, 1) := by decide +kernel
theorem d_TB_18 : decode jdk_52_method_14_code 18 = .ok (.iload_n 1, 1) := by decide +kernel
theorem d_TB_19 : decode jdk_52_method_14_code 19 = .ok (.caload, 1) := by decide +kernel
theorem d_TB_20 : decode jdk_52_method_14_code 20 = .ok (.invokestatic 111, 3) := by decide +kernel
theorem d_TB_23 : decode jdk_52_method_14_code 23 = .ok (.iinc 1 1, 3) := by decide +kernel
theorem d_TB_26 : decode jdk_52_method_14_code 26 = .ok (.iinc 4 1, 3) := by decide +kernel
theorem d_TB_29 : decode jdk_52_method_14_code 29 = .ok (.goto (-21), 3) := by decide +kernel
theorem d_TB_32 : decode jdk_52_method_14_code 32 = .ok (.aload_n 3, 1) := by decide +kernel
theorem d_TB_33 : decode jdk_52_method_14_code 33 = .ok (.areturn, 1) := by decide +kernel
theorem pn_TB : plainFor (⟨"java/lang/StringUTF16", "toBytes", "([CII)[B"⟩ : MethodName) = true := by first | exact plainFor_of_name (by first | (simp [plainName, overriddenIn]; done) | decide +kernel) | decide +kernel
theorem d_NBF_0 : decode jdk_52_method_2_code 0 = .ok (.iload_n 0, 1) := by decide +kernel
theorem d_NBF_1 : decode jdk_52_method_2_code 1 = .ok (.invokestatic 11, 3) := by decide +kernel
theorem d_NBF_4 : decode jdk_52_method_2_code 4 = .ok (.newarray .byte, 2) := by decide +kernel
theorem d_NBF_6 : decode jdk_52_method_2_code 6 = .ok (.areturn, 1) := by decide +kernel
theorem pn_NBF : plainFor (⟨"java/lang/StringUTF16", "newBytesFor", "(I)[B"⟩ : MethodName) = true := by first | exact plainFor_of_name (by first | (simp [plainName, overriddenIn]; done) | decide +kernel) | decide +kernel
theorem d_NBL_0 : decode jdk_52_method_3_code 0 = .ok (.iload_n 0, 1) := by decide +kernel
theorem d_NBL_1 : decode jdk_52_method_3_code 1 = .ok (.ifCond .ge 11, 3) := by decide +kernel
theorem d_NBL_4 : decode jdk_52_method_3_code 4 = .ok (.new 17, 3) := by decide +kernel
theorem d_NBL_7 : decode jdk_52_method_3_code 7 = .ok (.dup, 1) := by decide +kernel
theorem d_NBL_8 : decode jdk_52_method_3_code 8 = .ok (.invokespecial 19, 3) := by decide +kernel
theorem d_NBL_11 : decode jdk_52_method_3_code 11 = .ok (.athrow, 1) := by decide +kernel
theorem d_NBL_12 : decode jdk_52_method_3_code 12 = .ok (.iload_n 0, 1) := by decide +kernel
theorem d_NBL_13 : decode jdk_52_method_3_code 13 = .ok (.ldc 20, 2) := by decide +kernel
theorem d_NBL_15 : decode jdk_52_method_3_code 15 = .ok (.if_icmp .lt 40, 3) := by decide +kernel
theorem d_NBL_18 : decode jdk_52_method_3_code 18 = .ok (.new 21, 3) := by decide +kernel
theorem d_NBL_21 : decode jdk_52_method_3_code 21 = .ok (.dup, 1) := by decide +kernel
theorem d_NBL_22 : decode jdk_52_method_3_code 22 = .ok (.new 23, 3) := by decide +kernel
theorem d_NBL_25 : decode jdk_52_method_3_code 25 = .ok (.dup, 1) := by decide +kernel
theorem d_NBL_26 : decode jdk_52_method_3_code 26 = .ok (.invokespecial 25, 3) := by decide +kernel
theorem d_NBL_29 : decode jdk_52_method_3_code 29 = .ok (.ldc 26, 2) := by decide +kernel
theorem d_NBL_31 : decode jdk_52_method_3_code 31 = .ok (.invokevirtual 28, 3) := by decide +kernel
theorem d_NBL_34 : decode jdk_52_method_3_code 34 = .ok (.iload_n 0, 1) := by decide +kernel
theorem d_NBL_35 : decode jdk_52_method_3_code 35 = .ok (.invokevirtual 32, 3) := by decide +kernel
theorem d_NBL_38 : decode jdk_52_method_3_code 38 = .ok (.ldc 35, 2) := by decide +kernel
theorem d_NBL_40 : decode jdk_52_method_3_code 40 = .ok (.invokevirtual 28, 3) := by decide +kernel
theorem d_NBL_43 : decode jdk_52_method_3_code 43 = .ok (.ldc 20, 2) := by decide +kernel
theorem d_NBL_45 : decode jdk_52_method_3_code 45 = .ok (.invokevirtual 32, 3) := by decide +kernel
theorem d_NBL_48 : decode jdk_52_method_3_code 48 = .ok (.invokevirtual 37, 3) := by decide +kernel
theorem d_NBL_51 : decode jdk_52_method_3_code 51 = .ok (.invokespecial 41, 3) := by decide +kernel
theorem d_NBL_54 : decode jdk_52_method_3_code 54 = .ok (.athrow, 1) := by decide +kernel
theorem d_NBL_55 : decode jdk_52_method_3_code 55 = .ok (.iload_n 0, 1) := by decide +kernel
theorem d_NBL_56 : decode jdk_52_method_3_code 56 = .ok (.iconst 1, 1) := by decide +kernel
theorem d_NBL_57 : decode jdk_52_method_3_code 57 = .ok (.ishl, 1) := by decide +kernel
theorem d_NBL_58 : decode jdk_52_method_3_code 58 = .ok (.ireturn, 1) := by decide +kernel
theorem pn_NBL : plainFor (⟨"java/lang/StringUTF16", "newBytesLength", "(I)I"⟩ : MethodName) = true := by first | exact plainFor_of_name (by first | (simp [plainName, overriddenIn]; done) | decide +kernel) | decide +kernel
theorem d_PUT_0 : decode jdk_52_method_4_code 0 = .ok (.getstatic 44, 3) := by decide +kernel
theorem d_PUT_3 : decode jdk_52_method_4_code 3 = .ok (.ifCond .ne 25, 3) := by decide +kernel
theorem d_PUT_6 : decode jdk_52_method_4_code 6 = .ok (.iload_n 1, 1) := by decide +kernel
theorem d_PUT_7 : decode jdk_52_method_4_code 7 = .ok (.ifCond .lt 11, 3) := by decide +kernel
theorem d_PUT_10 : decode jdk_52_method_4_code 10 = .ok (.iload_n 1, 1) := by decide +kernel
theorem d_PUT_11 : decode jdk_52_method_4_code 11 = .ok (.aload_n 0, 1) := by decide +kernel
theorem d_PUT_12 : decode jdk_52_method_4_code 12 = .ok (.invokestatic 48, 3) := by decide +kernel
theorem d_PUT_15 : decode jdk_52_method_4_code 15 = .ok (.if_icmp .lt 13, 3) := by decide +kernel
theorem d_PUT_18 : decode jdk_52_method_4_code 18 = .ok (.new 52, 3) := by decide +kernel
theorem d_PUT_21 : decode jdk_52_method_4_code 21 = .ok (.dup, 1) := by decide +kernel
theorem d_PUT_22 : decode jdk_52_method_4_code 22 = .ok (.ldc 54, 2) := by decide +kernel
theorem d_PUT_24 : decode jdk_52_method_4_code 24 = .ok (.invokespecial 56, 3) := by decide +kernel
theorem d_PUT_27 : decode jdk_52_method_4_code 27 = .ok (.athrow, 1) := by decide +kernel
theorem d_PUT_28 : decode jdk_52_method_4_code 28 = .ok (.iload_n 1, 1) := by decide +kernel
theorem d_PUT_29 : decode jdk_52_method_4_code 29 = .ok (.iconst 1, 1) := by decide +kernel
theorem d_PUT_30 : decode jdk_52_method_4_code 30 = .ok (.ishl, 1) := by decide +kernel
theorem d_PUT_31 : decode jdk_52_method_4_code 31 = .ok (.istore_n 1, 1) := by decide +kernel
theorem d_PUT_32 : decode jdk_52_method_4_code 32 = .ok (.aload_n 0, 1) := by decide +kernel
theorem d_PUT_33 : decode jdk_52_method_4_code 33 = .ok (.iload_n 1, 1) := by decide +kernel
theorem d_PUT_34 : decode jdk_52_method_4_code 34 = .ok (.iinc 1 1, 3) := by decide +kernel
theorem d_PUT_37 : decode jdk_52_method_4_code 37 = .ok (.iload_n 2, 1) := by decide +kernel
theorem d_PUT_38 : decode jdk_52_method_4_code 38 = .ok (.getstatic 59, 3) := by decide +kernel
theorem d_PUT_41 : decode jdk_52_method_4_code 41 = .ok (.ishr, 1) := by decide +kernel
theorem d_PUT_42 : decode jdk_52_method_4_code 42 = .ok (.i2b, 1) := by decide +kernel
theorem d_PUT_43 : decode jdk_52_method_4_code 43 = .ok (.bastore, 1) := by decide +kernel
theorem d_PUT_44 : decode jdk_52_method_4_code 44 = .ok (.aload_n 0, 1) := by decide +kernel
theorem d_PUT_45 : decode jdk_52_method_4_code 45 = .ok (.iload_n 1, 1) := by decide +kernel
theorem d_PUT_46 : decode jdk_52_method_4_code 46 = .ok (.iload_n 2, 1) := by decide +kernel
theorem d_PUT_47 : decode jdk_52_method_4_code 47 = .ok (.getstatic 63, 3) := by decide +kernel
theorem d_PUT_50 : decode jdk_52_method_4_code 50 = .ok (.ishr, 1) := by decide +kernel
theorem d_PUT_51 : decode jdk_52_method_4_code 51 = .ok (.i2b, 1) := by decide +kernel
theorem d_PUT_52 : decode jdk_52_method_4_code 52 = .ok (.bastore, 1) := by decide +kernel
theorem d_PUT_53 : decode jdk_52_method_4_code 53 = .ok (.return_, 1) := by decide +kernel
theorem pn_PUT : plainFor (⟨"java/lang/StringUTF16", "putChar", "([BII)V"⟩ : MethodName) = true := by first | exact plainFor_of_name (by first | (simp [plainName, overriddenIn]; done) | decide +kernel) | decide +kernel
theorem d_GET_0 : decode jdk_52_method_5_code 0 = .ok (.getstatic 44, 3) := by decide +kernel
theorem d_GET_3 : decode jdk_52_method_5_code 3 = .ok (.ifCond .ne 25, 3) := by decide +kernel
theorem d_GET_6 : decode jdk_52_method_5_code 6 = .ok (.iload_n 1, 1) := by decide +kernel
theorem d_GET_7 : decode jdk_52_method_5_code 7 = .ok (.ifCond .lt 11, 3) := by decide +kernel
theorem d_GET_10 : decode jdk_52_method_5_code 10 = .ok (.iload_n 1, 1) := by decide +kernel
theorem d_GET_11 : decode jdk_52_method_5_code 11 = .ok (.aload_n 0, 1) := by decide +kernel
theorem d_GET_12 : decode jdk_52_method_5_code 12 = .ok (.invokestatic 48, 3) := by decide +kernel
theorem d_GET_15 : decode jdk_52_method_5_code 15 = .ok (.if_icmp .lt 13, 3) := by decide +kernel
theorem d_GET_18 : decode jdk_52_method_5_code 18 = .ok (.new 52, 3) := by decide +kernel
theorem d_GET_21 : decode jdk_52_method_5_code 21 = .ok (.dup, 1) := by decide +kernel
theorem d_GET_22 : decode jdk_52_method_5_code 22 = .ok (.ldc 54, 2) := by decide +kernel
theorem d_GET_24 : decode jdk_52_method_5_code 24 = .ok (.invokespecial 56, 3) := by decide +kernel
theorem d_GET_27 : decode jdk_52_method_5_code 27 = .ok (.athrow, 1) := by decide +kernel
theorem d_GET_28 : decode jdk_52_method_5_code 28 = .ok (.iload_n 1, 1) := by decide +kernel
theorem d_GET_29 : decode jdk_52_method_5_code 29 = .ok (.iconst 1, 1) := by decide +kernel
theorem d_GET_30 : decode jdk_52_method_5_code 30 = .ok (.ishl, 1) := by decide +kernel
theorem d_GET_31 : decode jdk_52_method_5_code 31 = .ok (.istore_n 1, 1) := by decide +kernel
theorem d_GET_32 : decode jdk_52_method_5_code 32 = .ok (.aload_n 0, 1) := by decide +kernel
theorem d_GET_33 : decode jdk_52_method_5_code 33 = .ok (.iload_n 1, 1) := by decide +kernel
theorem d_GET_34 : decode jdk_52_method_5_code 34 = .ok (.iinc 1 1, 3) := by decide +kernel
theorem d_GET_37 : decode jdk_52_method_5_code 37 = .ok (.baload, 1) := by decide +kernel
theorem d_GET_38 : decode jdk_52_method_5_code 38 = .ok (.sipush 255, 3) := by decide +kernel
theorem d_GET_41 : decode jdk_52_method_5_code 41 = .ok (.iand, 1) := by decide +kernel
theorem d_GET_42 : decode jdk_52_method_5_code 42 = .ok (.getstatic 59, 3) := by decide +kernel
theorem d_GET_45 : decode jdk_52_method_5_code 45 = .ok (.ishl, 1) := by decide +kernel
theorem d_GET_46 : decode jdk_52_method_5_code 46 = .ok (.aload_n 0, 1) := by decide +kernel
theorem d_GET_47 : decode jdk_52_method_5_code 47 = .ok (.iload_n 1, 1) := by decide +kernel
theorem d_GET_48 : decode jdk_52_method_5_code 48 = .ok (.baload, 1) := by decide +kernel
theorem d_GET_49 : decode jdk_52_method_5_code 49 = .ok (.sipush 255, 3) := by decide +kernel
theorem d_GET_52 : decode jdk_52_method_5_code 52 = .ok (.iand, 1) := by decide +kernel
theorem d_GET_53 : decode jdk_52_method_5_code 53 = .ok (.getstatic 63, 3) := by decide +kernel
theorem d_GET_56 : decode jdk_52_method_5_code 56 = .ok (.ishl, 1) := by decide +kernel
theorem d_GET_57 : decode jdk_52_method_5_code 57 = .ok (.ior, 1) := by decide +kernel
theorem d_GET_58 : decode jdk_52_method_5_code 58 = .ok (.i2c, 1) := by decide +kernel
theorem d_GET_59 : decode jdk_52_method_5_code 59 = .ok (.ireturn, 1) := by decide +kernel
theorem pn_GET : plainFor (⟨"java/lang/StringUTF16", "getChar", "([BI)C"⟩ : MethodName) = true := by first | exact plainFor_of_name (by first | (simp [plainName, overriddenIn]; done) | decide +kernel) | decide +kernel
section StrCM3W
variable {l : Launch} {Z : State} {a0 : Array Value} {EL : List (String × Nat)} {b d : Addr} {cb cd : Cell} {cs : List Int32} {n i : Nat} {c : Int32} {f : Nat → Value}
theorem c_NBL (hw : ∀ d ∈ tables_1, d.before a0 Z = true) (hEL : EW Z a0 EL) (hn : n ≤ 4000) :
    OCon l Z EL (⟨"java/lang/StringUTF16", "newBytesLength", "(I)I"⟩ : MethodName) jdk_52_method_3_code 1 (some .int) [] ({ frames := 0, cells := 0, slots := 0, locals := 0 } : Room) #[.int (Int32.ofNat n)] [] [] (fun v M N => v = some (.int (Int32.ofNat (2 * n))) ∧ M = [] ∧ N = []) := by
  refine OCon.of_wp (L0 := [.val (.int (Int32.ofNat n))]) pn_NBL hEL (fun m => by first | (simp [entryFrame, mkF, argsToLocals, Value.category]; done) | rfl) ?_
  intro p e s m below meth c hk
  refine OWp.iload_n hk d_NBL_0 (pc' := 1) rfl rfl ?_
  refine OWp.ifYes hk d_NBL_1 (XT.i0_ge_t (n_nn (by omega))) (by decide) (pc' := 12) rfl ?_
  refine OWp.iload_n hk d_NBL_12 (pc' := 13) rfl rfl ?_
  refine OWp.ldcI hk d_NBL_13 (pc' := 15) rfl (hw _ (List.mem_of_getElem? (i := 298) rfl)) ?_
  refine OWp.icmpYes hk d_NBL_15 (XT.ii_lt_t (by rw [show (1073741823 : Int32) = Int32.ofNat 1073741823 from rfl, n_lt (by omega) (by omega)]; omega)) (by decide) (pc' := 55) rfl ?_
  refine OWp.iload_n hk d_NBL_55 (pc' := 56) rfl rfl ?_
  refine OWp.iconst hk d_NBL_56 (pc' := 57) rfl (z := 1) rfl ?_
  refine OWp.ishl hk d_NBL_57 (pc' := 58) rfl ?_
  exact OWp.retI hk d_NBL_58 ⟨by rw [shl_1 n (by omega)], rfl, rfl⟩ (List.Sublist.refl _) (fun _ h => h) (by decide) (by decide)
theorem c_NBF (hw : ∀ d ∈ tables_1, d.before a0 Z = true) (hEL : EW Z a0 EL) (hn : n ≤ 4000) (hcap : n ≤ kCap) :
    OCon l Z EL (⟨"java/lang/StringUTF16", "newBytesFor", "(I)[B"⟩ : MethodName) jdk_52_method_2_code 1 (some (.array .byte)) [] ({ frames := 1, cells := 1, slots := 2 * kCap, locals := 12 } : Room) #[.int (Int32.ofNat n)] [] [] (fun v M N => N = [] ∧ ∃ d cd, v = some (.ref d) ∧ M = [(d, cd)] ∧ AC Z cd .byte (tab (2 * n) fun _ => .int 0)) := by
  refine OCon.of_wp (L0 := [.val (.int (Int32.ofNat n))]) pn_NBF hEL (fun m => by first | (simp [entryFrame, mkF, argsToLocals, Value.category]; done) | rfl) ?_
  intro p e s m below meth c hk
  refine OWp.iload_n hk d_NBF_0 (pc' := 1) rfl rfl ?_
  refine OWp.callS hk d_NBF_1 (pc' := 4) rfl (hw _ (List.mem_of_getElem? (i := 295) rfl)) (hw _ (List.mem_of_getElem? (i := 296) rfl)) (hw _ (List.mem_of_getElem? (i := 22) rfl)) (hw _ (List.mem_of_getElem? (i := 297) rfl)) (by decide) (c_NBL hw hEL hn) rfl (by simp) rfl (lenOf pd_1 rfl) rfl (W := 0) rfl (by first | decide | (dsimp only; omega)) (by first | decide | (dsimp only; omega)) (by first | decide | (dsimp only; omega)) (by first | decide | (dsimp only; omega)) ?_
  rintro _ _ _ ⟨rfl, rfl, rfl⟩
  refine OWp.newarray hk d_NBF_4 (pc' := 6) rfl (hw _ (List.mem_of_getElem? (i := 24) rfl)) (n_nn (by omega)) (cap := 2 * kCap) (by rw [n_nat (by omega)]; omega) (by decide) (by decide) (by decide) (vs := tab (2 * n) fun _ => .int 0) (by rw [n_nat (by omega)]; exact tab_rep _ _) ?_
  intro d cd hD
  exact OWp.retA hk rfl rfl rfl d_NBF_6 ⟨rfl, d, cd, rfl, rfl, hD⟩ (List.Sublist.refl _) (fun _ h => h) (by decide) (by decide)
theorem c_PUT (hw : ∀ d ∈ tables_1, d.before a0 Z = true) (hEL : EW Z a0 EL) (OA : Sta Z Z.heap "java/lang/StringUTF16" "$assertionsDisabled" "Z" (.int 1)) (OH : Sta Z Z.heap "java/lang/StringUTF16" "HI_BYTE_SHIFT" "I" (.int 0)) (OL : Sta Z Z.heap "java/lang/StringUTF16" "LO_BYTE_SHIFT" "I" (.int 8))
    (hD : AC Z cd .byte (tab (2 * n) f)) (hi : i < n) (hn : n ≤ 4000) :
    OCon l Z EL (⟨"java/lang/StringUTF16", "putChar", "([BII)V"⟩ : MethodName) jdk_52_method_4_code 3 none [] ({ frames := 0, cells := 0, slots := 0, locals := 0 } : Room) #[.ref d, .int (Int32.ofNat i), .int c] [(d, cd)] [] (fun v M N => v = none ∧ N = [] ∧ ∃ cd', M = [(d, cd')] ∧ AC Z cd' .byte (tab (2 * n) fun j => if j = 2 * i + 1 then .int (hi8 c) else if j = 2 * i then .int (lw8 c) else f j)) := by
  refine OCon.of_wp (L0 := [.val (.ref d), .val (.int (Int32.ofNat i)), .val (.int c)]) pn_PUT hEL (fun m => by first | (simp [entryFrame, mkF, argsToLocals, Value.category]; done) | rfl) ?_
  intro p e s m below meth c' hk
  refine OWp.getstatic hk d_PUT_0 (pc' := 3) rfl (hw _ (List.mem_of_getElem? (i := 280) rfl)) OA ?_
  refine OWp.ifYes hk d_PUT_3 (XT.i0_ne_t (by decide)) (by decide) (pc' := 28) rfl ?_
  refine OWp.iload_n hk d_PUT_28 (pc' := 29) rfl rfl ?_
  refine OWp.iconst hk d_PUT_29 (pc' := 30) rfl (z := 1) rfl ?_
  refine OWp.ishl hk d_PUT_30 (pc' := 31) rfl ?_
  rw [shl_1 i (by omega)]
  refine OWp.istore_n hk d_PUT_31 (pc' := 32) rfl (kn := 1) rfl rfl (by simp only [List.set_cons_zero, List.set_cons_succ]; rfl) ?_
  refine OWp.aload_n hk d_PUT_32 (pc' := 33) rfl rfl rfl ?_
  refine OWp.iload_n hk d_PUT_33 (pc' := 34) rfl rfl ?_
  refine OWp.iinc hk d_PUT_34 (pc' := 37) rfl rfl (z := 1) rfl (by simp only [List.set_cons_zero, List.set_cons_succ]; rfl) ?_
  refine OWp.iload_n hk d_PUT_37 (pc' := 38) rfl rfl ?_
  refine OWp.getstatic hk d_PUT_38 (pc' := 41) rfl (hw _ (List.mem_of_getElem? (i := 281) rfl)) OH ?_
  refine OWp.ishr hk d_PUT_41 (pc' := 42) rfl ?_
  refine OWp.i2b hk d_PUT_42 (pc' := 43) rfl ?_
  refine OWp.bastore hk d_PUT_43 (pc' := 44) rfl (i := 0) rfl hD (n_nn (by omega)) (n_nat (by omega)) (by rw [tab_len]; omega) ?_
  intro cd2 hD2
  simp only [List.nil_append, List.cons_append, List.set_cons_zero]
  rw [tab_set] at hD2
  rw [n_succ]
  refine OWp.aload_n hk d_PUT_44 (pc' := 45) rfl rfl rfl ?_
  refine OWp.iload_n hk d_PUT_45 (pc' := 46) rfl rfl ?_
  refine OWp.iload_n hk d_PUT_46 (pc' := 47) rfl rfl ?_
  refine OWp.getstatic hk d_PUT_47 (pc' := 50) rfl (hw _ (List.mem_of_getElem? (i := 282) rfl)) OL ?_
  refine OWp.ishr hk d_PUT_50 (pc' := 51) rfl ?_
  refine OWp.i2b hk d_PUT_51 (pc' := 52) rfl ?_
  refine OWp.bastore hk d_PUT_52 (pc' := 53) rfl (i := 0) rfl hD2 (n_nn (by omega)) (n_nat (by omega)) (by rw [tab_len]; omega) ?_
  intro cd3 hD3
  simp only [List.nil_append, List.cons_append, List.set_cons_zero]
  rw [tab_set] at hD3
  have hD4 : AC Z cd3 .byte (tab (2 * n) fun j => if j = 2 * i + 1 then .int (hi8 c) else if j = 2 * i then .int (lw8 c) else f j) := hD3.congr fun j hj => by simp [lw8, hi8]
  exact OWp.ret0 hk d_PUT_53 ⟨rfl, rfl, cd3, rfl, hD4⟩ (List.Sublist.refl _) (fun _ h => h) (by decide) (by decide)
theorem c_TB (hw : ∀ d ∈ tables_1, d.before a0 Z = true) (hEL : EW Z a0 EL) (OA : Sta Z Z.heap "java/lang/StringUTF16" "$assertionsDisabled" "Z" (.int 1)) (OH : Sta Z Z.heap "java/lang/StringUTF16" "HI_BYTE_SHIFT" "I" (.int 0)) (OL : Sta Z Z.heap "java/lang/StringUTF16" "LO_BYTE_SHIFT" "I" (.int 8))
    (hA : AC Z cb .char (tab n fun j => .int (cs.getD j 0))) (hn : cs.length = n) (hcs : Chars cs) (hcap : n ≤ kCap) :
    OCon l Z EL (⟨"java/lang/StringUTF16", "toBytes", "([CII)[B"⟩ : MethodName) jdk_52_method_14_code 5 (some (.array .byte)) [] ({ frames := 2, cells := 1, slots := 2 * kCap, locals := 24 } : Room) #[.ref b, .int 0, .int (Int32.ofNat n)] [] [(b, cb)]
      (fun v M N => M = [] ∧ ∃ t ct, v = some (.ref t) ∧ N = [(t, ct)] ∧ AC Z ct .byte (oWide cs)) := by
  refine OCon.of_wp (L0 := [.val (.ref b), .val (.int 0), .val (.int (Int32.ofNat n)), .unset, .unset]) pn_TB hEL (fun m => by first | (simp [entryFrame, mkF, argsToLocals, Value.category]; done) | rfl) ?_
  intro p e s m below meth c hk
  have hn4 := hcs.2
  have loop : ∀ (k i : Nat) (d : Addr) (cd : Cell), i + k = n → AC Z cd .byte (tab (2 * n) fun j => if j < 2 * i then .int (if j % 2 = 0 then lw8 (cs.getD (j / 2) 0) else hi8 (cs.getD (j / 2) 0)) else .int 0) →
      OWp p l e ({ frames := 2, cells := 1, slots := 2 * kCap, locals := 24 } : Room) s m #[.ref b, .int 0, .int (Int32.ofNat n)] below meth c "java/lang/StringUTF16" Z EL (dom []) [(b, cb)]
        (fun v M N => M = [] ∧ ∃ t ct, v = some (.ref t) ∧ N = [(t, ct)] ∧ AC Z ct .byte (oWide cs))
        [(d, cd)] [] 1 (2 * kCap) 8 [.val (.ref b), .val (.int (Int32.ofNat i)), .val (.int (Int32.ofNat n)), .val (.ref d), .val (.int (Int32.ofNat i))] [] := by
    intro k
    induction k with
    | zero =>
      intro i d cd hik hD
      refine OWp.iload hk d_TB_8 (pc' := 10) rfl rfl ?_
      refine OWp.iload_n hk d_TB_10 (pc' := 11) rfl rfl ?_
      refine OWp.icmpYes hk d_TB_11 (XT.ii_ge_t (by rw [n_lt (by omega) (by omega)]; omega)) (by decide) (pc' := 32) rfl ?_
      refine OWp.aload_n hk d_TB_32 (pc' := 33) rfl rfl rfl ?_
      refine OWp.freeze ?_
      have hfin : AC Z cd .byte (oWide cs) := by
        unfold oWide; rw [hn]
        exact hD.congr fun j hj => by rw [if_pos (by omega)]
      exact OWp.retA hk rfl rfl rfl d_TB_33 ⟨rfl, d, cd, rfl, rfl, hfin⟩ (List.Sublist.refl _) (fun _ h => h) (by decide) (by decide)
    | succ k ih =>
      intro i d cd hik hD
      have hi : i < n := by omega
      refine OWp.iload hk d_TB_8 (pc' := 10) rfl rfl ?_
      refine OWp.iload_n hk d_TB_10 (pc' := 11) rfl rfl ?_
      refine OWp.icmpNo hk d_TB_11 (XT.ii_ge_f (by rw [n_lt (by omega) (by omega)]; omega)) (pc' := 14) rfl ?_
      refine OWp.aload_n hk d_TB_14 (pc' := 15) rfl rfl rfl ?_
      refine OWp.iload hk d_TB_15 (pc' := 17) rfl rfl ?_
      refine OWp.aload_n hk d_TB_17 (pc' := 18) rfl rfl rfl ?_
      refine OWp.iload_n hk d_TB_18 (pc' := 19) rfl rfl ?_
      refine OWp.caload hk d_TB_19 (pc' := 20) rfl (by simp) hA (n_nn (by omega)) (by rw [n_nat (by omega)]; exact tab_get hi) ?_
      refine OWp.callS hk d_TB_20 (pc' := 23) rfl (hw _ (List.mem_of_getElem? (i := 277) rfl)) (hw _ (List.mem_of_getElem? (i := 278) rfl)) (hw _ (List.mem_of_getElem? (i := 22) rfl)) (hw _ (List.mem_of_getElem? (i := 279) rfl)) (by decide) (c_PUT hw hEL OA OH OL hD hi (by omega)) rfl (by simp) rfl (lenOf pd_2 rfl) rfl (W := 0) rfl (by first | decide | (dsimp only; omega)) (by first | decide | (dsimp only; omega)) (by first | decide | (dsimp only; omega)) (by first | decide | (dsimp only; omega)) ?_
      rintro _ _ _ ⟨rfl, rfl, cd2, rfl, hD2⟩
      refine OWp.iinc hk d_TB_23 (pc' := 26) rfl rfl (z := 1) rfl (by simp only [List.set_cons_zero, List.set_cons_succ]; rfl) ?_
      refine OWp.iinc hk d_TB_26 (pc' := 29) rfl rfl (z := 1) rfl (by simp only [List.set_cons_zero, List.set_cons_succ]; rfl) ?_
      refine OWp.goto hk d_TB_29 (by decide) (pc' := 8) rfl ?_
      rw [n_succ]
      refine ih (i + 1) d cd2 (by omega) (hD2.congr fun j hj => ?_)
      by_cases e1 : j = 2 * i + 1
      · subst e1
        rw [if_pos rfl, if_pos (by omega), if_neg (by omega), show (2 * i + 1) / 2 = i by omega]
      · rw [if_neg e1]
        by_cases e2 : j = 2 * i
        · subst e2
          rw [if_pos rfl, if_pos (by omega), if_pos (by omega), show (2 * i) / 2 = i by omega]
        · rw [if_neg e2]
          by_cases e3 : j < 2 * i
          · rw [if_pos e3, if_pos (show j < 2 * (i + 1) by omega)]
          · rw [if_neg e3, if_neg (show ¬ j < 2 * (i + 1) by omega)]
  refine OWp.iload_n hk d_TB_0 (pc' := 1) rfl rfl ?_
  refine OWp.callS hk d_TB_1 (pc' := 4) rfl (hw _ (List.mem_of_getElem? (i := 336) rfl)) (hw _ (List.mem_of_getElem? (i := 293) rfl)) (hw _ (List.mem_of_getElem? (i := 22) rfl)) (hw _ (List.mem_of_getElem? (i := 294) rfl)) (by decide) (c_NBF hw hEL (by omega) hcap) rfl (by simp) rfl (lenOf pd_3 rfl) rfl (W := 0) rfl (by first | decide | (dsimp only; omega)) (by first | decide | (dsimp only; omega)) (by first | decide | (dsimp only; omega)) (by first | decide | (dsimp only; omega)) ?_
  rintro _ _ _ ⟨rfl, d, cd, rfl, rfl, hD⟩
  refine OWp.astore_n hk d_TB_4 (pc' := 5) rfl (kn := 3) rfl rfl rfl (by simp only [List.set_cons_zero, List.set_cons_succ]; rfl) ?_
  refine OWp.iconst hk d_TB_5 (pc' := 6) rfl (z := 0) rfl ?_
  refine OWp.istore hk d_TB_6 (pc' := 8) rfl rfl (by simp only [List.set_cons_zero, List.set_cons_succ]; rfl) ?_
  exact loop n 0 d cd (by omega) (hD.congr fun j hj => by rw [if_neg (by omega)])
theorem c_GET (hw : ∀ d ∈ tables_1, d.before a0 Z = true) (hEL : EW Z a0 EL) (OA : Sta Z Z.heap "java/lang/StringUTF16" "$assertionsDisabled" "Z" (.int 1)) (OH : Sta Z Z.heap "java/lang/StringUTF16" "HI_BYTE_SHIFT" "I" (.int 0)) (OL : Sta Z Z.heap "java/lang/StringUTF16" "LO_BYTE_SHIFT" "I" (.int 8))
    (hD : AC Z cd .byte (oWide cs)) (hcs : Chars cs) (hi : i < cs.length) :
    OCon l Z EL (⟨"java/lang/StringUTF16", "getChar", "([BI)C"⟩ : MethodName) jdk_52_method_5_code 2 (some .char) [] ({ frames := 0, cells := 0, slots := 0, locals := 0 } : Room) #[.ref d, .int (Int32.ofNat i)] [] [(d, cd)] (fun v M N => v = some (.int (cs.getD i 0)) ∧ M = [] ∧ N = []) := by
  refine OCon.of_wp (L0 := [.val (.ref d), .val (.int (Int32.ofNat i))]) pn_GET hEL (fun m => by first | (simp [entryFrame, mkF, argsToLocals, Value.category]; done) | rfl) ?_
  intro p e s m below meth c' hk
  have hn4 := hcs.2
  have hc := hcs.1 _ (getD_mem hi)
  refine OWp.getstatic hk d_GET_0 (pc' := 3) rfl (hw _ (List.mem_of_getElem? (i := 280) rfl)) OA ?_
  refine OWp.ifYes hk d_GET_3 (XT.i0_ne_t (by decide)) (by decide) (pc' := 28) rfl ?_
  refine OWp.iload_n hk d_GET_28 (pc' := 29) rfl rfl ?_
  refine OWp.iconst hk d_GET_29 (pc' := 30) rfl (z := 1) rfl ?_
  refine OWp.ishl hk d_GET_30 (pc' := 31) rfl ?_
  rw [shl_1 i (by omega)]
  refine OWp.istore_n hk d_GET_31 (pc' := 32) rfl (kn := 1) rfl rfl (by simp only [List.set_cons_zero, List.set_cons_succ]; rfl) ?_
  refine OWp.aload_n hk d_GET_32 (pc' := 33) rfl rfl rfl ?_
  refine OWp.iload_n hk d_GET_33 (pc' := 34) rfl rfl ?_
  refine OWp.iinc hk d_GET_34 (pc' := 37) rfl rfl (z := 1) rfl (by simp only [List.set_cons_zero, List.set_cons_succ]; rfl) ?_
  refine OWp.baload hk d_GET_37 (pc' := 38) rfl (by simp) hD (n_nn (by omega)) (by rw [n_nat (by omega)]; exact wide_lo hi) ?_
  rw [n_succ]
  refine OWp.sipush hk d_GET_38 (pc' := 41) rfl (z := 255) rfl ?_
  refine OWp.iand hk d_GET_41 (pc' := 42) rfl ?_
  refine OWp.getstatic hk d_GET_42 (pc' := 45) rfl (hw _ (List.mem_of_getElem? (i := 281) rfl)) OH ?_
  refine OWp.ishl hk d_GET_45 (pc' := 46) rfl ?_
  refine OWp.aload_n hk d_GET_46 (pc' := 47) rfl rfl rfl ?_
  refine OWp.iload_n hk d_GET_47 (pc' := 48) rfl rfl ?_
  refine OWp.baload hk d_GET_48 (pc' := 49) rfl (by simp) hD (n_nn (by omega)) (by rw [n_nat (by omega)]; exact wide_hi hi) ?_
  refine OWp.sipush hk d_GET_49 (pc' := 52) rfl (z := 255) rfl ?_
  refine OWp.iand hk d_GET_52 (pc' := 53) rfl ?_
  refine OWp.getstatic hk d_GET_53 (pc' := 56) rfl (hw _ (List.mem_of_getElem? (i := 282) rfl)) OL ?_
  refine OWp.ishl hk d_GET_56 (pc' := 57) rfl ?_
  refine OWp.ior hk d_GET_57 (pc' := 58) rfl ?_
  refine OWp.i2c hk d_GET_58 (pc' := 59) rfl ?_
  exact OWp.retN hk (Or.inr (Or.inr (Or.inl rfl))) d_GET_59 ⟨by rw [wide_back hc.1 hc.2, nar_char_id hc.1 hc.2], rfl, rfl⟩ (List.Sublist.refl _) (fun _ h => h) (by decide) (by decide)
theorem c_CM3W (hw : ∀ d ∈ tables_1, d.before a0 Z = true) (hEL : EW Z a0 EL) (OA : Sta Z Z.heap "java/lang/StringUTF16" "$assertionsDisabled" "Z" (.int 1)) (OH : Sta Z Z.heap "java/lang/StringUTF16" "HI_BYTE_SHIFT" "I" (.int 0)) (OL : Sta Z Z.heap "java/lang/StringUTF16" "LO_BYTE_SHIFT" "I" (.int 8))
    (hA : AC Z cb .char (tab n fun j => .int (cs.getD j 0))) (hn : cs.length = n) (hcs : Chars cs) (hcap : n ≤ kCap) :
    OCon l Z EL (⟨"java/lang/StringUTF16", "compress", "([CII)[B"⟩ : MethodName) jdk_52_method_16_code 6 (some (.array .byte)) [] ({ frames := 3, cells := 2, slots := 3 * kCap, locals := 40 } : Room) #[.ref b, .int 0, .int (Int32.ofNat n)] [] [(b, cb)]
      (fun v M N => M = [] ∧ ∃ t ct, v = some (.ref t) ∧ N = [(t, ct)] ∧ AC Z ct .byte (oBytes cs)) := by
  refine OCon.of_wp (L0 := [.val (.ref b), .val (.int 0), .val (.int (Int32.ofNat n)), .unset, .unset, .unset]) pn_CM3 hEL (fun m => by first | (simp [entryFrame, mkF, argsToLocals, Value.category]; done) | rfl) ?_
  intro p e s m below meth c hk
  have hn4 := hcs.2
  refine OWp.iload_n hk d_CM3_0 (pc' := 1) rfl rfl ?_
  refine OWp.newarray hk d_CM3_1 (pc' := 3) rfl (hw _ (List.mem_of_getElem? (i := 24) rfl)) (n_nn (by omega)) (cap := kCap) (by rw [n_nat (by omega)]; exact hcap) (by decide) (by decide) (by decide) (vs := tab n fun _ => .int 0) (by rw [n_nat (by omega)]; exact tab_rep _ _) ?_
  intro d cd hD
  refine OWp.astore_n hk d_CM3_3 (pc' := 4) rfl (kn := 3) rfl rfl rfl (by simp only [List.set_cons_zero, List.set_cons_succ]; rfl) ?_
  refine OWp.aload_n hk d_CM3_4 (pc' := 5) rfl rfl rfl ?_
  refine OWp.iload_n hk d_CM3_5 (pc' := 6) rfl rfl ?_
  refine OWp.aload_n hk d_CM3_6 (pc' := 7) rfl rfl rfl ?_
  refine OWp.iconst hk d_CM3_7 (pc' := 8) rfl (z := 0) rfl ?_
  refine OWp.iload_n hk d_CM3_8 (pc' := 9) rfl rfl ?_
  refine OWp.callS hk d_CM3_9 (pc' := 12) rfl (hw _ (List.mem_of_getElem? (i := 25) rfl)) (hw _ (List.mem_of_getElem? (i := 26) rfl)) (hw _ (List.mem_of_getElem? (i := 22) rfl)) (hw _ (List.mem_of_getElem? (i := 27) rfl)) (by decide) (c_CM5 (cs := cs) hw hEL hA hn hcs hD) rfl (by simp) rfl (lenOf pd_4 rfl) rfl (W := 0) rfl (by first | decide | (dsimp only; omega)) (by first | decide | (dsimp only; omega)) (by first | decide | (dsimp only; omega)) (by first | decide | (dsimp only; omega)) ?_
  rintro _ _ _ ⟨rfl, k, cd2, hk1, rfl, rfl, hfull, hpart⟩
  refine OWp.istore hk d_CM3_12 (pc' := 14) rfl rfl (by simp only [List.set_cons_zero, List.set_cons_succ]; rfl) ?_
  refine OWp.iload hk d_CM3_14 (pc' := 16) rfl rfl ?_
  refine OWp.iload_n hk d_CM3_16 (pc' := 17) rfl rfl ?_
  rcases Nat.lt_or_eq_of_le hk1 with q | q
  · refine OWp.icmpNo hk d_CM3_17 (XT.ii_eq_f (by rw [n_inj (by omega) (by omega)]; omega)) (pc' := 20) rfl ?_
    have hl : lat cs = false := Bool.eq_false_iff.mpr fun z => lat_iff.mp z _ (getD_mem (i := k) (by omega)) (hpart q)
    refine OWp.aload_n hk d_CM3_20 (pc' := 21) rfl rfl rfl ?_
    refine OWp.iload_n hk d_CM3_21 (pc' := 22) rfl rfl ?_
    refine OWp.iload_n hk d_CM3_22 (pc' := 23) rfl rfl ?_
    refine OWp.callS hk d_CM3_23 (pc' := 26) rfl (hw _ (List.mem_of_getElem? (i := 333) rfl)) (hw _ (List.mem_of_getElem? (i := 334) rfl)) (hw _ (List.mem_of_getElem? (i := 22) rfl)) (hw _ (List.mem_of_getElem? (i := 335) rfl)) (by decide) (c_TB (cs := cs) hw hEL OA OH OL hA hn hcs hcap) rfl (by simp) rfl (lenOf pd_5 rfl) rfl (W := 0) rfl (by first | decide | (dsimp only; omega)) (by first | decide | (dsimp only; omega)) (by first | decide | (dsimp only; omega)) (by first | decide | (dsimp only; omega)) ?_
    rintro _ _ _ ⟨rfl, t, ct, rfl, rfl, hT⟩
    refine OWp.astore hk d_CM3_26 (pc' := 28) rfl rfl rfl (by simp only [List.set_cons_zero, List.set_cons_succ]; rfl) ?_
    refine OWp.aload hk d_CM3_28 (pc' := 30) rfl rfl rfl ?_
    refine OWp.iload hk d_CM3_30 (pc' := 32) rfl rfl ?_
    refine OWp.callS hk d_CM3_32 (pc' := 35) rfl (hw _ (List.mem_of_getElem? (i := 327) rfl)) (hw _ (List.mem_of_getElem? (i := 328) rfl)) (hw _ (List.mem_of_getElem? (i := 22) rfl)) (hw _ (List.mem_of_getElem? (i := 329) rfl)) (by decide) (c_GET hw hEL OA OH OL hT hcs (by omega)) rfl (by simp) rfl (lenOf pd_6 rfl) rfl (W := 0) rfl (by first | decide | (dsimp only; omega)) (by first | decide | (dsimp only; omega)) (by first | decide | (dsimp only; omega)) (by first | decide | (dsimp only; omega)) ?_
    rintro _ _ _ ⟨rfl, rfl, rfl⟩
    refine OWp.sipush hk d_CM3_35 (pc' := 38) rfl (z := 255) rfl ?_
    refine OWp.icmpYes hk d_CM3_38 (XT.ii_gt_t (hpart q)) (by decide) (pc' := 54) rfl ?_
    refine OWp.aload hk d_CM3_54 (pc' := 56) rfl rfl rfl ?_
    exact OWp.retA hk rfl rfl rfl d_CM3_56 (M' := []) (N' := [(t, ct)]) ⟨rfl, t, ct, rfl, rfl, by rw [bytes_wide hl]; exact hT⟩ (List.nil_sublist _) (by simp) (by decide) (by decide)
  · subst q
    refine OWp.icmpYes hk d_CM3_17 (XT.ii_eq_t rfl) (by decide) (pc' := 57) rfl ?_
    refine OWp.aload_n hk d_CM3_57 (pc' := 58) rfl rfl rfl ?_
    refine OWp.freeze ?_
    exact OWp.retA hk rfl rfl rfl d_CM3_58 ⟨rfl, d, cd2, rfl, rfl, by rw [bytes_lat (hfull rfl).1, hn]; exact (hfull rfl).2⟩ (List.Sublist.refl _) (fun _ h => h) (by decide) (by decide)
end StrCM3W
theorem d_S4_0 : decode jdk_42_method_149_code 0 = .ok (.aload_n 0, 1) := by decide +kernel
theorem d_S4_1 : decode jdk_42_method_149_code 1 = .ok (.invokespecial 1, 3) := by decide +kernel
theorem d_S4_4 : decode jdk_42_method_149_code 4 = .ok (.iload_n 3, 1) := by decide +kernel
theorem d_S4_5 : decode jdk_42_method_149_code 5 = .ok (.ifCond .ne 22, 3) := by decide +kernel
theorem d_S4_8 : decode jdk_42_method_149_code 8 = .ok (.aload_n 0, 1) := by decide +kernel
theorem d_S4_9 : decode jdk_42_method_149_code 9 = .ok (.ldc 7, 2) := by decide +kernel
theorem d_S4_11 : decode jdk_42_method_149_code 11 = .ok (.getfield 9, 3) := by decide +kernel
theorem d_S4_14 : decode jdk_42_method_149_code 14 = .ok (.putfield 9, 3) := by decide +kernel
theorem d_S4_17 : decode jdk_42_method_149_code 17 = .ok (.aload_n 0, 1) := by decide +kernel
theorem d_S4_18 : decode jdk_42_method_149_code 18 = .ok (.ldc 7, 2) := by decide +kernel
theorem d_S4_20 : decode jdk_42_method_149_code 20 = .ok (.getfield 15, 3) := by decide +kernel
theorem d_S4_23 : decode jdk_42_method_149_code 23 = .ok (.putfield 15, 3) := by decide +kernel
theorem d_S4_26 : decode jdk_42_method_149_code 26 = .ok (.return_, 1) := by decide +kernel
theorem d_S4_27 : decode jdk_42_method_149_code 27 = .ok (.getstatic 38, 3) := by decide +kernel
theorem d_S4_30 : decode jdk_42_method_149_code 30 = .ok (.ifCond .eq 28, 3) := by decide +kernel
theorem d_S4_33 : decode jdk_42_method_149_code 33 = .ok (.aload_n 1, 1) := by decide +kernel
theorem d_S4_34 : decode jdk_42_method_149_code 34 = .ok (.iload_n 2, 1) := by decide +kernel
theorem d_S4_35 : decode jdk_42_method_149_code 35 = .ok (.iload_n 3, 1) := by decide +kernel
theorem d_S4_36 : decode jdk_42_method_149_code 36 = .ok (.invokestatic 177, 3) := by decide +kernel
theorem d_S4_39 : decode jdk_42_method_149_code 39 = .ok (.astore 5, 2) := by decide +kernel
theorem d_S4_41 : decode jdk_42_method_149_code 41 = .ok (.aload_n 0, 1) := by decide +kernel
theorem d_S4_42 : decode jdk_42_method_149_code 42 = .ok (.aload 5, 2) := by decide +kernel
theorem d_S4_44 : decode jdk_42_method_149_code 44 = .ok (.iload_n 3, 1) := by decide +kernel
theorem d_S4_45 : decode jdk_42_method_149_code 45 = .ok (.invokestatic 47, 3) := by decide +kernel
theorem d_S4_48 : decode jdk_42_method_149_code 48 = .ok (.putfield 15, 3) := by decide +kernel
theorem d_S4_51 : decode jdk_42_method_149_code 51 = .ok (.aload_n 0, 1) := by decide +kernel
theorem d_S4_52 : decode jdk_42_method_149_code 52 = .ok (.aload 5, 2) := by decide +kernel
theorem d_S4_54 : decode jdk_42_method_149_code 54 = .ok (.putfield 9, 3) := by decide +kernel
theorem d_S4_57 : decode jdk_42_method_149_code 57 = .ok (.return_, 1) := by decide +kernel
theorem d_S4_58 : decode jdk_42_method_149_code 58 = .ok (.aload_n 0, 1) := by decide +kernel
theorem d_S4_59 : decode jdk_42_method_149_code 59 = .ok (.iconst 1, 1) := by decide +kernel
theorem d_S4_60 : decode jdk_42_method_149_code 60 = .ok (.putfield 15, 3) := by decide +kernel
theorem d_S4_63 : decode jdk_42_method_149_code 63 = .ok (.aload_n 0, 1) := by decide +kernel
theorem d_S4_64 : decode jdk_42_method_149_code 64 = .ok (.aload_n 1, 1) := by decide +kernel
theorem d_S4_65 : decode jdk_42_method_149_code 65 = .ok (.iload_n 2, 1) := by decide +kernel
theorem d_S4_66 : decode jdk_42_method_149_code 66 = .ok (.iload_n 3, 1) := by decide +kernel
theorem d_S4_67 : decode jdk_42_method_149_code 67 = .ok (.invokestatic 180, 3) := by decide +kernel
theorem d_S4_70 : decode jdk_42_method_149_code 70 = .ok (.putfield 9, 3) := by decide +kernel
theorem d_S4_73 : decode jdk_42_method_149_code 73 = .ok (.return_, 1) := by decide +kernel
theorem pn_S4 : plainFor (⟨"java/lang/String", "<init>", "([CIILjava/lang/Void;)V"⟩ : MethodName) = true := by first | exact plainFor_of_name (by first | (simp [plainName, overriddenIn]; done) | decide +kernel) | decide +kernel
section StrS4
variable {l : Launch} {Z : State} {a0 : Array Value} {EL : List (String × Nat)} {zc : Int32} {b x : Addr} {cb cx : Cell} {cs : List Int32} {n : Nat} {rm3 : Room}
theorem c_S4 (hw : ∀ d ∈ tables_1, d.before a0 Z = true) (hEL : EW Z a0 EL) (O2 : Sta Z Z.heap "java/lang/String" "COMPACT_STRINGS" "Z" (.int zc)) (hzc : ¬ zc = 0) (hE : EC Z cx "java/lang/String") {v0 v1 : Value} (hV : FC Z cx "java/lang/String" "value" "[B" v0) (hC : FC Z cx "java/lang/String" "coder" "B" v1)
    (hA : AC Z cb .char (tab n fun j => .int (cs.getD j 0))) (hn : cs.length = n) (hcs : Chars cs) (hmem : ("java/lang/String", 7) ∈ EL)
    (h3 : 0 < n → OCon l Z EL (⟨"java/lang/StringUTF16", "compress", "([CII)[B"⟩ : MethodName) jdk_52_method_16_code 6 (some (.array .byte)) [] rm3 #[.ref b, .int 0, .int (Int32.ofNat n)] [] [(b, cb)] (fun v M N => M = [] ∧ ∃ t ct, v = some (.ref t) ∧ N = [(t, ct)] ∧ AC Z ct .byte (oBytes cs))) :
    OCon l Z EL (⟨"java/lang/String", "<init>", "([CIILjava/lang/Void;)V"⟩ : MethodName) jdk_42_method_149_code 6 none [] ({ frames := rm3.frames + 1, cells := rm3.cells + 4, slots := rm3.slots + 8, locals := 17 + rm3.locals } : Room) #[.ref x, .ref b, .int 0, .int (Int32.ofNat n), .null] [(x, cx)] [(b, cb)]
      (fun v M N => v = none ∧ M = [] ∧ ∃ t cx' ct, N = [(x, cx'), (t, ct)] ∧ SC Z t cx' ct cs) := by
  refine OCon.of_wp (L0 := [.val (.ref x), .val (.ref b), .val (.int 0), .val (.int (Int32.ofNat n)), .val .null, .unset]) pn_S4 hEL (fun m => by first | (simp [entryFrame, mkF, argsToLocals, Value.category]; done) | rfl) ?_
  intro p e s m below meth c hk
  have hn4 := hcs.2
  refine OWp.aload_n hk d_S4_0 (pc' := 1) rfl rfl rfl ?_
  refine OWp.initO hk d_S4_1 (pc' := 4) rfl (hw _ (List.mem_of_getElem? (i := 16) rfl)) (hw _ (List.mem_of_getElem? (i := 17) rfl)) (hw _ (List.mem_of_getElem? (i := 18) rfl)) rfl (by first | decide | (dsimp only; omega)) (W := 0) rfl (by first | decide | (dsimp only; omega)) ?_
  refine OWp.iload_n hk d_S4_4 (pc' := 5) rfl rfl ?_
  rcases Nat.eq_zero_or_pos n with h0 | h0
  · refine OWp.ifNo hk d_S4_5 (XT.i0_ne_f (by rw [h0]; rfl)) (pc' := 8) rfl ?_
    refine OWp.aload_n hk d_S4_8 (pc' := 9) rfl rfl rfl ?_
    refine OWp.ldcS hk d_S4_9 (pc' := 11) rfl (hw _ (List.mem_of_getElem? (i := 35) rfl)) (str_atoms hw) hmem (vs := []) ⟨by decide, by decide⟩ (by decide) (n := 0) (by decide) (by decide) (by dsimp only; omega) (by dsimp only; omega) ?_
    intro a1 t1 ca1 ct1 hE1 hC1 hV1 hA1
    refine OWp.getfield hk d_S4_11 (pc' := 14) rfl (hw _ (List.mem_of_getElem? (i := 33) rfl)) (by simp) hV1 ?_
    refine OWp.putfield hk d_S4_14 (pc' := 17) rfl (hw _ (List.mem_of_getElem? (i := 33) rfl)) (i := 0) rfl hV hE (Or.inr ⟨(hw _ (List.mem_of_getElem? (i := 34) rfl)), rfl, rfl⟩) (hw _ (List.mem_of_getElem? (i := 6) rfl)) (ty := .array .byte) (by decide) rfl rfl ?_
    intro cx2 hE2 hV2 hK2
    have hC2 := hK2 hC (slot_ne (Or.inr (hw _ (List.mem_of_getElem? (i := 32) rfl))) (Or.inr (hw _ (List.mem_of_getElem? (i := 34) rfl))) (by decide) (t := .byte) (by decide) (t' := .array .byte) (by decide))
    simp only [List.nil_append, List.cons_append, List.set_cons_zero]
    refine OWp.aload_n hk d_S4_17 (pc' := 18) rfl rfl rfl ?_
    refine OWp.ldcS hk d_S4_18 (pc' := 20) rfl (hw _ (List.mem_of_getElem? (i := 35) rfl)) (str_atoms hw) hmem (vs := []) ⟨by decide, by decide⟩ (by decide) (n := 0) (by decide) (by decide) (by dsimp only; omega) (by dsimp only; omega) ?_
    intro a2 t2 ca2 ct2 hE3 hC3 hV3 hA3
    refine OWp.getfield hk d_S4_20 (pc' := 23) rfl (hw _ (List.mem_of_getElem? (i := 31) rfl)) (by simp) hC3 ?_
    refine OWp.putfield hk d_S4_23 (pc' := 26) rfl (hw _ (List.mem_of_getElem? (i := 31) rfl)) (i := 0) rfl hC2 hE2 (Or.inr ⟨(hw _ (List.mem_of_getElem? (i := 32) rfl)), rfl, rfl⟩) (hw _ (List.mem_of_getElem? (i := 6) rfl)) (ty := .byte) (by decide) rfl rfl ?_
    intro cx4 hE4 hC4 hK4
    have hV4 := hK4 hV2 (slot_ne (Or.inr (hw _ (List.mem_of_getElem? (i := 34) rfl))) (Or.inr (hw _ (List.mem_of_getElem? (i := 32) rfl))) (by decide) (t := .array .byte) (by decide) (t' := .byte) (by decide))
    simp only [List.nil_append, List.cons_append, List.set_cons_zero]
    refine OWp.freeze ?_
    have hcs0 : cs = [] := List.eq_nil_of_length_eq_zero (by omega)
    subst hcs0
    exact OWp.ret0 hk d_S4_26 (N' := [(x, cx4), (t1, ct1)]) ⟨rfl, rfl, t1, cx4, ct1, rfl, hE4, hV4, hC4, hA1, hcs⟩ (List.Sublist.refl _) (by simp) (by dsimp only; omega) (by dsimp only; omega)
  · refine OWp.ifYes hk d_S4_5 (XT.i0_ne_t (by rw [show (0 : Int32) = Int32.ofNat 0 from rfl, n_inj (by omega) (by omega)]; omega)) (by decide) (pc' := 27) rfl ?_
    refine OWp.getstatic hk d_S4_27 (pc' := 30) rfl (hw _ (List.mem_of_getElem? (i := 19) rfl)) O2 ?_
    refine OWp.ifNo hk d_S4_30 (XT.i0_eq_f hzc) (pc' := 33) rfl ?_
    refine OWp.aload_n hk d_S4_33 (pc' := 34) rfl rfl rfl ?_
    refine OWp.iload_n hk d_S4_34 (pc' := 35) rfl rfl ?_
    refine OWp.iload_n hk d_S4_35 (pc' := 36) rfl rfl ?_
    refine OWp.callS hk d_S4_36 (pc' := 39) rfl (hw _ (List.mem_of_getElem? (i := 20) rfl)) (hw _ (List.mem_of_getElem? (i := 21) rfl)) (hw _ (List.mem_of_getElem? (i := 22) rfl)) (hw _ (List.mem_of_getElem? (i := 23) rfl)) (by decide) (h3 h0) rfl (by simp) rfl (lenOf pd_5 rfl) rfl (W := 0) rfl (by first | decide | (dsimp only; omega)) (by first | decide | (dsimp only; omega)) (by first | decide | (dsimp only; omega)) (by first | decide | (dsimp only; omega)) ?_
    rintro _ _ _ ⟨rfl, t, ct, rfl, rfl, hT⟩
    refine OWp.astore hk d_S4_39 (pc' := 41) rfl rfl rfl (by simp only [List.set_cons_zero, List.set_cons_succ]; rfl) ?_
    refine OWp.aload_n hk d_S4_41 (pc' := 42) rfl rfl rfl ?_
    refine OWp.aload hk d_S4_42 (pc' := 44) rfl rfl rfl ?_
    refine OWp.iload_n hk d_S4_44 (pc' := 45) rfl rfl ?_
    refine OWp.callS hk d_S4_45 (pc' := 48) rfl (hw _ (List.mem_of_getElem? (i := 28) rfl)) (hw _ (List.mem_of_getElem? (i := 29) rfl)) (hw _ (List.mem_of_getElem? (i := 22) rfl)) (hw _ (List.mem_of_getElem? (i := 30) rfl)) (by decide) (c_CFL (n := n) hw hEL hT (z := cdOf cs) (cfl_val hn hcs.2 h0) (nar_cd cs)) rfl (by simp) rfl (lenOf pd_7 rfl) rfl (W := 1) rfl (by first | decide | (dsimp only; omega)) (by first | decide | (dsimp only; omega)) (by first | decide | (dsimp only; omega)) (by first | decide | (dsimp only; omega)) ?_
    rintro _ _ _ ⟨rfl, rfl, rfl⟩
    refine OWp.putfield hk d_S4_48 (pc' := 51) rfl (hw _ (List.mem_of_getElem? (i := 31) rfl)) (i := 0) rfl hC hE (Or.inr ⟨(hw _ (List.mem_of_getElem? (i := 32) rfl)), rfl, rfl⟩) (hw _ (List.mem_of_getElem? (i := 6) rfl)) (ty := .byte) (by decide) (congrArg Value.int (nar_cd cs)) (fits_cd cs) ?_
    intro cx2 hE2 hC2 hK2
    have hV2 := hK2 hV (slot_ne (Or.inr (hw _ (List.mem_of_getElem? (i := 34) rfl))) (Or.inr (hw _ (List.mem_of_getElem? (i := 32) rfl))) (by decide) (t := .array .byte) (by decide) (t' := .byte) (by decide))
    simp only [List.nil_append, List.cons_append, List.set_cons_zero]
    refine OWp.aload_n hk d_S4_51 (pc' := 52) rfl rfl rfl ?_
    refine OWp.aload hk d_S4_52 (pc' := 54) rfl rfl rfl ?_
    refine OWp.putfield hk d_S4_54 (pc' := 57) rfl (hw _ (List.mem_of_getElem? (i := 33) rfl)) (i := 0) rfl hV2 hE2 (Or.inr ⟨(hw _ (List.mem_of_getElem? (i := 34) rfl)), rfl, rfl⟩) (hw _ (List.mem_of_getElem? (i := 6) rfl)) (ty := .array .byte) (by decide) rfl rfl ?_
    intro cx3 hE3 hV3 hK3
    have hC3 := hK3 hC2 (slot_ne (Or.inr (hw _ (List.mem_of_getElem? (i := 32) rfl))) (Or.inr (hw _ (List.mem_of_getElem? (i := 34) rfl))) (by decide) (t := .byte) (by decide) (t' := .array .byte) (by decide))
    simp only [List.nil_append, List.cons_append, List.set_cons_zero]
    refine OWp.freeze ?_
    exact OWp.ret0 hk d_S4_57 ⟨rfl, rfl, t, cx3, ct, rfl, hE3, hV3, hC3, hT, hcs⟩ (List.Sublist.refl _) (fun _ h => h) (by dsimp only; omega) (by dsimp only; omega)
end StrS4
theorem d_S1_0 : decode jdk_42_method_3_code 0 = .ok (.aload_n 0, 1) := by decide +kernel
theorem d_S1_1 : decode jdk_42_method_3_code 1 = .ok (.aload_n 1, 1) := by decide +kernel
theorem d_S1_2 : decode jdk_42_method_3_code 2 = .ok (.iconst 0, 1) := by decide +kernel
theorem d_S1_3 : decode jdk_42_method_3_code 3 = .ok (.aload_n 1, 1) := by decide +kernel
theorem d_S1_4 : decode jdk_42_method_3_code 4 = .ok (.arraylength, 1) := by decide +kernel
theorem d_S1_5 : decode jdk_42_method_3_code 5 = .ok (.aconst_null, 1) := by decide +kernel
theorem d_S1_6 : decode jdk_42_method_3_code 6 = .ok (.invokespecial 27, 3) := by decide +kernel
theorem d_S1_9 : decode jdk_42_method_3_code 9 = .ok (.return_, 1) := by decide +kernel
theorem pn_S1 : plainFor (⟨"java/lang/String", "<init>", "([C)V"⟩ : MethodName) = true := by first | exact plainFor_of_name (by first | (simp [plainName, overriddenIn]; done) | decide +kernel) | decide +kernel
section StrS1
variable {l : Launch} {Z : State} {a0 : Array Value} {EL : List (String × Nat)} {b x : Addr} {cb cx : Cell} {n : Nat}
/-- the constructor of one argument hands on -/
theorem c_S1 (hw : ∀ d ∈ tables_1, d.before a0 Z = true) (hEL : EW Z a0 EL) {rm : Room} {vs : List Value} {Q : Option Value → Mem → Mem → Prop} (hA : AC Z cb .char vs) (hn : vs.length = n) (hQ : ∀ v M N, Q v M N → v = none ∧ M = [])
    (h4 : OCon l Z EL (⟨"java/lang/String", "<init>", "([CIILjava/lang/Void;)V"⟩ : MethodName) jdk_42_method_149_code 6 none [] rm #[.ref x, .ref b, .int 0, .int (Int32.ofNat n), .null] [(x, cx)] [(b, cb)] Q) :
    OCon l Z EL (⟨"java/lang/String", "<init>", "([C)V"⟩ : MethodName) jdk_42_method_3_code 2 none [] ({ frames := rm.frames + 1, cells := rm.cells, slots := rm.slots, locals := 17 + rm.locals } : Room) #[.ref x, .ref b] [(x, cx)] [(b, cb)] Q := by
  refine OCon.of_wp (L0 := [.val (.ref x), .val (.ref b)]) pn_S1 hEL (fun m => by first | (simp [entryFrame, mkF, argsToLocals, Value.category]; done) | rfl) ?_
  intro p e s m below meth c hk
  refine OWp.aload_n hk d_S1_0 (pc' := 1) rfl rfl rfl ?_
  refine OWp.aload_n hk d_S1_1 (pc' := 2) rfl rfl rfl ?_
  refine OWp.iconst hk d_S1_2 (pc' := 3) rfl (z := 0) rfl ?_
  refine OWp.aload_n hk d_S1_3 (pc' := 4) rfl rfl rfl ?_
  refine OWp.arraylength hk d_S1_4 (pc' := 5) rfl (by simp) hA (by rw [hn]) ?_
  refine OWp.aconst_null hk d_S1_5 (pc' := 6) rfl ?_
  refine OWp.callI hk d_S1_6 (pc' := 9) rfl rfl (hw _ (List.mem_of_getElem? (i := 12) rfl)) (hw _ (List.mem_of_getElem? (i := 13) rfl)) (hw _ (List.mem_of_getElem? (i := 7) rfl)) (hw _ (List.mem_of_getElem? (i := 15) rfl)) (by decide) h4 rfl (by simp) rfl (lenOf pd_8 rfl) rfl (W := 0) rfl (by first | decide | (dsimp only; omega)) (by first | decide | (dsimp only; omega)) (by first | decide | (dsimp only; omega)) (by first | decide | (dsimp only; omega)) ?_
  intro v M N q
  obtain ⟨rfl, rfl⟩ := hQ v M N q
  exact OWp.ret0 hk d_S1_9 q (List.Sublist.refl _) (fun _ h => by simpa using h) (by dsimp only; omega) (by dsimp only; omega)
end StrS1
section StrNewWE
variable {l : Launch} {Z : State} {a0 : Array Value} {EL : List (String × Nat)} {zc : Int32} {b x : Addr} {cb cx : Cell} {cs : List Int32}
set_option maxRecDepth 65536 in
theorem c_NEW (hw : ∀ d ∈ tables_1, d.before a0 Z = true) (hEL : EW Z a0 EL) (O2 : Sta Z Z.heap "java/lang/String" "COMPACT_STRINGS" "Z" (.int zc)) (hzc : ¬ zc = 0) (OA : Sta Z Z.heap "java/lang/StringUTF16" "$assertionsDisabled" "Z" (.int 1)) (OH : Sta Z Z.heap "java/lang/StringUTF16" "HI_BYTE_SHIFT" "I" (.int 0)) (OL : Sta Z Z.heap "java/lang/StringUTF16" "LO_BYTE_SHIFT" "I" (.int 8))
    (hmem : ("java/lang/String", 7) ∈ EL) (hE : EC Z cx "java/lang/String") {v0 v1 : Value} (hV : FC Z cx "java/lang/String" "value" "[B" v0) (hC : FC Z cx "java/lang/String" "coder" "B" v1) (hA : AC Z cb .char (cs.map Value.int)) (hcs : Chars cs) (hcap : cs.length ≤ kCap) :
    OCon l Z EL (⟨"java/lang/String", "<init>", "([C)V"⟩ : MethodName) jdk_42_method_3_code 2 none [] ({ frames := 5, cells := 6, slots := 3 * kCap + 8, locals := 74 } : Room) #[.ref x, .ref b] [(x, cx)] [(b, cb)]
      (fun v M N => v = none ∧ M = [] ∧ ∃ t cx' ct, N = [(x, cx'), (t, ct)] ∧ SC Z t cx' ct cs) := by
  have hA2 : AC Z cb .char (tab cs.length fun j => .int (cs.getD j 0)) := by rw [← map_tab]; exact hA
  exact c_S1 (rm := ({ frames := 4, cells := 6, slots := 3 * kCap + 8, locals := 57 } : Room)) hw hEL hA2 (tab_len _ _) (fun _ _ _ q => ⟨q.1, q.2.1⟩) (c_S4 (rm3 := ({ frames := 3, cells := 2, slots := 3 * kCap, locals := 40 } : Room)) (cs := cs) hw hEL O2 hzc hE hV hC hA2 rfl hcs hmem (fun _ => c_CM3W (cs := cs) hw hEL OA OH OL hA2 rfl hcs hcap))
end StrNewWE
theorem d_ISL_0 : decode jdk_42_method_154_code 0 = .ok (.getstatic 38, 3) := by decide +kernel
theorem d_ISL_3 : decode jdk_42_method_154_code 3 = .ok (.ifCond .eq 14, 3) := by decide +kernel
theorem d_ISL_6 : decode jdk_42_method_154_code 6 = .ok (.aload_n 0, 1) := by decide +kernel
theorem d_ISL_7 : decode jdk_42_method_154_code 7 = .ok (.getfield 15, 3) := by decide +kernel
theorem d_ISL_10 : decode jdk_42_method_154_code 10 = .ok (.ifCond .ne 7, 3) := by decide +kernel
theorem d_ISL_13 : decode jdk_42_method_154_code 13 = .ok (.iconst 1, 1) := by decide +kernel
theorem d_ISL_14 : decode jdk_42_method_154_code 14 = .ok (.goto 4, 3) := by decide +kernel
theorem d_ISL_17 : decode jdk_42_method_154_code 17 = .ok (.iconst 0, 1) := by decide +kernel
theorem d_ISL_18 : decode jdk_42_method_154_code 18 = .ok (.ireturn, 1) := by decide +kernel
theorem pn_ISL : plainFor (⟨"java/lang/String", "isLatin1", "()Z"⟩ : MethodName) = true := by first | exact plainFor_of_name (by first | (simp [plainName, overriddenIn]; done) | decide +kernel) | decide +kernel
section StrISL
variable {l : Launch} {Z : State} {a0 : Array Value} {EL : List (String × Nat)} {zc : Int32} {x t : Addr} {cx ct : Cell} {cs : List Int32}
theorem c_ISL (hw : ∀ d ∈ tables_1, d.before a0 Z = true) (hEL : EW Z a0 EL) (O2 : Sta Z Z.heap "java/lang/String" "COMPACT_STRINGS" "Z" (.int zc)) (hzc : ¬ zc = 0) (hs : SC Z t cx ct cs) :
    OCon l Z EL (⟨"java/lang/String", "isLatin1", "()Z"⟩ : MethodName) jdk_42_method_154_code 1 (some .boolean) [] ({ frames := 0, cells := 0, slots := 0, locals := 0 } : Room) #[.ref x] [] [(x, cx), (t, ct)] (fun v M N => v = some (.int (if lat cs then 1 else 0)) ∧ M = [] ∧ N = []) := by
  refine OCon.of_wp (L0 := [.val (.ref x)]) pn_ISL hEL (fun m => by first | (simp [entryFrame, mkF, argsToLocals, Value.category]; done) | rfl) ?_
  intro p e s m below meth c hk
  refine OWp.getstatic hk d_ISL_0 (pc' := 3) rfl (hw _ (List.mem_of_getElem? (i := 19) rfl)) O2 ?_
  refine OWp.ifNo hk d_ISL_3 (XT.i0_eq_f hzc) (pc' := 6) rfl ?_
  refine OWp.aload_n hk d_ISL_6 (pc' := 7) rfl rfl rfl ?_
  refine OWp.getfield hk d_ISL_7 (pc' := 10) rfl (hw _ (List.mem_of_getElem? (i := 31) rfl)) (by simp) hs.2.2.1 ?_
  rcases cd_cases cs with ⟨h1, h2⟩ | ⟨h1, h2⟩
  · refine OWp.ifNo hk d_ISL_10 (XT.i0_ne_f h2) (pc' := 13) rfl ?_
    refine OWp.iconst hk d_ISL_13 (pc' := 14) rfl (z := 1) rfl ?_
    refine OWp.goto hk d_ISL_14 (by decide) (pc' := 18) rfl ?_
    exact OWp.retN hk (Or.inl rfl) d_ISL_18 ⟨by rw [h1]; rfl, rfl, rfl⟩ (List.Sublist.refl _) (fun _ h => h) (by decide) (by decide)
  · refine OWp.ifYes hk d_ISL_10 (XT.i0_ne_t (by rw [h2]; decide)) (by decide) (pc' := 17) rfl ?_
    refine OWp.iconst hk d_ISL_17 (pc' := 18) rfl (z := 0) rfl ?_
    exact OWp.retN hk (Or.inl rfl) d_ISL_18 ⟨by rw [h1]; rfl, rfl, rfl⟩ (List.Sublist.refl _) (fun _ h => h) (by decide) (by decide)
end StrISL
theorem d_PCI_0 : decode jdk_41_method_11_code 0 = .ok (.iload_n 0, 1) := by decide +kernel
theorem d_PCI_1 : decode jdk_41_method_11_code 1 = .ok (.ifCond .lt 8, 3) := by decide +kernel
theorem d_PCI_4 : decode jdk_41_method_11_code 4 = .ok (.iload_n 0, 1) := by decide +kernel
theorem d_PCI_5 : decode jdk_41_method_11_code 5 = .ok (.iload_n 1, 1) := by decide +kernel
theorem d_PCI_6 : decode jdk_41_method_11_code 6 = .ok (.if_icmp .lt 10, 3) := by decide +kernel
theorem d_PCI_9 : decode jdk_41_method_11_code 9 = .ok (.aload_n 2, 1) := by decide +kernel
theorem d_PCI_10 : decode jdk_41_method_11_code 10 = .ok (.iload_n 0, 1) := by decide +kernel
theorem d_PCI_11 : decode jdk_41_method_11_code 11 = .ok (.iload_n 1, 1) := by decide +kernel
theorem d_PCI_12 : decode jdk_41_method_11_code 12 = .ok (.invokestatic 95, 3) := by decide +kernel
theorem d_PCI_15 : decode jdk_41_method_11_code 15 = .ok (.athrow, 1) := by decide +kernel
theorem d_PCI_16 : decode jdk_41_method_11_code 16 = .ok (.iload_n 0, 1) := by decide +kernel
theorem d_PCI_17 : decode jdk_41_method_11_code 17 = .ok (.ireturn, 1) := by decide +kernel
theorem pn_PCI : plainFor (⟨"jdk/internal/util/Preconditions", "checkIndex", "(IILjava/util/function/BiFunction;)I"⟩ : MethodName) = true := by first | exact plainFor_of_name (by first | (simp [plainName, overriddenIn]; done) | decide +kernel) | decide +kernel
theorem d_CKI_0 : decode jdk_42_method_155_code 0 = .ok (.iload_n 0, 1) := by decide +kernel
theorem d_CKI_1 : decode jdk_42_method_155_code 1 = .ok (.iload_n 1, 1) := by decide +kernel
theorem d_CKI_2 : decode jdk_42_method_155_code 2 = .ok (.getstatic 1053, 3) := by decide +kernel
theorem d_CKI_5 : decode jdk_42_method_155_code 5 = .ok (.invokestatic 1059, 3) := by decide +kernel
theorem d_CKI_8 : decode jdk_42_method_155_code 8 = .ok (.pop, 1) := by decide +kernel
theorem d_CKI_9 : decode jdk_42_method_155_code 9 = .ok (.return_, 1) := by decide +kernel
theorem pn_CKI : plainFor (⟨"java/lang/String", "checkIndex", "(II)V"⟩ : MethodName) = true := by first | exact plainFor_of_name (by first | (simp [plainName, overriddenIn]; done) | decide +kernel) | decide +kernel
theorem d_LCA_0 : decode jdk_43_method_2_code 0 = .ok (.iload_n 1, 1) := by decide +kernel
theorem d_LCA_1 : decode jdk_43_method_2_code 1 = .ok (.aload_n 0, 1) := by decide +kernel
theorem d_LCA_2 : decode jdk_43_method_2_code 2 = .ok (.arraylength, 1) := by decide +kernel
theorem d_LCA_3 : decode jdk_43_method_2_code 3 = .ok (.invokestatic 9, 3) := by decide +kernel
theorem d_LCA_6 : decode jdk_43_method_2_code 6 = .ok (.aload_n 0, 1) := by decide +kernel
theorem d_LCA_7 : decode jdk_43_method_2_code 7 = .ok (.iload_n 1, 1) := by decide +kernel
theorem d_LCA_8 : decode jdk_43_method_2_code 8 = .ok (.baload, 1) := by decide +kernel
theorem d_LCA_9 : decode jdk_43_method_2_code 9 = .ok (.sipush 255, 3) := by decide +kernel
theorem d_LCA_12 : decode jdk_43_method_2_code 12 = .ok (.iand, 1) := by decide +kernel
theorem d_LCA_13 : decode jdk_43_method_2_code 13 = .ok (.i2c, 1) := by decide +kernel
theorem d_LCA_14 : decode jdk_43_method_2_code 14 = .ok (.ireturn, 1) := by decide +kernel
theorem pn_LCA : plainFor (⟨"java/lang/StringLatin1", "charAt", "([BI)C"⟩ : MethodName) = true := by first | exact plainFor_of_name (by first | (simp [plainName, overriddenIn]; done) | decide +kernel) | decide +kernel
theorem d_CHA_0 : decode jdk_42_method_56_code 0 = .ok (.aload_n 0, 1) := by decide +kernel
theorem d_CHA_1 : decode jdk_42_method_56_code 1 = .ok (.invokevirtual 492, 3) := by decide +kernel
theorem d_CHA_4 : decode jdk_42_method_56_code 4 = .ok (.ifCond .eq 12, 3) := by decide +kernel
theorem d_CHA_7 : decode jdk_42_method_56_code 7 = .ok (.aload_n 0, 1) := by decide +kernel
theorem d_CHA_8 : decode jdk_42_method_56_code 8 = .ok (.getfield 9, 3) := by decide +kernel
theorem d_CHA_11 : decode jdk_42_method_56_code 11 = .ok (.iload_n 1, 1) := by decide +kernel
theorem d_CHA_12 : decode jdk_42_method_56_code 12 = .ok (.invokestatic 495, 3) := by decide +kernel
theorem d_CHA_15 : decode jdk_42_method_56_code 15 = .ok (.ireturn, 1) := by decide +kernel
theorem d_CHA_16 : decode jdk_42_method_56_code 16 = .ok (.aload_n 0, 1) := by decide +kernel
theorem d_CHA_17 : decode jdk_42_method_56_code 17 = .ok (.getfield 9, 3) := by decide +kernel
theorem d_CHA_20 : decode jdk_42_method_56_code 20 = .ok (.iload_n 1, 1) := by decide +kernel
theorem d_CHA_21 : decode jdk_42_method_56_code 21 = .ok (.invokestatic 498, 3) := by decide +kernel
theorem d_CHA_24 : decode jdk_42_method_56_code 24 = .ok (.ireturn, 1) := by decide +kernel
theorem pn_CHA : plainFor (⟨"java/lang/String", "charAt", "(I)C"⟩ : MethodName) = true := by first | exact plainFor_of_name (by first | (simp [plainName, overriddenIn]; done) | decide +kernel) | decide +kernel
section StrCh
variable {l : Launch} {Z : State} {a0 : Array Value} {EL : List (String × Nat)} {zc : Int32} {x t : Addr} {cx ct : Cell} {cs : List Int32} {fm : Value} {i n : Nat}
theorem c_PCI (hw : ∀ d ∈ tables_1, d.before a0 Z = true) (hEL : EW Z a0 EL) (hf : fm.isRef = true) (hi : i < n) (hn : n < 2147483648) :
    OCon l Z EL (⟨"jdk/internal/util/Preconditions", "checkIndex", "(IILjava/util/function/BiFunction;)I"⟩ : MethodName) jdk_41_method_11_code 3 (some .int) [] ({ frames := 0, cells := 0, slots := 0, locals := 0 } : Room) #[.int (Int32.ofNat i), .int (Int32.ofNat n), fm] [] [] (fun v M N => v = some (.int (Int32.ofNat i)) ∧ M = [] ∧ N = []) := by
  refine OCon.of_wp (L0 := [.val (.int (Int32.ofNat i)), .val (.int (Int32.ofNat n)), .val fm]) pn_PCI hEL (fun m => by rcases ref_cases hf with rfl | ⟨_, rfl⟩ <;> first | (simp [entryFrame, mkF, argsToLocals, Value.category]; done) | rfl) ?_
  intro p e s m below meth c hk
  refine OWp.iload_n hk d_PCI_0 (pc' := 1) rfl rfl ?_
  refine OWp.ifNo hk d_PCI_1 (XT.i0_lt_f (n_nn (by omega))) (pc' := 4) rfl ?_
  refine OWp.iload_n hk d_PCI_4 (pc' := 5) rfl rfl ?_
  refine OWp.iload_n hk d_PCI_5 (pc' := 6) rfl rfl ?_
  refine OWp.icmpYes hk d_PCI_6 (XT.ii_lt_t ((n_lt (by omega) hn).mpr hi)) (by decide) (pc' := 16) rfl ?_
  refine OWp.iload_n hk d_PCI_16 (pc' := 17) rfl rfl ?_
  exact OWp.retI hk d_PCI_17 ⟨rfl, rfl, rfl⟩ (List.Sublist.refl _) (fun _ h => h) (by decide) (by decide)
theorem c_CKI (hw : ∀ d ∈ tables_1, d.before a0 Z = true) (hEL : EW Z a0 EL) (O4 : Sta Z Z.heap "jdk/internal/util/Preconditions" "SIOOBE_FORMATTER" "Ljava/util/function/BiFunction;" fm) (hf : fm.isRef = true) (hi : i < n) (hn : n < 2147483648) :
    OCon l Z EL (⟨"java/lang/String", "checkIndex", "(II)V"⟩ : MethodName) jdk_42_method_155_code 2 none [] ({ frames := 1, cells := 0, slots := 0, locals := 14 } : Room) #[.int (Int32.ofNat i), .int (Int32.ofNat n)] [] [] (fun v M N => v = none ∧ M = [] ∧ N = []) := by
  refine OCon.of_wp (L0 := [.val (.int (Int32.ofNat i)), .val (.int (Int32.ofNat n))]) pn_CKI hEL (fun m => by first | (simp [entryFrame, mkF, argsToLocals, Value.category]; done) | rfl) ?_
  intro p e s m below meth c hk
  refine OWp.iload_n hk d_CKI_0 (pc' := 1) rfl rfl ?_
  refine OWp.iload_n hk d_CKI_1 (pc' := 2) rfl rfl ?_
  refine OWp.getstatic hk d_CKI_2 (pc' := 5) rfl (hw _ (List.mem_of_getElem? (i := 259) rfl)) O4 ?_
  refine OWp.callS hk d_CKI_5 (pc' := 8) rfl (hw _ (List.mem_of_getElem? (i := 261) rfl)) (hw _ (List.mem_of_getElem? (i := 262) rfl)) (hw _ (List.mem_of_getElem? (i := 260) rfl)) (hw _ (List.mem_of_getElem? (i := 263) rfl)) (by decide) (c_PCI hw hEL hf hi hn) rfl (by simp) rfl (lenOf pd_9 rfl) rfl (W := 0) rfl (by first | decide | (dsimp only; omega)) (by first | decide | (dsimp only; omega)) (by first | decide | (dsimp only; omega)) (by first | decide | (dsimp only; omega)) ?_
  rintro _ _ _ ⟨rfl, rfl, rfl⟩
  refine OWp.pop hk d_CKI_8 (pc' := 9) rfl rfl ?_
  exact OWp.ret0 hk d_CKI_9 ⟨rfl, rfl, rfl⟩ (List.Sublist.refl _) (fun _ h => h) (by decide) (by decide)
theorem c_LCA (hw : ∀ d ∈ tables_1, d.before a0 Z = true) (hEL : EW Z a0 EL) (O4 : Sta Z Z.heap "jdk/internal/util/Preconditions" "SIOOBE_FORMATTER" "Ljava/util/function/BiFunction;" fm) (hf : fm.isRef = true) (hs : SC Z t cx ct cs) (hl : lat cs = true) (hi : i < cs.length) :
    OCon l Z EL (⟨"java/lang/StringLatin1", "charAt", "([BI)C"⟩ : MethodName) jdk_43_method_2_code 2 (some .char) [] ({ frames := 2, cells := 0, slots := 0, locals := 27 } : Room) #[.ref t, .int (Int32.ofNat i)] [] [(x, cx), (t, ct)] (fun v M N => v = some (.int (cs.getD i 0)) ∧ M = [] ∧ N = []) := by
  refine OCon.of_wp (L0 := [.val (.ref t), .val (.int (Int32.ofNat i))]) pn_LCA hEL (fun m => by first | (simp [entryFrame, mkF, argsToLocals, Value.category]; done) | rfl) ?_
  intro p e s m below meth c hk
  have hA := hs.2.2.2.1
  have hc4 := hs.2.2.2.2.2
  rw [bytes_lat hl] at hA
  have hc := hs.2.2.2.2.1 _ (getD_mem hi)
  have h255 := lat_iff.mp hl _ (getD_mem hi)
  refine OWp.iload_n hk d_LCA_0 (pc' := 1) rfl rfl ?_
  refine OWp.aload_n hk d_LCA_1 (pc' := 2) rfl rfl rfl ?_
  refine OWp.arraylength hk d_LCA_2 (pc' := 3) rfl (by simp) hA (z := Int32.ofNat cs.length) (by rw [tab_len]) ?_
  refine OWp.callS hk d_LCA_3 (pc' := 6) rfl (hw _ (List.mem_of_getElem? (i := 256) rfl)) (hw _ (List.mem_of_getElem? (i := 257) rfl)) (hw _ (List.mem_of_getElem? (i := 7) rfl)) (hw _ (List.mem_of_getElem? (i := 258) rfl)) (by decide) (c_CKI hw hEL O4 hf hi (by omega)) rfl (by simp) rfl (lenOf pd_10 rfl) rfl (W := 0) rfl (by first | decide | (dsimp only; omega)) (by first | decide | (dsimp only; omega)) (by first | decide | (dsimp only; omega)) (by first | decide | (dsimp only; omega)) ?_
  rintro _ _ _ ⟨rfl, rfl, rfl⟩
  refine OWp.aload_n hk d_LCA_6 (pc' := 7) rfl rfl rfl ?_
  refine OWp.iload_n hk d_LCA_7 (pc' := 8) rfl rfl ?_
  refine OWp.baload hk d_LCA_8 (pc' := 9) rfl (by simp) hA (n_nn (by omega)) (by rw [n_nat (by omega)]; exact tab_get hi) ?_
  refine OWp.sipush hk d_LCA_9 (pc' := 12) rfl (z := 255) rfl ?_
  refine OWp.iand hk d_LCA_12 (pc' := 13) rfl ?_
  refine OWp.i2c hk d_LCA_13 (pc' := 14) rfl ?_
  exact OWp.retN hk (Or.inr (Or.inr (Or.inl rfl))) d_LCA_14 ⟨by rw [lo8_back hc.1 h255, nar_char_id hc.1 hc.2], rfl, rfl⟩ (List.Sublist.refl _) (fun _ h => h) (by decide) (by decide)
theorem c_CHA (hw : ∀ d ∈ tables_1, d.before a0 Z = true) (hEL : EW Z a0 EL) (O2 : Sta Z Z.heap "java/lang/String" "COMPACT_STRINGS" "Z" (.int zc)) (hzc : ¬ zc = 0) (O4 : Sta Z Z.heap "jdk/internal/util/Preconditions" "SIOOBE_FORMATTER" "Ljava/util/function/BiFunction;" fm) (hf : fm.isRef = true) (hs : SC Z t cx ct cs) (hl : lat cs = true) (hi : i < cs.length) :
    OCon l Z EL (⟨"java/lang/String", "charAt", "(I)C"⟩ : MethodName) jdk_42_method_56_code 2 (some .char) [] ({ frames := 3, cells := 0, slots := 0, locals := 40 } : Room) #[.ref x, .int (Int32.ofNat i)] [] [(x, cx), (t, ct)] (fun v M N => v = some (.int (cs.getD i 0)) ∧ M = [] ∧ N = []) := by
  refine OCon.of_wp (L0 := [.val (.ref x), .val (.int (Int32.ofNat i))]) pn_CHA hEL (fun m => by first | (simp [entryFrame, mkF, argsToLocals, Value.category]; done) | rfl) ?_
  intro p e s m below meth c hk
  have hc := hs.2.2.2.2.1 _ (getD_mem hi)
  refine OWp.aload_n hk d_CHA_0 (pc' := 1) rfl rfl rfl ?_
  refine OWp.callV hk d_CHA_1 (pc' := 4) rfl (hw _ (List.mem_of_getElem? (i := 247) rfl)) (hw _ (List.mem_of_getElem? (i := 248) rfl)) (nfs (hw _ (List.mem_of_getElem? (i := 250) rfl))) (hw _ (List.mem_of_getElem? (i := 250) rfl)) (hw _ (List.mem_of_getElem? (i := 249) rfl)) (hw _ (List.mem_of_getElem? (i := 7) rfl)) (hw _ (List.mem_of_getElem? (i := 251) rfl)) (by decide) (by simp) hs.1 (c_ISL hw hEL O2 hzc hs) rfl (by simp) rfl (lenOf pd_11 rfl) rfl (W := 0) rfl (by first | decide | (dsimp only; omega)) (by first | decide | (dsimp only; omega)) (by first | decide | (dsimp only; omega)) (by first | decide | (dsimp only; omega)) ?_
  rintro _ _ _ ⟨rfl, rfl, rfl⟩
  refine OWp.ifNo hk d_CHA_4 (XT.i0_eq_f (by rw [hl]; decide)) (pc' := 7) rfl ?_
  refine OWp.aload_n hk d_CHA_7 (pc' := 8) rfl rfl rfl ?_
  refine OWp.getfield hk d_CHA_8 (pc' := 11) rfl (hw _ (List.mem_of_getElem? (i := 33) rfl)) (by simp) hs.2.1 ?_
  refine OWp.iload_n hk d_CHA_11 (pc' := 12) rfl rfl ?_
  refine OWp.callS hk d_CHA_12 (pc' := 15) rfl (hw _ (List.mem_of_getElem? (i := 252) rfl)) (hw _ (List.mem_of_getElem? (i := 253) rfl)) (hw _ (List.mem_of_getElem? (i := 254) rfl)) (hw _ (List.mem_of_getElem? (i := 255) rfl)) (by decide) (c_LCA (x := x) hw hEL O4 hf hs hl hi) rfl (by simp) rfl (lenOf pd_6 rfl) rfl (W := 0) rfl (by first | decide | (dsimp only; omega)) (by first | decide | (dsimp only; omega)) (by first | decide | (dsimp only; omega)) (by first | decide | (dsimp only; omega)) ?_
  rintro _ _ _ ⟨rfl, rfl, rfl⟩
  exact OWp.retN hk (Or.inr (Or.inr (Or.inl rfl))) d_CHA_15 ⟨by rw [nar_char_id hc.1 hc.2], rfl, rfl⟩ (List.Sublist.refl _) (fun _ h => h) (by decide) (by decide)
end StrCh
theorem d_MIN_0 : decode jdk_29_method_69_code 0 = .ok (.iload_n 0, 1) := by decide +kernel
theorem d_MIN_1 : decode jdk_29_method_69_code 1 = .ok (.iload_n 1, 1) := by decide +kernel
theorem d_MIN_2 : decode jdk_29_method_69_code 2 = .ok (.if_icmp .gt 7, 3) := by decide +kernel
theorem d_MIN_5 : decode jdk_29_method_69_code 5 = .ok (.iload_n 0, 1) := by decide +kernel
theorem d_MIN_6 : decode jdk_29_method_69_code 6 = .ok (.goto 4, 3) := by decide +kernel
theorem d_MIN_9 : decode jdk_29_method_69_code 9 = .ok (.iload_n 1, 1) := by decide +kernel
theorem d_MIN_10 : decode jdk_29_method_69_code 10 = .ok (.ireturn, 1) := by decide +kernel
theorem pn_MIN : plainFor (⟨"java/lang/Math", "min", "(II)I"⟩ : MethodName) = true := by first | exact plainFor_of_name (by first | (simp [plainName, overriddenIn]; done) | decide +kernel) | decide +kernel
section strMin
variable {l : Launch} {Z : State} {a0 : Array Value} {EL : List (String × Nat)} {zc ch a b : Int32} {x t : Addr} {cx ct : Cell} {cs : List Int32} {n : Nat}
theorem c_MIN (hw : ∀ d ∈ tables_1, d.before a0 Z = true) (hEL : EW Z a0 EL) :
    OCon l Z EL (⟨"java/lang/Math", "min", "(II)I"⟩ : MethodName) jdk_29_method_69_code 2 (some .int) [] ({ frames := 0, cells := 0, slots := 0, locals := 0 } : Room) #[.int a, .int b] [] [] (fun v M N => v = some (.int (if b < a then b else a)) ∧ M = [] ∧ N = []) := by
  refine OCon.of_wp (L0 := [.val (.int a), .val (.int b)]) pn_MIN hEL (fun m => by first | (simp [entryFrame, mkF, argsToLocals, Value.category]; done) | rfl) ?_
  intro p e s m below meth c hk
  refine OWp.iload_n hk d_MIN_0 (pc' := 1) rfl rfl ?_
  refine OWp.iload_n hk d_MIN_1 (pc' := 2) rfl rfl ?_
  by_cases h : b < a
  · refine OWp.icmpYes hk d_MIN_2 (XT.ii_gt_t h) (by decide) (pc' := 9) rfl ?_
    refine OWp.iload_n hk d_MIN_9 (pc' := 10) rfl rfl ?_
    exact OWp.retI hk d_MIN_10 ⟨by rw [if_pos h], rfl, rfl⟩ (List.Sublist.refl _) (fun _ h => h) (by decide) (by decide)
  · refine OWp.icmpNo hk d_MIN_2 (XT.ii_gt_f h) (pc' := 5) rfl ?_
    refine OWp.iload_n hk d_MIN_5 (pc' := 6) rfl rfl ?_
    refine OWp.goto hk d_MIN_6 (by decide) (pc' := 10) rfl ?_
    exact OWp.retI hk d_MIN_10 ⟨by rw [if_neg h], rfl, rfl⟩ (List.Sublist.refl _) (fun _ h => h) (by decide) (by decide)
end strMin
theorem d_CHL_0 : decode jdk_65_method_131_code 0 = .ok (.iload_n 1, 1) := by decide +kernel
theorem d_CHL_1 : decode jdk_65_method_131_code 1 = .ok (.iload_n 0, 1) := by decide +kernel
theorem d_CHL_2 : decode jdk_65_method_131_code 2 = .ok (.if_icmp .ge 35, 3) := by decide +kernel
theorem d_CHL_5 : decode jdk_65_method_131_code 5 = .ok (.new 43, 3) := by decide +kernel
theorem d_CHL_8 : decode jdk_65_method_131_code 8 = .ok (.dup, 1) := by decide +kernel
theorem d_CHL_9 : decode jdk_65_method_131_code 9 = .ok (.new 45, 3) := by decide +kernel
theorem d_CHL_12 : decode jdk_65_method_131_code 12 = .ok (.dup, 1) := by decide +kernel
theorem d_CHL_13 : decode jdk_65_method_131_code 13 = .ok (.invokespecial 47, 3) := by decide +kernel
theorem d_CHL_16 : decode jdk_65_method_131_code 16 = .ok (.iload_n 0, 1) := by decide +kernel
theorem d_CHL_17 : decode jdk_65_method_131_code 17 = .ok (.invokevirtual 54, 3) := by decide +kernel
theorem d_CHL_20 : decode jdk_65_method_131_code 20 = .ok (.ldc_w 337, 3) := by decide +kernel
theorem d_CHL_23 : decode jdk_65_method_131_code 23 = .ok (.invokevirtual 50, 3) := by decide +kernel
theorem d_CHL_26 : decode jdk_65_method_131_code 26 = .ok (.iload_n 1, 1) := by decide +kernel
theorem d_CHL_27 : decode jdk_65_method_131_code 27 = .ok (.invokevirtual 54, 3) := by decide +kernel
theorem d_CHL_30 : decode jdk_65_method_131_code 30 = .ok (.invokevirtual 61, 3) := by decide +kernel
theorem d_CHL_33 : decode jdk_65_method_131_code 33 = .ok (.invokespecial 65, 3) := by decide +kernel
theorem d_CHL_36 : decode jdk_65_method_131_code 36 = .ok (.athrow, 1) := by decide +kernel
theorem d_CHL_37 : decode jdk_65_method_131_code 37 = .ok (.return_, 1) := by decide +kernel
theorem pn_CHL : plainFor (⟨"java/util/Arrays", "checkLength", "(II)V"⟩ : MethodName) = true := by first | exact plainFor_of_name (by first | (simp [plainName, overriddenIn]; done) | decide +kernel) | decide +kernel
theorem d_CRB_0 : decode jdk_65_method_133_code 0 = .ok (.iload_n 1, 1) := by decide +kernel
theorem d_CRB_1 : decode jdk_65_method_133_code 1 = .ok (.iload_n 2, 1) := by decide +kernel
theorem d_CRB_2 : decode jdk_65_method_133_code 2 = .ok (.invokestatic 343, 3) := by decide +kernel
theorem d_CRB_5 : decode jdk_65_method_133_code 5 = .ok (.iload_n 2, 1) := by decide +kernel
theorem d_CRB_6 : decode jdk_65_method_133_code 6 = .ok (.iload_n 1, 1) := by decide +kernel
theorem d_CRB_7 : decode jdk_65_method_133_code 7 = .ok (.isub, 1) := by decide +kernel
theorem d_CRB_8 : decode jdk_65_method_133_code 8 = .ok (.istore_n 3, 1) := by decide +kernel
theorem d_CRB_9 : decode jdk_65_method_133_code 9 = .ok (.iload_n 3, 1) := by decide +kernel
theorem d_CRB_10 : decode jdk_65_method_133_code 10 = .ok (.newarray .byte, 2) := by decide +kernel
theorem d_CRB_12 : decode jdk_65_method_133_code 12 = .ok (.astore 4, 2) := by decide +kernel
theorem d_CRB_14 : decode jdk_65_method_133_code 14 = .ok (.aload_n 0, 1) := by decide +kernel
theorem d_CRB_15 : decode jdk_65_method_133_code 15 = .ok (.iload_n 1, 1) := by decide +kernel
theorem d_CRB_16 : decode jdk_65_method_133_code 16 = .ok (.aload 4, 2) := by decide +kernel
theorem d_CRB_18 : decode jdk_65_method_133_code 18 = .ok (.iconst 0, 1) := by decide +kernel
theorem d_CRB_19 : decode jdk_65_method_133_code 19 = .ok (.aload_n 0, 1) := by decide +kernel
theorem d_CRB_20 : decode jdk_65_method_133_code 20 = .ok (.arraylength, 1) := by decide +kernel
theorem d_CRB_21 : decode jdk_65_method_133_code 21 = .ok (.iload_n 1, 1) := by decide +kernel
theorem d_CRB_22 : decode jdk_65_method_133_code 22 = .ok (.isub, 1) := by decide +kernel
theorem d_CRB_23 : decode jdk_65_method_133_code 23 = .ok (.iload_n 3, 1) := by decide +kernel
theorem d_CRB_24 : decode jdk_65_method_133_code 24 = .ok (.invokestatic 304, 3) := by decide +kernel
theorem d_CRB_27 : decode jdk_65_method_133_code 27 = .ok (.invokestatic 150, 3) := by decide +kernel
theorem d_CRB_30 : decode jdk_65_method_133_code 30 = .ok (.aload 4, 2) := by decide +kernel
theorem d_CRB_32 : decode jdk_65_method_133_code 32 = .ok (.areturn, 1) := by decide +kernel
theorem pn_CRB : plainFor (⟨"java/util/Arrays", "copyOfRangeByte", "([BII)[B"⟩ : MethodName) = true := by first | exact plainFor_of_name (by first | (simp [plainName, overriddenIn]; done) | decide +kernel) | decide +kernel
theorem d_COR_0 : decode jdk_65_method_132_code 0 = .ok (.iload_n 1, 1) := by decide +kernel
theorem d_COR_1 : decode jdk_65_method_132_code 1 = .ok (.ifCond .ne 9, 3) := by decide +kernel
theorem d_COR_4 : decode jdk_65_method_132_code 4 = .ok (.iload_n 2, 1) := by decide +kernel
theorem d_COR_5 : decode jdk_65_method_132_code 5 = .ok (.aload_n 0, 1) := by decide +kernel
theorem d_COR_6 : decode jdk_65_method_132_code 6 = .ok (.arraylength, 1) := by decide +kernel
theorem d_COR_7 : decode jdk_65_method_132_code 7 = .ok (.if_icmp .eq 10, 3) := by decide +kernel
theorem d_COR_10 : decode jdk_65_method_132_code 10 = .ok (.aload_n 0, 1) := by decide +kernel
theorem d_COR_11 : decode jdk_65_method_132_code 11 = .ok (.iload_n 1, 1) := by decide +kernel
theorem d_COR_12 : decode jdk_65_method_132_code 12 = .ok (.iload_n 2, 1) := by decide +kernel
theorem d_COR_13 : decode jdk_65_method_132_code 13 = .ok (.invokestatic 339, 3) := by decide +kernel
theorem d_COR_16 : decode jdk_65_method_132_code 16 = .ok (.areturn, 1) := by decide +kernel
theorem d_COR_17 : decode jdk_65_method_132_code 17 = .ok (.aload_n 0, 1) := by decide +kernel
theorem d_COR_18 : decode jdk_65_method_132_code 18 = .ok (.invokevirtual 310, 3) := by decide +kernel
theorem d_COR_21 : decode jdk_65_method_132_code 21 = .ok (.checkcast 311, 3) := by decide +kernel
theorem d_COR_24 : decode jdk_65_method_132_code 24 = .ok (.areturn, 1) := by decide +kernel
theorem pn_COR : plainFor (⟨"java/util/Arrays", "copyOfRange", "([BII)[B"⟩ : MethodName) = true := by first | exact plainFor_of_name (by first | (simp [plainName, overriddenIn]; done) | decide +kernel) | decide +kernel
section StrCOR
variable {l : Launch} {Z : State} {a0 : Array Value} {EL : List (String × Nat)} {zc : Int32} {x t : Addr} {cx ct : Cell} {cs : List Int32} {fm : Value} {a b n : Nat} {f : Nat → Value}
theorem c_CHL (hw : ∀ d ∈ tables_1, d.before a0 Z = true) (hEL : EW Z a0 EL) (hab : a ≤ b) (hb : b < 2147483648) :
    OCon l Z EL (⟨"java/util/Arrays", "checkLength", "(II)V"⟩ : MethodName) jdk_65_method_131_code 2 none [] ({ frames := 0, cells := 0, slots := 0, locals := 0 } : Room) #[.int (Int32.ofNat a), .int (Int32.ofNat b)] [] [] (fun v M N => v = none ∧ M = [] ∧ N = []) := by
  refine OCon.of_wp (L0 := [.val (.int (Int32.ofNat a)), .val (.int (Int32.ofNat b))]) pn_CHL hEL (fun m => by first | (simp [entryFrame, mkF, argsToLocals, Value.category]; done) | rfl) ?_
  intro p e s m below meth c hk
  refine OWp.iload_n hk d_CHL_0 (pc' := 1) rfl rfl ?_
  refine OWp.iload_n hk d_CHL_1 (pc' := 2) rfl rfl ?_
  refine OWp.icmpYes hk d_CHL_2 (XT.ii_ge_t (by rw [n_lt (by omega) (by omega)]; omega)) (by decide) (pc' := 37) rfl ?_
  exact OWp.ret0 hk d_CHL_37 ⟨rfl, rfl, rfl⟩ (List.Sublist.refl _) (fun _ h => h) (by decide) (by decide)
theorem c_CRB (hw : ∀ d ∈ tables_1, d.before a0 Z = true) (hEL : EW Z a0 EL) (hA : AC Z ct .byte (tab n f)) (hab : a ≤ b) (hbn : b ≤ n) (hcap : b - a ≤ kCap) :
    OCon l Z EL (⟨"java/util/Arrays", "copyOfRangeByte", "([BII)[B"⟩ : MethodName) jdk_65_method_133_code 5 (some (.array .byte)) [] ({ frames := 1, cells := 1, slots := kCap, locals := 18 } : Room) #[.ref t, .int (Int32.ofNat a), .int (Int32.ofNat b)] [] [(t, ct)] (fun v M N => M = [] ∧ ∃ u cu, v = some (.ref u) ∧ N = [(u, cu)] ∧ AC Z cu .byte (tab (b - a) fun j => f (a + j))) := by
  have hn : n < 2147483648 := by have := hA.2.2.2.1; rwa [tab_len] at this
  refine OCon.of_wp (L0 := [.val (.ref t), .val (.int (Int32.ofNat a)), .val (.int (Int32.ofNat b)), .unset, .unset]) pn_CRB hEL (fun m => by first | (simp [entryFrame, mkF, argsToLocals, Value.category]; done) | rfl) ?_
  intro p e s m below meth c hk
  refine OWp.iload_n hk d_CRB_0 (pc' := 1) rfl rfl ?_
  refine OWp.iload_n hk d_CRB_1 (pc' := 2) rfl rfl ?_
  refine OWp.callS hk d_CRB_2 (pc' := 5) rfl (hw _ (List.mem_of_getElem? (i := 171) rfl)) (hw _ (List.mem_of_getElem? (i := 172) rfl)) (hw _ (List.mem_of_getElem? (i := 108) rfl)) (hw _ (List.mem_of_getElem? (i := 173) rfl)) (by decide) (c_CHL hw hEL hab (by omega)) rfl (by simp) rfl (lenOf pd_10 rfl) rfl (W := 0) rfl (by first | decide | (dsimp only; omega)) (by first | decide | (dsimp only; omega)) (by first | decide | (dsimp only; omega)) (by first | decide | (dsimp only; omega)) ?_
  rintro _ _ _ ⟨rfl, rfl, rfl⟩
  refine OWp.iload_n hk d_CRB_5 (pc' := 6) rfl rfl ?_
  refine OWp.iload_n hk d_CRB_6 (pc' := 7) rfl rfl ?_
  refine OWp.isub hk d_CRB_7 (pc' := 8) rfl ?_
  rw [n_sub hab (by omega)]
  refine OWp.istore_n hk d_CRB_8 (pc' := 9) rfl (kn := 3) rfl rfl (by simp only [List.set_cons_zero, List.set_cons_succ]; rfl) ?_
  refine OWp.iload_n hk d_CRB_9 (pc' := 10) rfl rfl ?_
  refine OWp.newarray hk d_CRB_10 (pc' := 12) rfl (hw _ (List.mem_of_getElem? (i := 24) rfl)) (n_nn (by omega)) (cap := kCap) (by rw [n_nat (by omega)]; exact hcap) (by decide) (by decide) (by decide) (vs := tab (b - a) fun _ => .int 0) (by rw [n_nat (by omega)]; exact tab_rep _ _) ?_
  intro d cd hD
  refine OWp.astore hk d_CRB_12 (pc' := 14) rfl rfl rfl (by simp only [List.set_cons_zero, List.set_cons_succ]; rfl) ?_
  refine OWp.aload_n hk d_CRB_14 (pc' := 15) rfl rfl rfl ?_
  refine OWp.iload_n hk d_CRB_15 (pc' := 16) rfl rfl ?_
  refine OWp.aload hk d_CRB_16 (pc' := 18) rfl rfl rfl ?_
  refine OWp.iconst hk d_CRB_18 (pc' := 19) rfl (z := 0) rfl ?_
  refine OWp.aload_n hk d_CRB_19 (pc' := 20) rfl rfl rfl ?_
  refine OWp.arraylength hk d_CRB_20 (pc' := 21) rfl (by simp) hA (z := Int32.ofNat n) (by rw [tab_len]) ?_
  refine OWp.iload_n hk d_CRB_21 (pc' := 22) rfl rfl ?_
  refine OWp.isub hk d_CRB_22 (pc' := 23) rfl ?_
  rw [n_sub (show a ≤ n by omega) (by omega)]
  refine OWp.iload_n hk d_CRB_23 (pc' := 24) rfl rfl ?_
  refine OWp.callS hk d_CRB_24 (pc' := 27) rfl (hw _ (List.mem_of_getElem? (i := 110) rfl)) (hw _ (List.mem_of_getElem? (i := 111) rfl)) (hw _ (List.mem_of_getElem? (i := 102) rfl)) (hw _ (List.mem_of_getElem? (i := 112) rfl)) (by decide) (c_MIN hw hEL) rfl (by simp) rfl (lenOf pd_12 rfl) rfl (W := 4) rfl (by first | decide | (dsimp only; omega)) (by first | decide | (dsimp only; omega)) (by first | decide | (dsimp only; omega)) (by first | decide | (dsimp only; omega)) ?_
  rintro _ _ _ ⟨rfl, rfl, rfl⟩
  have hmin : (if Int32.ofNat (b - a) < Int32.ofNat (n - a) then Int32.ofNat (b - a) else Int32.ofNat (n - a)) = Int32.ofNat (b - a) := by
    split
    · rfl
    · rename_i q; rw [n_lt (by omega) (by omega)] at q; rw [show n - a = b - a by omega]
  rw [hmin]
  refine OWp.arraycopy hk d_CRB_27 (pc' := 30) rfl (hw _ (List.mem_of_getElem? (i := 113) rfl)) (hw _ (List.mem_of_getElem? (i := 116) rfl)) (hw _ (List.mem_of_getElem? (i := 114) rfl)) (hw _ (List.mem_of_getElem? (i := 115) rfl)) (by simp) (sp := a) (dp := 0) (nn := b - a) hA (i := 0) rfl hD rfl (by omega) (by omega) rfl (by first | decide | (dsimp only; omega)) (W := 0) rfl (by first | decide | (dsimp only; omega)) ?_
  intro cd2 hD2
  simp only [List.nil_append, List.cons_append, List.set_cons_zero]
  refine OWp.aload hk d_CRB_30 (pc' := 32) rfl rfl rfl ?_
  refine OWp.freeze ?_
  exact OWp.retA hk rfl rfl rfl d_CRB_32 ⟨rfl, d, cd2, rfl, rfl, hD2.congr fun j hj => by rw [if_pos ⟨Nat.zero_le _, by omega⟩, Nat.sub_zero]⟩ (List.Sublist.refl _) (fun _ h => h) (by decide) (by decide)
theorem c_COR (hw : ∀ d ∈ tables_1, d.before a0 Z = true) (hEL : EW Z a0 EL) (hA : AC Z ct .byte (tab n f)) (hab : a ≤ b) (hbn : b ≤ n) (hcap : b - a ≤ kCap) (hne : ¬ (a = 0 ∧ b = n)) :
    OCon l Z EL (⟨"java/util/Arrays", "copyOfRange", "([BII)[B"⟩ : MethodName) jdk_65_method_132_code 3 (some (.array .byte)) [] ({ frames := 2, cells := 1, slots := kCap, locals := 34 } : Room) #[.ref t, .int (Int32.ofNat a), .int (Int32.ofNat b)] [] [(t, ct)] (fun v M N => M = [] ∧ ∃ u cu, v = some (.ref u) ∧ N = [(u, cu)] ∧ AC Z cu .byte (tab (b - a) fun j => f (a + j))) := by
  have hn : n < 2147483648 := by have := hA.2.2.2.1; rwa [tab_len] at this
  refine OCon.of_wp (L0 := [.val (.ref t), .val (.int (Int32.ofNat a)), .val (.int (Int32.ofNat b))]) pn_COR hEL (fun m => by first | (simp [entryFrame, mkF, argsToLocals, Value.category]; done) | rfl) ?_
  intro p e s m below meth c hk
  have tail : OWp p l e ({ frames := 2, cells := 1, slots := kCap, locals := 34 } : Room) s m #[.ref t, .int (Int32.ofNat a), .int (Int32.ofNat b)] below meth c "java/util/Arrays" Z EL (dom []) [(t, ct)] (fun v M N => M = [] ∧ ∃ u cu, v = some (.ref u) ∧ N = [(u, cu)] ∧ AC Z cu .byte (tab (b - a) fun j => f (a + j))) [] [] 0 0 10 [.val (.ref t), .val (.int (Int32.ofNat a)), .val (.int (Int32.ofNat b))] [] := by
    refine OWp.aload_n hk d_COR_10 (pc' := 11) rfl rfl rfl ?_
    refine OWp.iload_n hk d_COR_11 (pc' := 12) rfl rfl ?_
    refine OWp.iload_n hk d_COR_12 (pc' := 13) rfl rfl ?_
    refine OWp.callS hk d_COR_13 (pc' := 16) rfl (hw _ (List.mem_of_getElem? (i := 168) rfl)) (hw _ (List.mem_of_getElem? (i := 169) rfl)) (hw _ (List.mem_of_getElem? (i := 108) rfl)) (hw _ (List.mem_of_getElem? (i := 170) rfl)) (by decide) (c_CRB hw hEL hA hab hbn hcap) rfl (by simp) rfl (lenOf pd_13 rfl) rfl (W := 0) rfl (by first | decide | (dsimp only; omega)) (by first | decide | (dsimp only; omega)) (by first | decide | (dsimp only; omega)) (by first | decide | (dsimp only; omega)) ?_
    rintro _ _ _ ⟨rfl, u, cu, rfl, rfl, hU⟩
    exact OWp.retA hk rfl rfl rfl d_COR_16 ⟨rfl, u, cu, rfl, rfl, hU⟩ (List.Sublist.refl _) (fun _ h => by simpa using h) (by decide) (by decide)
  refine OWp.iload_n hk d_COR_0 (pc' := 1) rfl rfl ?_
  by_cases h0 : a = 0
  · refine OWp.ifNo hk d_COR_1 (XT.i0_ne_f (by rw [h0]; rfl)) (pc' := 4) rfl ?_
    refine OWp.iload_n hk d_COR_4 (pc' := 5) rfl rfl ?_
    refine OWp.aload_n hk d_COR_5 (pc' := 6) rfl rfl rfl ?_
    refine OWp.arraylength hk d_COR_6 (pc' := 7) rfl (by simp) hA (z := Int32.ofNat n) (by rw [tab_len]) ?_
    refine OWp.icmpNo hk d_COR_7 (XT.ii_eq_f (by rw [n_inj (by omega) (by omega)]; exact fun q => hne ⟨h0, q⟩)) (pc' := 10) rfl ?_
    exact tail
  · refine OWp.ifYes hk d_COR_1 (XT.i0_ne_t (by rw [show (0 : Int32) = Int32.ofNat 0 from rfl, n_inj (by omega) (by omega)]; exact h0)) (by decide) (pc' := 10) rfl ?_
    exact tail
end StrCOR
theorem d_MAX_0 : decode jdk_29_method_65_code 0 = .ok (.iload_n 0, 1) := by decide +kernel
theorem d_MAX_1 : decode jdk_29_method_65_code 1 = .ok (.iload_n 1, 1) := by decide +kernel
theorem d_MAX_2 : decode jdk_29_method_65_code 2 = .ok (.if_icmp .lt 7, 3) := by decide +kernel
theorem d_MAX_5 : decode jdk_29_method_65_code 5 = .ok (.iload_n 0, 1) := by decide +kernel
theorem d_MAX_6 : decode jdk_29_method_65_code 6 = .ok (.goto 4, 3) := by decide +kernel
theorem d_MAX_9 : decode jdk_29_method_65_code 9 = .ok (.iload_n 1, 1) := by decide +kernel
theorem d_MAX_10 : decode jdk_29_method_65_code 10 = .ok (.ireturn, 1) := by decide +kernel
theorem pn_MAX : plainFor (⟨"java/lang/Math", "max", "(II)I"⟩ : MethodName) = true := by first | exact plainFor_of_name (by first | (simp [plainName, overriddenIn]; done) | decide +kernel) | decide +kernel
section strMax
variable {l : Launch} {Z : State} {a0 : Array Value} {EL : List (String × Nat)} {zc ch a b : Int32} {x t : Addr} {cx ct : Cell} {cs : List Int32} {n : Nat}
theorem c_MAX (hw : ∀ d ∈ tables_1, d.before a0 Z = true) (hEL : EW Z a0 EL) :
    OCon l Z EL (⟨"java/lang/Math", "max", "(II)I"⟩ : MethodName) jdk_29_method_65_code 2 (some .int) [] ({ frames := 0, cells := 0, slots := 0, locals := 0 } : Room) #[.int a, .int b] [] [] (fun v M N => v = some (.int (if a < b then b else a)) ∧ M = [] ∧ N = []) := by
  refine OCon.of_wp (L0 := [.val (.int a), .val (.int b)]) pn_MAX hEL (fun m => by first | (simp [entryFrame, mkF, argsToLocals, Value.category]; done) | rfl) ?_
  intro p e s m below meth c hk
  refine OWp.iload_n hk d_MAX_0 (pc' := 1) rfl rfl ?_
  refine OWp.iload_n hk d_MAX_1 (pc' := 2) rfl rfl ?_
  by_cases h : a < b
  · refine OWp.icmpYes hk d_MAX_2 (XT.ii_lt_t h) (by decide) (pc' := 9) rfl ?_
    refine OWp.iload_n hk d_MAX_9 (pc' := 10) rfl rfl ?_
    exact OWp.retI hk d_MAX_10 ⟨by rw [if_pos h], rfl, rfl⟩ (List.Sublist.refl _) (fun _ h => h) (by decide) (by decide)
  · refine OWp.icmpNo hk d_MAX_2 (XT.ii_lt_f h) (pc' := 5) rfl ?_
    refine OWp.iload_n hk d_MAX_5 (pc' := 6) rfl rfl ?_
    refine OWp.goto hk d_MAX_6 (by decide) (pc' := 10) rfl ?_
    exact OWp.retI hk d_MAX_10 ⟨by rw [if_neg h], rfl, rfl⟩ (List.Sublist.refl _) (fun _ h => h) (by decide) (by decide)
end strMax
theorem d_NLEN_0 : decode jdk_48_method_27_code 0 = .ok (.iload_n 0, 1) := by decide +kernel
theorem d_NLEN_1 : decode jdk_48_method_27_code 1 = .ok (.iload_n 1, 1) := by decide +kernel
theorem d_NLEN_2 : decode jdk_48_method_27_code 2 = .ok (.iload_n 2, 1) := by decide +kernel
theorem d_NLEN_3 : decode jdk_48_method_27_code 3 = .ok (.invokestatic 194, 3) := by decide +kernel
theorem d_NLEN_6 : decode jdk_48_method_27_code 6 = .ok (.iadd, 1) := by decide +kernel
theorem d_NLEN_7 : decode jdk_48_method_27_code 7 = .ok (.istore_n 3, 1) := by decide +kernel
theorem d_NLEN_8 : decode jdk_48_method_27_code 8 = .ok (.iconst 0, 1) := by decide +kernel
theorem d_NLEN_9 : decode jdk_48_method_27_code 9 = .ok (.iload_n 3, 1) := by decide +kernel
theorem d_NLEN_10 : decode jdk_48_method_27_code 10 = .ok (.if_icmp .ge 11, 3) := by decide +kernel
theorem d_NLEN_13 : decode jdk_48_method_27_code 13 = .ok (.iload_n 3, 1) := by decide +kernel
theorem d_NLEN_14 : decode jdk_48_method_27_code 14 = .ok (.ldc 200, 2) := by decide +kernel
theorem d_NLEN_16 : decode jdk_48_method_27_code 16 = .ok (.if_icmp .gt 5, 3) := by decide +kernel
theorem d_NLEN_19 : decode jdk_48_method_27_code 19 = .ok (.iload_n 3, 1) := by decide +kernel
theorem d_NLEN_20 : decode jdk_48_method_27_code 20 = .ok (.ireturn, 1) := by decide +kernel
theorem d_NLEN_21 : decode jdk_48_method_27_code 21 = .ok (.iload_n 0, 1) := by decide +kernel
theorem d_NLEN_22 : decode jdk_48_method_27_code 22 = .ok (.iload_n 1, 1) := by decide +kernel
theorem d_NLEN_23 : decode jdk_48_method_27_code 23 = .ok (.invokestatic 201, 3) := by decide +kernel
theorem d_NLEN_26 : decode jdk_48_method_27_code 26 = .ok (.ireturn, 1) := by decide +kernel
theorem pn_NLEN : plainFor (⟨"jdk/internal/util/ArraysSupport", "newLength", "(III)I"⟩ : MethodName) = true := by first | exact plainFor_of_name (by first | (simp [plainName, overriddenIn]; done) | decide +kernel) | decide +kernel
theorem d_NCAP_0 : decode jdk_68_method_10_code 0 = .ok (.aload_n 0, 1) := by decide +kernel
theorem d_NCAP_1 : decode jdk_68_method_10_code 1 = .ok (.getfield 15, 3) := by decide +kernel
theorem d_NCAP_4 : decode jdk_68_method_10_code 4 = .ok (.arraylength, 1) := by decide +kernel
theorem d_NCAP_5 : decode jdk_68_method_10_code 5 = .ok (.istore_n 2, 1) := by decide +kernel
theorem d_NCAP_6 : decode jdk_68_method_10_code 6 = .ok (.iload_n 1, 1) := by decide +kernel
theorem d_NCAP_7 : decode jdk_68_method_10_code 7 = .ok (.aload_n 0, 1) := by decide +kernel
theorem d_NCAP_8 : decode jdk_68_method_10_code 8 = .ok (.getfield 22, 3) := by decide +kernel
theorem d_NCAP_11 : decode jdk_68_method_10_code 11 = .ok (.ishl, 1) := by decide +kernel
theorem d_NCAP_12 : decode jdk_68_method_10_code 12 = .ok (.istore_n 3, 1) := by decide +kernel
theorem d_NCAP_13 : decode jdk_68_method_10_code 13 = .ok (.iload_n 3, 1) := by decide +kernel
theorem d_NCAP_14 : decode jdk_68_method_10_code 14 = .ok (.iload_n 2, 1) := by decide +kernel
theorem d_NCAP_15 : decode jdk_68_method_10_code 15 = .ok (.isub, 1) := by decide +kernel
theorem d_NCAP_16 : decode jdk_68_method_10_code 16 = .ok (.istore 4, 2) := by decide +kernel
theorem d_NCAP_18 : decode jdk_68_method_10_code 18 = .ok (.iload_n 2, 1) := by decide +kernel
theorem d_NCAP_19 : decode jdk_68_method_10_code 19 = .ok (.iload 4, 2) := by decide +kernel
theorem d_NCAP_21 : decode jdk_68_method_10_code 21 = .ok (.iload_n 2, 1) := by decide +kernel
theorem d_NCAP_22 : decode jdk_68_method_10_code 22 = .ok (.iconst 2, 1) := by decide +kernel
theorem d_NCAP_23 : decode jdk_68_method_10_code 23 = .ok (.aload_n 0, 1) := by decide +kernel
theorem d_NCAP_24 : decode jdk_68_method_10_code 24 = .ok (.getfield 22, 3) := by decide +kernel
theorem d_NCAP_27 : decode jdk_68_method_10_code 27 = .ok (.ishl, 1) := by decide +kernel
theorem d_NCAP_28 : decode jdk_68_method_10_code 28 = .ok (.iadd, 1) := by decide +kernel
theorem d_NCAP_29 : decode jdk_68_method_10_code 29 = .ok (.invokestatic 114, 3) := by decide +kernel
theorem d_NCAP_32 : decode jdk_68_method_10_code 32 = .ok (.istore 5, 2) := by decide +kernel
theorem d_NCAP_34 : decode jdk_68_method_10_code 34 = .ok (.iload 5, 2) := by decide +kernel
theorem d_NCAP_36 : decode jdk_68_method_10_code 36 = .ok (.ldc 39, 2) := by decide +kernel
theorem d_NCAP_38 : decode jdk_68_method_10_code 38 = .ok (.if_icmp .ne 13, 3) := by decide +kernel
theorem d_NCAP_41 : decode jdk_68_method_10_code 41 = .ok (.new 120, 3) := by decide +kernel
theorem d_NCAP_44 : decode jdk_68_method_10_code 44 = .ok (.dup, 1) := by decide +kernel
theorem d_NCAP_45 : decode jdk_68_method_10_code 45 = .ok (.ldc 122, 2) := by decide +kernel
theorem d_NCAP_47 : decode jdk_68_method_10_code 47 = .ok (.invokespecial 124, 3) := by decide +kernel
theorem d_NCAP_50 : decode jdk_68_method_10_code 50 = .ok (.athrow, 1) := by decide +kernel
theorem d_NCAP_51 : decode jdk_68_method_10_code 51 = .ok (.iload 5, 2) := by decide +kernel
theorem d_NCAP_53 : decode jdk_68_method_10_code 53 = .ok (.aload_n 0, 1) := by decide +kernel
theorem d_NCAP_54 : decode jdk_68_method_10_code 54 = .ok (.getfield 22, 3) := by decide +kernel
theorem d_NCAP_57 : decode jdk_68_method_10_code 57 = .ok (.ishr, 1) := by decide +kernel
theorem d_NCAP_58 : decode jdk_68_method_10_code 58 = .ok (.ireturn, 1) := by decide +kernel
theorem pn_NCAP : plainFor (⟨"java/lang/AbstractStringBuilder", "newCapacity", "(I)I"⟩ : MethodName) = true := by first | exact plainFor_of_name (by first | (simp [plainName, overriddenIn]; done) | decide +kernel) | decide +kernel
theorem d_CPO_0 : decode jdk_65_method_121_code 0 = .ok (.iload_n 1, 1) := by decide +kernel
theorem d_CPO_1 : decode jdk_65_method_121_code 1 = .ok (.aload_n 0, 1) := by decide +kernel
theorem d_CPO_2 : decode jdk_65_method_121_code 2 = .ok (.arraylength, 1) := by decide +kernel
theorem d_CPO_3 : decode jdk_65_method_121_code 3 = .ok (.if_icmp .ne 11, 3) := by decide +kernel
theorem d_CPO_6 : decode jdk_65_method_121_code 6 = .ok (.aload_n 0, 1) := by decide +kernel
theorem d_CPO_7 : decode jdk_65_method_121_code 7 = .ok (.invokevirtual 310, 3) := by decide +kernel
theorem d_CPO_10 : decode jdk_65_method_121_code 10 = .ok (.checkcast 311, 3) := by decide +kernel
theorem d_CPO_13 : decode jdk_65_method_121_code 13 = .ok (.areturn, 1) := by decide +kernel
theorem d_CPO_14 : decode jdk_65_method_121_code 14 = .ok (.iload_n 1, 1) := by decide +kernel
theorem d_CPO_15 : decode jdk_65_method_121_code 15 = .ok (.newarray .byte, 2) := by decide +kernel
theorem d_CPO_17 : decode jdk_65_method_121_code 17 = .ok (.astore_n 2, 1) := by decide +kernel
theorem d_CPO_18 : decode jdk_65_method_121_code 18 = .ok (.aload_n 0, 1) := by decide +kernel
theorem d_CPO_19 : decode jdk_65_method_121_code 19 = .ok (.iconst 0, 1) := by decide +kernel
theorem d_CPO_20 : decode jdk_65_method_121_code 20 = .ok (.aload_n 2, 1) := by decide +kernel
theorem d_CPO_21 : decode jdk_65_method_121_code 21 = .ok (.iconst 0, 1) := by decide +kernel
theorem d_CPO_22 : decode jdk_65_method_121_code 22 = .ok (.aload_n 0, 1) := by decide +kernel
theorem d_CPO_23 : decode jdk_65_method_121_code 23 = .ok (.arraylength, 1) := by decide +kernel
theorem d_CPO_24 : decode jdk_65_method_121_code 24 = .ok (.iload_n 1, 1) := by decide +kernel
theorem d_CPO_25 : decode jdk_65_method_121_code 25 = .ok (.invokestatic 304, 3) := by decide +kernel
theorem d_CPO_28 : decode jdk_65_method_121_code 28 = .ok (.invokestatic 150, 3) := by decide +kernel
theorem d_CPO_31 : decode jdk_65_method_121_code 31 = .ok (.aload_n 2, 1) := by decide +kernel
theorem d_CPO_32 : decode jdk_65_method_121_code 32 = .ok (.areturn, 1) := by decide +kernel
theorem pn_CPO : plainFor (⟨"java/util/Arrays", "copyOf", "([BI)[B"⟩ : MethodName) = true := by first | exact plainFor_of_name (by first | (simp [plainName, overriddenIn]; done) | decide +kernel) | decide +kernel
theorem d_ECI_0 : decode jdk_68_method_9_code 0 = .ok (.aload_n 0, 1) := by decide +kernel
theorem d_ECI_1 : decode jdk_68_method_9_code 1 = .ok (.getfield 15, 3) := by decide +kernel
theorem d_ECI_4 : decode jdk_68_method_9_code 4 = .ok (.arraylength, 1) := by decide +kernel
theorem d_ECI_5 : decode jdk_68_method_9_code 5 = .ok (.aload_n 0, 1) := by decide +kernel
theorem d_ECI_6 : decode jdk_68_method_9_code 6 = .ok (.getfield 22, 3) := by decide +kernel
theorem d_ECI_9 : decode jdk_68_method_9_code 9 = .ok (.ishr, 1) := by decide +kernel
theorem d_ECI_10 : decode jdk_68_method_9_code 10 = .ok (.istore_n 2, 1) := by decide +kernel
theorem d_ECI_11 : decode jdk_68_method_9_code 11 = .ok (.iload_n 1, 1) := by decide +kernel
theorem d_ECI_12 : decode jdk_68_method_9_code 12 = .ok (.iload_n 2, 1) := by decide +kernel
theorem d_ECI_13 : decode jdk_68_method_9_code 13 = .ok (.isub, 1) := by decide +kernel
theorem d_ECI_14 : decode jdk_68_method_9_code 14 = .ok (.ifCond .le 24, 3) := by decide +kernel
theorem d_ECI_17 : decode jdk_68_method_9_code 17 = .ok (.aload_n 0, 1) := by decide +kernel
theorem d_ECI_18 : decode jdk_68_method_9_code 18 = .ok (.aload_n 0, 1) := by decide +kernel
theorem d_ECI_19 : decode jdk_68_method_9_code 19 = .ok (.getfield 15, 3) := by decide +kernel
theorem d_ECI_22 : decode jdk_68_method_9_code 22 = .ok (.aload_n 0, 1) := by decide +kernel
theorem d_ECI_23 : decode jdk_68_method_9_code 23 = .ok (.iload_n 1, 1) := by decide +kernel
theorem d_ECI_24 : decode jdk_68_method_9_code 24 = .ok (.invokevirtual 104, 3) := by decide +kernel
theorem d_ECI_27 : decode jdk_68_method_9_code 27 = .ok (.aload_n 0, 1) := by decide +kernel
theorem d_ECI_28 : decode jdk_68_method_9_code 28 = .ok (.getfield 22, 3) := by decide +kernel
theorem d_ECI_31 : decode jdk_68_method_9_code 31 = .ok (.ishl, 1) := by decide +kernel
theorem d_ECI_32 : decode jdk_68_method_9_code 32 = .ok (.invokestatic 108, 3) := by decide +kernel
theorem d_ECI_35 : decode jdk_68_method_9_code 35 = .ok (.putfield 15, 3) := by decide +kernel
theorem d_ECI_38 : decode jdk_68_method_9_code 38 = .ok (.return_, 1) := by decide +kernel
theorem pn_ECI : plainFor (⟨"java/lang/AbstractStringBuilder", "ensureCapacityInternal", "(I)V"⟩ : MethodName) = true := by first | exact plainFor_of_name (by first | (simp [plainName, overriddenIn]; done) | decide +kernel) | decide +kernel
section StrSB
variable {l : Launch} {Z : State} {a0 : Array Value} {EL : List (String × Nat)} {zc cd : Int32} {x t : Addr} {csb ct : Cell} {a b c n w cap mn cnt : Nat} {f : Nat → Value}
theorem c_NLEN (hw : ∀ d ∈ tables_1, d.before a0 Z = true) (hEL : EW Z a0 EL) (ha : a < 100000) (hb : b < 100000) (hc : c < 100000) (h0 : 0 < a + b) :
    OCon l Z EL (⟨"jdk/internal/util/ArraysSupport", "newLength", "(III)I"⟩ : MethodName) jdk_48_method_27_code 4 (some .int) [] ({ frames := 1, cells := 0, slots := 0, locals := 14 } : Room) #[.int (Int32.ofNat a), .int (Int32.ofNat b), .int (Int32.ofNat c)] [] [] (fun v M N => v = some (.int (Int32.ofNat (a + if b < c then c else b))) ∧ M = [] ∧ N = []) := by
  refine OCon.of_wp (L0 := [.val (.int (Int32.ofNat a)), .val (.int (Int32.ofNat b)), .val (.int (Int32.ofNat c)), .unset]) pn_NLEN hEL (fun m => by first | (simp [entryFrame, mkF, argsToLocals, Value.category]; done) | rfl) ?_
  intro p e s m below meth c' hk
  have hlt : (if b < c then c else b) < 100000 := by split <;> omega
  have hpos : 0 < a + (if b < c then c else b) := by split <;> omega
  refine OWp.iload_n hk d_NLEN_0 (pc' := 1) rfl rfl ?_
  refine OWp.iload_n hk d_NLEN_1 (pc' := 2) rfl rfl ?_
  refine OWp.iload_n hk d_NLEN_2 (pc' := 3) rfl rfl ?_
  refine OWp.callS hk d_NLEN_3 (pc' := 6) rfl (hw _ (List.mem_of_getElem? (i := 100) rfl)) (hw _ (List.mem_of_getElem? (i := 101) rfl)) (hw _ (List.mem_of_getElem? (i := 102) rfl)) (hw _ (List.mem_of_getElem? (i := 103) rfl)) (by decide) (c_MAX hw hEL) rfl (by simp) rfl (lenOf pd_12 rfl) rfl (W := 1) rfl (by first | decide | (dsimp only; omega)) (by first | decide | (dsimp only; omega)) (by first | decide | (dsimp only; omega)) (by first | decide | (dsimp only; omega)) ?_
  rintro _ _ _ ⟨rfl, rfl, rfl⟩
  rw [max_n (by omega) (by omega)]
  refine OWp.iadd hk d_NLEN_6 (pc' := 7) rfl ?_
  rw [n_add]
  refine OWp.istore_n hk d_NLEN_7 (pc' := 8) rfl (kn := 3) rfl rfl (by simp only [List.set_cons_zero, List.set_cons_succ]; rfl) ?_
  refine OWp.iconst hk d_NLEN_8 (pc' := 9) rfl (z := 0) rfl ?_
  refine OWp.iload_n hk d_NLEN_9 (pc' := 10) rfl rfl ?_
  refine OWp.icmpNo hk d_NLEN_10 (XT.ii_ge_f ((n_lt (show 0 < 2147483648 by omega) (by omega)).mpr hpos)) (pc' := 13) rfl ?_
  refine OWp.iload_n hk d_NLEN_13 (pc' := 14) rfl rfl ?_
  refine OWp.ldcI hk d_NLEN_14 (pc' := 16) rfl (hw _ (List.mem_of_getElem? (i := 104) rfl)) ?_
  refine OWp.icmpNo hk d_NLEN_16 (XT.ii_gt_f (by rw [show (2147483639 : Int32) = Int32.ofNat 2147483639 from rfl, n_lt (by omega) (by omega)]; omega)) (pc' := 19) rfl ?_
  refine OWp.iload_n hk d_NLEN_19 (pc' := 20) rfl rfl ?_
  exact OWp.retI hk d_NLEN_20 ⟨rfl, rfl, rfl⟩ (List.Sublist.refl _) (fun _ h => h) (by decide) (by decide)
theorem c_NCAP (hw : ∀ d ∈ tables_1, d.before a0 Z = true) (hEL : EW Z a0 EL) (hcw : CW cd w) (hB : BC Z csb t cd cnt) (hA : AC Z ct .byte (tab (w * cap) f)) (hc : cap ≤ 4000) (hm : mn ≤ 4000) (hlt : cap < mn) :
    OCon l Z EL (⟨"java/lang/AbstractStringBuilder", "newCapacity", "(I)I"⟩ : MethodName) jdk_68_method_10_code 6 (some .int) [] ({ frames := 2, cells := 0, slots := 0, locals := 29 } : Room) #[.ref x, .int (Int32.ofNat mn)] [] [(x, csb), (t, ct)] (fun v M N => v = some (.int (Int32.ofNat (grow cap mn))) ∧ M = [] ∧ N = []) := by
  refine OCon.of_wp (L0 := [.val (.ref x), .val (.int (Int32.ofNat mn)), .unset, .unset, .unset, .unset]) pn_NCAP hEL (fun m => by first | (simp [entryFrame, mkF, argsToLocals, Value.category]; done) | rfl) ?_
  intro p e s m below meth c' hk
  have hw12 := hcw.w12
  have e2 : (2 : Int32) <<< (cd &&& 31) = Int32.ofNat (w * 2) := hcw.shl (k := 2) (by decide)
  have hwc : w * cap ≤ 8000 := by rcases hw12 with rfl | rfl <;> omega
  have hwm : w * mn ≤ 8000 := by rcases hw12 with rfl | rfl <;> omega
  have hp0 : 0 < w * mn := by rcases hw12 with rfl | rfl <;> omega
  have hle : w * cap ≤ w * mn := Nat.mul_le_mul_left _ (by omega)
  have hg : w * cap + (if w * mn - w * cap < w * cap + w * 2 then w * cap + w * 2 else w * mn - w * cap) = w * grow cap mn := by
    have hgq : grow cap mn = cap + if mn - cap < cap + 2 then cap + 2 else mn - cap := if_neg (by omega)
    rw [hgq]
    rcases hw12 with rfl | rfl
    · simp only [Nat.one_mul]
    · by_cases q : mn - cap < cap + 2
      · rw [if_pos q, if_pos (by omega)]; omega
      · rw [if_neg q, if_neg (by omega)]; omega
  have hgr : grow cap mn ≤ 100000 := by unfold grow; split <;> (try split) <;> omega
  have hwg : w * grow cap mn < 2147483647 := by rcases hw12 with rfl | rfl <;> omega
  refine OWp.aload_n hk d_NCAP_0 (pc' := 1) rfl rfl rfl ?_
  refine OWp.getfield hk d_NCAP_1 (pc' := 4) rfl (hw _ (List.mem_of_getElem? (i := 59) rfl)) (by simp) hB.2.1 ?_
  refine OWp.arraylength hk d_NCAP_4 (pc' := 5) rfl (by simp) hA (z := Int32.ofNat (w * cap)) (by rw [tab_len]) ?_
  refine OWp.istore_n hk d_NCAP_5 (pc' := 6) rfl (kn := 2) rfl rfl (by simp only [List.set_cons_zero, List.set_cons_succ]; rfl) ?_
  refine OWp.iload_n hk d_NCAP_6 (pc' := 7) rfl rfl ?_
  refine OWp.aload_n hk d_NCAP_7 (pc' := 8) rfl rfl rfl ?_
  refine OWp.getfield hk d_NCAP_8 (pc' := 11) rfl (hw _ (List.mem_of_getElem? (i := 61) rfl)) (by simp) hB.2.2.1 ?_
  refine OWp.ishl hk d_NCAP_11 (pc' := 12) rfl ?_
  rw [hcw.shl (by omega)]
  refine OWp.istore_n hk d_NCAP_12 (pc' := 13) rfl (kn := 3) rfl rfl (by simp only [List.set_cons_zero, List.set_cons_succ]; rfl) ?_
  refine OWp.iload_n hk d_NCAP_13 (pc' := 14) rfl rfl ?_
  refine OWp.iload_n hk d_NCAP_14 (pc' := 15) rfl rfl ?_
  refine OWp.isub hk d_NCAP_15 (pc' := 16) rfl ?_
  rw [n_sub hle (by omega)]
  refine OWp.istore hk d_NCAP_16 (pc' := 18) rfl rfl (by simp only [List.set_cons_zero, List.set_cons_succ]; rfl) ?_
  refine OWp.iload_n hk d_NCAP_18 (pc' := 19) rfl rfl ?_
  refine OWp.iload hk d_NCAP_19 (pc' := 21) rfl rfl ?_
  refine OWp.iload_n hk d_NCAP_21 (pc' := 22) rfl rfl ?_
  refine OWp.iconst hk d_NCAP_22 (pc' := 23) rfl (z := 2) rfl ?_
  refine OWp.aload_n hk d_NCAP_23 (pc' := 24) rfl rfl rfl ?_
  refine OWp.getfield hk d_NCAP_24 (pc' := 27) rfl (hw _ (List.mem_of_getElem? (i := 61) rfl)) (by simp) hB.2.2.1 ?_
  refine OWp.ishl hk d_NCAP_27 (pc' := 28) rfl ?_
  rw [e2]
  refine OWp.iadd hk d_NCAP_28 (pc' := 29) rfl ?_
  rw [n_add]
  refine OWp.callS hk d_NCAP_29 (pc' := 32) rfl (hw _ (List.mem_of_getElem? (i := 96) rfl)) (hw _ (List.mem_of_getElem? (i := 97) rfl)) (hw _ (List.mem_of_getElem? (i := 98) rfl)) (hw _ (List.mem_of_getElem? (i := 99) rfl)) (by decide) (c_NLEN hw hEL (by omega) (by omega) (by omega) (by omega)) rfl (by simp) rfl (lenOf pd_14 rfl) rfl (W := 0) rfl (by first | decide | (dsimp only; omega)) (by first | decide | (dsimp only; omega)) (by first | decide | (dsimp only; omega)) (by first | decide | (dsimp only; omega)) ?_
  rintro _ _ _ ⟨rfl, rfl, rfl⟩
  rw [hg]
  refine OWp.istore hk d_NCAP_32 (pc' := 34) rfl rfl (by simp only [List.set_cons_zero, List.set_cons_succ]; rfl) ?_
  refine OWp.iload hk d_NCAP_34 (pc' := 36) rfl rfl ?_
  refine OWp.ldcI hk d_NCAP_36 (pc' := 38) rfl (hw _ (List.mem_of_getElem? (i := 105) rfl)) ?_
  refine OWp.icmpYes hk d_NCAP_38 (XT.ii_ne_t (by rw [show (2147483647 : Int32) = Int32.ofNat 2147483647 from rfl, n_inj (by omega) (by omega)]; omega)) (by decide) (pc' := 51) rfl ?_
  refine OWp.iload hk d_NCAP_51 (pc' := 53) rfl rfl ?_
  refine OWp.aload_n hk d_NCAP_53 (pc' := 54) rfl rfl rfl ?_
  refine OWp.getfield hk d_NCAP_54 (pc' := 57) rfl (hw _ (List.mem_of_getElem? (i := 61) rfl)) (by simp) hB.2.2.1 ?_
  refine OWp.ishr hk d_NCAP_57 (pc' := 58) rfl ?_
  rw [hcw.shr hgr]
  exact OWp.retI hk d_NCAP_58 ⟨rfl, rfl, rfl⟩ (List.Sublist.refl _) (fun _ h => h) (by decide) (by decide)
theorem c_CPO (hw : ∀ d ∈ tables_1, d.before a0 Z = true) (hEL : EW Z a0 EL) (hA : AC Z ct .byte (tab n f)) (hlt : n < b) (hcap : b ≤ kSB) :
    OCon l Z EL (⟨"java/util/Arrays", "copyOf", "([BI)[B"⟩ : MethodName) jdk_65_method_121_code 3 (some (.array .byte)) [] ({ frames := 1, cells := 1, slots := kSB, locals := 18 } : Room) #[.ref t, .int (Int32.ofNat b)] [] [(t, ct)] (fun v M N => N = [] ∧ ∃ u cu, v = some (.ref u) ∧ M = [(u, cu)] ∧ AC Z cu .byte (tab b fun j => if j < n then f j else .int 0)) := by
  have hcap' : kSB ≤ 4000 := Nat.le_of_ble_eq_true rfl
  refine OCon.of_wp (L0 := [.val (.ref t), .val (.int (Int32.ofNat b)), .unset]) pn_CPO hEL (fun m => by first | (simp [entryFrame, mkF, argsToLocals, Value.category]; done) | rfl) ?_
  intro p e s m below meth c hk
  refine OWp.iload_n hk d_CPO_0 (pc' := 1) rfl rfl ?_
  refine OWp.aload_n hk d_CPO_1 (pc' := 2) rfl rfl rfl ?_
  refine OWp.arraylength hk d_CPO_2 (pc' := 3) rfl (by simp) hA (z := Int32.ofNat n) (by rw [tab_len]) ?_
  refine OWp.icmpYes hk d_CPO_3 (XT.ii_ne_t (by rw [n_inj (by omega) (by omega)]; omega)) (by decide) (pc' := 14) rfl ?_
  refine OWp.iload_n hk d_CPO_14 (pc' := 15) rfl rfl ?_
  refine OWp.newarray hk d_CPO_15 (pc' := 17) rfl (hw _ (List.mem_of_getElem? (i := 24) rfl)) (n_nn (by omega)) (cap := kSB) (by rw [n_nat (by omega)]; exact hcap) (by decide) (by decide) (by decide) (vs := tab b fun _ => .int 0) (by rw [n_nat (by omega)]; exact tab_rep _ _) ?_
  intro d cd hD
  refine OWp.astore_n hk d_CPO_17 (pc' := 18) rfl (kn := 2) rfl rfl rfl (by simp only [List.set_cons_zero, List.set_cons_succ]; rfl) ?_
  refine OWp.aload_n hk d_CPO_18 (pc' := 19) rfl rfl rfl ?_
  refine OWp.iconst hk d_CPO_19 (pc' := 20) rfl (z := 0) rfl ?_
  refine OWp.aload_n hk d_CPO_20 (pc' := 21) rfl rfl rfl ?_
  refine OWp.iconst hk d_CPO_21 (pc' := 22) rfl (z := 0) rfl ?_
  refine OWp.aload_n hk d_CPO_22 (pc' := 23) rfl rfl rfl ?_
  refine OWp.arraylength hk d_CPO_23 (pc' := 24) rfl (by simp) hA (z := Int32.ofNat n) (by rw [tab_len]) ?_
  refine OWp.iload_n hk d_CPO_24 (pc' := 25) rfl rfl ?_
  refine OWp.callS hk d_CPO_25 (pc' := 28) rfl (hw _ (List.mem_of_getElem? (i := 110) rfl)) (hw _ (List.mem_of_getElem? (i := 111) rfl)) (hw _ (List.mem_of_getElem? (i := 102) rfl)) (hw _ (List.mem_of_getElem? (i := 112) rfl)) (by decide) (c_MIN hw hEL) rfl (by simp) rfl (lenOf pd_12 rfl) rfl (W := 4) rfl (by first | decide | (dsimp only; omega)) (by first | decide | (dsimp only; omega)) (by first | decide | (dsimp only; omega)) (by first | decide | (dsimp only; omega)) ?_
  rintro _ _ _ ⟨rfl, rfl, rfl⟩
  rw [if_neg (show ¬ Int32.ofNat b < Int32.ofNat n by rw [n_lt (by omega) (by omega)]; omega)]
  refine OWp.arraycopy hk d_CPO_28 (pc' := 31) rfl (hw _ (List.mem_of_getElem? (i := 113) rfl)) (hw _ (List.mem_of_getElem? (i := 116) rfl)) (hw _ (List.mem_of_getElem? (i := 114) rfl)) (hw _ (List.mem_of_getElem? (i := 115) rfl)) (by simp) (sp := 0) (dp := 0) (nn := n) hA (i := 0) rfl hD rfl (by omega) (by omega) rfl (by first | decide | (dsimp only; omega)) (W := 0) rfl (by first | decide | (dsimp only; omega)) ?_
  intro cd2 hD2
  simp only [List.nil_append, List.cons_append, List.set_cons_zero]
  refine OWp.aload_n hk d_CPO_31 (pc' := 32) rfl rfl rfl ?_
  exact OWp.retA hk rfl rfl rfl d_CPO_32 ⟨rfl, d, cd2, rfl, rfl, hD2.congr fun j hj => by
    by_cases q : j < n
    · rw [if_pos q, if_pos ⟨Nat.zero_le _, by omega⟩, Nat.zero_add, Nat.sub_zero]
    · rw [if_neg q, if_neg (by omega)]⟩ (List.Sublist.refl _) (fun _ h => h) (by decide) (by decide)
theorem c_ECI (hw : ∀ d ∈ tables_1, d.before a0 Z = true) (hEL : EW Z a0 EL) (hcw : CW cd w) (hB : BC Z csb t cd cnt) (hA : AC Z ct .byte (tab (w * cap) f)) (hc : cap ≤ 2000) (hm : mn ≤ 4000) (hcap : w * grow cap mn ≤ kSB) :
    OCon l Z EL (⟨"java/lang/AbstractStringBuilder", "ensureCapacityInternal", "(I)V"⟩ : MethodName) jdk_68_method_9_code 3 none [] ({ frames := 3, cells := 1, slots := kSB, locals := 48 } : Room) #[.ref x, .int (Int32.ofNat mn)] [(x, csb), (t, ct)] []
      (fun v M N => v = none ∧ N = [] ∧ ∃ csb' t' ct' f', M = [(x, csb'), (t', ct')] ∧ BC Z csb' t' cd cnt ∧ AC Z ct' .byte (tab (w * grow cap mn) f') ∧ ∀ j, j < w * cap → f' j = f j) := by
  refine OCon.of_wp (L0 := [.val (.ref x), .val (.int (Int32.ofNat mn)), .unset]) pn_ECI hEL (fun m => by first | (simp [entryFrame, mkF, argsToLocals, Value.category]; done) | rfl) ?_
  intro p e s m below meth c' hk
  obtain ⟨hE, F_value, F_coder, F_count⟩ := hB
  have hw12 := hcw.w12
  refine OWp.aload_n hk d_ECI_0 (pc' := 1) rfl rfl rfl ?_
  refine OWp.getfield hk d_ECI_1 (pc' := 4) rfl (hw _ (List.mem_of_getElem? (i := 59) rfl)) (by simp) F_value ?_
  refine OWp.arraylength hk d_ECI_4 (pc' := 5) rfl (by simp) hA (z := Int32.ofNat (w * cap)) (by rw [tab_len]) ?_
  refine OWp.aload_n hk d_ECI_5 (pc' := 6) rfl rfl rfl ?_
  refine OWp.getfield hk d_ECI_6 (pc' := 9) rfl (hw _ (List.mem_of_getElem? (i := 61) rfl)) (by simp) F_coder ?_
  refine OWp.ishr hk d_ECI_9 (pc' := 10) rfl ?_
  rw [hcw.shr (by omega)]
  refine OWp.istore_n hk d_ECI_10 (pc' := 11) rfl (kn := 2) rfl rfl (by simp only [List.set_cons_zero, List.set_cons_succ]; rfl) ?_
  refine OWp.iload_n hk d_ECI_11 (pc' := 12) rfl rfl ?_
  refine OWp.iload_n hk d_ECI_12 (pc' := 13) rfl rfl ?_
  refine OWp.isub hk d_ECI_13 (pc' := 14) rfl ?_
  by_cases h : cap < mn
  · refine OWp.ifNo hk d_ECI_14 (XT.i0_le_f ((sub_pos (by omega) (by omega)).mpr h)) (pc' := 17) rfl ?_
    have hlt : cap < grow cap mn := Nat.lt_of_lt_of_le h (grow_ge _ _)
    have hgr : grow cap mn ≤ 100000 := by rcases hw12 with rfl | rfl <;> (have : kSB ≤ 4000 := Nat.le_of_ble_eq_true rfl; omega)
    refine OWp.aload_n hk d_ECI_17 (pc' := 18) rfl rfl rfl ?_
    refine OWp.aload_n hk d_ECI_18 (pc' := 19) rfl rfl rfl ?_
    refine OWp.getfield hk d_ECI_19 (pc' := 22) rfl (hw _ (List.mem_of_getElem? (i := 59) rfl)) (by simp) F_value ?_
    refine OWp.aload_n hk d_ECI_22 (pc' := 23) rfl rfl rfl ?_
    refine OWp.iload_n hk d_ECI_23 (pc' := 24) rfl rfl ?_
    refine OWp.callP hk d_ECI_24 (pc' := 27) rfl (hw _ (List.mem_of_getElem? (i := 91) rfl)) (hw _ (List.mem_of_getElem? (i := 93) rfl)) (hw _ (List.mem_of_getElem? (i := 94) rfl)) (hw _ (List.mem_of_getElem? (i := 92) rfl)) (hw _ (List.mem_of_getElem? (i := 55) rfl)) (hw _ (List.mem_of_getElem? (i := 95) rfl)) (by decide) (by simp) hE (c_NCAP hw hEL hcw ⟨hE, F_value, F_coder, F_count⟩ hA (by omega) hm h) rfl (by simp) rfl (lenOf pd_1 rfl) rfl (W := 2) rfl (by first | decide | (dsimp only; omega)) (by first | decide | (dsimp only; omega)) (by first | decide | (dsimp only; omega)) (by first | decide | (dsimp only; omega)) ?_
    rintro _ _ _ ⟨rfl, rfl, rfl⟩
    refine OWp.aload_n hk d_ECI_27 (pc' := 28) rfl rfl rfl ?_
    refine OWp.getfield hk d_ECI_28 (pc' := 31) rfl (hw _ (List.mem_of_getElem? (i := 61) rfl)) (by simp) F_coder ?_
    refine OWp.ishl hk d_ECI_31 (pc' := 32) rfl ?_
    rw [hcw.shl hgr]
    refine OWp.callS hk d_ECI_32 (pc' := 35) rfl (hw _ (List.mem_of_getElem? (i := 106) rfl)) (hw _ (List.mem_of_getElem? (i := 107) rfl)) (hw _ (List.mem_of_getElem? (i := 108) rfl)) (hw _ (List.mem_of_getElem? (i := 109) rfl)) (by decide) (c_CPO (n := w * cap) (b := w * grow cap mn) hw hEL hA (by rcases hw12 with rfl | rfl <;> omega) hcap) rfl (by simp) rfl (lenOf pd_15 rfl) rfl (W := 1) rfl (by first | decide | (dsimp only; omega)) (by first | decide | (dsimp only; omega)) (by first | decide | (dsimp only; omega)) (by first | decide | (dsimp only; omega)) ?_
    rintro _ _ _ ⟨rfl, u, cu, rfl, rfl, hU⟩
    refine OWp.perm (M' := [(x, csb), (u, cu), (t, ct)]) (List.Perm.swap ..) ?_
    refine OWp.putfield hk d_ECI_35 (pc' := 38) rfl (hw _ (List.mem_of_getElem? (i := 59) rfl)) (i := 0) rfl F_value hE (Or.inl (hw _ (List.mem_of_getElem? (i := 60) rfl))) (hw _ (List.mem_of_getElem? (i := 46) rfl)) (ty := (.array .byte)) (by decide) rfl rfl ?_
    intro ck hE F_value hK
    have F_coder := hK F_coder (slot_ne (Or.inl (hw _ (List.mem_of_getElem? (i := 62) rfl))) (Or.inl (hw _ (List.mem_of_getElem? (i := 60) rfl))) (by decide) (t := .byte) (by decide) (t' := (.array .byte)) (by decide))
    have F_count := hK F_count (slot_ne (Or.inl (hw _ (List.mem_of_getElem? (i := 85) rfl))) (Or.inl (hw _ (List.mem_of_getElem? (i := 60) rfl))) (by decide) (t := .int) (by decide) (t' := (.array .byte)) (by decide))
    simp only [List.nil_append, List.cons_append, List.set_cons_zero]
    exact OWp.ret0 hk d_ECI_38 (M' := [(x, ck), (u, cu)]) (N' := []) ⟨rfl, rfl, ck, u, cu, _, rfl, ⟨hE, F_value, F_coder, F_count⟩, hU, fun j hj => if_pos hj⟩ (List.Sublist.cons_cons _ (List.Sublist.cons_cons _ (List.nil_sublist _))) (by simp) (by decide) (by decide)
  · refine OWp.ifYes hk d_ECI_14 (XT.i0_le_t (by rw [sub_pos (by omega) (by omega)]; exact h)) (by decide) (pc' := 38) rfl ?_
    have hg : grow cap mn = cap := if_pos (by omega)
    exact OWp.ret0 hk d_ECI_38 (M' := [(x, csb), (t, ct)]) (N' := []) ⟨rfl, rfl, csb, t, ct, f, rfl, ⟨hE, F_value, F_coder, F_count⟩, by rw [hg]; exact hA, fun j hj => rfl⟩ (List.Sublist.refl _) (by simp) (by decide) (by decide)
end StrSB
theorem d_INF_0 : decode jdk_68_method_71_code 0 = .ok (.getstatic 18, 3) := by decide +kernel
theorem d_INF_3 : decode jdk_68_method_71_code 3 = .ok (.ifCond .eq 18, 3) := by decide +kernel
theorem d_INF_6 : decode jdk_68_method_71_code 6 = .ok (.aload_n 0, 1) := by decide +kernel
theorem d_INF_7 : decode jdk_68_method_71_code 7 = .ok (.getfield 22, 3) := by decide +kernel
theorem d_INF_10 : decode jdk_68_method_71_code 10 = .ok (.aload_n 1, 1) := by decide +kernel
theorem d_INF_11 : decode jdk_68_method_71_code 11 = .ok (.invokevirtual 40, 3) := by decide +kernel
theorem d_INF_14 : decode jdk_68_method_71_code 14 = .ok (.if_icmp .eq 7, 3) := by decide +kernel
theorem d_INF_17 : decode jdk_68_method_71_code 17 = .ok (.aload_n 0, 1) := by decide +kernel
theorem d_INF_18 : decode jdk_68_method_71_code 18 = .ok (.invokevirtual 195, 3) := by decide +kernel
theorem d_INF_21 : decode jdk_68_method_71_code 21 = .ok (.return_, 1) := by decide +kernel
theorem pn_INF : plainFor (⟨"java/lang/AbstractStringBuilder", "inflateIfNeededFor", "(Ljava/lang/String;)V"⟩ : MethodName) = true := by first | exact plainFor_of_name (by first | (simp [plainName, overriddenIn]; done) | decide +kernel) | decide +kernel
theorem d_GB_0 : decode jdk_42_method_147_code 0 = .ok (.aload_n 0, 1) := by decide +kernel
theorem d_GB_1 : decode jdk_42_method_147_code 1 = .ok (.invokevirtual 335, 3) := by decide +kernel
theorem d_GB_4 : decode jdk_42_method_147_code 4 = .ok (.iload_n 3, 1) := by decide +kernel
theorem d_GB_5 : decode jdk_42_method_147_code 5 = .ok (.if_icmp .ne 23, 3) := by decide +kernel
theorem d_GB_8 : decode jdk_42_method_147_code 8 = .ok (.aload_n 0, 1) := by decide +kernel
theorem d_GB_9 : decode jdk_42_method_147_code 9 = .ok (.getfield 9, 3) := by decide +kernel
theorem d_GB_12 : decode jdk_42_method_147_code 12 = .ok (.iconst 0, 1) := by decide +kernel
theorem d_GB_13 : decode jdk_42_method_147_code 13 = .ok (.aload_n 1, 1) := by decide +kernel
theorem d_GB_14 : decode jdk_42_method_147_code 14 = .ok (.iload_n 2, 1) := by decide +kernel
theorem d_GB_15 : decode jdk_42_method_147_code 15 = .ok (.iload_n 3, 1) := by decide +kernel
theorem d_GB_16 : decode jdk_42_method_147_code 16 = .ok (.ishl, 1) := by decide +kernel
theorem d_GB_17 : decode jdk_42_method_147_code 17 = .ok (.aload_n 0, 1) := by decide +kernel
theorem d_GB_18 : decode jdk_42_method_147_code 18 = .ok (.getfield 9, 3) := by decide +kernel
theorem d_GB_21 : decode jdk_42_method_147_code 21 = .ok (.arraylength, 1) := by decide +kernel
theorem d_GB_22 : decode jdk_42_method_147_code 22 = .ok (.invokestatic 212, 3) := by decide +kernel
theorem d_GB_25 : decode jdk_42_method_147_code 25 = .ok (.goto 18, 3) := by decide +kernel
theorem d_GB_28 : decode jdk_42_method_147_code 28 = .ok (.aload_n 0, 1) := by decide +kernel
theorem d_GB_29 : decode jdk_42_method_147_code 29 = .ok (.getfield 9, 3) := by decide +kernel
theorem d_GB_32 : decode jdk_42_method_147_code 32 = .ok (.iconst 0, 1) := by decide +kernel
theorem d_GB_33 : decode jdk_42_method_147_code 33 = .ok (.aload_n 1, 1) := by decide +kernel
theorem d_GB_34 : decode jdk_42_method_147_code 34 = .ok (.iload_n 2, 1) := by decide +kernel
theorem d_GB_35 : decode jdk_42_method_147_code 35 = .ok (.aload_n 0, 1) := by decide +kernel
theorem d_GB_36 : decode jdk_42_method_147_code 36 = .ok (.getfield 9, 3) := by decide +kernel
theorem d_GB_39 : decode jdk_42_method_147_code 39 = .ok (.arraylength, 1) := by decide +kernel
theorem d_GB_40 : decode jdk_42_method_147_code 40 = .ok (.invokestatic 106, 3) := by decide +kernel
theorem d_GB_43 : decode jdk_42_method_147_code 43 = .ok (.return_, 1) := by decide +kernel
theorem pn_GB : plainFor (⟨"java/lang/String", "getBytes", "([BIB)V"⟩ : MethodName) = true := by first | exact plainFor_of_name (by first | (simp [plainName, overriddenIn]; done) | decide +kernel) | decide +kernel
theorem d_PSA_0 : decode jdk_68_method_73_code 0 = .ok (.aload_n 0, 1) := by decide +kernel
theorem d_PSA_1 : decode jdk_68_method_73_code 1 = .ok (.aload_n 2, 1) := by decide +kernel
theorem d_PSA_2 : decode jdk_68_method_73_code 2 = .ok (.invokevirtual 397, 3) := by decide +kernel
theorem d_PSA_5 : decode jdk_68_method_73_code 5 = .ok (.aload_n 2, 1) := by decide +kernel
theorem d_PSA_6 : decode jdk_68_method_73_code 6 = .ok (.aload_n 0, 1) := by decide +kernel
theorem d_PSA_7 : decode jdk_68_method_73_code 7 = .ok (.getfield 15, 3) := by decide +kernel
theorem d_PSA_10 : decode jdk_68_method_73_code 10 = .ok (.iload_n 1, 1) := by decide +kernel
theorem d_PSA_11 : decode jdk_68_method_73_code 11 = .ok (.aload_n 0, 1) := by decide +kernel
theorem d_PSA_12 : decode jdk_68_method_73_code 12 = .ok (.getfield 22, 3) := by decide +kernel
theorem d_PSA_15 : decode jdk_68_method_73_code 15 = .ok (.invokevirtual 399, 3) := by decide +kernel
theorem d_PSA_18 : decode jdk_68_method_73_code 18 = .ok (.return_, 1) := by decide +kernel
theorem pn_PSA : plainFor (⟨"java/lang/AbstractStringBuilder", "putStringAt", "(ILjava/lang/String;)V"⟩ : MethodName) = true := by first | exact plainFor_of_name (by first | (simp [plainName, overriddenIn]; done) | decide +kernel) | decide +kernel
theorem d_ASP_0 : decode jdk_68_method_22_code 0 = .ok (.aload_n 1, 1) := by decide +kernel
theorem d_ASP_1 : decode jdk_68_method_22_code 1 = .ok (.ifnonnull 8, 3) := by decide +kernel
theorem d_ASP_4 : decode jdk_68_method_22_code 4 = .ok (.aload_n 0, 1) := by decide +kernel
theorem d_ASP_5 : decode jdk_68_method_22_code 5 = .ok (.invokevirtual 204, 3) := by decide +kernel
theorem d_ASP_8 : decode jdk_68_method_22_code 8 = .ok (.areturn, 1) := by decide +kernel
theorem d_ASP_9 : decode jdk_68_method_22_code 9 = .ok (.aload_n 1, 1) := by decide +kernel
theorem d_ASP_10 : decode jdk_68_method_22_code 10 = .ok (.invokevirtual 32, 3) := by decide +kernel
theorem d_ASP_13 : decode jdk_68_method_22_code 13 = .ok (.istore_n 2, 1) := by decide +kernel
theorem d_ASP_14 : decode jdk_68_method_22_code 14 = .ok (.aload_n 0, 1) := by decide +kernel
theorem d_ASP_15 : decode jdk_68_method_22_code 15 = .ok (.aload_n 0, 1) := by decide +kernel
theorem d_ASP_16 : decode jdk_68_method_22_code 16 = .ok (.getfield 79, 3) := by decide +kernel
theorem d_ASP_19 : decode jdk_68_method_22_code 19 = .ok (.iload_n 2, 1) := by decide +kernel
theorem d_ASP_20 : decode jdk_68_method_22_code 20 = .ok (.iadd, 1) := by decide +kernel
theorem d_ASP_21 : decode jdk_68_method_22_code 21 = .ok (.invokevirtual 100, 3) := by decide +kernel
theorem d_ASP_24 : decode jdk_68_method_22_code 24 = .ok (.aload_n 0, 1) := by decide +kernel
theorem d_ASP_25 : decode jdk_68_method_22_code 25 = .ok (.aload_n 0, 1) := by decide +kernel
theorem d_ASP_26 : decode jdk_68_method_22_code 26 = .ok (.getfield 79, 3) := by decide +kernel
theorem d_ASP_29 : decode jdk_68_method_22_code 29 = .ok (.aload_n 1, 1) := by decide +kernel
theorem d_ASP_30 : decode jdk_68_method_22_code 30 = .ok (.invokevirtual 208, 3) := by decide +kernel
theorem d_ASP_33 : decode jdk_68_method_22_code 33 = .ok (.aload_n 0, 1) := by decide +kernel
theorem d_ASP_34 : decode jdk_68_method_22_code 34 = .ok (.dup, 1) := by decide +kernel
theorem d_ASP_35 : decode jdk_68_method_22_code 35 = .ok (.getfield 79, 3) := by decide +kernel
theorem d_ASP_38 : decode jdk_68_method_22_code 38 = .ok (.iload_n 2, 1) := by decide +kernel
theorem d_ASP_39 : decode jdk_68_method_22_code 39 = .ok (.iadd, 1) := by decide +kernel
theorem d_ASP_40 : decode jdk_68_method_22_code 40 = .ok (.putfield 79, 3) := by decide +kernel
theorem d_ASP_43 : decode jdk_68_method_22_code 43 = .ok (.aload_n 0, 1) := by decide +kernel
theorem d_ASP_44 : decode jdk_68_method_22_code 44 = .ok (.areturn, 1) := by decide +kernel
theorem pn_ASP : plainFor (⟨"java/lang/AbstractStringBuilder", "append", "(Ljava/lang/String;)Ljava/lang/AbstractStringBuilder;"⟩ : MethodName) = true := by first | exact plainFor_of_name (by first | (simp [plainName, overriddenIn]; done) | decide +kernel) | decide +kernel
theorem d_SAP_0 : decode jdk_67_method_7_code 0 = .ok (.aload_n 0, 1) := by decide +kernel
theorem d_SAP_1 : decode jdk_67_method_7_code 1 = .ok (.aload_n 1, 1) := by decide +kernel
theorem d_SAP_2 : decode jdk_67_method_7_code 2 = .ok (.invokespecial 29, 3) := by decide +kernel
theorem d_SAP_5 : decode jdk_67_method_7_code 5 = .ok (.pop, 1) := by decide +kernel
theorem d_SAP_6 : decode jdk_67_method_7_code 6 = .ok (.aload_n 0, 1) := by decide +kernel
theorem d_SAP_7 : decode jdk_67_method_7_code 7 = .ok (.areturn, 1) := by decide +kernel
theorem pn_SAP : plainFor (⟨"java/lang/StringBuilder", "append", "(Ljava/lang/String;)Ljava/lang/StringBuilder;"⟩ : MethodName) = true := by first | exact plainFor_of_name (by first | (simp [plainName, overriddenIn]; done) | decide +kernel) | decide +kernel
section StrSBL
variable {l : Launch} {Z : State} {a0 : Array Value} {EL : List (String × Nat)} {zc cd : Int32} {x t sx st : Addr} {csb ct cx cst : Cell} {cs ds : List Int32} {n w k cap cnt : Nat} {f : Nat → Value}
theorem c_INF (hw : ∀ d ∈ tables_1, d.before a0 Z = true) (hEL : EW Z a0 EL) (O2 : Sta Z Z.heap "java/lang/String" "COMPACT_STRINGS" "Z" (.int zc)) (hzc : ¬ zc = 0) (hB : BC Z csb t cd cnt) (hs : SC Z st cx cst ds) (hcd : cd = cdOf ds) :
    OCon l Z EL (⟨"java/lang/AbstractStringBuilder", "inflateIfNeededFor", "(Ljava/lang/String;)V"⟩ : MethodName) jdk_68_method_71_code 2 none [] ({ frames := 1, cells := 0, slots := 0, locals := 13 } : Room) #[.ref x, .ref sx] [] [(x, csb), (sx, cx), (st, cst)] (fun v M N => v = none ∧ M = [] ∧ N = []) := by
  refine OCon.of_wp (L0 := [.val (.ref x), .val (.ref sx)]) pn_INF hEL (fun m => by first | (simp [entryFrame, mkF, argsToLocals, Value.category]; done) | rfl) ?_
  intro p e s m below meth c hk
  refine OWp.getstatic hk d_INF_0 (pc' := 3) rfl (hw _ (List.mem_of_getElem? (i := 58) rfl)) O2 ?_
  refine OWp.ifNo hk d_INF_3 (XT.i0_eq_f hzc) (pc' := 6) rfl ?_
  refine OWp.aload_n hk d_INF_6 (pc' := 7) rfl rfl rfl ?_
  refine OWp.getfield hk d_INF_7 (pc' := 10) rfl (hw _ (List.mem_of_getElem? (i := 61) rfl)) (by simp) hB.2.2.1 ?_
  refine OWp.aload_n hk d_INF_10 (pc' := 11) rfl rfl rfl ?_
  refine OWp.callV hk d_INF_11 (pc' := 14) rfl (hw _ (List.mem_of_getElem? (i := 127) rfl)) (hw _ (List.mem_of_getElem? (i := 80) rfl)) (nfs (hw _ (List.mem_of_getElem? (i := 82) rfl))) (hw _ (List.mem_of_getElem? (i := 82) rfl)) (hw _ (List.mem_of_getElem? (i := 81) rfl)) (hw _ (List.mem_of_getElem? (i := 7) rfl)) (hw _ (List.mem_of_getElem? (i := 83) rfl)) (by decide) (by simp) hs.1 (c_COD hw hEL O2 hzc hs) rfl (by simp) rfl (lenOf pd_0 rfl) rfl (W := 1) rfl (by first | decide | (dsimp only; omega)) (by first | decide | (dsimp only; omega)) (by first | decide | (dsimp only; omega)) (by first | decide | (dsimp only; omega)) ?_
  rintro _ _ _ ⟨rfl, rfl, rfl⟩
  refine OWp.icmpYes hk d_INF_14 (XT.ii_eq_t hcd) (by decide) (pc' := 21) rfl ?_
  exact OWp.ret0 hk d_INF_21 ⟨rfl, rfl, rfl⟩ (List.Sublist.refl _) (fun _ h => h) (by decide) (by decide)
theorem c_GB (hw : ∀ d ∈ tables_1, d.before a0 Z = true) (hEL : EW Z a0 EL) (O2 : Sta Z Z.heap "java/lang/String" "COMPACT_STRINGS" "Z" (.int zc)) (hzc : ¬ zc = 0) (hs : SC Z st cx cst ds) (hcd : cd = cdOf ds) (hw' : w = wOf ds) (hA : AC Z ct .byte (tab n f)) (hn : w * (k + ds.length) ≤ n) (hk4 : k ≤ 4000) :
    OCon l Z EL (⟨"java/lang/String", "getBytes", "([BIB)V"⟩ : MethodName) jdk_42_method_147_code 4 none [] ({ frames := 1, cells := 0, slots := 0, locals := 18 } : Room) #[.ref sx, .ref t, .int (Int32.ofNat k), .int cd] [(t, ct)] [(sx, cx), (st, cst)]
      (fun v M N => v = none ∧ N = [] ∧ ∃ ct', M = [(t, ct')] ∧ AC Z ct' .byte (tab n fun j => if w * k ≤ j ∧ j < w * k + w * ds.length then oAt ds (j - w * k) else f j)) := by
  subst hcd hw'
  refine OCon.of_wp (L0 := [.val (.ref sx), .val (.ref t), .val (.int (Int32.ofNat k)), .val (.int (cdOf ds))]) pn_GB hEL (fun m => by first | (simp [entryFrame, mkF, argsToLocals, Value.category]; done) | rfl) ?_
  intro p e s m below meth c hk
  have hS := hs.2.2.2.1
  rw [oB_tab] at hS
  refine OWp.aload_n hk d_GB_0 (pc' := 1) rfl rfl rfl ?_
  refine OWp.callV hk d_GB_1 (pc' := 4) rfl (hw _ (List.mem_of_getElem? (i := 79) rfl)) (hw _ (List.mem_of_getElem? (i := 80) rfl)) (nfs (hw _ (List.mem_of_getElem? (i := 82) rfl))) (hw _ (List.mem_of_getElem? (i := 82) rfl)) (hw _ (List.mem_of_getElem? (i := 81) rfl)) (hw _ (List.mem_of_getElem? (i := 7) rfl)) (hw _ (List.mem_of_getElem? (i := 83) rfl)) (by decide) (by simp) hs.1 (c_COD hw hEL O2 hzc hs) rfl (by simp) rfl (lenOf pd_0 rfl) rfl (W := 0) rfl (by first | decide | (dsimp only; omega)) (by first | decide | (dsimp only; omega)) (by first | decide | (dsimp only; omega)) (by first | decide | (dsimp only; omega)) ?_
  rintro _ _ _ ⟨rfl, rfl, rfl⟩
  refine OWp.iload_n hk d_GB_4 (pc' := 5) rfl rfl ?_
  refine OWp.icmpNo hk d_GB_5 (XT.ii_ne_f rfl) (pc' := 8) rfl ?_
  refine OWp.aload_n hk d_GB_8 (pc' := 9) rfl rfl rfl ?_
  refine OWp.getfield hk d_GB_9 (pc' := 12) rfl (hw _ (List.mem_of_getElem? (i := 33) rfl)) (by simp) hs.2.1 ?_
  refine OWp.iconst hk d_GB_12 (pc' := 13) rfl (z := 0) rfl ?_
  refine OWp.aload_n hk d_GB_13 (pc' := 14) rfl rfl rfl ?_
  refine OWp.iload_n hk d_GB_14 (pc' := 15) rfl rfl ?_
  refine OWp.iload_n hk d_GB_15 (pc' := 16) rfl rfl ?_
  refine OWp.ishl hk d_GB_16 (pc' := 17) rfl ?_
  rw [(cw_of ds).shl (by omega)]
  refine OWp.aload_n hk d_GB_17 (pc' := 18) rfl rfl rfl ?_
  refine OWp.getfield hk d_GB_18 (pc' := 21) rfl (hw _ (List.mem_of_getElem? (i := 33) rfl)) (by simp) hs.2.1 ?_
  refine OWp.arraylength hk d_GB_21 (pc' := 22) rfl (by simp) hS (z := Int32.ofNat (wOf ds * ds.length)) (by rw [tab_len]) ?_
  refine OWp.arraycopy hk d_GB_22 (pc' := 25) rfl (hw _ (List.mem_of_getElem? (i := 133) rfl)) (hw _ (List.mem_of_getElem? (i := 116) rfl)) (hw _ (List.mem_of_getElem? (i := 114) rfl)) (hw _ (List.mem_of_getElem? (i := 115) rfl)) (by simp) (sp := 0) (dp := wOf ds * k) (nn := wOf ds * ds.length) hS (i := 0) rfl hA rfl (by omega) (by rw [← Nat.mul_add]; exact hn) rfl (by first | decide | (dsimp only; omega)) (W := 0) rfl (by first | decide | (dsimp only; omega)) ?_
  intro ct2 hA2
  simp only [List.nil_append, List.cons_append, List.set_cons_zero]
  refine OWp.goto hk d_GB_25 (by decide) (pc' := 43) rfl ?_
  exact OWp.ret0 hk d_GB_43 (M' := [(t, ct2)]) (N' := []) ⟨rfl, rfl, ct2, rfl, hA2.congr fun j hj => by simp only [Nat.zero_add]⟩ (List.Sublist.refl _) (by simp) (by decide) (by decide)
theorem c_PSA (hw : ∀ d ∈ tables_1, d.before a0 Z = true) (hEL : EW Z a0 EL) (O2 : Sta Z Z.heap "java/lang/String" "COMPACT_STRINGS" "Z" (.int zc)) (hzc : ¬ zc = 0) (hB : BC Z csb t cd cnt) (hs : SC Z st cx cst ds) (hcd : cd = cdOf ds) (hw' : w = wOf ds) (hA : AC Z ct .byte (tab n f)) (hn : w * (k + ds.length) ≤ n) (hk4 : k ≤ 4000) :
    OCon l Z EL (⟨"java/lang/AbstractStringBuilder", "putStringAt", "(ILjava/lang/String;)V"⟩ : MethodName) jdk_68_method_73_code 3 none [] ({ frames := 2, cells := 0, slots := 0, locals := 33 } : Room) #[.ref x, .int (Int32.ofNat k), .ref sx] [(x, csb), (t, ct)] [(sx, cx), (st, cst)]
      (fun v M N => v = none ∧ N = [] ∧ ∃ ct', M = [(x, csb), (t, ct')] ∧ AC Z ct' .byte (tab n fun j => if w * k ≤ j ∧ j < w * k + w * ds.length then oAt ds (j - w * k) else f j)) := by
  refine OCon.of_wp (L0 := [.val (.ref x), .val (.int (Int32.ofNat k)), .val (.ref sx)]) pn_PSA hEL (fun m => by first | (simp [entryFrame, mkF, argsToLocals, Value.category]; done) | rfl) ?_
  intro p e s m below meth c hk
  refine OWp.aload_n hk d_PSA_0 (pc' := 1) rfl rfl rfl ?_
  refine OWp.aload_n hk d_PSA_1 (pc' := 2) rfl rfl rfl ?_
  refine OWp.callP hk d_PSA_2 (pc' := 5) rfl (hw _ (List.mem_of_getElem? (i := 122) rfl)) (hw _ (List.mem_of_getElem? (i := 124) rfl)) (hw _ (List.mem_of_getElem? (i := 125) rfl)) (hw _ (List.mem_of_getElem? (i := 123) rfl)) (hw _ (List.mem_of_getElem? (i := 55) rfl)) (hw _ (List.mem_of_getElem? (i := 126) rfl)) (by decide) (by simp) hB.1 (c_INF hw hEL O2 hzc hB hs hcd) rfl (by simp) rfl (lenOf pd_16 rfl) rfl (W := 0) rfl (by first | decide | (dsimp only; omega)) (by first | decide | (dsimp only; omega)) (by first | decide | (dsimp only; omega)) (by first | decide | (dsimp only; omega)) ?_
  rintro _ _ _ ⟨rfl, rfl, rfl⟩
  refine OWp.aload_n hk d_PSA_5 (pc' := 6) rfl rfl rfl ?_
  refine OWp.aload_n hk d_PSA_6 (pc' := 7) rfl rfl rfl ?_
  refine OWp.getfield hk d_PSA_7 (pc' := 10) rfl (hw _ (List.mem_of_getElem? (i := 59) rfl)) (by simp) hB.2.1 ?_
  refine OWp.iload_n hk d_PSA_10 (pc' := 11) rfl rfl ?_
  refine OWp.aload_n hk d_PSA_11 (pc' := 12) rfl rfl rfl ?_
  refine OWp.getfield hk d_PSA_12 (pc' := 15) rfl (hw _ (List.mem_of_getElem? (i := 61) rfl)) (by simp) hB.2.2.1 ?_
  refine OWp.perm (M' := [(t, ct), (x, csb)]) (List.Perm.swap ..) ?_
  refine OWp.callV hk d_PSA_15 (pc' := 18) rfl (hw _ (List.mem_of_getElem? (i := 128) rfl)) (hw _ (List.mem_of_getElem? (i := 129) rfl)) (nfs (hw _ (List.mem_of_getElem? (i := 131) rfl))) (hw _ (List.mem_of_getElem? (i := 131) rfl)) (hw _ (List.mem_of_getElem? (i := 130) rfl)) (hw _ (List.mem_of_getElem? (i := 7) rfl)) (hw _ (List.mem_of_getElem? (i := 132) rfl)) (by decide) (by simp) hs.1 (c_GB hw hEL O2 hzc hs hcd hw' hA hn hk4) rfl (by simp) rfl (lenOf pd_17 rfl) rfl (W := 0) rfl (by first | decide | (dsimp only; omega)) (by first | decide | (dsimp only; omega)) (by first | decide | (dsimp only; omega)) (by first | decide | (dsimp only; omega)) ?_
  rintro _ _ _ ⟨rfl, rfl, ct', rfl, hA'⟩
  refine OWp.perm (M' := [(x, csb), (t, ct')]) (List.Perm.swap ..) ?_
  exact OWp.ret0 hk d_PSA_18 (M' := [(x, csb), (t, ct')]) (N' := []) ⟨rfl, rfl, ct', rfl, hA'⟩ (List.Sublist.refl _) (by simp) (by decide) (by decide)
/-- append(String): the builder's chars and the String's alike Latin-1 -/
theorem c_ASP (hw : ∀ d ∈ tables_1, d.before a0 Z = true) (hEL : EW Z a0 EL) (O2 : Sta Z Z.heap "java/lang/String" "COMPACT_STRINGS" "Z" (.int zc)) (hzc : ¬ zc = 0) (hB : SBF Z t csb ct cs cap) (hl : lat cs = true) (hs : SC Z st cx cst ds) (hl' : lat ds = true) (hcap : grow cap (cs.length + ds.length) ≤ kSB) (hk2 : grow cap (cs.length + ds.length) ≤ 2000) :
    OCon l Z EL (⟨"java/lang/AbstractStringBuilder", "append", "(Ljava/lang/String;)Ljava/lang/AbstractStringBuilder;"⟩ : MethodName) jdk_68_method_22_code 3 (some (.object "java/lang/AbstractStringBuilder")) [] ({ frames := 4, cells := 1, slots := kSB, locals := 62 } : Room) #[.ref x, .ref sx] [(x, csb), (t, ct)] [(sx, cx), (st, cst)]
      (fun v M N => v = some (.ref x) ∧ N = [] ∧ ∃ csb' t' ct', M = [(x, csb'), (t', ct')] ∧ SBF Z t' csb' ct' (cs ++ ds) (grow cap (cs.length + ds.length))) := by
  refine OCon.of_wp (L0 := [.val (.ref x), .val (.ref sx), .unset]) pn_ASP hEL (fun m => by first | (simp [entryFrame, mkF, argsToLocals, Value.category]; done) | rfl) ?_
  intro p e s m below meth c hk
  obtain ⟨hB0, ⟨f, hA, hf⟩, hle, hc2, hch⟩ := hB
  rw [w_lat hl] at hA hf
  rw [cd_lat hl] at hB0
  have h4 := hs.2.2.2.2.2
  have hge := grow_ge cap (cs.length + ds.length)
  refine OWp.aload_n hk d_ASP_0 (pc' := 1) rfl rfl rfl ?_
  refine OWp.nonnullYes hk d_ASP_1 (by decide) (pc' := 9) rfl ?_
  refine OWp.aload_n hk d_ASP_9 (pc' := 10) rfl rfl rfl ?_
  refine OWp.callV hk d_ASP_10 (pc' := 13) rfl (hw _ (List.mem_of_getElem? (i := 74) rfl)) (hw _ (List.mem_of_getElem? (i := 75) rfl)) (nfs (hw _ (List.mem_of_getElem? (i := 77) rfl))) (hw _ (List.mem_of_getElem? (i := 77) rfl)) (hw _ (List.mem_of_getElem? (i := 76) rfl)) (hw _ (List.mem_of_getElem? (i := 7) rfl)) (hw _ (List.mem_of_getElem? (i := 78) rfl)) (by decide) (by simp) hs.1 (c_LEN hw hEL O2 hzc hs) rfl (by simp) rfl (lenOf pd_18 rfl) rfl (W := 0) rfl (by first | decide | (dsimp only; omega)) (by first | decide | (dsimp only; omega)) (by first | decide | (dsimp only; omega)) (by first | decide | (dsimp only; omega)) ?_
  rintro _ _ _ ⟨rfl, rfl, rfl⟩
  refine OWp.istore_n hk d_ASP_13 (pc' := 14) rfl (kn := 2) rfl rfl (by simp only [List.set_cons_zero, List.set_cons_succ]; rfl) ?_
  refine OWp.aload_n hk d_ASP_14 (pc' := 15) rfl rfl rfl ?_
  refine OWp.aload_n hk d_ASP_15 (pc' := 16) rfl rfl rfl ?_
  refine OWp.getfield hk d_ASP_16 (pc' := 19) rfl (hw _ (List.mem_of_getElem? (i := 84) rfl)) (by simp) hB0.2.2.2 ?_
  refine OWp.iload_n hk d_ASP_19 (pc' := 20) rfl rfl ?_
  refine OWp.iadd hk d_ASP_20 (pc' := 21) rfl ?_
  rw [n_add]
  refine OWp.callP hk d_ASP_21 (pc' := 24) rfl (hw _ (List.mem_of_getElem? (i := 86) rfl)) (hw _ (List.mem_of_getElem? (i := 88) rfl)) (hw _ (List.mem_of_getElem? (i := 89) rfl)) (hw _ (List.mem_of_getElem? (i := 87) rfl)) (hw _ (List.mem_of_getElem? (i := 55) rfl)) (hw _ (List.mem_of_getElem? (i := 90) rfl)) (by decide) (by simp) hB0.1 (c_ECI hw hEL (Or.inl ⟨rfl, rfl⟩) hB0 hA hc2 (by omega) (by rw [Nat.one_mul]; exact hcap)) rfl (by simp) rfl (lenOf pd_19 rfl) rfl (W := 0) rfl (by first | decide | (dsimp only; omega)) (by first | decide | (dsimp only; omega)) (by first | decide | (dsimp only; omega)) (by first | decide | (dsimp only; omega)) ?_
  rintro _ _ _ ⟨rfl, rfl, csb2, t2, ct2, f2, rfl, hB2, hA2, hf2⟩
  refine OWp.aload_n hk d_ASP_24 (pc' := 25) rfl rfl rfl ?_
  refine OWp.aload_n hk d_ASP_25 (pc' := 26) rfl rfl rfl ?_
  refine OWp.getfield hk d_ASP_26 (pc' := 29) rfl (hw _ (List.mem_of_getElem? (i := 84) rfl)) (by simp) hB2.2.2.2 ?_
  refine OWp.aload_n hk d_ASP_29 (pc' := 30) rfl rfl rfl ?_
  refine OWp.callP hk d_ASP_30 (pc' := 33) rfl (hw _ (List.mem_of_getElem? (i := 117) rfl)) (hw _ (List.mem_of_getElem? (i := 119) rfl)) (hw _ (List.mem_of_getElem? (i := 120) rfl)) (hw _ (List.mem_of_getElem? (i := 118) rfl)) (hw _ (List.mem_of_getElem? (i := 55) rfl)) (hw _ (List.mem_of_getElem? (i := 121) rfl)) (by decide) (by simp) hB2.1 (c_PSA (w := 1) (k := cs.length) hw hEL O2 hzc hB2 hs (cd_lat hl').symm (w_lat hl').symm hA2 (by omega) (by omega)) rfl (by simp) rfl (lenOf pd_20 rfl) rfl (W := 0) rfl (by first | decide | (dsimp only; omega)) (by first | decide | (dsimp only; omega)) (by first | decide | (dsimp only; omega)) (by first | decide | (dsimp only; omega)) ?_
  rintro _ _ _ ⟨rfl, rfl, ct3, rfl, hA3⟩
  refine OWp.aload_n hk d_ASP_33 (pc' := 34) rfl rfl rfl ?_
  refine OWp.dup hk d_ASP_34 (pc' := 35) rfl rfl ?_
  refine OWp.getfield hk d_ASP_35 (pc' := 38) rfl (hw _ (List.mem_of_getElem? (i := 84) rfl)) (by simp) hB2.2.2.2 ?_
  refine OWp.iload_n hk d_ASP_38 (pc' := 39) rfl rfl ?_
  refine OWp.iadd hk d_ASP_39 (pc' := 40) rfl ?_
  rw [n_add]
  obtain ⟨hE, F_value, F_coder, F_count⟩ := hB2
  refine OWp.putfield hk d_ASP_40 (pc' := 43) rfl (hw _ (List.mem_of_getElem? (i := 84) rfl)) (i := 0) rfl F_count hE (Or.inl (hw _ (List.mem_of_getElem? (i := 85) rfl))) (hw _ (List.mem_of_getElem? (i := 46) rfl)) (ty := .int) (by decide) rfl rfl ?_
  intro ck hE F_count hK
  have F_value := hK F_value (slot_ne (Or.inl (hw _ (List.mem_of_getElem? (i := 60) rfl))) (Or.inl (hw _ (List.mem_of_getElem? (i := 85) rfl))) (by decide) (t := (.array .byte)) (by decide) (t' := .int) (by decide))
  have F_coder := hK F_coder (slot_ne (Or.inl (hw _ (List.mem_of_getElem? (i := 62) rfl))) (Or.inl (hw _ (List.mem_of_getElem? (i := 85) rfl))) (by decide) (t := .byte) (by decide) (t' := .int) (by decide))
  simp only [List.nil_append, List.cons_append, List.set_cons_zero]
  refine OWp.aload_n hk d_ASP_43 (pc' := 44) rfl rfl rfl ?_
  have hbig : cs.length + ds.length ≤ 4000 := by omega
  exact OWp.retA hk rfl rfl rfl d_ASP_44 (M' := [(x, ck), (t2, ct3)]) (N' := []) ⟨rfl, rfl, ck, t2, ct3, rfl, ⟨by rw [cd_lat (lat_app hl hl'), List.length_append]; exact ⟨hE, F_value, F_coder, F_count⟩, ⟨_, by rw [w_lat (lat_app hl hl')]; exact hA3, fun j hj => by
    rw [w_lat (lat_app hl hl'), Nat.one_mul, List.length_append] at hj
    simp only [Nat.one_mul]
    rw [oAt_app hl hl' hj]
    by_cases q : j < cs.length
    · rw [if_pos q, if_neg (by omega), hf2 j (by omega), hf j (by omega)]
    · rw [if_neg q, if_pos (by omega)]⟩, by rw [List.length_append]; exact hge, hk2, ch_app hch hs.2.2.2.2 hbig⟩⟩ (List.Sublist.refl _) (by simp) (by decide) (by decide)
theorem c_SAP (hw : ∀ d ∈ tables_1, d.before a0 Z = true) (hEL : EW Z a0 EL) (O2 : Sta Z Z.heap "java/lang/String" "COMPACT_STRINGS" "Z" (.int zc)) (hzc : ¬ zc = 0) (hB : SBF Z t csb ct cs cap) (hl : lat cs = true) (hs : SC Z st cx cst ds) (hl' : lat ds = true) (hcap : grow cap (cs.length + ds.length) ≤ kSB) (hk2 : grow cap (cs.length + ds.length) ≤ 2000) :
    OCon l Z EL (⟨"java/lang/StringBuilder", "append", "(Ljava/lang/String;)Ljava/lang/StringBuilder;"⟩ : MethodName) jdk_67_method_7_code 2 (some (.object "java/lang/StringBuilder")) [] ({ frames := 5, cells := 1, slots := kSB, locals := 76 } : Room) #[.ref x, .ref sx] [(x, csb), (t, ct)] [(sx, cx), (st, cst)]
      (fun v M N => v = some (.ref x) ∧ N = [] ∧ ∃ csb' t' ct', M = [(x, csb'), (t', ct')] ∧ SBF Z t' csb' ct' (cs ++ ds) (grow cap (cs.length + ds.length))) := by
  refine OCon.of_wp (L0 := [.val (.ref x), .val (.ref sx)]) pn_SAP hEL (fun m => by first | (simp [entryFrame, mkF, argsToLocals, Value.category]; done) | rfl) ?_
  intro p e s m below meth c hk
  refine OWp.aload_n hk d_SAP_0 (pc' := 1) rfl rfl rfl ?_
  refine OWp.aload_n hk d_SAP_1 (pc' := 2) rfl rfl rfl ?_
  refine OWp.callU hk d_SAP_2 (pc' := 5) rfl (hw _ (List.mem_of_getElem? (i := 69) rfl)) (sameM (ret' := none) (hw _ (List.mem_of_getElem? (i := 89) rfl)) rfl (hw _ (List.mem_of_getElem? (i := 70) rfl)) (by decide)) (hw _ (List.mem_of_getElem? (i := 71) rfl)) (hw _ (List.mem_of_getElem? (i := 70) rfl)) (by decide) (hw _ (List.mem_of_getElem? (i := 55) rfl)) (hw _ (List.mem_of_getElem? (i := 73) rfl)) (by simp) hB.1.1 (c_ASP hw hEL O2 hzc hB hl hs hl' hcap hk2) rfl (by simp) rfl (lenOf pd_21 rfl) rfl (W := 0) rfl (by first | decide | (dsimp only; omega)) (by first | decide | (dsimp only; omega)) (by first | decide | (dsimp only; omega)) (by first | decide | (dsimp only; omega)) ?_
  rintro _ _ _ ⟨rfl, rfl, csb2, t2, ct2, rfl, hB2⟩
  refine OWp.pop hk d_SAP_5 (pc' := 6) rfl rfl ?_
  refine OWp.aload_n hk d_SAP_6 (pc' := 7) rfl rfl rfl ?_
  exact OWp.retA hk rfl rfl rfl d_SAP_7 (M' := [(x, csb2), (t2, ct2)]) (N' := []) ⟨rfl, rfl, csb2, t2, ct2, rfl, hB2⟩ (List.Sublist.refl _) (by simp) (by decide) (by decide)
end StrSBL
theorem d_ISLB_0 : decode jdk_68_method_68_code 0 = .ok (.getstatic 18, 3) := by decide +kernel
theorem d_ISLB_3 : decode jdk_68_method_68_code 3 = .ok (.ifCond .eq 14, 3) := by decide +kernel
theorem d_ISLB_6 : decode jdk_68_method_68_code 6 = .ok (.aload_n 0, 1) := by decide +kernel
theorem d_ISLB_7 : decode jdk_68_method_68_code 7 = .ok (.getfield 22, 3) := by decide +kernel
theorem d_ISLB_10 : decode jdk_68_method_68_code 10 = .ok (.ifCond .ne 7, 3) := by decide +kernel
theorem d_ISLB_13 : decode jdk_68_method_68_code 13 = .ok (.iconst 1, 1) := by decide +kernel
theorem d_ISLB_14 : decode jdk_68_method_68_code 14 = .ok (.goto 4, 3) := by decide +kernel
theorem d_ISLB_17 : decode jdk_68_method_68_code 17 = .ok (.iconst 0, 1) := by decide +kernel
theorem d_ISLB_18 : decode jdk_68_method_68_code 18 = .ok (.ireturn, 1) := by decide +kernel
theorem pn_ISLB : plainFor (⟨"java/lang/AbstractStringBuilder", "isLatin1", "()Z"⟩ : MethodName) = true := by first | exact plainFor_of_name (by first | (simp [plainName, overriddenIn]; done) | decide +kernel) | decide +kernel
section StrISLB
variable {l : Launch} {Z : State} {a0 : Array Value} {EL : List (String × Nat)} {zc cd : Int32} {x t y : Addr} {csb ct cy : Cell} {cs : List Int32} {n w k cap cnt : Nat} {f : Nat → Value} {v0 v1 : Value}
theorem c_ISLB (hw : ∀ d ∈ tables_1, d.before a0 Z = true) (hEL : EW Z a0 EL) (O2 : Sta Z Z.heap "java/lang/String" "COMPACT_STRINGS" "Z" (.int zc)) (hzc : ¬ zc = 0) (hB : BC Z csb t 0 cnt) :
    OCon l Z EL (⟨"java/lang/AbstractStringBuilder", "isLatin1", "()Z"⟩ : MethodName) jdk_68_method_68_code 1 (some .boolean) [] ({ frames := 0, cells := 0, slots := 0, locals := 0 } : Room) #[.ref x] [] [(x, csb)] (fun v M N => v = some (.int 1) ∧ M = [] ∧ N = []) := by
  refine OCon.of_wp (L0 := [.val (.ref x)]) pn_ISLB hEL (fun m => by first | (simp [entryFrame, mkF, argsToLocals, Value.category]; done) | rfl) ?_
  intro p e s m below meth c hk
  refine OWp.getstatic hk d_ISLB_0 (pc' := 3) rfl (hw _ (List.mem_of_getElem? (i := 58) rfl)) O2 ?_
  refine OWp.ifNo hk d_ISLB_3 (XT.i0_eq_f hzc) (pc' := 6) rfl ?_
  refine OWp.aload_n hk d_ISLB_6 (pc' := 7) rfl rfl rfl ?_
  refine OWp.getfield hk d_ISLB_7 (pc' := 10) rfl (hw _ (List.mem_of_getElem? (i := 61) rfl)) (by simp) hB.2.2.1 ?_
  refine OWp.ifNo hk d_ISLB_10 (XT.i0_ne_f rfl) (pc' := 13) rfl ?_
  refine OWp.iconst hk d_ISLB_13 (pc' := 14) rfl (z := 1) rfl ?_
  refine OWp.goto hk d_ISLB_14 (by decide) (pc' := 18) rfl ?_
  exact OWp.retN hk (Or.inl rfl) d_ISLB_18 ⟨rfl, rfl, rfl⟩ (List.Sublist.refl _) (fun _ h => h) (by decide) (by decide)
end StrISLB
theorem d_GV_0 : decode jdk_68_method_64_code 0 = .ok (.aload_n 0, 1) := by decide +kernel
theorem d_GV_1 : decode jdk_68_method_64_code 1 = .ok (.getfield 15, 3) := by decide +kernel
theorem d_GV_4 : decode jdk_68_method_64_code 4 = .ok (.areturn, 1) := by decide +kernel
theorem pn_GV : plainFor (⟨"java/lang/AbstractStringBuilder", "getValue", "()[B"⟩ : MethodName) = true := by first | exact plainFor_of_name (by first | (simp [plainName, overriddenIn]; done) | decide +kernel) | decide +kernel
theorem d_ABL_0 : decode jdk_68_method_6_code 0 = .ok (.aload_n 0, 1) := by decide +kernel
theorem d_ABL_1 : decode jdk_68_method_6_code 1 = .ok (.getfield 79, 3) := by decide +kernel
theorem d_ABL_4 : decode jdk_68_method_6_code 4 = .ok (.ireturn, 1) := by decide +kernel
theorem pn_ABL : plainFor (⟨"java/lang/AbstractStringBuilder", "length", "()I"⟩ : MethodName) = true := by first | exact plainFor_of_name (by first | (simp [plainName, overriddenIn]; done) | decide +kernel) | decide +kernel
theorem d_SBLN_0 : decode jdk_67_method_93_code 0 = .ok (.aload_n 0, 1) := by decide +kernel
theorem d_SBLN_1 : decode jdk_67_method_93_code 1 = .ok (.invokespecial 343, 3) := by decide +kernel
theorem d_SBLN_4 : decode jdk_67_method_93_code 4 = .ok (.ireturn, 1) := by decide +kernel
theorem pn_SBLN : plainFor (⟨"java/lang/StringBuilder", "length", "()I"⟩ : MethodName) = true := by first | exact plainFor_of_name (by first | (simp [plainName, overriddenIn]; done) | decide +kernel) | decide +kernel
theorem d_S2B_0 : decode jdk_42_method_150_code 0 = .ok (.aload_n 0, 1) := by decide +kernel
theorem d_S2B_1 : decode jdk_42_method_150_code 1 = .ok (.invokespecial 1, 3) := by decide +kernel
theorem d_S2B_4 : decode jdk_42_method_150_code 4 = .ok (.aload_n 1, 1) := by decide +kernel
theorem d_S2B_5 : decode jdk_42_method_150_code 5 = .ok (.invokevirtual 552, 3) := by decide +kernel
theorem d_S2B_8 : decode jdk_42_method_150_code 8 = .ok (.astore_n 3, 1) := by decide +kernel
theorem d_S2B_9 : decode jdk_42_method_150_code 9 = .ok (.aload_n 1, 1) := by decide +kernel
theorem d_S2B_10 : decode jdk_42_method_150_code 10 = .ok (.invokevirtual 549, 3) := by decide +kernel
theorem d_S2B_13 : decode jdk_42_method_150_code 13 = .ok (.istore 4, 2) := by decide +kernel
theorem d_S2B_15 : decode jdk_42_method_150_code 15 = .ok (.aload_n 1, 1) := by decide +kernel
theorem d_S2B_16 : decode jdk_42_method_150_code 16 = .ok (.invokevirtual 1047, 3) := by decide +kernel
theorem d_S2B_19 : decode jdk_42_method_150_code 19 = .ok (.ifCond .eq 22, 3) := by decide +kernel
theorem d_S2B_22 : decode jdk_42_method_150_code 22 = .ok (.aload_n 0, 1) := by decide +kernel
theorem d_S2B_23 : decode jdk_42_method_150_code 23 = .ok (.iconst 0, 1) := by decide +kernel
theorem d_S2B_24 : decode jdk_42_method_150_code 24 = .ok (.putfield 15, 3) := by decide +kernel
theorem d_S2B_27 : decode jdk_42_method_150_code 27 = .ok (.aload_n 0, 1) := by decide +kernel
theorem d_S2B_28 : decode jdk_42_method_150_code 28 = .ok (.aload_n 3, 1) := by decide +kernel
theorem d_S2B_29 : decode jdk_42_method_150_code 29 = .ok (.iconst 0, 1) := by decide +kernel
theorem d_S2B_30 : decode jdk_42_method_150_code 30 = .ok (.iload 4, 2) := by decide +kernel
theorem d_S2B_32 : decode jdk_42_method_150_code 32 = .ok (.invokestatic 54, 3) := by decide +kernel
theorem d_S2B_35 : decode jdk_42_method_150_code 35 = .ok (.putfield 9, 3) := by decide +kernel
theorem d_S2B_38 : decode jdk_42_method_150_code 38 = .ok (.goto 59, 3) := by decide +kernel
theorem d_S2B_41 : decode jdk_42_method_150_code 41 = .ok (.getstatic 38, 3) := by decide +kernel
theorem d_S2B_44 : decode jdk_42_method_150_code 44 = .ok (.ifCond .eq 35, 3) := by decide +kernel
theorem d_S2B_47 : decode jdk_42_method_150_code 47 = .ok (.aload_n 1, 1) := by decide +kernel
theorem d_S2B_48 : decode jdk_42_method_150_code 48 = .ok (.getfield 1048, 3) := by decide +kernel
theorem d_S2B_51 : decode jdk_42_method_150_code 51 = .ok (.ifCond .eq 28, 3) := by decide +kernel
theorem d_S2B_54 : decode jdk_42_method_150_code 54 = .ok (.aload_n 0, 1) := by decide +kernel
theorem d_S2B_55 : decode jdk_42_method_150_code 55 = .ok (.aload_n 3, 1) := by decide +kernel
theorem d_S2B_56 : decode jdk_42_method_150_code 56 = .ok (.iconst 0, 1) := by decide +kernel
theorem d_S2B_57 : decode jdk_42_method_150_code 57 = .ok (.iload 4, 2) := by decide +kernel
theorem d_S2B_59 : decode jdk_42_method_150_code 59 = .ok (.invokestatic 1051, 3) := by decide +kernel
theorem d_S2B_62 : decode jdk_42_method_150_code 62 = .ok (.putfield 9, 3) := by decide +kernel
theorem d_S2B_65 : decode jdk_42_method_150_code 65 = .ok (.aload_n 0, 1) := by decide +kernel
theorem d_S2B_66 : decode jdk_42_method_150_code 66 = .ok (.aload_n 0, 1) := by decide +kernel
theorem d_S2B_67 : decode jdk_42_method_150_code 67 = .ok (.getfield 9, 3) := by decide +kernel
theorem d_S2B_70 : decode jdk_42_method_150_code 70 = .ok (.iload 4, 2) := by decide +kernel
theorem d_S2B_72 : decode jdk_42_method_150_code 72 = .ok (.invokestatic 47, 3) := by decide +kernel
theorem d_S2B_75 : decode jdk_42_method_150_code 75 = .ok (.putfield 15, 3) := by decide +kernel
theorem d_S2B_78 : decode jdk_42_method_150_code 78 = .ok (.return_, 1) := by decide +kernel
theorem d_S2B_79 : decode jdk_42_method_150_code 79 = .ok (.aload_n 0, 1) := by decide +kernel
theorem d_S2B_80 : decode jdk_42_method_150_code 80 = .ok (.iconst 1, 1) := by decide +kernel
theorem d_S2B_81 : decode jdk_42_method_150_code 81 = .ok (.putfield 15, 3) := by decide +kernel
theorem d_S2B_84 : decode jdk_42_method_150_code 84 = .ok (.aload_n 0, 1) := by decide +kernel
theorem d_S2B_85 : decode jdk_42_method_150_code 85 = .ok (.aload_n 3, 1) := by decide +kernel
theorem d_S2B_86 : decode jdk_42_method_150_code 86 = .ok (.iconst 0, 1) := by decide +kernel
theorem d_S2B_87 : decode jdk_42_method_150_code 87 = .ok (.iload 4, 2) := by decide +kernel
theorem d_S2B_89 : decode jdk_42_method_150_code 89 = .ok (.iconst 1, 1) := by decide +kernel
theorem d_S2B_90 : decode jdk_42_method_150_code 90 = .ok (.ishl, 1) := by decide +kernel
theorem d_S2B_91 : decode jdk_42_method_150_code 91 = .ok (.invokestatic 54, 3) := by decide +kernel
theorem d_S2B_94 : decode jdk_42_method_150_code 94 = .ok (.putfield 9, 3) := by decide +kernel
theorem d_S2B_97 : decode jdk_42_method_150_code 97 = .ok (.return_, 1) := by decide +kernel
theorem pn_S2B : plainFor (⟨"java/lang/String", "<init>", "(Ljava/lang/AbstractStringBuilder;Ljava/lang/Void;)V"⟩ : MethodName) = true := by first | exact plainFor_of_name (by first | (simp [plainName, overriddenIn]; done) | decide +kernel) | decide +kernel
theorem d_S1B_0 : decode jdk_42_method_53_code 0 = .ok (.aload_n 0, 1) := by decide +kernel
theorem d_S1B_1 : decode jdk_42_method_53_code 1 = .ok (.aload_n 1, 1) := by decide +kernel
theorem d_S1B_2 : decode jdk_42_method_53_code 2 = .ok (.aconst_null, 1) := by decide +kernel
theorem d_S1B_3 : decode jdk_42_method_53_code 3 = .ok (.invokespecial 489, 3) := by decide +kernel
theorem d_S1B_6 : decode jdk_42_method_53_code 6 = .ok (.return_, 1) := by decide +kernel
theorem pn_S1B : plainFor (⟨"java/lang/String", "<init>", "(Ljava/lang/StringBuilder;)V"⟩ : MethodName) = true := by first | exact plainFor_of_name (by first | (simp [plainName, overriddenIn]; done) | decide +kernel) | decide +kernel
theorem d_TS_0 : decode jdk_67_method_42_code 0 = .ok (.new 18, 3) := by decide +kernel
theorem d_TS_3 : decode jdk_67_method_42_code 3 = .ok (.dup, 1) := by decide +kernel
theorem d_TS_4 : decode jdk_67_method_42_code 4 = .ok (.aload_n 0, 1) := by decide +kernel
theorem d_TS_5 : decode jdk_67_method_42_code 5 = .ok (.invokespecial 137, 3) := by decide +kernel
theorem d_TS_8 : decode jdk_67_method_42_code 8 = .ok (.areturn, 1) := by decide +kernel
theorem pn_TS : plainFor (⟨"java/lang/StringBuilder", "toString", "()Ljava/lang/String;"⟩ : MethodName) = true := by first | exact plainFor_of_name (by first | (simp [plainName, overriddenIn]; done) | decide +kernel) | decide +kernel
section StrSBT
variable {l : Launch} {Z : State} {a0 : Array Value} {EL : List (String × Nat)} {zc cd : Int32} {x t y : Addr} {csb ct cy : Cell} {cs : List Int32} {n w k cap cnt : Nat} {f : Nat → Value} {v0 v1 : Value}
theorem c_GV (hw : ∀ d ∈ tables_1, d.before a0 Z = true) (hEL : EW Z a0 EL) (hB : BC Z csb t cd cnt) :
    OCon l Z EL (⟨"java/lang/AbstractStringBuilder", "getValue", "()[B"⟩ : MethodName) jdk_68_method_64_code 1 (some (.array .byte)) [] ({ frames := 0, cells := 0, slots := 0, locals := 0 } : Room) #[.ref x] [] [(x, csb)] (fun v M N => v = some (.ref t) ∧ M = [] ∧ N = []) := by
  refine OCon.of_wp (L0 := [.val (.ref x)]) pn_GV hEL (fun m => by first | (simp [entryFrame, mkF, argsToLocals, Value.category]; done) | rfl) ?_
  intro p e s m below meth c hk
  refine OWp.aload_n hk d_GV_0 (pc' := 1) rfl rfl rfl ?_
  refine OWp.getfield hk d_GV_1 (pc' := 4) rfl (hw _ (List.mem_of_getElem? (i := 59) rfl)) (by simp) hB.2.1 ?_
  exact OWp.retA hk rfl rfl rfl d_GV_4 ⟨rfl, rfl, rfl⟩ (List.Sublist.refl _) (fun _ h => h) (by decide) (by decide)
theorem c_ABL (hw : ∀ d ∈ tables_1, d.before a0 Z = true) (hEL : EW Z a0 EL) (hB : BC Z csb t cd cnt) :
    OCon l Z EL (⟨"java/lang/AbstractStringBuilder", "length", "()I"⟩ : MethodName) jdk_68_method_6_code 1 (some .int) [] ({ frames := 0, cells := 0, slots := 0, locals := 0 } : Room) #[.ref x] [] [(x, csb)] (fun v M N => v = some (.int (Int32.ofNat cnt)) ∧ M = [] ∧ N = []) := by
  refine OCon.of_wp (L0 := [.val (.ref x)]) pn_ABL hEL (fun m => by first | (simp [entryFrame, mkF, argsToLocals, Value.category]; done) | rfl) ?_
  intro p e s m below meth c hk
  refine OWp.aload_n hk d_ABL_0 (pc' := 1) rfl rfl rfl ?_
  refine OWp.getfield hk d_ABL_1 (pc' := 4) rfl (hw _ (List.mem_of_getElem? (i := 84) rfl)) (by simp) hB.2.2.2 ?_
  exact OWp.retI hk d_ABL_4 ⟨rfl, rfl, rfl⟩ (List.Sublist.refl _) (fun _ h => h) (by decide) (by decide)
theorem c_SBLN (hw : ∀ d ∈ tables_1, d.before a0 Z = true) (hEL : EW Z a0 EL) (hB : BC Z csb t cd cnt) :
    OCon l Z EL (⟨"java/lang/StringBuilder", "length", "()I"⟩ : MethodName) jdk_67_method_93_code 1 (some .int) [] ({ frames := 1, cells := 0, slots := 0, locals := 12 } : Room) #[.ref x] [] [(x, csb)] (fun v M N => v = some (.int (Int32.ofNat cnt)) ∧ M = [] ∧ N = []) := by
  refine OCon.of_wp (L0 := [.val (.ref x)]) pn_SBLN hEL (fun m => by first | (simp [entryFrame, mkF, argsToLocals, Value.category]; done) | rfl) ?_
  intro p e s m below meth c hk
  refine OWp.aload_n hk d_SBLN_0 (pc' := 1) rfl rfl rfl ?_
  refine OWp.callU hk d_SBLN_1 (pc' := 4) rfl (hw _ (List.mem_of_getElem? (i := 158) rfl)) (sameM (ret' := none) (hw _ (List.mem_of_getElem? (i := 89) rfl)) rfl (hw _ (List.mem_of_getElem? (i := 154) rfl)) (by decide)) (hw _ (List.mem_of_getElem? (i := 71) rfl)) (hw _ (List.mem_of_getElem? (i := 154) rfl)) (by decide) (hw _ (List.mem_of_getElem? (i := 55) rfl)) (hw _ (List.mem_of_getElem? (i := 159) rfl)) (by simp) hB.1 (c_ABL hw hEL hB) rfl (by simp) rfl (lenOf pd_18 rfl) rfl (W := 0) rfl (by first | decide | (dsimp only; omega)) (by first | decide | (dsimp only; omega)) (by first | decide | (dsimp only; omega)) (by first | decide | (dsimp only; omega)) ?_
  rintro _ _ _ ⟨rfl, rfl, rfl⟩
  exact OWp.retI hk d_SBLN_4 ⟨rfl, rfl, rfl⟩ (List.Sublist.refl _) (fun _ h => h) (by decide) (by decide)
theorem c_S2B (hw : ∀ d ∈ tables_1, d.before a0 Z = true) (hEL : EW Z a0 EL) (O2 : Sta Z Z.heap "java/lang/String" "COMPACT_STRINGS" "Z" (.int zc)) (hzc : ¬ zc = 0) (hE : EC Z cy "java/lang/String") (F_value : FC Z cy "java/lang/String" "value" "[B" v0) (F_coder : FC Z cy "java/lang/String" "coder" "B" v1) (hB : SBF Z t csb ct cs cap) (hl : lat cs = true) (hne : ¬ cs.length = cap) (hcap : cs.length ≤ kCap) :
    OCon l Z EL (⟨"java/lang/String", "<init>", "(Ljava/lang/AbstractStringBuilder;Ljava/lang/Void;)V"⟩ : MethodName) jdk_42_method_150_code 5 none [] ({ frames := 3, cells := 1, slots := kCap, locals := 49 } : Room) #[.ref y, .ref x, .null] [(y, cy)] [(x, csb), (t, ct)]
      (fun v M N => v = none ∧ M = [] ∧ ∃ u cy' cu, N = [(y, cy'), (u, cu)] ∧ SC Z u cy' cu cs) := by
  refine OCon.of_wp (L0 := [.val (.ref y), .val (.ref x), .val .null, .unset, .unset]) pn_S2B hEL (fun m => by first | (simp [entryFrame, mkF, argsToLocals, Value.category]; done) | rfl) ?_
  intro p e s m below meth c hk
  obtain ⟨hB0, ⟨f, hA, hf⟩, hle, hc2, hch⟩ := hB
  rw [w_lat hl] at hA hf
  rw [cd_lat hl] at hB0
  refine OWp.aload_n hk d_S2B_0 (pc' := 1) rfl rfl rfl ?_
  refine OWp.initO hk d_S2B_1 (pc' := 4) rfl (hw _ (List.mem_of_getElem? (i := 16) rfl)) (hw _ (List.mem_of_getElem? (i := 17) rfl)) (hw _ (List.mem_of_getElem? (i := 18) rfl)) rfl (by first | decide | (dsimp only; omega)) (W := 0) rfl (by first | decide | (dsimp only; omega)) ?_
  refine OWp.aload_n hk d_S2B_4 (pc' := 5) rfl rfl rfl ?_
  refine OWp.callV hk d_S2B_5 (pc' := 8) rfl (hw _ (List.mem_of_getElem? (i := 147) rfl)) (hw _ (List.mem_of_getElem? (i := 148) rfl)) (nfs (hw _ (List.mem_of_getElem? (i := 150) rfl))) (hw _ (List.mem_of_getElem? (i := 150) rfl)) (hw _ (List.mem_of_getElem? (i := 149) rfl)) (hw _ (List.mem_of_getElem? (i := 55) rfl)) (hw _ (List.mem_of_getElem? (i := 151) rfl)) (by decide) (by simp) hB0.1 (c_GV hw hEL hB0) rfl (by simp) rfl (lenOf pd_22 rfl) rfl (W := 0) rfl (by first | decide | (dsimp only; omega)) (by first | decide | (dsimp only; omega)) (by first | decide | (dsimp only; omega)) (by first | decide | (dsimp only; omega)) ?_
  rintro _ _ _ ⟨rfl, rfl, rfl⟩
  refine OWp.astore_n hk d_S2B_8 (pc' := 9) rfl (kn := 3) rfl rfl rfl (by simp only [List.set_cons_zero, List.set_cons_succ]; rfl) ?_
  refine OWp.aload_n hk d_S2B_9 (pc' := 10) rfl rfl rfl ?_
  refine OWp.callV hk d_S2B_10 (pc' := 13) rfl (hw _ (List.mem_of_getElem? (i := 152) rfl)) (hw _ (List.mem_of_getElem? (i := 153) rfl)) (nfs2 (hw _ (List.mem_of_getElem? (i := 89) rfl)) rfl) (hw _ (List.mem_of_getElem? (i := 155) rfl)) (hw _ (List.mem_of_getElem? (i := 156) rfl)) (hw _ (List.mem_of_getElem? (i := 47) rfl)) (hw _ (List.mem_of_getElem? (i := 157) rfl)) (by decide) (by simp) hB0.1 (c_SBLN hw hEL hB0) rfl (by simp) rfl (lenOf pd_18 rfl) rfl (W := 0) rfl (by first | decide | (dsimp only; omega)) (by first | decide | (dsimp only; omega)) (by first | decide | (dsimp only; omega)) (by first | decide | (dsimp only; omega)) ?_
  rintro _ _ _ ⟨rfl, rfl, rfl⟩
  refine OWp.istore hk d_S2B_13 (pc' := 15) rfl rfl (by simp only [List.set_cons_zero, List.set_cons_succ]; rfl) ?_
  refine OWp.aload_n hk d_S2B_15 (pc' := 16) rfl rfl rfl ?_
  refine OWp.callV hk d_S2B_16 (pc' := 19) rfl (hw _ (List.mem_of_getElem? (i := 160) rfl)) (hw _ (List.mem_of_getElem? (i := 161) rfl)) (nfs (hw _ (List.mem_of_getElem? (i := 163) rfl))) (hw _ (List.mem_of_getElem? (i := 163) rfl)) (hw _ (List.mem_of_getElem? (i := 162) rfl)) (hw _ (List.mem_of_getElem? (i := 55) rfl)) (hw _ (List.mem_of_getElem? (i := 164) rfl)) (by decide) (by simp) hB0.1 (c_ISLB hw hEL O2 hzc hB0) rfl (by simp) rfl (lenOf pd_11 rfl) rfl (W := 0) rfl (by first | decide | (dsimp only; omega)) (by first | decide | (dsimp only; omega)) (by first | decide | (dsimp only; omega)) (by first | decide | (dsimp only; omega)) ?_
  rintro _ _ _ ⟨rfl, rfl, rfl⟩
  refine OWp.ifNo hk d_S2B_19 (XT.i0_eq_f (by decide)) (pc' := 22) rfl ?_
  refine OWp.aload_n hk d_S2B_22 (pc' := 23) rfl rfl rfl ?_
  refine OWp.iconst hk d_S2B_23 (pc' := 24) rfl (z := 0) rfl ?_
  refine OWp.putfield hk d_S2B_24 (pc' := 27) rfl (hw _ (List.mem_of_getElem? (i := 31) rfl)) (i := 0) rfl F_coder hE (Or.inr ⟨(hw _ (List.mem_of_getElem? (i := 32) rfl)), rfl, rfl⟩) (hw _ (List.mem_of_getElem? (i := 6) rfl)) (ty := .byte) (by decide) rfl rfl ?_
  intro ck hE F_coder hK
  have F_value := hK F_value (slot_ne (Or.inr (hw _ (List.mem_of_getElem? (i := 34) rfl))) (Or.inr (hw _ (List.mem_of_getElem? (i := 32) rfl))) (by decide) (t := (.array .byte)) (by decide) (t' := .byte) (by decide))
  simp only [List.nil_append, List.cons_append, List.set_cons_zero]
  refine OWp.aload_n hk d_S2B_27 (pc' := 28) rfl rfl rfl ?_
  refine OWp.aload_n hk d_S2B_28 (pc' := 29) rfl rfl rfl ?_
  refine OWp.iconst hk d_S2B_29 (pc' := 30) rfl (z := 0) rfl ?_
  refine OWp.iload hk d_S2B_30 (pc' := 32) rfl rfl ?_
  refine OWp.callS hk d_S2B_32 (pc' := 35) rfl (hw _ (List.mem_of_getElem? (i := 165) rfl)) (hw _ (List.mem_of_getElem? (i := 166) rfl)) (hw _ (List.mem_of_getElem? (i := 108) rfl)) (hw _ (List.mem_of_getElem? (i := 167) rfl)) (by decide) (c_COR (a := 0) (b := cs.length) (n := 1 * cap) hw hEL hA (Nat.zero_le _) (by omega) (by omega) (by omega)) rfl (by simp) rfl (lenOf pd_13 rfl) rfl (W := 1) rfl (by first | decide | (dsimp only; omega)) (by first | decide | (dsimp only; omega)) (by first | decide | (dsimp only; omega)) (by first | decide | (dsimp only; omega)) ?_
  rintro _ _ _ ⟨rfl, u, cu, rfl, rfl, hU⟩
  refine OWp.putfield hk d_S2B_35 (pc' := 38) rfl (hw _ (List.mem_of_getElem? (i := 33) rfl)) (i := 0) rfl F_value hE (Or.inr ⟨(hw _ (List.mem_of_getElem? (i := 34) rfl)), rfl, rfl⟩) (hw _ (List.mem_of_getElem? (i := 6) rfl)) (ty := (.array .byte)) (by decide) rfl rfl ?_
  intro ck hE F_value hK
  have F_coder := hK F_coder (slot_ne (Or.inr (hw _ (List.mem_of_getElem? (i := 32) rfl))) (Or.inr (hw _ (List.mem_of_getElem? (i := 34) rfl))) (by decide) (t := .byte) (by decide) (t' := (.array .byte)) (by decide))
  simp only [List.nil_append, List.cons_append, List.set_cons_zero]
  refine OWp.goto hk d_S2B_38 (by decide) (pc' := 97) rfl ?_
  refine OWp.freeze ?_
  exact OWp.ret0 hk d_S2B_97 (N' := [(y, ck), (u, cu)]) ⟨rfl, rfl, u, ck, cu, rfl, hE, F_value, by rw [cd_lat hl]; exact F_coder, by
    rw [bytes_lat hl]
    have hU' := hU
    rw [Nat.sub_zero] at hU'
    exact hU'.congr fun j hj => by rw [Nat.zero_add, hf j (by omega), oAt_lat hl hj], hch⟩ (List.nil_sublist _) (by simp) (by decide) (by decide)
theorem c_S1B (hw : ∀ d ∈ tables_1, d.before a0 Z = true) (hEL : EW Z a0 EL) (O2 : Sta Z Z.heap "java/lang/String" "COMPACT_STRINGS" "Z" (.int zc)) (hzc : ¬ zc = 0) (hE : EC Z cy "java/lang/String") (F_value : FC Z cy "java/lang/String" "value" "[B" v0) (F_coder : FC Z cy "java/lang/String" "coder" "B" v1) (hB : SBF Z t csb ct cs cap) (hl : lat cs = true) (hne : ¬ cs.length = cap) (hcap : cs.length ≤ kCap) :
    OCon l Z EL (⟨"java/lang/String", "<init>", "(Ljava/lang/StringBuilder;)V"⟩ : MethodName) jdk_42_method_53_code 2 none [] ({ frames := 4, cells := 1, slots := kCap, locals := 65 } : Room) #[.ref y, .ref x] [(y, cy)] [(x, csb), (t, ct)]
      (fun v M N => v = none ∧ M = [] ∧ ∃ u cy' cu, N = [(y, cy'), (u, cu)] ∧ SC Z u cy' cu cs) := by
  refine OCon.of_wp (L0 := [.val (.ref y), .val (.ref x)]) pn_S1B hEL (fun m => by first | (simp [entryFrame, mkF, argsToLocals, Value.category]; done) | rfl) ?_
  intro p e s m below meth c hk
  refine OWp.aload_n hk d_S1B_0 (pc' := 1) rfl rfl rfl ?_
  refine OWp.aload_n hk d_S1B_1 (pc' := 2) rfl rfl rfl ?_
  refine OWp.aconst_null hk d_S1B_2 (pc' := 3) rfl ?_
  refine OWp.callI hk d_S1B_3 (pc' := 6) rfl rfl (hw _ (List.mem_of_getElem? (i := 144) rfl)) (hw _ (List.mem_of_getElem? (i := 145) rfl)) (hw _ (List.mem_of_getElem? (i := 7) rfl)) (hw _ (List.mem_of_getElem? (i := 146) rfl)) (by decide) (c_S2B hw hEL O2 hzc hE F_value F_coder hB hl hne hcap) rfl (by simp) rfl (lenOf pd_23 rfl) rfl (W := 0) rfl (by first | decide | (dsimp only; omega)) (by first | decide | (dsimp only; omega)) (by first | decide | (dsimp only; omega)) (by first | decide | (dsimp only; omega)) ?_
  rintro _ _ _ ⟨rfl, rfl, u, cy', cu, rfl, hS⟩
  exact OWp.ret0 hk d_S1B_6 (N' := [(y, cy'), (u, cu)]) ⟨rfl, rfl, u, cy', cu, rfl, hS⟩ (List.nil_sublist _) (by simp) (by decide) (by decide)
theorem c_TS (hw : ∀ d ∈ tables_1, d.before a0 Z = true) (hEL : EW Z a0 EL) (O2 : Sta Z Z.heap "java/lang/String" "COMPACT_STRINGS" "Z" (.int zc)) (hzc : ¬ zc = 0) (hB : SBF Z t csb ct cs cap) (hl : lat cs = true) (hne : ¬ cs.length = cap) (hcap : cs.length ≤ kCap) :
    OCon l Z EL (⟨"java/lang/StringBuilder", "toString", "()Ljava/lang/String;"⟩ : MethodName) jdk_67_method_42_code 1 (some (.object "java/lang/String")) [] ({ frames := 5, cells := 2, slots := kCap + 4, locals := 79 } : Room) #[.ref x] [] [(x, csb), (t, ct)]
      (fun v M N => M = [] ∧ ∃ y u cy cu, v = some (.ref y) ∧ N = [(y, cy), (u, cu)] ∧ SC Z u cy cu cs) := by
  refine OCon.of_wp (L0 := [.val (.ref x)]) pn_TS hEL (fun m => by first | (simp [entryFrame, mkF, argsToLocals, Value.category]; done) | rfl) ?_
  intro p e s m below meth c hk
  refine OWp.new hk d_TS_0 (pc' := 3) rfl (hw _ (List.mem_of_getElem? (i := 140) rfl)) (hw _ (List.mem_of_getElem? (i := 6) rfl)) (hw _ (List.mem_of_getElem? (i := 7) rfl)) (by decide) (by decide) ?_
  intro y cy hE hD
  have hV : FC Z cy "java/lang/String" "value" "[B" .null := hD (Or.inr (hw _ (List.mem_of_getElem? (i := 34) rfl))) (ty := .array .byte) (by decide)
  have hC : FC Z cy "java/lang/String" "coder" "B" (.int 0) := hD (Or.inr (hw _ (List.mem_of_getElem? (i := 32) rfl))) (ty := .byte) (by decide)
  refine OWp.dup hk d_TS_3 (pc' := 4) rfl rfl ?_
  refine OWp.aload_n hk d_TS_4 (pc' := 5) rfl rfl rfl ?_
  refine OWp.callI hk d_TS_5 (pc' := 8) rfl rfl (hw _ (List.mem_of_getElem? (i := 141) rfl)) (hw _ (List.mem_of_getElem? (i := 142) rfl)) (hw _ (List.mem_of_getElem? (i := 7) rfl)) (hw _ (List.mem_of_getElem? (i := 143) rfl)) (by decide) (c_S1B hw hEL O2 hzc hE hV hC hB hl hne hcap) rfl (by simp) rfl (lenOf pd_24 rfl) rfl (W := 1) rfl (by first | decide | (dsimp only; omega)) (by first | decide | (dsimp only; omega)) (by first | decide | (dsimp only; omega)) (by first | decide | (dsimp only; omega)) ?_
  rintro _ _ _ ⟨rfl, rfl, u, cy', cu, rfl, hS⟩
  exact OWp.retA hk rfl rfl rfl d_TS_8 (M' := []) (N' := [(y, cy'), (u, cu)]) ⟨rfl, y, u, cy', cu, rfl, rfl, hS⟩ (List.nil_sublist _) (by simp) (by decide) (by decide)
end StrSBT
theorem d_CEN_0 : decode jdk_43_method_3_code 0 = .ok (.iload_n 0, 1) := by decide +kernel
theorem d_CEN_1 : decode jdk_43_method_3_code 1 = .ok (.sipush 255, 3) := by decide +kernel
theorem d_CEN_4 : decode jdk_43_method_3_code 4 = .ok (.if_icmp .gt 7, 3) := by decide +kernel
theorem d_CEN_7 : decode jdk_43_method_3_code 7 = .ok (.iconst 1, 1) := by decide +kernel
theorem d_CEN_8 : decode jdk_43_method_3_code 8 = .ok (.goto 4, 3) := by decide +kernel
theorem d_CEN_11 : decode jdk_43_method_3_code 11 = .ok (.iconst 0, 1) := by decide +kernel
theorem d_CEN_12 : decode jdk_43_method_3_code 12 = .ok (.ireturn, 1) := by decide +kernel
theorem pn_CEN : plainFor (⟨"java/lang/StringLatin1", "canEncode", "(C)Z"⟩ : MethodName) = true := by first | exact plainFor_of_name (by first | (simp [plainName, overriddenIn]; done) | decide +kernel) | decide +kernel
section StrCEN
variable {l : Launch} {Z : State} {a0 : Array Value} {EL : List (String × Nat)} {zc c : Int32} {x t : Addr} {cx ct : Cell} {cs : List Int32}
theorem c_CEN (hw : ∀ d ∈ tables_1, d.before a0 Z = true) (hEL : EW Z a0 EL) (h1 : ¬ (255 : Int32) < c) :
    OCon l Z EL (⟨"java/lang/StringLatin1", "canEncode", "(C)Z"⟩ : MethodName) jdk_43_method_3_code 1 (some .boolean) [] ({ frames := 0, cells := 0, slots := 0, locals := 0 } : Room) #[.int c] [] [] (fun v M N => v = some (.int 1) ∧ M = [] ∧ N = []) := by
  refine OCon.of_wp (L0 := [.val (.int c)]) pn_CEN hEL (fun m => by first | (simp [entryFrame, mkF, argsToLocals, Value.category]; done) | rfl) ?_
  intro p e s m below meth c' hk
  refine OWp.iload_n hk d_CEN_0 (pc' := 1) rfl rfl ?_
  refine OWp.sipush hk d_CEN_1 (pc' := 4) rfl (z := 255) rfl ?_
  refine OWp.icmpNo hk d_CEN_4 (XT.ii_gt_f h1) (pc' := 7) rfl ?_
  refine OWp.iconst hk d_CEN_7 (pc' := 8) rfl (z := 1) rfl ?_
  refine OWp.goto hk d_CEN_8 (by decide) (pc' := 12) rfl ?_
  exact OWp.retN hk (Or.inl rfl) d_CEN_12 ⟨rfl, rfl, rfl⟩ (List.Sublist.refl _) (fun _ h => h) (by decide) (by decide)
end StrCEN
theorem d_SBB_0 : decode jdk_42_method_151_code 0 = .ok (.aload_n 0, 1) := by decide +kernel
theorem d_SBB_1 : decode jdk_42_method_151_code 1 = .ok (.invokespecial 1, 3) := by decide +kernel
theorem d_SBB_4 : decode jdk_42_method_151_code 4 = .ok (.aload_n 0, 1) := by decide +kernel
theorem d_SBB_5 : decode jdk_42_method_151_code 5 = .ok (.aload_n 1, 1) := by decide +kernel
theorem d_SBB_6 : decode jdk_42_method_151_code 6 = .ok (.putfield 9, 3) := by decide +kernel
theorem d_SBB_9 : decode jdk_42_method_151_code 9 = .ok (.aload_n 0, 1) := by decide +kernel
theorem d_SBB_10 : decode jdk_42_method_151_code 10 = .ok (.iload_n 2, 1) := by decide +kernel
theorem d_SBB_11 : decode jdk_42_method_151_code 11 = .ok (.putfield 15, 3) := by decide +kernel
theorem d_SBB_14 : decode jdk_42_method_151_code 14 = .ok (.return_, 1) := by decide +kernel
theorem pn_SBB : plainFor (⟨"java/lang/String", "<init>", "([BB)V"⟩ : MethodName) = true := by first | exact plainFor_of_name (by first | (simp [plainName, overriddenIn]; done) | decide +kernel) | decide +kernel
section StrSBB
variable {l : Launch} {Z : State} {a0 : Array Value} {EL : List (String × Nat)} {zc c : Int32} {x t : Addr} {cx ct : Cell} {cs : List Int32}
/-- the private constructor over a byte[] and its coder -/
theorem c_SBB (hw : ∀ d ∈ tables_1, d.before a0 Z = true) (hEL : EW Z a0 EL) (hE : EC Z cx "java/lang/String") {v0 v1 : Value} (F_value : FC Z cx "java/lang/String" "value" "[B" v0) (F_coder : FC Z cx "java/lang/String" "coder" "B" v1) (hT : AC Z ct .byte (oBytes cs)) (hcs : Chars cs) (hc : c = cdOf cs) :
    OCon l Z EL (⟨"java/lang/String", "<init>", "([BB)V"⟩ : MethodName) jdk_42_method_151_code 3 none [] ({ frames := 1, cells := 0, slots := 0, locals := 12 } : Room) #[.ref x, .ref t, .int c] [(x, cx)] []
      (fun v M N => v = none ∧ M = [] ∧ ∃ cx', N = [(x, cx')] ∧ SC Z t cx' ct cs) := by
  subst hc
  refine OCon.of_wp (L0 := [.val (.ref x), .val (.ref t), .val (.int (cdOf cs))]) pn_SBB hEL (fun m => by first | (simp [entryFrame, mkF, argsToLocals, Value.category]; done) | rfl) ?_
  intro p e s m below meth c' hk
  refine OWp.aload_n hk d_SBB_0 (pc' := 1) rfl rfl rfl ?_
  refine OWp.initO hk d_SBB_1 (pc' := 4) rfl (hw _ (List.mem_of_getElem? (i := 16) rfl)) (hw _ (List.mem_of_getElem? (i := 17) rfl)) (hw _ (List.mem_of_getElem? (i := 18) rfl)) rfl (by first | decide | (dsimp only; omega)) (W := 0) rfl (by first | decide | (dsimp only; omega)) ?_
  refine OWp.aload_n hk d_SBB_4 (pc' := 5) rfl rfl rfl ?_
  refine OWp.aload_n hk d_SBB_5 (pc' := 6) rfl rfl rfl ?_
  refine OWp.putfield hk d_SBB_6 (pc' := 9) rfl (hw _ (List.mem_of_getElem? (i := 33) rfl)) (i := 0) rfl F_value hE (Or.inr ⟨(hw _ (List.mem_of_getElem? (i := 34) rfl)), rfl, rfl⟩) (hw _ (List.mem_of_getElem? (i := 6) rfl)) (ty := (.array .byte)) (by decide) rfl rfl ?_
  intro ck hE F_value hK
  have F_coder := hK F_coder (slot_ne (Or.inr (hw _ (List.mem_of_getElem? (i := 32) rfl))) (Or.inr (hw _ (List.mem_of_getElem? (i := 34) rfl))) (by decide) (t := .byte) (by decide) (t' := (.array .byte)) (by decide))
  simp only [List.nil_append, List.cons_append, List.set_cons_zero]
  refine OWp.aload_n hk d_SBB_9 (pc' := 10) rfl rfl rfl ?_
  refine OWp.iload_n hk d_SBB_10 (pc' := 11) rfl rfl ?_
  refine OWp.putfield hk d_SBB_11 (pc' := 14) rfl (hw _ (List.mem_of_getElem? (i := 31) rfl)) (i := 0) rfl F_coder hE (Or.inr ⟨(hw _ (List.mem_of_getElem? (i := 32) rfl)), rfl, rfl⟩) (hw _ (List.mem_of_getElem? (i := 6) rfl)) (ty := .byte) (by decide) (congrArg Value.int (nar_cd cs)) (fits_cd cs) ?_
  intro cx3 hE3 hC3 hK3
  have hV3 := hK3 F_value (slot_ne (Or.inr (hw _ (List.mem_of_getElem? (i := 34) rfl))) (Or.inr (hw _ (List.mem_of_getElem? (i := 32) rfl))) (by decide) (t := .array .byte) (by decide) (t' := .byte) (by decide))
  simp only [List.nil_append, List.cons_append, List.set_cons_zero]
  refine OWp.freeze ?_
  exact OWp.ret0 hk d_SBB_14 ⟨rfl, rfl, cx3, rfl, hE3, hV3, hC3, hT, hcs⟩ (List.Sublist.refl _) (fun _ h => h) (by decide) (by decide)
end StrSBB
theorem d_VALC_0 : decode jdk_42_method_139_code 0 = .ok (.getstatic 38, 3) := by decide +kernel
theorem d_VALC_3 : decode jdk_42_method_139_code 3 = .ok (.ifCond .eq 23, 3) := by decide +kernel
theorem d_VALC_6 : decode jdk_42_method_139_code 6 = .ok (.iload_n 0, 1) := by decide +kernel
theorem d_VALC_7 : decode jdk_42_method_139_code 7 = .ok (.invokestatic 1015, 3) := by decide +kernel
theorem d_VALC_10 : decode jdk_42_method_139_code 10 = .ok (.ifCond .eq 16, 3) := by decide +kernel
theorem d_VALC_13 : decode jdk_42_method_139_code 13 = .ok (.new 10, 3) := by decide +kernel
theorem d_VALC_16 : decode jdk_42_method_139_code 16 = .ok (.dup, 1) := by decide +kernel
theorem d_VALC_17 : decode jdk_42_method_139_code 17 = .ok (.iload_n 0, 1) := by decide +kernel
theorem d_VALC_18 : decode jdk_42_method_139_code 18 = .ok (.invokestatic 1018, 3) := by decide +kernel
theorem d_VALC_21 : decode jdk_42_method_139_code 21 = .ok (.iconst 0, 1) := by decide +kernel
theorem d_VALC_22 : decode jdk_42_method_139_code 22 = .ok (.invokespecial 209, 3) := by decide +kernel
theorem d_VALC_25 : decode jdk_42_method_139_code 25 = .ok (.areturn, 1) := by decide +kernel
theorem d_VALC_26 : decode jdk_42_method_139_code 26 = .ok (.new 10, 3) := by decide +kernel
theorem d_VALC_29 : decode jdk_42_method_139_code 29 = .ok (.dup, 1) := by decide +kernel
theorem d_VALC_30 : decode jdk_42_method_139_code 30 = .ok (.iload_n 0, 1) := by decide +kernel
theorem d_VALC_31 : decode jdk_42_method_139_code 31 = .ok (.invokestatic 1021, 3) := by decide +kernel
theorem d_VALC_34 : decode jdk_42_method_139_code 34 = .ok (.iconst 1, 1) := by decide +kernel
theorem d_VALC_35 : decode jdk_42_method_139_code 35 = .ok (.invokespecial 209, 3) := by decide +kernel
theorem d_VALC_38 : decode jdk_42_method_139_code 38 = .ok (.areturn, 1) := by decide +kernel
theorem pn_VALC : plainFor (⟨"java/lang/String", "valueOf", "(C)Ljava/lang/String;"⟩ : MethodName) = true := by first | exact plainFor_of_name (by first | (simp [plainName, overriddenIn]; done) | decide +kernel) | decide +kernel
theorem d_LTB_0 : decode jdk_43_method_46_code 0 = .ok (.iconst 1, 1) := by decide +kernel
theorem d_LTB_1 : decode jdk_43_method_46_code 1 = .ok (.newarray .byte, 2) := by decide +kernel
theorem d_LTB_3 : decode jdk_43_method_46_code 3 = .ok (.dup, 1) := by decide +kernel
theorem d_LTB_4 : decode jdk_43_method_46_code 4 = .ok (.iconst 0, 1) := by decide +kernel
theorem d_LTB_5 : decode jdk_43_method_46_code 5 = .ok (.iload_n 0, 1) := by decide +kernel
theorem d_LTB_6 : decode jdk_43_method_46_code 6 = .ok (.i2b, 1) := by decide +kernel
theorem d_LTB_7 : decode jdk_43_method_46_code 7 = .ok (.bastore, 1) := by decide +kernel
theorem d_LTB_8 : decode jdk_43_method_46_code 8 = .ok (.areturn, 1) := by decide +kernel
theorem pn_LTB : plainFor (⟨"java/lang/StringLatin1", "toBytes", "(C)[B"⟩ : MethodName) = true := by first | exact plainFor_of_name (by first | (simp [plainName, overriddenIn]; done) | decide +kernel) | decide +kernel
section StrVal
variable {l : Launch} {Z : State} {a0 : Array Value} {EL : List (String × Nat)} {zc c : Int32} {x t : Addr} {cx ct : Cell} {cs : List Int32}
theorem c_LTB (hw : ∀ d ∈ tables_1, d.before a0 Z = true) (hEL : EW Z a0 EL) :
    OCon l Z EL (⟨"java/lang/StringLatin1", "toBytes", "(C)[B"⟩ : MethodName) jdk_43_method_46_code 1 (some (.array .byte)) [] ({ frames := 0, cells := 1, slots := 1, locals := 0 } : Room) #[.int c] [] [] (fun v M N => M = [] ∧ ∃ t ct, v = some (.ref t) ∧ N = [(t, ct)] ∧ AC Z ct .byte [.int (lo8 c)]) := by
  refine OCon.of_wp (L0 := [.val (.int c)]) pn_LTB hEL (fun m => by first | (simp [entryFrame, mkF, argsToLocals, Value.category]; done) | rfl) ?_
  intro p e s m below meth c' hk
  refine OWp.iconst hk d_LTB_0 (pc' := 1) rfl (z := 1) rfl ?_
  refine OWp.newarray hk d_LTB_1 (pc' := 3) rfl (hw _ (List.mem_of_getElem? (i := 24) rfl)) (by decide) (cap := 1) (by decide) (by decide) (by decide) (by decide) (vs := [.int 0]) rfl ?_
  intro b cb hA
  refine OWp.dup hk d_LTB_3 (pc' := 4) rfl rfl ?_
  refine OWp.iconst hk d_LTB_4 (pc' := 5) rfl (z := 0) rfl ?_
  refine OWp.iload_n hk d_LTB_5 (pc' := 6) rfl rfl ?_
  refine OWp.i2b hk d_LTB_6 (pc' := 7) rfl ?_
  refine OWp.bastore hk d_LTB_7 (pc' := 8) rfl (i := 0) rfl hA (by decide) (t := 0) (by decide) (Nat.le_of_ble_eq_true rfl) ?_
  clear hA
  intro cb hA
  simp only [List.nil_append, List.cons_append, List.set_cons_zero] at hA ⊢
  refine OWp.freeze ?_
  exact OWp.retA hk rfl rfl rfl d_LTB_8 ⟨rfl, b, cb, rfl, rfl, by simpa [lo8] using hA⟩ (List.Sublist.refl _) (fun _ h => h) (by decide) (by decide)
theorem c_VALC (hw : ∀ d ∈ tables_1, d.before a0 Z = true) (hEL : EW Z a0 EL) (O2 : Sta Z Z.heap "java/lang/String" "COMPACT_STRINGS" "Z" (.int zc)) (hzc : ¬ zc = 0) (h0 : ¬ c < 0) (h1 : ¬ (255 : Int32) < c) :
    OCon l Z EL (⟨"java/lang/String", "valueOf", "(C)Ljava/lang/String;"⟩ : MethodName) jdk_42_method_139_code 1 (some (.object "java/lang/String")) [] ({ frames := 2, cells := 2, slots := 5, locals := 30 } : Room) #[.int c] [] []
      (fun v M N => M = [] ∧ ∃ x t cx ct, v = some (.ref x) ∧ N = [(x, cx), (t, ct)] ∧ SC Z t cx ct [c]) := by
  refine OCon.of_wp (L0 := [.val (.int c)]) pn_VALC hEL (fun m => by first | (simp [entryFrame, mkF, argsToLocals, Value.category]; done) | rfl) ?_
  intro p e s m below meth c' hk
  have hl : lat [c] = true := lat_iff.mpr fun q hq => by rw [List.mem_singleton.mp hq]; exact h1
  have hch : Chars [c] := ⟨fun q hq => by rw [List.mem_singleton.mp hq]; exact ⟨h0, lt_65535 h1⟩, Nat.le_of_ble_eq_true rfl⟩
  refine OWp.getstatic hk d_VALC_0 (pc' := 3) rfl (hw _ (List.mem_of_getElem? (i := 19) rfl)) O2 ?_
  refine OWp.ifNo hk d_VALC_3 (XT.i0_eq_f hzc) (pc' := 6) rfl ?_
  refine OWp.iload_n hk d_VALC_6 (pc' := 7) rfl rfl ?_
  refine OWp.callS hk d_VALC_7 (pc' := 10) rfl (hw _ (List.mem_of_getElem? (i := 270) rfl)) (hw _ (List.mem_of_getElem? (i := 271) rfl)) (hw _ (List.mem_of_getElem? (i := 254) rfl)) (hw _ (List.mem_of_getElem? (i := 272) rfl)) (by decide) (c_CEN hw hEL h1) rfl (by simp) rfl (lenOf pd_25 rfl) rfl (W := 0) rfl (by first | decide | (dsimp only; omega)) (by first | decide | (dsimp only; omega)) (by first | decide | (dsimp only; omega)) (by first | decide | (dsimp only; omega)) ?_
  rintro _ _ _ ⟨rfl, rfl, rfl⟩
  refine OWp.ifNo hk d_VALC_10 (XT.i0_eq_f (by decide)) (pc' := 13) rfl ?_
  refine OWp.new hk d_VALC_13 (pc' := 16) rfl (hw _ (List.mem_of_getElem? (i := 273) rfl)) (hw _ (List.mem_of_getElem? (i := 6) rfl)) (hw _ (List.mem_of_getElem? (i := 7) rfl)) (by decide) (by decide) ?_
  intro x cx hE hD
  have hV : FC Z cx "java/lang/String" "value" "[B" .null := hD (Or.inr (hw _ (List.mem_of_getElem? (i := 34) rfl))) (ty := .array .byte) (by decide)
  have hC : FC Z cx "java/lang/String" "coder" "B" (.int 0) := hD (Or.inr (hw _ (List.mem_of_getElem? (i := 32) rfl))) (ty := .byte) (by decide)
  refine OWp.dup hk d_VALC_16 (pc' := 17) rfl rfl ?_
  refine OWp.iload_n hk d_VALC_17 (pc' := 18) rfl rfl ?_
  refine OWp.callS hk d_VALC_18 (pc' := 21) rfl (hw _ (List.mem_of_getElem? (i := 330) rfl)) (hw _ (List.mem_of_getElem? (i := 331) rfl)) (hw _ (List.mem_of_getElem? (i := 254) rfl)) (hw _ (List.mem_of_getElem? (i := 332) rfl)) (by decide) (c_LTB (c := c) hw hEL) rfl (by simp) rfl (lenOf pd_26 rfl) rfl (W := 2) rfl (by first | decide | (dsimp only; omega)) (by first | decide | (dsimp only; omega)) (by first | decide | (dsimp only; omega)) (by first | decide | (dsimp only; omega)) ?_
  rintro _ _ _ ⟨rfl, t, ct, rfl, rfl, hT⟩
  refine OWp.iconst hk d_VALC_21 (pc' := 22) rfl (z := 0) rfl ?_
  refine OWp.callI hk d_VALC_22 (pc' := 25) rfl rfl (hw _ (List.mem_of_getElem? (i := 283) rfl)) (hw _ (List.mem_of_getElem? (i := 284) rfl)) (hw _ (List.mem_of_getElem? (i := 7) rfl)) (hw _ (List.mem_of_getElem? (i := 285) rfl)) (by decide) (c_SBB (cs := [c]) hw hEL hE hV hC (by rw [bytes_lat hl]; exact hT) hch (by rw [cdOf, hl]; rfl)) rfl (by simp) rfl (lenOf pd_27 rfl) rfl (W := 1) rfl (by first | decide | (dsimp only; omega)) (by first | decide | (dsimp only; omega)) (by first | decide | (dsimp only; omega)) (by first | decide | (dsimp only; omega)) ?_
  rintro _ _ _ ⟨rfl, rfl, cx2, rfl, hs⟩
  exact OWp.retA hk rfl rfl rfl d_VALC_25 (M' := []) (N' := [(x, cx2), (t, ct)]) ⟨rfl, x, t, cx2, ct, rfl, rfl, hs⟩ (List.nil_sublist _) (by simp) (by decide) (by decide)
end StrVal
theorem d_UTB_0 : decode jdk_52_method_24_code 0 = .ok (.iconst 2, 1) := by decide +kernel
theorem d_UTB_1 : decode jdk_52_method_24_code 1 = .ok (.newarray .byte, 2) := by decide +kernel
theorem d_UTB_3 : decode jdk_52_method_24_code 3 = .ok (.astore_n 1, 1) := by decide +kernel
theorem d_UTB_4 : decode jdk_52_method_24_code 4 = .ok (.aload_n 1, 1) := by decide +kernel
theorem d_UTB_5 : decode jdk_52_method_24_code 5 = .ok (.iconst 0, 1) := by decide +kernel
theorem d_UTB_6 : decode jdk_52_method_24_code 6 = .ok (.iload_n 0, 1) := by decide +kernel
theorem d_UTB_7 : decode jdk_52_method_24_code 7 = .ok (.invokestatic 111, 3) := by decide +kernel
theorem d_UTB_10 : decode jdk_52_method_24_code 10 = .ok (.aload_n 1, 1) := by decide +kernel
theorem d_UTB_11 : decode jdk_52_method_24_code 11 = .ok (.areturn, 1) := by decide +kernel
theorem pn_UTB : plainFor (⟨"java/lang/StringUTF16", "toBytes", "(C)[B"⟩ : MethodName) = true := by first | exact plainFor_of_name (by first | (simp [plainName, overriddenIn]; done) | decide +kernel) | decide +kernel
section StrValW
variable {l : Launch} {Z : State} {a0 : Array Value} {EL : List (String × Nat)} {zc c : Int32} {x t : Addr} {cx ct : Cell} {cs : List Int32}
theorem c_CENw (hw : ∀ d ∈ tables_1, d.before a0 Z = true) (hEL : EW Z a0 EL) (h1 : (255 : Int32) < c) :
    OCon l Z EL (⟨"java/lang/StringLatin1", "canEncode", "(C)Z"⟩ : MethodName) jdk_43_method_3_code 1 (some .boolean) [] ({ frames := 0, cells := 0, slots := 0, locals := 0 } : Room) #[.int c] [] [] (fun v M N => v = some (.int 0) ∧ M = [] ∧ N = []) := by
  refine OCon.of_wp (L0 := [.val (.int c)]) pn_CEN hEL (fun m => by first | (simp [entryFrame, mkF, argsToLocals, Value.category]; done) | rfl) ?_
  intro p e s m below meth c' hk
  refine OWp.iload_n hk d_CEN_0 (pc' := 1) rfl rfl ?_
  refine OWp.sipush hk d_CEN_1 (pc' := 4) rfl (z := 255) rfl ?_
  refine OWp.icmpYes hk d_CEN_4 (XT.ii_gt_t h1) (by decide) (pc' := 11) rfl ?_
  refine OWp.iconst hk d_CEN_11 (pc' := 12) rfl (z := 0) rfl ?_
  exact OWp.retN hk (Or.inl rfl) d_CEN_12 ⟨rfl, rfl, rfl⟩ (List.Sublist.refl _) (fun _ h => h) (by decide) (by decide)
theorem c_UTB (hw : ∀ d ∈ tables_1, d.before a0 Z = true) (hEL : EW Z a0 EL) (OA : Sta Z Z.heap "java/lang/StringUTF16" "$assertionsDisabled" "Z" (.int 1)) (OH : Sta Z Z.heap "java/lang/StringUTF16" "HI_BYTE_SHIFT" "I" (.int 0)) (OL : Sta Z Z.heap "java/lang/StringUTF16" "LO_BYTE_SHIFT" "I" (.int 8)) :
    OCon l Z EL (⟨"java/lang/StringUTF16", "toBytes", "(C)[B"⟩ : MethodName) jdk_52_method_24_code 2 (some (.array .byte)) [] ({ frames := 1, cells := 1, slots := 2, locals := 14 } : Room) #[.int c] [] [] (fun v M N => M = [] ∧ ∃ t ct, v = some (.ref t) ∧ N = [(t, ct)] ∧ AC Z ct .byte (oWide [c])) := by
  refine OCon.of_wp (L0 := [.val (.int c), .unset]) pn_UTB hEL (fun m => by first | (simp [entryFrame, mkF, argsToLocals, Value.category]; done) | rfl) ?_
  intro p e s m below meth c' hk
  refine OWp.iconst hk d_UTB_0 (pc' := 1) rfl (z := 2) rfl ?_
  refine OWp.newarray hk d_UTB_1 (pc' := 3) rfl (hw _ (List.mem_of_getElem? (i := 24) rfl)) (by decide) (cap := 2) (by decide) (by decide) (by decide) (by decide) (vs := tab (2 * 1) fun _ => .int 0) rfl ?_
  intro b cb hA
  refine OWp.astore_n hk d_UTB_3 (pc' := 4) rfl (kn := 1) rfl rfl rfl (by simp only [List.set_cons_zero, List.set_cons_succ]; rfl) ?_
  refine OWp.aload_n hk d_UTB_4 (pc' := 5) rfl rfl rfl ?_
  refine OWp.iconst hk d_UTB_5 (pc' := 6) rfl (z := 0) rfl ?_
  refine OWp.iload_n hk d_UTB_6 (pc' := 7) rfl rfl ?_
  refine OWp.callS hk d_UTB_7 (pc' := 10) rfl (hw _ (List.mem_of_getElem? (i := 277) rfl)) (hw _ (List.mem_of_getElem? (i := 278) rfl)) (hw _ (List.mem_of_getElem? (i := 22) rfl)) (hw _ (List.mem_of_getElem? (i := 279) rfl)) (by decide) (c_PUT (i := 0) (n := 1) (c := c) hw hEL OA OH OL hA (by decide) (by decide)) rfl (by simp) rfl (lenOf pd_2 rfl) rfl (W := 0) rfl (by first | decide | (dsimp only; omega)) (by first | decide | (dsimp only; omega)) (by first | decide | (dsimp only; omega)) (by first | decide | (dsimp only; omega)) ?_
  rintro _ _ _ ⟨rfl, rfl, cb2, rfl, hA2⟩
  refine OWp.aload_n hk d_UTB_10 (pc' := 11) rfl rfl rfl ?_
  refine OWp.freeze ?_
  exact OWp.retA hk rfl rfl rfl d_UTB_11 ⟨rfl, b, cb2, rfl, rfl, by
    rw [oWide]
    refine hA2.congr fun j hj => ?_
    have : j = 0 ∨ j = 1 := by omega
    rcases this with rfl | rfl <;> rfl⟩ (List.Sublist.refl _) (fun _ h => h) (by decide) (by decide)
theorem c_VALg (hw : ∀ d ∈ tables_1, d.before a0 Z = true) (hEL : EW Z a0 EL) (O2 : Sta Z Z.heap "java/lang/String" "COMPACT_STRINGS" "Z" (.int zc)) (hzc : ¬ zc = 0) (OA : Sta Z Z.heap "java/lang/StringUTF16" "$assertionsDisabled" "Z" (.int 1)) (OH : Sta Z Z.heap "java/lang/StringUTF16" "HI_BYTE_SHIFT" "I" (.int 0)) (OL : Sta Z Z.heap "java/lang/StringUTF16" "LO_BYTE_SHIFT" "I" (.int 8)) (h0 : ¬ c < 0) (h1 : ¬ (65535 : Int32) < c) :
    OCon l Z EL (⟨"java/lang/String", "valueOf", "(C)Ljava/lang/String;"⟩ : MethodName) jdk_42_method_139_code 1 (some (.object "java/lang/String")) [] ({ frames := 2, cells := 2, slots := 6, locals := 30 } : Room) #[.int c] [] []
      (fun v M N => M = [] ∧ ∃ x t cx ct, v = some (.ref x) ∧ N = [(x, cx), (t, ct)] ∧ SC Z t cx ct [c]) := by
  refine OCon.of_wp (L0 := [.val (.int c)]) pn_VALC hEL (fun m => by first | (simp [entryFrame, mkF, argsToLocals, Value.category]; done) | rfl) ?_
  intro p e s m below meth c' hk
  have hch : Chars [c] := ⟨fun q hq => by rw [List.mem_singleton.mp hq]; exact ⟨h0, h1⟩, Nat.le_of_ble_eq_true rfl⟩
  refine OWp.getstatic hk d_VALC_0 (pc' := 3) rfl (hw _ (List.mem_of_getElem? (i := 19) rfl)) O2 ?_
  refine OWp.ifNo hk d_VALC_3 (XT.i0_eq_f hzc) (pc' := 6) rfl ?_
  refine OWp.iload_n hk d_VALC_6 (pc' := 7) rfl rfl ?_
  by_cases hc : (255 : Int32) < c
  · have hl : lat [c] = false := Bool.eq_false_iff.mpr fun z => lat_iff.mp z c (List.mem_singleton.mpr rfl) hc
    refine OWp.callS hk d_VALC_7 (pc' := 10) rfl (hw _ (List.mem_of_getElem? (i := 270) rfl)) (hw _ (List.mem_of_getElem? (i := 271) rfl)) (hw _ (List.mem_of_getElem? (i := 254) rfl)) (hw _ (List.mem_of_getElem? (i := 272) rfl)) (by decide) (c_CENw hw hEL hc) rfl (by simp) rfl (lenOf pd_25 rfl) rfl (W := 0) rfl (by first | decide | (dsimp only; omega)) (by first | decide | (dsimp only; omega)) (by first | decide | (dsimp only; omega)) (by first | decide | (dsimp only; omega)) ?_
    rintro _ _ _ ⟨rfl, rfl, rfl⟩
    refine OWp.ifYes hk d_VALC_10 (XT.i0_eq_t (by decide)) (by decide) (pc' := 26) rfl ?_
    refine OWp.new hk d_VALC_26 (pc' := 29) rfl (hw _ (List.mem_of_getElem? (i := 273) rfl)) (hw _ (List.mem_of_getElem? (i := 6) rfl)) (hw _ (List.mem_of_getElem? (i := 7) rfl)) (by decide) (by decide) ?_
    intro x cx hE hD
    have hV : FC Z cx "java/lang/String" "value" "[B" .null := hD (Or.inr (hw _ (List.mem_of_getElem? (i := 34) rfl))) (ty := .array .byte) (by decide)
    have hC : FC Z cx "java/lang/String" "coder" "B" (.int 0) := hD (Or.inr (hw _ (List.mem_of_getElem? (i := 32) rfl))) (ty := .byte) (by decide)
    refine OWp.dup hk d_VALC_29 (pc' := 30) rfl rfl ?_
    refine OWp.iload_n hk d_VALC_30 (pc' := 31) rfl rfl ?_
    refine OWp.callS hk d_VALC_31 (pc' := 34) rfl (hw _ (List.mem_of_getElem? (i := 274) rfl)) (hw _ (List.mem_of_getElem? (i := 275) rfl)) (hw _ (List.mem_of_getElem? (i := 22) rfl)) (hw _ (List.mem_of_getElem? (i := 276) rfl)) (by decide) (c_UTB (c := c) hw hEL OA OH OL) rfl (by simp) rfl (lenOf pd_26 rfl) rfl (W := 2) rfl (by first | decide | (dsimp only; omega)) (by first | decide | (dsimp only; omega)) (by first | decide | (dsimp only; omega)) (by first | decide | (dsimp only; omega)) ?_
    rintro _ _ _ ⟨rfl, t, ct, rfl, rfl, hT⟩
    refine OWp.iconst hk d_VALC_34 (pc' := 35) rfl (z := 1) rfl ?_
    refine OWp.callI hk d_VALC_35 (pc' := 38) rfl rfl (hw _ (List.mem_of_getElem? (i := 283) rfl)) (hw _ (List.mem_of_getElem? (i := 284) rfl)) (hw _ (List.mem_of_getElem? (i := 7) rfl)) (hw _ (List.mem_of_getElem? (i := 285) rfl)) (by decide) (c_SBB (cs := [c]) hw hEL hE hV hC (by rw [bytes_wide hl]; exact hT) hch (by rw [cdOf, hl]; rfl)) rfl (by simp) rfl (lenOf pd_27 rfl) rfl (W := 1) rfl (by first | decide | (dsimp only; omega)) (by first | decide | (dsimp only; omega)) (by first | decide | (dsimp only; omega)) (by first | decide | (dsimp only; omega)) ?_
    rintro _ _ _ ⟨rfl, rfl, cx2, rfl, hs⟩
    exact OWp.retA hk rfl rfl rfl d_VALC_38 (M' := []) (N' := [(x, cx2), (t, ct)]) ⟨rfl, x, t, cx2, ct, rfl, rfl, hs⟩ (List.nil_sublist _) (by simp) (by decide) (by decide)
  · have hl : lat [c] = true := lat_iff.mpr fun q hq => by rw [List.mem_singleton.mp hq]; exact hc
    refine OWp.callS hk d_VALC_7 (pc' := 10) rfl (hw _ (List.mem_of_getElem? (i := 270) rfl)) (hw _ (List.mem_of_getElem? (i := 271) rfl)) (hw _ (List.mem_of_getElem? (i := 254) rfl)) (hw _ (List.mem_of_getElem? (i := 272) rfl)) (by decide) (c_CEN hw hEL hc) rfl (by simp) rfl (lenOf pd_25 rfl) rfl (W := 0) rfl (by first | decide | (dsimp only; omega)) (by first | decide | (dsimp only; omega)) (by first | decide | (dsimp only; omega)) (by first | decide | (dsimp only; omega)) ?_
    rintro _ _ _ ⟨rfl, rfl, rfl⟩
    refine OWp.ifNo hk d_VALC_10 (XT.i0_eq_f (by decide)) (pc' := 13) rfl ?_
    refine OWp.new hk d_VALC_13 (pc' := 16) rfl (hw _ (List.mem_of_getElem? (i := 273) rfl)) (hw _ (List.mem_of_getElem? (i := 6) rfl)) (hw _ (List.mem_of_getElem? (i := 7) rfl)) (by decide) (by decide) ?_
    intro x cx hE hD
    have hV : FC Z cx "java/lang/String" "value" "[B" .null := hD (Or.inr (hw _ (List.mem_of_getElem? (i := 34) rfl))) (ty := .array .byte) (by decide)
    have hC : FC Z cx "java/lang/String" "coder" "B" (.int 0) := hD (Or.inr (hw _ (List.mem_of_getElem? (i := 32) rfl))) (ty := .byte) (by decide)
    refine OWp.dup hk d_VALC_16 (pc' := 17) rfl rfl ?_
    refine OWp.iload_n hk d_VALC_17 (pc' := 18) rfl rfl ?_
    refine OWp.callS hk d_VALC_18 (pc' := 21) rfl (hw _ (List.mem_of_getElem? (i := 330) rfl)) (hw _ (List.mem_of_getElem? (i := 331) rfl)) (hw _ (List.mem_of_getElem? (i := 254) rfl)) (hw _ (List.mem_of_getElem? (i := 332) rfl)) (by decide) (c_LTB (c := c) hw hEL) rfl (by simp) rfl (lenOf pd_26 rfl) rfl (W := 2) rfl (by first | decide | (dsimp only; omega)) (by first | decide | (dsimp only; omega)) (by first | decide | (dsimp only; omega)) (by first | decide | (dsimp only; omega)) ?_
    rintro _ _ _ ⟨rfl, t, ct, rfl, rfl, hT⟩
    refine OWp.iconst hk d_VALC_21 (pc' := 22) rfl (z := 0) rfl ?_
    refine OWp.callI hk d_VALC_22 (pc' := 25) rfl rfl (hw _ (List.mem_of_getElem? (i := 283) rfl)) (hw _ (List.mem_of_getElem? (i := 284) rfl)) (hw _ (List.mem_of_getElem? (i := 7) rfl)) (hw _ (List.mem_of_getElem? (i := 285) rfl)) (by decide) (c_SBB (cs := [c]) hw hEL hE hV hC (by rw [bytes_lat hl]; exact hT) hch (by rw [cdOf, hl]; rfl)) rfl (by simp) rfl (lenOf pd_27 rfl) rfl (W := 1) rfl (by first | decide | (dsimp only; omega)) (by first | decide | (dsimp only; omega)) (by first | decide | (dsimp only; omega)) (by first | decide | (dsimp only; omega)) ?_
    rintro _ _ _ ⟨rfl, rfl, cx2, rfl, hs⟩
    exact OWp.retA hk rfl rfl rfl d_VALC_25 (M' := []) (N' := [(x, cx2), (t, ct)]) ⟨rfl, x, t, cx2, ct, rfl, rfl, hs⟩ (List.nil_sublist _) (by simp) (by decide) (by decide)
end StrValW
--CUT
theorem d_PFS_0 : decode jdk_41_method_13_code 0 = .ok (.iload_n 2, 1) := by decide +kernel
theorem d_PFS_1 : decode jdk_41_method_13_code 1 = .ok (.iload_n 0, 1) := by decide +kernel
theorem d_PFS_2 : decode jdk_41_method_13_code 2 = .ok (.ior, 1) := by decide +kernel
theorem d_PFS_3 : decode jdk_41_method_13_code 3 = .ok (.iload_n 1, 1) := by decide +kernel
theorem d_PFS_4 : decode jdk_41_method_13_code 4 = .ok (.ior, 1) := by decide +kernel
theorem d_PFS_5 : decode jdk_41_method_13_code 5 = .ok (.ifCond .lt 10, 3) := by decide +kernel
theorem d_PFS_8 : decode jdk_41_method_13_code 8 = .ok (.iload_n 1, 1) := by decide +kernel
theorem d_PFS_9 : decode jdk_41_method_13_code 9 = .ok (.iload_n 2, 1) := by decide +kernel
theorem d_PFS_10 : decode jdk_41_method_13_code 10 = .ok (.iload_n 0, 1) := by decide +kernel
theorem d_PFS_11 : decode jdk_41_method_13_code 11 = .ok (.isub, 1) := by decide +kernel
theorem d_PFS_12 : decode jdk_41_method_13_code 12 = .ok (.if_icmp .le 11, 3) := by decide +kernel
theorem d_PFS_15 : decode jdk_41_method_13_code 15 = .ok (.aload_n 3, 1) := by decide +kernel
theorem d_PFS_16 : decode jdk_41_method_13_code 16 = .ok (.iload_n 0, 1) := by decide +kernel
theorem d_PFS_17 : decode jdk_41_method_13_code 17 = .ok (.iload_n 1, 1) := by decide +kernel
theorem d_PFS_18 : decode jdk_41_method_13_code 18 = .ok (.iload_n 2, 1) := by decide +kernel
theorem d_PFS_19 : decode jdk_41_method_13_code 19 = .ok (.invokestatic 103, 3) := by decide +kernel
theorem d_PFS_22 : decode jdk_41_method_13_code 22 = .ok (.athrow, 1) := by decide +kernel
theorem d_PFS_23 : decode jdk_41_method_13_code 23 = .ok (.iload_n 0, 1) := by decide +kernel
theorem d_PFS_24 : decode jdk_41_method_13_code 24 = .ok (.ireturn, 1) := by decide +kernel
theorem pn_PFS : plainFor (⟨"jdk/internal/util/Preconditions", "checkFromIndexSize", "(IIILjava/util/function/BiFunction;)I"⟩ : MethodName) = true := by first | exact plainFor_of_name (by first | (simp [plainName, overriddenIn]; done) | decide +kernel) | decide +kernel
theorem d_SCBO_0 : decode jdk_42_method_157_code 0 = .ok (.iload_n 0, 1) := by decide +kernel
theorem d_SCBO_1 : decode jdk_42_method_157_code 1 = .ok (.iload_n 1, 1) := by decide +kernel
theorem d_SCBO_2 : decode jdk_42_method_157_code 2 = .ok (.iload_n 2, 1) := by decide +kernel
theorem d_SCBO_3 : decode jdk_42_method_157_code 3 = .ok (.getstatic 1053, 3) := by decide +kernel
theorem d_SCBO_6 : decode jdk_42_method_157_code 6 = .ok (.invokestatic 1065, 3) := by decide +kernel
theorem d_SCBO_9 : decode jdk_42_method_157_code 9 = .ok (.ireturn, 1) := by decide +kernel
theorem pn_SCBO : plainFor (⟨"java/lang/String", "checkBoundsOffCount", "(III)I"⟩ : MethodName) = true := by first | exact plainFor_of_name (by first | (simp [plainName, overriddenIn]; done) | decide +kernel) | decide +kernel
theorem d_ULN_0 : decode jdk_52_method_6_code 0 = .ok (.aload_n 0, 1) := by decide +kernel
theorem d_ULN_1 : decode jdk_52_method_6_code 1 = .ok (.arraylength, 1) := by decide +kernel
theorem d_ULN_2 : decode jdk_52_method_6_code 2 = .ok (.iconst 1, 1) := by decide +kernel
theorem d_ULN_3 : decode jdk_52_method_6_code 3 = .ok (.ishr, 1) := by decide +kernel
theorem d_ULN_4 : decode jdk_52_method_6_code 4 = .ok (.ireturn, 1) := by decide +kernel
theorem pn_ULN : plainFor (⟨"java/lang/StringUTF16", "length", "([B)I"⟩ : MethodName) = true := by first | exact plainFor_of_name (by first | (simp [plainName, overriddenIn]; done) | decide +kernel) | decide +kernel
theorem d_UCBO_0 : decode jdk_52_method_94_code 0 = .ok (.iload_n 0, 1) := by decide +kernel
theorem d_UCBO_1 : decode jdk_52_method_94_code 1 = .ok (.iload_n 1, 1) := by decide +kernel
theorem d_UCBO_2 : decode jdk_52_method_94_code 2 = .ok (.aload_n 2, 1) := by decide +kernel
theorem d_UCBO_3 : decode jdk_52_method_94_code 3 = .ok (.invokestatic 48, 3) := by decide +kernel
theorem d_UCBO_6 : decode jdk_52_method_94_code 6 = .ok (.invokestatic 419, 3) := by decide +kernel
theorem d_UCBO_9 : decode jdk_52_method_94_code 9 = .ok (.pop, 1) := by decide +kernel
theorem d_UCBO_10 : decode jdk_52_method_94_code 10 = .ok (.return_, 1) := by decide +kernel
theorem pn_UCBO : plainFor (⟨"java/lang/StringUTF16", "checkBoundsOffCount", "(II[B)V"⟩ : MethodName) = true := by first | exact plainFor_of_name (by first | (simp [plainName, overriddenIn]; done) | decide +kernel) | decide +kernel
theorem d_UINF_0 : decode jdk_52_method_86_code 0 = .ok (.iload_n 3, 1) := by decide +kernel
theorem d_UINF_1 : decode jdk_52_method_86_code 1 = .ok (.iload 4, 2) := by decide +kernel
theorem d_UINF_3 : decode jdk_52_method_86_code 3 = .ok (.aload_n 2, 1) := by decide +kernel
theorem d_UINF_4 : decode jdk_52_method_86_code 4 = .ok (.invokestatic 173, 3) := by decide +kernel
theorem d_UINF_7 : decode jdk_52_method_86_code 7 = .ok (.iconst 0, 1) := by decide +kernel
theorem d_UINF_8 : decode jdk_52_method_86_code 8 = .ok (.istore 5, 2) := by decide +kernel
theorem d_UINF_10 : decode jdk_52_method_86_code 10 = .ok (.iload 5, 2) := by decide +kernel
theorem d_UINF_12 : decode jdk_52_method_86_code 12 = .ok (.iload 4, 2) := by decide +kernel
theorem d_UINF_14 : decode jdk_52_method_86_code 14 = .ok (.if_icmp .ge 27, 3) := by decide +kernel
theorem d_UINF_17 : decode jdk_52_method_86_code 17 = .ok (.aload_n 2, 1) := by decide +kernel
theorem d_UINF_18 : decode jdk_52_method_86_code 18 = .ok (.iload_n 3, 1) := by decide +kernel
theorem d_UINF_19 : decode jdk_52_method_86_code 19 = .ok (.iinc 3 1, 3) := by decide +kernel
theorem d_UINF_22 : decode jdk_52_method_86_code 22 = .ok (.aload_n 0, 1) := by decide +kernel
theorem d_UINF_23 : decode jdk_52_method_86_code 23 = .ok (.iload_n 1, 1) := by decide +kernel
theorem d_UINF_24 : decode jdk_52_method_86_code 24 = .ok (.iinc 1 1, 3) := by decide +kernel
theorem d_UINF_27 : decode jdk_52_method_86_code 27 = .ok (.baload, 1) := by decide +kernel
theorem d_UINF_28 : decode jdk_52_method_86_code 28 = .ok (.sipush 255, 3) := by decide +kernel
theorem d_UINF_31 : decode jdk_52_method_86_code 31 = .ok (.iand, 1) := by decide +kernel
theorem d_UINF_32 : decode jdk_52_method_86_code 32 = .ok (.invokestatic 111, 3) := by decide +kernel
theorem d_UINF_35 : decode jdk_52_method_86_code 35 = .ok (.iinc 5 1, 3) := by decide +kernel
theorem d_UINF_38 : decode jdk_52_method_86_code 38 = .ok (.goto (-28), 3) := by decide +kernel
theorem d_UINF_41 : decode jdk_52_method_86_code 41 = .ok (.return_, 1) := by decide +kernel
theorem pn_UINF : plainFor (⟨"java/lang/StringUTF16", "inflate", "([BI[BII)V"⟩ : MethodName) = true := by first | exact plainFor_of_name (by first | (simp [plainName, overriddenIn]; done) | decide +kernel) | decide +kernel
theorem d_LINF_0 : decode jdk_43_method_50_code 0 = .ok (.aload_n 0, 1) := by decide +kernel
theorem d_LINF_1 : decode jdk_43_method_50_code 1 = .ok (.iload_n 1, 1) := by decide +kernel
theorem d_LINF_2 : decode jdk_43_method_50_code 2 = .ok (.aload_n 2, 1) := by decide +kernel
theorem d_LINF_3 : decode jdk_43_method_50_code 3 = .ok (.iload_n 3, 1) := by decide +kernel
theorem d_LINF_4 : decode jdk_43_method_50_code 4 = .ok (.iload 4, 2) := by decide +kernel
theorem d_LINF_6 : decode jdk_43_method_50_code 6 = .ok (.invokestatic 240, 3) := by decide +kernel
theorem d_LINF_9 : decode jdk_43_method_50_code 9 = .ok (.return_, 1) := by decide +kernel
theorem pn_LINF : plainFor (⟨"java/lang/StringLatin1", "inflate", "([BI[BII)V"⟩ : MethodName) = true := by first | exact plainFor_of_name (by first | (simp [plainName, overriddenIn]; done) | decide +kernel) | decide +kernel
theorem d_AINF_0 : decode jdk_68_method_11_code 0 = .ok (.aload_n 0, 1) := by decide +kernel
theorem d_AINF_1 : decode jdk_68_method_11_code 1 = .ok (.invokevirtual 83, 3) := by decide +kernel
theorem d_AINF_4 : decode jdk_68_method_11_code 4 = .ok (.ifCond .ne 4, 3) := by decide +kernel
theorem d_AINF_7 : decode jdk_68_method_11_code 7 = .ok (.return_, 1) := by decide +kernel
theorem d_AINF_8 : decode jdk_68_method_11_code 8 = .ok (.aload_n 0, 1) := by decide +kernel
theorem d_AINF_9 : decode jdk_68_method_11_code 9 = .ok (.getfield 15, 3) := by decide +kernel
theorem d_AINF_12 : decode jdk_68_method_11_code 12 = .ok (.arraylength, 1) := by decide +kernel
theorem d_AINF_13 : decode jdk_68_method_11_code 13 = .ok (.invokestatic 26, 3) := by decide +kernel
theorem d_AINF_16 : decode jdk_68_method_11_code 16 = .ok (.astore_n 1, 1) := by decide +kernel
theorem d_AINF_17 : decode jdk_68_method_11_code 17 = .ok (.aload_n 0, 1) := by decide +kernel
theorem d_AINF_18 : decode jdk_68_method_11_code 18 = .ok (.getfield 15, 3) := by decide +kernel
theorem d_AINF_21 : decode jdk_68_method_11_code 21 = .ok (.iconst 0, 1) := by decide +kernel
theorem d_AINF_22 : decode jdk_68_method_11_code 22 = .ok (.aload_n 1, 1) := by decide +kernel
theorem d_AINF_23 : decode jdk_68_method_11_code 23 = .ok (.iconst 0, 1) := by decide +kernel
theorem d_AINF_24 : decode jdk_68_method_11_code 24 = .ok (.aload_n 0, 1) := by decide +kernel
theorem d_AINF_25 : decode jdk_68_method_11_code 25 = .ok (.getfield 79, 3) := by decide +kernel
theorem d_AINF_28 : decode jdk_68_method_11_code 28 = .ok (.invokestatic 125, 3) := by decide +kernel
theorem d_AINF_31 : decode jdk_68_method_11_code 31 = .ok (.aload_n 0, 1) := by decide +kernel
theorem d_AINF_32 : decode jdk_68_method_11_code 32 = .ok (.aload_n 1, 1) := by decide +kernel
theorem d_AINF_33 : decode jdk_68_method_11_code 33 = .ok (.putfield 15, 3) := by decide +kernel
theorem d_AINF_36 : decode jdk_68_method_11_code 36 = .ok (.aload_n 0, 1) := by decide +kernel
theorem d_AINF_37 : decode jdk_68_method_11_code 37 = .ok (.iconst 1, 1) := by decide +kernel
theorem d_AINF_38 : decode jdk_68_method_11_code 38 = .ok (.putfield 22, 3) := by decide +kernel
theorem d_AINF_41 : decode jdk_68_method_11_code 41 = .ok (.return_, 1) := by decide +kernel
theorem pn_AINF : plainFor (⟨"java/lang/AbstractStringBuilder", "inflate", "()V"⟩ : MethodName) = true := by first | exact plainFor_of_name (by first | (simp [plainName, overriddenIn]; done) | decide +kernel) | decide +kernel
section StrSBW
variable {l : Launch} {Z : State} {a0 : Array Value} {EL : List (String × Nat)} {zc cd : Int32} {x t d sx st y : Addr} {csb ct cst cdd cx cy : Cell} {cs ds : List Int32} {a b n ns k w cap mn cnt : Nat} {f g : Nat → Value} {fm v0 v1 : Value}
theorem c_PFS (hw : ∀ d ∈ tables_1, d.before a0 Z = true) (hEL : EW Z a0 EL) (hf : fm.isRef = true) (hab : a + b ≤ n) (hn : n < 2147483648) :
    OCon l Z EL (⟨"jdk/internal/util/Preconditions", "checkFromIndexSize", "(IIILjava/util/function/BiFunction;)I"⟩ : MethodName) jdk_41_method_13_code 4 (some .int) [] ({ frames := 0, cells := 0, slots := 0, locals := 0 } : Room) #[.int (Int32.ofNat a), .int (Int32.ofNat b), .int (Int32.ofNat n), fm] [] [] (fun v M N => v = some (.int (Int32.ofNat a)) ∧ M = [] ∧ N = []) := by
  refine OCon.of_wp (L0 := [.val (.int (Int32.ofNat a)), .val (.int (Int32.ofNat b)), .val (.int (Int32.ofNat n)), .val fm]) pn_PFS hEL (fun m => by rcases ref_cases hf with rfl | ⟨_, rfl⟩ <;> first | (simp [entryFrame, mkF, argsToLocals, Value.category]; done) | rfl) ?_
  intro p e s m below meth c hk
  refine OWp.iload_n hk d_PFS_0 (pc' := 1) rfl rfl ?_
  refine OWp.iload_n hk d_PFS_1 (pc' := 2) rfl rfl ?_
  refine OWp.ior hk d_PFS_2 (pc' := 3) rfl ?_
  refine OWp.iload_n hk d_PFS_3 (pc' := 4) rfl rfl ?_
  refine OWp.ior hk d_PFS_4 (pc' := 5) rfl ?_
  refine OWp.ifNo hk d_PFS_5 (XT.i0_lt_f (or_nn (or_nn (n_nn (by omega)) (n_nn (by omega))) (n_nn (by omega)))) (pc' := 8) rfl ?_
  refine OWp.iload_n hk d_PFS_8 (pc' := 9) rfl rfl ?_
  refine OWp.iload_n hk d_PFS_9 (pc' := 10) rfl rfl ?_
  refine OWp.iload_n hk d_PFS_10 (pc' := 11) rfl rfl ?_
  refine OWp.isub hk d_PFS_11 (pc' := 12) rfl ?_
  rw [n_sub (show a ≤ n by omega) (by omega)]
  refine OWp.icmpYes hk d_PFS_12 (XT.ii_le_t (by rw [n_lt (by omega) (by omega)]; omega)) (by decide) (pc' := 23) rfl ?_
  refine OWp.iload_n hk d_PFS_23 (pc' := 24) rfl rfl ?_
  exact OWp.retI hk d_PFS_24 ⟨rfl, rfl, rfl⟩ (List.Sublist.refl _) (fun _ h => h) (by decide) (by decide)
theorem c_SCBO (hw : ∀ d ∈ tables_1, d.before a0 Z = true) (hEL : EW Z a0 EL) (O4 : Sta Z Z.heap "jdk/internal/util/Preconditions" "SIOOBE_FORMATTER" "Ljava/util/function/BiFunction;" fm) (hf : fm.isRef = true) (hab : a + b ≤ n) (hn : n < 2147483648) :
    OCon l Z EL (⟨"java/lang/String", "checkBoundsOffCount", "(III)I"⟩ : MethodName) jdk_42_method_157_code 3 (some .int) [] ({ frames := 1, cells := 0, slots := 0, locals := 15 } : Room) #[.int (Int32.ofNat a), .int (Int32.ofNat b), .int (Int32.ofNat n)] [] [] (fun v M N => v = some (.int (Int32.ofNat a)) ∧ M = [] ∧ N = []) := by
  refine OCon.of_wp (L0 := [.val (.int (Int32.ofNat a)), .val (.int (Int32.ofNat b)), .val (.int (Int32.ofNat n))]) pn_SCBO hEL (fun m => by first | (simp [entryFrame, mkF, argsToLocals, Value.category]; done) | rfl) ?_
  intro p e s m below meth c hk
  refine OWp.iload_n hk d_SCBO_0 (pc' := 1) rfl rfl ?_
  refine OWp.iload_n hk d_SCBO_1 (pc' := 2) rfl rfl ?_
  refine OWp.iload_n hk d_SCBO_2 (pc' := 3) rfl rfl ?_
  refine OWp.getstatic hk d_SCBO_3 (pc' := 6) rfl (hw _ (List.mem_of_getElem? (i := 259) rfl)) O4 ?_
  refine OWp.callS hk d_SCBO_6 (pc' := 9) rfl (hw _ (List.mem_of_getElem? (i := 314) rfl)) (hw _ (List.mem_of_getElem? (i := 315) rfl)) (hw _ (List.mem_of_getElem? (i := 260) rfl)) (hw _ (List.mem_of_getElem? (i := 316) rfl)) (by decide) (c_PFS hw hEL hf hab hn) rfl (by simp) rfl (lenOf pd_28 rfl) rfl (W := 0) rfl (by first | decide | (dsimp only; omega)) (by first | decide | (dsimp only; omega)) (by first | decide | (dsimp only; omega)) (by first | decide | (dsimp only; omega)) ?_
  rintro _ _ _ ⟨rfl, rfl, rfl⟩
  exact OWp.retI hk d_SCBO_9 ⟨rfl, rfl, rfl⟩ (List.Sublist.refl _) (fun _ h => h) (by decide) (by decide)
theorem c_ULX (hw : ∀ d ∈ tables_1, d.before a0 Z = true) (hEL : EW Z a0 EL) (hA : AC Z ct .byte (tab (2 * n) f)) (h4 : n ≤ 4000) :
    OCon l Z EL (⟨"java/lang/StringUTF16", "length", "([B)I"⟩ : MethodName) jdk_52_method_6_code 1 (some .int) [] ({ frames := 0, cells := 0, slots := 0, locals := 0 } : Room) #[.ref t] [] [(t, ct)] (fun v M N => v = some (.int (Int32.ofNat n)) ∧ M = [] ∧ N = []) := by
  refine OCon.of_wp (L0 := [.val (.ref t)]) pn_ULN hEL (fun m => by first | (simp [entryFrame, mkF, argsToLocals, Value.category]; done) | rfl) ?_
  intro p e s m below meth c hk
  refine OWp.aload_n hk d_ULN_0 (pc' := 1) rfl rfl rfl ?_
  refine OWp.arraylength hk d_ULN_1 (pc' := 2) rfl (by simp) hA (z := Int32.ofNat (2 * n)) (by rw [tab_len]) ?_
  refine OWp.iconst hk d_ULN_2 (pc' := 3) rfl (z := 1) rfl ?_
  refine OWp.ishr hk d_ULN_3 (pc' := 4) rfl ?_
  exact OWp.retI hk d_ULN_4 ⟨by rw [shr_1 _ (by omega)], rfl, rfl⟩ (List.Sublist.refl _) (fun _ h => h) (by decide) (by decide)
theorem c_UCBO (hw : ∀ d ∈ tables_1, d.before a0 Z = true) (hEL : EW Z a0 EL) (O4 : Sta Z Z.heap "jdk/internal/util/Preconditions" "SIOOBE_FORMATTER" "Ljava/util/function/BiFunction;" fm) (hf : fm.isRef = true) (hA : AC Z ct .byte (tab (2 * n) f)) (h4 : n ≤ 4000) (hab : a + b ≤ n) :
    OCon l Z EL (⟨"java/lang/StringUTF16", "checkBoundsOffCount", "(II[B)V"⟩ : MethodName) jdk_52_method_94_code 3 none [] ({ frames := 2, cells := 0, slots := 0, locals := 30 } : Room) #[.int (Int32.ofNat a), .int (Int32.ofNat b), .ref t] [] [(t, ct)] (fun v M N => v = none ∧ M = [] ∧ N = []) := by
  refine OCon.of_wp (L0 := [.val (.int (Int32.ofNat a)), .val (.int (Int32.ofNat b)), .val (.ref t)]) pn_UCBO hEL (fun m => by first | (simp [entryFrame, mkF, argsToLocals, Value.category]; done) | rfl) ?_
  intro p e s m below meth c hk
  refine OWp.iload_n hk d_UCBO_0 (pc' := 1) rfl rfl ?_
  refine OWp.iload_n hk d_UCBO_1 (pc' := 2) rfl rfl ?_
  refine OWp.aload_n hk d_UCBO_2 (pc' := 3) rfl rfl rfl ?_
  refine OWp.callS hk d_UCBO_3 (pc' := 6) rfl (hw _ (List.mem_of_getElem? (i := 308) rfl)) (hw _ (List.mem_of_getElem? (i := 309) rfl)) (hw _ (List.mem_of_getElem? (i := 22) rfl)) (hw _ (List.mem_of_getElem? (i := 310) rfl)) (by decide) (c_ULX hw hEL hA h4) rfl (by simp) rfl (lenOf pd_29 rfl) rfl (W := 2) rfl (by first | decide | (dsimp only; omega)) (by first | decide | (dsimp only; omega)) (by first | decide | (dsimp only; omega)) (by first | decide | (dsimp only; omega)) ?_
  rintro _ _ _ ⟨rfl, rfl, rfl⟩
  refine OWp.callS hk d_UCBO_6 (pc' := 9) rfl (hw _ (List.mem_of_getElem? (i := 311) rfl)) (hw _ (List.mem_of_getElem? (i := 312) rfl)) (hw _ (List.mem_of_getElem? (i := 7) rfl)) (hw _ (List.mem_of_getElem? (i := 313) rfl)) (by decide) (c_SCBO hw hEL O4 hf hab (by omega)) rfl (by simp) rfl (lenOf pd_14 rfl) rfl (W := 0) rfl (by first | decide | (dsimp only; omega)) (by first | decide | (dsimp only; omega)) (by first | decide | (dsimp only; omega)) (by first | decide | (dsimp only; omega)) ?_
  rintro _ _ _ ⟨rfl, rfl, rfl⟩
  refine OWp.pop hk d_UCBO_9 (pc' := 10) rfl rfl ?_
  exact OWp.ret0 hk d_UCBO_10 ⟨rfl, rfl, rfl⟩ (List.Sublist.refl _) (fun _ h => h) (by decide) (by decide)
/-- StringUTF16.inflate: Latin-1 bytes laid as chars at place k -/
theorem c_UINF (hw : ∀ d ∈ tables_1, d.before a0 Z = true) (hEL : EW Z a0 EL) (O4 : Sta Z Z.heap "jdk/internal/util/Preconditions" "SIOOBE_FORMATTER" "Ljava/util/function/BiFunction;" fm) (hfm : fm.isRef = true) (OA : Sta Z Z.heap "java/lang/StringUTF16" "$assertionsDisabled" "Z" (.int 1)) (OH : Sta Z Z.heap "java/lang/StringUTF16" "HI_BYTE_SHIFT" "I" (.int 0)) (OL : Sta Z Z.heap "java/lang/StringUTF16" "LO_BYTE_SHIFT" "I" (.int 8))
    (hS : AC Z cst .byte (tab ns f)) (hns : ds.length ≤ ns) (hfs : ∀ j, j < ds.length → f j = .int (lo8 (ds.getD j 0))) (hl : lat ds = true) (hch : Chars ds) (hD : AC Z cdd .byte (tab (2 * n) g)) (hkn : k + ds.length ≤ n) (h4 : n ≤ 4000) :
    OCon l Z EL (⟨"java/lang/StringUTF16", "inflate", "([BI[BII)V"⟩ : MethodName) jdk_52_method_86_code 6 none [] ({ frames := 3, cells := 0, slots := 0, locals := 48 } : Room) #[.ref st, .int 0, .ref d, .int (Int32.ofNat k), .int (Int32.ofNat ds.length)] [(d, cdd)] [(st, cst)]
      (fun v M N => v = none ∧ N = [] ∧ ∃ cd', M = [(d, cd')] ∧ AC Z cd' .byte (tab (2 * n) fun j => if 2 * k ≤ j ∧ j < 2 * (k + ds.length) then wbAt 2 ds (j - 2 * k) else g j)) := by
  refine OCon.of_wp (L0 := [.val (.ref st), .val (.int 0), .val (.ref d), .val (.int (Int32.ofNat k)), .val (.int (Int32.ofNat ds.length)), .unset]) pn_UINF hEL (fun m => by first | (simp [entryFrame, mkF, argsToLocals, Value.category]; done) | rfl) ?_
  intro p e s m below meth c hk
  have loop : ∀ (q i : Nat) (cd2 : Cell), i + q = ds.length → AC Z cd2 .byte (tab (2 * n) fun j => if 2 * k ≤ j ∧ j < 2 * (k + i) then wbAt 2 ds (j - 2 * k) else g j) →
      OWp p l e ({ frames := 3, cells := 0, slots := 0, locals := 48 } : Room) s m #[.ref st, .int 0, .ref d, .int (Int32.ofNat k), .int (Int32.ofNat ds.length)] below meth c "java/lang/StringUTF16" Z EL (dom [(d, cdd)]) [(st, cst)]
        (fun v M N => v = none ∧ N = [] ∧ ∃ cd', M = [(d, cd')] ∧ AC Z cd' .byte (tab (2 * n) fun j => if 2 * k ≤ j ∧ j < 2 * (k + ds.length) then wbAt 2 ds (j - 2 * k) else g j))
        [(d, cd2)] [] 0 0 10 [.val (.ref st), .val (.int (Int32.ofNat i)), .val (.ref d), .val (.int (Int32.ofNat (k + i))), .val (.int (Int32.ofNat ds.length)), .val (.int (Int32.ofNat i))] [] := by
    intro q
    induction q with
    | zero =>
      intro i cd2 hiq hD2
      obtain rfl : i = ds.length := by omega
      refine OWp.iload hk d_UINF_10 (pc' := 12) rfl rfl ?_
      refine OWp.iload hk d_UINF_12 (pc' := 14) rfl rfl ?_
      refine OWp.icmpYes hk d_UINF_14 (XT.ii_ge_t (by rw [n_lt (by omega) (by omega)]; omega)) (by decide) (pc' := 41) rfl ?_
      exact OWp.ret0 hk d_UINF_41 ⟨rfl, rfl, cd2, rfl, hD2⟩ (List.Sublist.refl _) (fun _ h => h) (by decide) (by decide)
    | succ q ih =>
      intro i cd2 hiq hD2
      have hi : i < ds.length := by omega
      have hc := hch.1 _ (getD_mem hi)
      refine OWp.iload hk d_UINF_10 (pc' := 12) rfl rfl ?_
      refine OWp.iload hk d_UINF_12 (pc' := 14) rfl rfl ?_
      refine OWp.icmpNo hk d_UINF_14 (XT.ii_ge_f (by rw [n_lt (by omega) (by omega)]; omega)) (pc' := 17) rfl ?_
      refine OWp.aload_n hk d_UINF_17 (pc' := 18) rfl rfl rfl ?_
      refine OWp.iload_n hk d_UINF_18 (pc' := 19) rfl rfl ?_
      refine OWp.iinc hk d_UINF_19 (pc' := 22) rfl rfl (z := 1) rfl (by simp only [List.set_cons_zero, List.set_cons_succ]; rfl) ?_
      refine OWp.aload_n hk d_UINF_22 (pc' := 23) rfl rfl rfl ?_
      refine OWp.iload_n hk d_UINF_23 (pc' := 24) rfl rfl ?_
      refine OWp.iinc hk d_UINF_24 (pc' := 27) rfl rfl (z := 1) rfl (by simp only [List.set_cons_zero, List.set_cons_succ]; rfl) ?_
      refine OWp.baload hk d_UINF_27 (pc' := 28) rfl (by simp) hS (n_nn (by omega)) (by rw [n_nat (by omega), tab_get (by omega), hfs i hi]) ?_
      refine OWp.sipush hk d_UINF_28 (pc' := 31) rfl (z := 255) rfl ?_
      refine OWp.iand hk d_UINF_31 (pc' := 32) rfl ?_
      rw [lo8_mask hc.1 (lat_iff.mp hl _ (getD_mem hi))]
      refine OWp.callS hk d_UINF_32 (pc' := 35) rfl (hw _ (List.mem_of_getElem? (i := 277) rfl)) (hw _ (List.mem_of_getElem? (i := 278) rfl)) (hw _ (List.mem_of_getElem? (i := 22) rfl)) (hw _ (List.mem_of_getElem? (i := 279) rfl)) (by decide) (c_PUT (i := k + i) (c := ds.getD i 0) hw hEL OA OH OL hD2 (by omega) h4) rfl (by simp) rfl (lenOf pd_2 rfl) rfl (W := 0) rfl (by first | decide | (dsimp only; omega)) (by first | decide | (dsimp only; omega)) (by first | decide | (dsimp only; omega)) (by first | decide | (dsimp only; omega)) ?_
      rintro _ _ _ ⟨rfl, rfl, cd3, rfl, hD3⟩
      refine OWp.iinc hk d_UINF_35 (pc' := 38) rfl rfl (z := 1) rfl (by simp only [List.set_cons_zero, List.set_cons_succ]; rfl) ?_
      refine OWp.goto hk d_UINF_38 (by decide) (pc' := 10) rfl ?_
      rw [n_succ, n_succ]
      refine ih (i + 1) cd3 (by omega) (hD3.congr fun j hj => ?_)
      by_cases e1 : j = 2 * (k + i) + 1
      · rw [if_pos e1, if_pos (by omega)]
        simp only [wbAt, show ¬ (2 = 1) by decide, if_false]
        rw [if_neg (by omega), show (j - 2 * k) / 2 = i by omega]
      · rw [if_neg e1]
        by_cases e2 : j = 2 * (k + i)
        · rw [if_pos e2, if_pos (by omega)]
          simp only [wbAt, show ¬ (2 = 1) by decide, if_false]
          rw [if_pos (by omega), show (j - 2 * k) / 2 = i by omega]
        · rw [if_neg e2]
          by_cases e3 : 2 * k ≤ j ∧ j < 2 * (k + i)
          · rw [if_pos e3, if_pos (by omega)]
          · rw [if_neg e3, if_neg (by omega)]
  refine OWp.iload_n hk d_UINF_0 (pc' := 1) rfl rfl ?_
  refine OWp.iload hk d_UINF_1 (pc' := 3) rfl rfl ?_
  refine OWp.aload_n hk d_UINF_3 (pc' := 4) rfl rfl rfl ?_
  refine OWp.callS hk d_UINF_4 (pc' := 7) rfl (hw _ (List.mem_of_getElem? (i := 305) rfl)) (hw _ (List.mem_of_getElem? (i := 306) rfl)) (hw _ (List.mem_of_getElem? (i := 22) rfl)) (hw _ (List.mem_of_getElem? (i := 307) rfl)) (by decide) (c_UCBO hw hEL O4 hfm hD h4 hkn) rfl (by simp) rfl (lenOf pd_30 rfl) rfl (W := 0) rfl (by first | decide | (dsimp only; omega)) (by first | decide | (dsimp only; omega)) (by first | decide | (dsimp only; omega)) (by first | decide | (dsimp only; omega)) ?_
  rintro _ _ _ ⟨rfl, rfl, rfl⟩
  refine OWp.iconst hk d_UINF_7 (pc' := 8) rfl (z := 0) rfl ?_
  refine OWp.istore hk d_UINF_8 (pc' := 10) rfl rfl (by simp only [List.set_cons_zero, List.set_cons_succ]; rfl) ?_
  exact loop ds.length 0 cdd (by omega) (hD.congr fun j hj => by rw [if_neg (by omega)])
theorem c_LINF (hw : ∀ d ∈ tables_1, d.before a0 Z = true) (hEL : EW Z a0 EL) (O4 : Sta Z Z.heap "jdk/internal/util/Preconditions" "SIOOBE_FORMATTER" "Ljava/util/function/BiFunction;" fm) (hfm : fm.isRef = true) (OA : Sta Z Z.heap "java/lang/StringUTF16" "$assertionsDisabled" "Z" (.int 1)) (OH : Sta Z Z.heap "java/lang/StringUTF16" "HI_BYTE_SHIFT" "I" (.int 0)) (OL : Sta Z Z.heap "java/lang/StringUTF16" "LO_BYTE_SHIFT" "I" (.int 8))
    (hS : AC Z cst .byte (tab ns f)) (hns : ds.length ≤ ns) (hfs : ∀ j, j < ds.length → f j = .int (lo8 (ds.getD j 0))) (hl : lat ds = true) (hch : Chars ds) (hD : AC Z cdd .byte (tab (2 * n) g)) (hkn : k + ds.length ≤ n) (h4 : n ≤ 4000) :
    OCon l Z EL (⟨"java/lang/StringLatin1", "inflate", "([BI[BII)V"⟩ : MethodName) jdk_43_method_50_code 5 none [] ({ frames := 4, cells := 0, slots := 0, locals := 65 } : Room) #[.ref st, .int 0, .ref d, .int (Int32.ofNat k), .int (Int32.ofNat ds.length)] [(d, cdd)] [(st, cst)]
      (fun v M N => v = none ∧ N = [] ∧ ∃ cd', M = [(d, cd')] ∧ AC Z cd' .byte (tab (2 * n) fun j => if 2 * k ≤ j ∧ j < 2 * (k + ds.length) then wbAt 2 ds (j - 2 * k) else g j)) := by
  refine OCon.of_wp (L0 := [.val (.ref st), .val (.int 0), .val (.ref d), .val (.int (Int32.ofNat k)), .val (.int (Int32.ofNat ds.length))]) pn_LINF hEL (fun m => by first | (simp [entryFrame, mkF, argsToLocals, Value.category]; done) | rfl) ?_
  intro p e s m below meth c hk
  refine OWp.aload_n hk d_LINF_0 (pc' := 1) rfl rfl rfl ?_
  refine OWp.iload_n hk d_LINF_1 (pc' := 2) rfl rfl ?_
  refine OWp.aload_n hk d_LINF_2 (pc' := 3) rfl rfl rfl ?_
  refine OWp.iload_n hk d_LINF_3 (pc' := 4) rfl rfl ?_
  refine OWp.iload hk d_LINF_4 (pc' := 6) rfl rfl ?_
  refine OWp.callS hk d_LINF_6 (pc' := 9) rfl (hw _ (List.mem_of_getElem? (i := 302) rfl)) (hw _ (List.mem_of_getElem? (i := 303) rfl)) (hw _ (List.mem_of_getElem? (i := 22) rfl)) (hw _ (List.mem_of_getElem? (i := 304) rfl)) (by decide) (c_UINF hw hEL O4 hfm OA OH OL hS hns hfs hl hch hD hkn h4) rfl (by simp) rfl (lenOf pd_31 rfl) rfl (W := 0) rfl (by first | decide | (dsimp only; omega)) (by first | decide | (dsimp only; omega)) (by first | decide | (dsimp only; omega)) (by first | decide | (dsimp only; omega)) ?_
  rintro _ _ _ ⟨rfl, rfl, cd2, rfl, hD2⟩
  exact OWp.ret0 hk d_LINF_9 ⟨rfl, rfl, cd2, rfl, hD2⟩ (List.Sublist.refl _) (fun _ h => h) (by decide) (by decide)
theorem c_ISLW (hw : ∀ d ∈ tables_1, d.before a0 Z = true) (hEL : EW Z a0 EL) (O2 : Sta Z Z.heap "java/lang/String" "COMPACT_STRINGS" "Z" (.int zc)) (hzc : ¬ zc = 0) (hB : BC Z csb t 1 cnt) :
    OCon l Z EL (⟨"java/lang/AbstractStringBuilder", "isLatin1", "()Z"⟩ : MethodName) jdk_68_method_68_code 1 (some .boolean) [] ({ frames := 0, cells := 0, slots := 0, locals := 0 } : Room) #[.ref x] [] [(x, csb)] (fun v M N => v = some (.int 0) ∧ M = [] ∧ N = []) := by
  refine OCon.of_wp (L0 := [.val (.ref x)]) pn_ISLB hEL (fun m => by first | (simp [entryFrame, mkF, argsToLocals, Value.category]; done) | rfl) ?_
  intro p e s m below meth c hk
  refine OWp.getstatic hk d_ISLB_0 (pc' := 3) rfl (hw _ (List.mem_of_getElem? (i := 58) rfl)) O2 ?_
  refine OWp.ifNo hk d_ISLB_3 (XT.i0_eq_f hzc) (pc' := 6) rfl ?_
  refine OWp.aload_n hk d_ISLB_6 (pc' := 7) rfl rfl rfl ?_
  refine OWp.getfield hk d_ISLB_7 (pc' := 10) rfl (hw _ (List.mem_of_getElem? (i := 61) rfl)) (by simp) hB.2.2.1 ?_
  refine OWp.ifYes hk d_ISLB_10 (XT.i0_ne_t (by decide)) (by decide) (pc' := 17) rfl ?_
  refine OWp.iconst hk d_ISLB_17 (pc' := 18) rfl (z := 0) rfl ?_
  exact OWp.retN hk (Or.inl rfl) d_ISLB_18 ⟨rfl, rfl, rfl⟩ (List.Sublist.refl _) (fun _ h => h) (by decide) (by decide)
/-- inflate(): wide already -/
theorem c_AINF0 (hw : ∀ d ∈ tables_1, d.before a0 Z = true) (hEL : EW Z a0 EL) (O2 : Sta Z Z.heap "java/lang/String" "COMPACT_STRINGS" "Z" (.int zc)) (hzc : ¬ zc = 0) (hB : BC Z csb t 1 cnt) :
    OCon l Z EL (⟨"java/lang/AbstractStringBuilder", "inflate", "()V"⟩ : MethodName) jdk_68_method_11_code 2 none [] ({ frames := 5, cells := 1, slots := 2 * kCap, locals := 84 } : Room) #[.ref x] [] [(x, csb)] (fun v M N => v = none ∧ M = [] ∧ N = []) := by
  refine OCon.of_wp (L0 := [.val (.ref x), .unset]) pn_AINF hEL (fun m => by first | (simp [entryFrame, mkF, argsToLocals, Value.category]; done) | rfl) ?_
  intro p e s m below meth c hk
  refine OWp.aload_n hk d_AINF_0 (pc' := 1) rfl rfl rfl ?_
  refine OWp.callV hk d_AINF_1 (pc' := 4) rfl (hw _ (List.mem_of_getElem? (i := 291) rfl)) (hw _ (List.mem_of_getElem? (i := 161) rfl)) (nfs (hw _ (List.mem_of_getElem? (i := 163) rfl))) (hw _ (List.mem_of_getElem? (i := 163) rfl)) (hw _ (List.mem_of_getElem? (i := 162) rfl)) (hw _ (List.mem_of_getElem? (i := 55) rfl)) (hw _ (List.mem_of_getElem? (i := 164) rfl)) (by decide) (by simp) hB.1 (c_ISLW hw hEL O2 hzc hB) rfl (by simp) rfl (lenOf pd_11 rfl) rfl (W := 0) rfl (by first | decide | (dsimp only; omega)) (by first | decide | (dsimp only; omega)) (by first | decide | (dsimp only; omega)) (by first | decide | (dsimp only; omega)) ?_
  rintro _ _ _ ⟨rfl, rfl, rfl⟩
  refine OWp.ifNo hk d_AINF_4 (XT.i0_ne_f (by decide)) (pc' := 7) rfl ?_
  exact OWp.ret0 hk d_AINF_7 ⟨rfl, rfl, rfl⟩ (List.Sublist.refl _) (fun _ h => h) (by decide) (by decide)
/-- inflate(): Latin-1 till now -/
theorem c_AINF (hw : ∀ d ∈ tables_1, d.before a0 Z = true) (hEL : EW Z a0 EL) (O2 : Sta Z Z.heap "java/lang/String" "COMPACT_STRINGS" "Z" (.int zc)) (hzc : ¬ zc = 0) (O4 : Sta Z Z.heap "jdk/internal/util/Preconditions" "SIOOBE_FORMATTER" "Ljava/util/function/BiFunction;" fm) (hfm : fm.isRef = true) (OA : Sta Z Z.heap "java/lang/StringUTF16" "$assertionsDisabled" "Z" (.int 1)) (OH : Sta Z Z.heap "java/lang/StringUTF16" "HI_BYTE_SHIFT" "I" (.int 0)) (OL : Sta Z Z.heap "java/lang/StringUTF16" "LO_BYTE_SHIFT" "I" (.int 8))
    (hB : BMx Z csb t 0 cs.length) (hA : AC Z ct .byte (tab cap f)) (hfs : ∀ j, j < cs.length → f j = .int (lo8 (cs.getD j 0))) (hl : lat cs = true) (hch : Chars cs) (hle : cs.length ≤ cap) (hcap : cap ≤ kCap) :
    OCon l Z EL (⟨"java/lang/AbstractStringBuilder", "inflate", "()V"⟩ : MethodName) jdk_68_method_11_code 2 none [] ({ frames := 5, cells := 1, slots := 2 * kCap, locals := 84 } : Room) #[.ref x] [(x, csb), (t, ct)] []
      (fun v M N => v = none ∧ N = [] ∧ ∃ csb' u cu f', M = [(x, csb'), (u, cu)] ∧ BMx Z csb' u 1 cs.length ∧ AC Z cu .byte (tab (2 * cap) f') ∧ ∀ j, j < 2 * cs.length → f' j = wbAt 2 cs j) := by
  refine OCon.of_wp (L0 := [.val (.ref x), .unset]) pn_AINF hEL (fun m => by first | (simp [entryFrame, mkF, argsToLocals, Value.category]; done) | rfl) ?_
  intro p e s m below meth c hk
  have hkc : kCap ≤ 4000 := Nat.le_of_ble_eq_true rfl
  have hB0 := hB.1
  obtain ⟨⟨hE, F_value, F_coder, F_count⟩, F_maybeLatin1⟩ := hB
  refine OWp.aload_n hk d_AINF_0 (pc' := 1) rfl rfl rfl ?_
  refine OWp.callV hk d_AINF_1 (pc' := 4) rfl (hw _ (List.mem_of_getElem? (i := 291) rfl)) (hw _ (List.mem_of_getElem? (i := 161) rfl)) (nfs (hw _ (List.mem_of_getElem? (i := 163) rfl))) (hw _ (List.mem_of_getElem? (i := 163) rfl)) (hw _ (List.mem_of_getElem? (i := 162) rfl)) (hw _ (List.mem_of_getElem? (i := 55) rfl)) (hw _ (List.mem_of_getElem? (i := 164) rfl)) (by decide) (by simp) hE (c_ISLB hw hEL O2 hzc hB0) rfl (by simp) rfl (lenOf pd_11 rfl) rfl (W := 0) rfl (by first | decide | (dsimp only; omega)) (by first | decide | (dsimp only; omega)) (by first | decide | (dsimp only; omega)) (by first | decide | (dsimp only; omega)) ?_
  rintro _ _ _ ⟨rfl, rfl, rfl⟩
  refine OWp.ifYes hk d_AINF_4 (XT.i0_ne_t (by decide)) (by decide) (pc' := 8) rfl ?_
  refine OWp.aload_n hk d_AINF_8 (pc' := 9) rfl rfl rfl ?_
  refine OWp.getfield hk d_AINF_9 (pc' := 12) rfl (hw _ (List.mem_of_getElem? (i := 59) rfl)) (by simp) F_value ?_
  refine OWp.arraylength hk d_AINF_12 (pc' := 13) rfl (by simp) hA (z := Int32.ofNat cap) (by rw [tab_len]) ?_
  refine OWp.callS hk d_AINF_13 (pc' := 16) rfl (hw _ (List.mem_of_getElem? (i := 292) rfl)) (hw _ (List.mem_of_getElem? (i := 293) rfl)) (hw _ (List.mem_of_getElem? (i := 22) rfl)) (hw _ (List.mem_of_getElem? (i := 294) rfl)) (by decide) (c_NBF hw hEL (by omega) hcap) rfl (by simp) rfl (lenOf pd_3 rfl) rfl (W := 0) rfl (by first | decide | (dsimp only; omega)) (by first | decide | (dsimp only; omega)) (by first | decide | (dsimp only; omega)) (by first | decide | (dsimp only; omega)) ?_
  rintro _ _ _ ⟨rfl, d, cdd, rfl, rfl, hD⟩
  refine OWp.astore_n hk d_AINF_16 (pc' := 17) rfl (kn := 1) rfl rfl rfl (by simp only [List.set_cons_zero, List.set_cons_succ]; rfl) ?_
  refine OWp.aload_n hk d_AINF_17 (pc' := 18) rfl rfl rfl ?_
  refine OWp.getfield hk d_AINF_18 (pc' := 21) rfl (hw _ (List.mem_of_getElem? (i := 59) rfl)) (by simp) F_value ?_
  refine OWp.iconst hk d_AINF_21 (pc' := 22) rfl (z := 0) rfl ?_
  refine OWp.aload_n hk d_AINF_22 (pc' := 23) rfl rfl rfl ?_
  refine OWp.iconst hk d_AINF_23 (pc' := 24) rfl (z := 0) rfl ?_
  refine OWp.aload_n hk d_AINF_24 (pc' := 25) rfl rfl rfl ?_
  refine OWp.getfield hk d_AINF_25 (pc' := 28) rfl (hw _ (List.mem_of_getElem? (i := 84) rfl)) (by simp) F_count ?_
  refine OWp.callS hk d_AINF_28 (pc' := 31) rfl (hw _ (List.mem_of_getElem? (i := 299) rfl)) (hw _ (List.mem_of_getElem? (i := 300) rfl)) (hw _ (List.mem_of_getElem? (i := 254) rfl)) (hw _ (List.mem_of_getElem? (i := 301) rfl)) (by decide) (c_LINF (k := 0) (ns := cap) hw hEL O4 hfm OA OH OL hA hle hfs hl hch hD (by omega) (by omega)) rfl (by simp) rfl (lenOf pd_31 rfl) rfl (W := 0) rfl (by first | decide | (dsimp only; omega)) (by first | decide | (dsimp only; omega)) (by first | decide | (dsimp only; omega)) (by first | decide | (dsimp only; omega)) ?_
  rintro _ _ _ ⟨rfl, rfl, cd2, rfl, hD2⟩
  refine OWp.aload_n hk d_AINF_31 (pc' := 32) rfl rfl rfl ?_
  refine OWp.aload_n hk d_AINF_32 (pc' := 33) rfl rfl rfl ?_
  refine OWp.perm (M' := [(x, csb), (d, cd2), (t, ct)]) (List.Perm.swap ..) ?_
  refine OWp.putfield hk d_AINF_33 (pc' := 36) rfl (hw _ (List.mem_of_getElem? (i := 59) rfl)) (i := 0) rfl F_value hE (Or.inl (hw _ (List.mem_of_getElem? (i := 60) rfl))) (hw _ (List.mem_of_getElem? (i := 46) rfl)) (ty := (.array .byte)) (by decide) rfl rfl ?_
  intro ck hE F_value hK
  have F_coder := hK F_coder (slot_ne (Or.inl (hw _ (List.mem_of_getElem? (i := 62) rfl))) (Or.inl (hw _ (List.mem_of_getElem? (i := 60) rfl))) (by decide) (t := .byte) (by decide) (t' := (.array .byte)) (by decide))
  have F_count := hK F_count (slot_ne (Or.inl (hw _ (List.mem_of_getElem? (i := 85) rfl))) (Or.inl (hw _ (List.mem_of_getElem? (i := 60) rfl))) (by decide) (t := .int) (by decide) (t' := (.array .byte)) (by decide))
  have F_maybeLatin1 := hK F_maybeLatin1 (slot_ne (Or.inl (hw _ (List.mem_of_getElem? (i := 319) rfl))) (Or.inl (hw _ (List.mem_of_getElem? (i := 60) rfl))) (by decide) (t := .boolean) (by decide) (t' := (.array .byte)) (by decide))
  simp only [List.nil_append, List.cons_append, List.set_cons_zero]
  refine OWp.aload_n hk d_AINF_36 (pc' := 37) rfl rfl rfl ?_
  refine OWp.iconst hk d_AINF_37 (pc' := 38) rfl (z := 1) rfl ?_
  refine OWp.putfield hk d_AINF_38 (pc' := 41) rfl (hw _ (List.mem_of_getElem? (i := 61) rfl)) (i := 0) rfl F_coder hE (Or.inl (hw _ (List.mem_of_getElem? (i := 62) rfl))) (hw _ (List.mem_of_getElem? (i := 46) rfl)) (ty := .byte) (by decide) rfl rfl ?_
  intro ck hE F_coder hK
  have F_value := hK F_value (slot_ne (Or.inl (hw _ (List.mem_of_getElem? (i := 60) rfl))) (Or.inl (hw _ (List.mem_of_getElem? (i := 62) rfl))) (by decide) (t := (.array .byte)) (by decide) (t' := .byte) (by decide))
  have F_count := hK F_count (slot_ne (Or.inl (hw _ (List.mem_of_getElem? (i := 85) rfl))) (Or.inl (hw _ (List.mem_of_getElem? (i := 62) rfl))) (by decide) (t := .int) (by decide) (t' := .byte) (by decide))
  have F_maybeLatin1 := hK F_maybeLatin1 (slot_ne (Or.inl (hw _ (List.mem_of_getElem? (i := 319) rfl))) (Or.inl (hw _ (List.mem_of_getElem? (i := 62) rfl))) (by decide) (t := .boolean) (by decide) (t' := .byte) (by decide))
  simp only [List.nil_append, List.cons_append, List.set_cons_zero]
  exact OWp.ret0 hk d_AINF_41 (M' := [(x, ck), (d, cd2)]) (N' := []) ⟨rfl, rfl, ck, d, cd2, _, rfl, ⟨⟨hE, F_value, F_coder, F_count⟩, F_maybeLatin1⟩, hD2, fun j hj => by rw [if_pos (by omega)]; rfl⟩ (List.Sublist.cons_cons _ (List.Sublist.cons_cons _ (List.nil_sublist _))) (by simp) (by decide) (by decide)
/-- inflateIfNeededFor(String) -/
theorem c_INFg (hw : ∀ d ∈ tables_1, d.before a0 Z = true) (hEL : EW Z a0 EL) (O2 : Sta Z Z.heap "java/lang/String" "COMPACT_STRINGS" "Z" (.int zc)) (hzc : ¬ zc = 0) (O4 : Sta Z Z.heap "jdk/internal/util/Preconditions" "SIOOBE_FORMATTER" "Ljava/util/function/BiFunction;" fm) (hfm : fm.isRef = true) (OA : Sta Z Z.heap "java/lang/StringUTF16" "$assertionsDisabled" "Z" (.int 1)) (OH : Sta Z Z.heap "java/lang/StringUTF16" "HI_BYTE_SHIFT" "I" (.int 0)) (OL : Sta Z Z.heap "java/lang/StringUTF16" "LO_BYTE_SHIFT" "I" (.int 8))
    (hB : BMx Z csb t (cdOf cs) cs.length) (hA : AC Z ct .byte (tab (wOf cs * cap) f)) (hfs : ∀ j, j < wOf cs * cs.length → f j = wbAt (wOf cs) cs j) (hch : Chars cs) (hle : cs.length ≤ cap) (hcap : cap ≤ kCap) (hs : SC Z st cx cst ds) :
    OCon l Z EL (⟨"java/lang/AbstractStringBuilder", "inflateIfNeededFor", "(Ljava/lang/String;)V"⟩ : MethodName) jdk_68_method_71_code 2 none [] ({ frames := 6, cells := 1, slots := 2 * kCap, locals := 98 } : Room) #[.ref x, .ref sx] [(x, csb), (t, ct)] [(sx, cx), (st, cst)]
      (fun v M N => v = none ∧ N = [] ∧ ∃ csb' t' ct' f', M = [(x, csb'), (t', ct')] ∧ BMx Z csb' t' (cdOf (cs ++ ds)) cs.length ∧ AC Z ct' .byte (tab (wOf (cs ++ ds) * cap) f') ∧ ∀ j, j < wOf (cs ++ ds) * cs.length → f' j = wbAt (wOf (cs ++ ds)) cs j) := by
  refine OCon.of_wp (L0 := [.val (.ref x), .val (.ref sx)]) pn_INF hEL (fun m => by first | (simp [entryFrame, mkF, argsToLocals, Value.category]; done) | rfl) ?_
  intro p e s m below meth c hk
  have la := lat_and cs ds
  refine OWp.getstatic hk d_INF_0 (pc' := 3) rfl (hw _ (List.mem_of_getElem? (i := 58) rfl)) O2 ?_
  refine OWp.ifNo hk d_INF_3 (XT.i0_eq_f hzc) (pc' := 6) rfl ?_
  refine OWp.aload_n hk d_INF_6 (pc' := 7) rfl rfl rfl ?_
  refine OWp.getfield hk d_INF_7 (pc' := 10) rfl (hw _ (List.mem_of_getElem? (i := 61) rfl)) (by simp) hB.1.2.2.1 ?_
  refine OWp.aload_n hk d_INF_10 (pc' := 11) rfl rfl rfl ?_
  refine OWp.callV hk d_INF_11 (pc' := 14) rfl (hw _ (List.mem_of_getElem? (i := 127) rfl)) (hw _ (List.mem_of_getElem? (i := 80) rfl)) (nfs (hw _ (List.mem_of_getElem? (i := 82) rfl))) (hw _ (List.mem_of_getElem? (i := 82) rfl)) (hw _ (List.mem_of_getElem? (i := 81) rfl)) (hw _ (List.mem_of_getElem? (i := 7) rfl)) (hw _ (List.mem_of_getElem? (i := 83) rfl)) (by decide) (by simp) hs.1 (c_COD hw hEL O2 hzc hs) rfl (by simp) rfl (lenOf pd_0 rfl) rfl (W := 1) rfl (by first | decide | (dsimp only; omega)) (by first | decide | (dsimp only; omega)) (by first | decide | (dsimp only; omega)) (by first | decide | (dsimp only; omega)) ?_
  rintro _ _ _ ⟨rfl, rfl, rfl⟩
  cases h1 : lat cs
  · rw [h1, Bool.false_and] at la
    have eq1 : cdOf (cs ++ ds) = cdOf cs := by rw [cd_wide la, cd_wide h1]
    have eq2 : wOf (cs ++ ds) = wOf cs := by rw [w_wide la, w_wide h1]
    cases h2 : lat ds
    · refine OWp.icmpYes hk d_INF_14 (XT.ii_eq_t (by rw [cd_wide h1, cd_wide h2])) (by decide) (pc' := 21) rfl ?_
      exact OWp.ret0 hk d_INF_21 (M' := [(x, csb), (t, ct)]) (N' := []) ⟨rfl, rfl, csb, t, ct, f, rfl, by rw [eq1]; exact hB, by rw [eq2]; exact hA, by rw [eq2]; exact hfs⟩ (List.Sublist.refl _) (by simp) (by decide) (by decide)
    · refine OWp.icmpNo hk d_INF_14 (XT.ii_eq_f (by rw [cd_wide h1, cd_lat h2]; decide)) (pc' := 17) rfl ?_
      refine OWp.aload_n hk d_INF_17 (pc' := 18) rfl rfl rfl ?_
      refine OWp.callP hk d_INF_18 (pc' := 21) rfl (hw _ (List.mem_of_getElem? (i := 286) rfl)) (hw _ (List.mem_of_getElem? (i := 288) rfl)) (hw _ (List.mem_of_getElem? (i := 289) rfl)) (hw _ (List.mem_of_getElem? (i := 287) rfl)) (hw _ (List.mem_of_getElem? (i := 55) rfl)) (hw _ (List.mem_of_getElem? (i := 290) rfl)) (by decide) (by simp) hB.1.1 (c_AINF0 hw hEL O2 hzc (by rw [← cd_wide h1]; exact hB.1)) rfl (by simp) rfl (lenOf pd_32 rfl) rfl (W := 0) rfl (by first | decide | (dsimp only; omega)) (by first | decide | (dsimp only; omega)) (by first | decide | (dsimp only; omega)) (by first | decide | (dsimp only; omega)) ?_
      rintro _ _ _ ⟨rfl, rfl, rfl⟩
      exact OWp.ret0 hk d_INF_21 (M' := [(x, csb), (t, ct)]) (N' := []) ⟨rfl, rfl, csb, t, ct, f, rfl, by rw [eq1]; exact hB, by rw [eq2]; exact hA, by rw [eq2]; exact hfs⟩ (List.Sublist.refl _) (by simp) (by decide) (by decide)
  · rw [h1, Bool.true_and] at la
    have hfl : ∀ j, j < cs.length → f j = .int (lo8 (cs.getD j 0)) := fun j hj => by
      rw [hfs j (by rw [w_lat h1]; omega), w_lat h1]; rfl
    cases h2 : lat ds
    · rw [h2] at la
      refine OWp.icmpNo hk d_INF_14 (XT.ii_eq_f (by rw [cd_lat h1, cd_wide h2]; decide)) (pc' := 17) rfl ?_
      refine OWp.aload_n hk d_INF_17 (pc' := 18) rfl rfl rfl ?_
      refine OWp.callP hk d_INF_18 (pc' := 21) rfl (hw _ (List.mem_of_getElem? (i := 286) rfl)) (hw _ (List.mem_of_getElem? (i := 288) rfl)) (hw _ (List.mem_of_getElem? (i := 289) rfl)) (hw _ (List.mem_of_getElem? (i := 287) rfl)) (hw _ (List.mem_of_getElem? (i := 55) rfl)) (hw _ (List.mem_of_getElem? (i := 290) rfl)) (by decide) (by simp) hB.1.1 (c_AINF (cap := cap) hw hEL O2 hzc O4 hfm OA OH OL (by rw [← cd_lat h1]; exact hB) (by rw [w_lat h1, Nat.one_mul] at hA; exact hA) hfl h1 hch hle hcap) rfl (by simp) rfl (lenOf pd_32 rfl) rfl (W := 0) rfl (by first | decide | (dsimp only; omega)) (by first | decide | (dsimp only; omega)) (by first | decide | (dsimp only; omega)) (by first | decide | (dsimp only; omega)) ?_
      rintro _ _ _ ⟨rfl, rfl, csb2, u2, cu2, f2, rfl, hB2, hA2, hf2⟩
      exact OWp.ret0 hk d_INF_21 (M' := [(x, csb2), (u2, cu2)]) (N' := []) ⟨rfl, rfl, csb2, u2, cu2, f2, rfl, by rw [cd_wide la]; exact hB2, by rw [w_wide la]; exact hA2, by rw [w_wide la]; exact hf2⟩ (List.Sublist.refl _) (by simp) (by decide) (by decide)
    · rw [h2] at la
      have eq1 : cdOf (cs ++ ds) = cdOf cs := by rw [cd_lat la, cd_lat h1]
      have eq2 : wOf (cs ++ ds) = wOf cs := by rw [w_lat la, w_lat h1]
      refine OWp.icmpYes hk d_INF_14 (XT.ii_eq_t (by rw [cd_lat h1, cd_lat h2])) (by decide) (pc' := 21) rfl ?_
      exact OWp.ret0 hk d_INF_21 (M' := [(x, csb), (t, ct)]) (N' := []) ⟨rfl, rfl, csb, t, ct, f, rfl, by rw [eq1]; exact hB, by rw [eq2]; exact hA, by rw [eq2]; exact hfs⟩ (List.Sublist.refl _) (by simp) (by decide) (by decide)
/-- getBytes(byte[], int, byte) of a Latin-1 String into wide bytes -/
theorem c_GBw (hw : ∀ d ∈ tables_1, d.before a0 Z = true) (hEL : EW Z a0 EL) (O2 : Sta Z Z.heap "java/lang/String" "COMPACT_STRINGS" "Z" (.int zc)) (hzc : ¬ zc = 0) (O4 : Sta Z Z.heap "jdk/internal/util/Preconditions" "SIOOBE_FORMATTER" "Ljava/util/function/BiFunction;" fm) (hfm : fm.isRef = true) (OA : Sta Z Z.heap "java/lang/StringUTF16" "$assertionsDisabled" "Z" (.int 1)) (OH : Sta Z Z.heap "java/lang/StringUTF16" "HI_BYTE_SHIFT" "I" (.int 0)) (OL : Sta Z Z.heap "java/lang/StringUTF16" "LO_BYTE_SHIFT" "I" (.int 8))
    (hs : SC Z st cx cst ds) (hl : lat ds = true) (hA : AC Z ct .byte (tab (2 * n) f)) (hn : k + ds.length ≤ n) (h4 : n ≤ 4000) :
    OCon l Z EL (⟨"java/lang/String", "getBytes", "([BIB)V"⟩ : MethodName) jdk_42_method_147_code 4 none [] ({ frames := 5, cells := 0, slots := 0, locals := 82 } : Room) #[.ref sx, .ref t, .int (Int32.ofNat k), .int 1] [(t, ct)] [(sx, cx), (st, cst)]
      (fun v M N => v = none ∧ N = [] ∧ ∃ ct', M = [(t, ct')] ∧ AC Z ct' .byte (tab (2 * n) fun j => if 2 * k ≤ j ∧ j < 2 * (k + ds.length) then wbAt 2 ds (j - 2 * k) else f j)) := by
  refine OCon.of_wp (L0 := [.val (.ref sx), .val (.ref t), .val (.int (Int32.ofNat k)), .val (.int 1)]) pn_GB hEL (fun m => by first | (simp [entryFrame, mkF, argsToLocals, Value.category]; done) | rfl) ?_
  intro p e s m below meth c hk
  have hS := hs.2.2.2.1
  rw [bytes_lat hl] at hS
  refine OWp.aload_n hk d_GB_0 (pc' := 1) rfl rfl rfl ?_
  refine OWp.callV hk d_GB_1 (pc' := 4) rfl (hw _ (List.mem_of_getElem? (i := 79) rfl)) (hw _ (List.mem_of_getElem? (i := 80) rfl)) (nfs (hw _ (List.mem_of_getElem? (i := 82) rfl))) (hw _ (List.mem_of_getElem? (i := 82) rfl)) (hw _ (List.mem_of_getElem? (i := 81) rfl)) (hw _ (List.mem_of_getElem? (i := 7) rfl)) (hw _ (List.mem_of_getElem? (i := 83) rfl)) (by decide) (by simp) hs.1 (c_COD hw hEL O2 hzc hs) rfl (by simp) rfl (lenOf pd_0 rfl) rfl (W := 0) rfl (by first | decide | (dsimp only; omega)) (by first | decide | (dsimp only; omega)) (by first | decide | (dsimp only; omega)) (by first | decide | (dsimp only; omega)) ?_
  rintro _ _ _ ⟨rfl, rfl, rfl⟩
  refine OWp.iload_n hk d_GB_4 (pc' := 5) rfl rfl ?_
  refine OWp.icmpYes hk d_GB_5 (XT.ii_ne_t (by rw [cd_lat hl]; decide)) (by decide) (pc' := 28) rfl ?_
  refine OWp.aload_n hk d_GB_28 (pc' := 29) rfl rfl rfl ?_
  refine OWp.getfield hk d_GB_29 (pc' := 32) rfl (hw _ (List.mem_of_getElem? (i := 33) rfl)) (by simp) hs.2.1 ?_
  refine OWp.iconst hk d_GB_32 (pc' := 33) rfl (z := 0) rfl ?_
  refine OWp.aload_n hk d_GB_33 (pc' := 34) rfl rfl rfl ?_
  refine OWp.iload_n hk d_GB_34 (pc' := 35) rfl rfl ?_
  refine OWp.aload_n hk d_GB_35 (pc' := 36) rfl rfl rfl ?_
  refine OWp.getfield hk d_GB_36 (pc' := 39) rfl (hw _ (List.mem_of_getElem? (i := 33) rfl)) (by simp) hs.2.1 ?_
  refine OWp.arraylength hk d_GB_39 (pc' := 40) rfl (by simp) hS (z := Int32.ofNat ds.length) (by rw [tab_len]) ?_
  refine OWp.callS hk d_GB_40 (pc' := 43) rfl (hw _ (List.mem_of_getElem? (i := 317) rfl)) (hw _ (List.mem_of_getElem? (i := 300) rfl)) (hw _ (List.mem_of_getElem? (i := 254) rfl)) (hw _ (List.mem_of_getElem? (i := 301) rfl)) (by decide) (c_LINF (ns := ds.length) hw hEL O4 hfm OA OH OL hS (Nat.le_refl _) (fun _ _ => rfl) hl hs.2.2.2.2 hA hn h4) rfl (by simp) rfl (lenOf pd_31 rfl) rfl (W := 0) rfl (by first | decide | (dsimp only; omega)) (by first | decide | (dsimp only; omega)) (by first | decide | (dsimp only; omega)) (by first | decide | (dsimp only; omega)) ?_
  rintro _ _ _ ⟨rfl, rfl, ct2, rfl, hA2⟩
  exact OWp.ret0 hk d_GB_43 (M' := [(t, ct2)]) (N' := []) ⟨rfl, rfl, ct2, rfl, hA2⟩ (List.Sublist.refl _) (by simp) (by decide) (by decide)
/-- putStringAt at the builder's end -/
theorem c_PSAg (hw : ∀ d ∈ tables_1, d.before a0 Z = true) (hEL : EW Z a0 EL) (O2 : Sta Z Z.heap "java/lang/String" "COMPACT_STRINGS" "Z" (.int zc)) (hzc : ¬ zc = 0) (O4 : Sta Z Z.heap "jdk/internal/util/Preconditions" "SIOOBE_FORMATTER" "Ljava/util/function/BiFunction;" fm) (hfm : fm.isRef = true) (OA : Sta Z Z.heap "java/lang/StringUTF16" "$assertionsDisabled" "Z" (.int 1)) (OH : Sta Z Z.heap "java/lang/StringUTF16" "HI_BYTE_SHIFT" "I" (.int 0)) (OL : Sta Z Z.heap "java/lang/StringUTF16" "LO_BYTE_SHIFT" "I" (.int 8))
    (hB : BMx Z csb t (cdOf cs) cs.length) (hA : AC Z ct .byte (tab (wOf cs * cap) f)) (hfs : ∀ j, j < wOf cs * cs.length → f j = wbAt (wOf cs) cs j) (hch : Chars cs) (hle : cs.length + ds.length ≤ cap) (hcap : cap ≤ kCap) (hs : SC Z st cx cst ds) :
    OCon l Z EL (⟨"java/lang/AbstractStringBuilder", "putStringAt", "(ILjava/lang/String;)V"⟩ : MethodName) jdk_68_method_73_code 3 none [] ({ frames := 7, cells := 1, slots := 2 * kCap, locals := 112 } : Room) #[.ref x, .int (Int32.ofNat cs.length), .ref sx] [(x, csb), (t, ct)] [(sx, cx), (st, cst)]
      (fun v M N => v = none ∧ N = [] ∧ ∃ csb' t' ct' f', M = [(x, csb'), (t', ct')] ∧ BMx Z csb' t' (cdOf (cs ++ ds)) cs.length ∧ AC Z ct' .byte (tab (wOf (cs ++ ds) * cap) f') ∧ ∀ j, j < wOf (cs ++ ds) * (cs ++ ds).length → f' j = wbAt (wOf (cs ++ ds)) (cs ++ ds) j) := by
  refine OCon.of_wp (L0 := [.val (.ref x), .val (.int (Int32.ofNat cs.length)), .val (.ref sx)]) pn_PSA hEL (fun m => by first | (simp [entryFrame, mkF, argsToLocals, Value.category]; done) | rfl) ?_
  intro p e s m below meth c hk
  have hkc : kCap ≤ 4000 := Nat.le_of_ble_eq_true rfl
  have la := lat_and cs ds
  refine OWp.aload_n hk d_PSA_0 (pc' := 1) rfl rfl rfl ?_
  refine OWp.aload_n hk d_PSA_1 (pc' := 2) rfl rfl rfl ?_
  refine OWp.callP hk d_PSA_2 (pc' := 5) rfl (hw _ (List.mem_of_getElem? (i := 122) rfl)) (hw _ (List.mem_of_getElem? (i := 124) rfl)) (hw _ (List.mem_of_getElem? (i := 125) rfl)) (hw _ (List.mem_of_getElem? (i := 123) rfl)) (hw _ (List.mem_of_getElem? (i := 55) rfl)) (hw _ (List.mem_of_getElem? (i := 126) rfl)) (by decide) (by simp) hB.1.1 (c_INFg hw hEL O2 hzc O4 hfm OA OH OL hB hA hfs hch (by omega) hcap hs) rfl (by simp) rfl (lenOf pd_16 rfl) rfl (W := 0) rfl (by first | decide | (dsimp only; omega)) (by first | decide | (dsimp only; omega)) (by first | decide | (dsimp only; omega)) (by first | decide | (dsimp only; omega)) ?_
  rintro _ _ _ ⟨rfl, rfl, csb2, t2, ct2, f2, rfl, hB2, hA2, hf2⟩
  refine OWp.aload_n hk d_PSA_5 (pc' := 6) rfl rfl rfl ?_
  refine OWp.aload_n hk d_PSA_6 (pc' := 7) rfl rfl rfl ?_
  refine OWp.getfield hk d_PSA_7 (pc' := 10) rfl (hw _ (List.mem_of_getElem? (i := 59) rfl)) (by simp) hB2.1.2.1 ?_
  refine OWp.iload_n hk d_PSA_10 (pc' := 11) rfl rfl ?_
  refine OWp.aload_n hk d_PSA_11 (pc' := 12) rfl rfl rfl ?_
  refine OWp.getfield hk d_PSA_12 (pc' := 15) rfl (hw _ (List.mem_of_getElem? (i := 61) rfl)) (by simp) hB2.1.2.2.1 ?_
  refine OWp.perm (M' := [(t2, ct2), (x, csb2)]) (List.Perm.swap ..) ?_
  have fin : ∀ j, j < wOf (cs ++ ds) * (cs ++ ds).length → (if wOf (cs ++ ds) * cs.length ≤ j ∧ j < wOf (cs ++ ds) * cs.length + wOf (cs ++ ds) * ds.length then wbAt (wOf (cs ++ ds)) ds (j - wOf (cs ++ ds) * cs.length) else f2 j) = wbAt (wOf (cs ++ ds)) (cs ++ ds) j := fun j hj => by
    rw [wbAt_app (w12 _)]
    rw [List.length_append, Nat.mul_add] at hj
    by_cases q : j < wOf (cs ++ ds) * cs.length
    · rw [if_pos q, if_neg (by omega), hf2 j q]
    · rw [if_neg q, if_pos ⟨by omega, hj⟩]
  by_cases hsame : lat ds = lat (cs ++ ds)
  · have e1 : cdOf (cs ++ ds) = cdOf ds := by simp only [cdOf, hsame]
    have e2 : wOf (cs ++ ds) = wOf ds := by simp only [wOf, hsame]
    have e3 := oB_len ds
    refine OWp.callV hk d_PSA_15 (pc' := 18) rfl (hw _ (List.mem_of_getElem? (i := 128) rfl)) (hw _ (List.mem_of_getElem? (i := 129) rfl)) (nfs (hw _ (List.mem_of_getElem? (i := 131) rfl))) (hw _ (List.mem_of_getElem? (i := 131) rfl)) (hw _ (List.mem_of_getElem? (i := 130) rfl)) (hw _ (List.mem_of_getElem? (i := 7) rfl)) (hw _ (List.mem_of_getElem? (i := 132) rfl)) (by decide) (by simp) hs.1 (c_GB (k := cs.length) (n := wOf (cs ++ ds) * cap) hw hEL O2 hzc hs e1 e2 hA2 (Nat.mul_le_mul_left _ hle) (by omega)) rfl (by simp) rfl (lenOf pd_17 rfl) rfl (W := 0) rfl (by first | decide | (dsimp only; omega)) (by first | decide | (dsimp only; omega)) (by first | decide | (dsimp only; omega)) (by first | decide | (dsimp only; omega)) ?_
    rintro _ _ _ ⟨rfl, rfl, ct3, rfl, hA3⟩
    refine OWp.perm (M' := [(x, csb2), (t2, ct3)]) (List.Perm.swap ..) ?_
    exact OWp.ret0 hk d_PSA_18 (M' := [(x, csb2), (t2, ct3)]) (N' := []) ⟨rfl, rfl, csb2, t2, ct3, _, rfl, hB2, hA3, fun j hj => by
      rw [← fin j hj]
      by_cases q : wOf (cs ++ ds) * cs.length ≤ j ∧ j < wOf (cs ++ ds) * cs.length + wOf (cs ++ ds) * ds.length
      · rw [if_pos q, if_pos q, wbAt_o (by rw [← e2]; omega), e2]
      · rw [if_neg q, if_neg q]⟩ (List.Sublist.refl _) (by simp) (by decide) (by decide)
  · have l1 : lat ds = true := by cases h1 : lat cs <;> cases h2 : lat ds <;> simp_all
    have l2 : lat (cs ++ ds) = false := by cases h1 : lat cs <;> cases h2 : lat ds <;> simp_all
    rw [w_wide l2] at hA2 fin
    rw [cd_wide l2] at hB2 ⊢
    rw [w_wide l2]
    refine OWp.callV hk d_PSA_15 (pc' := 18) rfl (hw _ (List.mem_of_getElem? (i := 128) rfl)) (hw _ (List.mem_of_getElem? (i := 129) rfl)) (nfs (hw _ (List.mem_of_getElem? (i := 131) rfl))) (hw _ (List.mem_of_getElem? (i := 131) rfl)) (hw _ (List.mem_of_getElem? (i := 130) rfl)) (hw _ (List.mem_of_getElem? (i := 7) rfl)) (hw _ (List.mem_of_getElem? (i := 132) rfl)) (by decide) (by simp) hs.1 (c_GBw (k := cs.length) (n := cap) hw hEL O2 hzc O4 hfm OA OH OL hs l1 hA2 hle (by omega)) rfl (by simp) rfl (lenOf pd_17 rfl) rfl (W := 0) rfl (by first | decide | (dsimp only; omega)) (by first | decide | (dsimp only; omega)) (by first | decide | (dsimp only; omega)) (by first | decide | (dsimp only; omega)) ?_
    rintro _ _ _ ⟨rfl, rfl, ct3, rfl, hA3⟩
    refine OWp.perm (M' := [(x, csb2), (t2, ct3)]) (List.Perm.swap ..) ?_
    exact OWp.ret0 hk d_PSA_18 (M' := [(x, csb2), (t2, ct3)]) (N' := []) ⟨rfl, rfl, csb2, t2, ct3, _, rfl, hB2, hA3, fun j hj => by
      rw [← fin j hj]
      by_cases q : 2 * cs.length ≤ j ∧ j < 2 * (cs.length + ds.length)
      · rw [if_pos q, if_pos (by omega)]
      · rw [if_neg q, if_neg (by omega)]⟩ (List.Sublist.refl _) (by simp) (by decide) (by decide)
theorem c_ECIm (hw : ∀ d ∈ tables_1, d.before a0 Z = true) (hEL : EW Z a0 EL) (hcw : CW cd w) (hB : BMx Z csb t cd cnt) (hA : AC Z ct .byte (tab (w * cap) f)) (hc : cap ≤ 2000) (hm : mn ≤ 4000) (hcap : w * grow cap mn ≤ kSB) :
    OCon l Z EL (⟨"java/lang/AbstractStringBuilder", "ensureCapacityInternal", "(I)V"⟩ : MethodName) jdk_68_method_9_code 3 none [] ({ frames := 3, cells := 1, slots := kSB, locals := 48 } : Room) #[.ref x, .int (Int32.ofNat mn)] [(x, csb), (t, ct)] []
      (fun v M N => v = none ∧ N = [] ∧ ∃ csb' t' ct' f', M = [(x, csb'), (t', ct')] ∧ BMx Z csb' t' cd cnt ∧ AC Z ct' .byte (tab (w * grow cap mn) f') ∧ ∀ j, j < w * cap → f' j = f j) := by
  refine OCon.of_wp (L0 := [.val (.ref x), .val (.int (Int32.ofNat mn)), .unset]) pn_ECI hEL (fun m => by first | (simp [entryFrame, mkF, argsToLocals, Value.category]; done) | rfl) ?_
  intro p e s m below meth c' hk
  obtain ⟨⟨hE, F_value, F_coder, F_count⟩, F_maybeLatin1⟩ := hB
  have hw12 := hcw.w12
  refine OWp.aload_n hk d_ECI_0 (pc' := 1) rfl rfl rfl ?_
  refine OWp.getfield hk d_ECI_1 (pc' := 4) rfl (hw _ (List.mem_of_getElem? (i := 59) rfl)) (by simp) F_value ?_
  refine OWp.arraylength hk d_ECI_4 (pc' := 5) rfl (by simp) hA (z := Int32.ofNat (w * cap)) (by rw [tab_len]) ?_
  refine OWp.aload_n hk d_ECI_5 (pc' := 6) rfl rfl rfl ?_
  refine OWp.getfield hk d_ECI_6 (pc' := 9) rfl (hw _ (List.mem_of_getElem? (i := 61) rfl)) (by simp) F_coder ?_
  refine OWp.ishr hk d_ECI_9 (pc' := 10) rfl ?_
  rw [hcw.shr (by omega)]
  refine OWp.istore_n hk d_ECI_10 (pc' := 11) rfl (kn := 2) rfl rfl (by simp only [List.set_cons_zero, List.set_cons_succ]; rfl) ?_
  refine OWp.iload_n hk d_ECI_11 (pc' := 12) rfl rfl ?_
  refine OWp.iload_n hk d_ECI_12 (pc' := 13) rfl rfl ?_
  refine OWp.isub hk d_ECI_13 (pc' := 14) rfl ?_
  by_cases h : cap < mn
  · refine OWp.ifNo hk d_ECI_14 (XT.i0_le_f ((sub_pos (by omega) (by omega)).mpr h)) (pc' := 17) rfl ?_
    have hlt : cap < grow cap mn := Nat.lt_of_lt_of_le h (grow_ge _ _)
    have hgr : grow cap mn ≤ 100000 := by rcases hw12 with rfl | rfl <;> (have : kSB ≤ 4000 := Nat.le_of_ble_eq_true rfl; omega)
    refine OWp.aload_n hk d_ECI_17 (pc' := 18) rfl rfl rfl ?_
    refine OWp.aload_n hk d_ECI_18 (pc' := 19) rfl rfl rfl ?_
    refine OWp.getfield hk d_ECI_19 (pc' := 22) rfl (hw _ (List.mem_of_getElem? (i := 59) rfl)) (by simp) F_value ?_
    refine OWp.aload_n hk d_ECI_22 (pc' := 23) rfl rfl rfl ?_
    refine OWp.iload_n hk d_ECI_23 (pc' := 24) rfl rfl ?_
    refine OWp.callP hk d_ECI_24 (pc' := 27) rfl (hw _ (List.mem_of_getElem? (i := 91) rfl)) (hw _ (List.mem_of_getElem? (i := 93) rfl)) (hw _ (List.mem_of_getElem? (i := 94) rfl)) (hw _ (List.mem_of_getElem? (i := 92) rfl)) (hw _ (List.mem_of_getElem? (i := 55) rfl)) (hw _ (List.mem_of_getElem? (i := 95) rfl)) (by decide) (by simp) hE (c_NCAP hw hEL hcw ⟨hE, F_value, F_coder, F_count⟩ hA (by omega) hm h) rfl (by simp) rfl (lenOf pd_1 rfl) rfl (W := 2) rfl (by first | decide | (dsimp only; omega)) (by first | decide | (dsimp only; omega)) (by first | decide | (dsimp only; omega)) (by first | decide | (dsimp only; omega)) ?_
    rintro _ _ _ ⟨rfl, rfl, rfl⟩
    refine OWp.aload_n hk d_ECI_27 (pc' := 28) rfl rfl rfl ?_
    refine OWp.getfield hk d_ECI_28 (pc' := 31) rfl (hw _ (List.mem_of_getElem? (i := 61) rfl)) (by simp) F_coder ?_
    refine OWp.ishl hk d_ECI_31 (pc' := 32) rfl ?_
    rw [hcw.shl hgr]
    refine OWp.callS hk d_ECI_32 (pc' := 35) rfl (hw _ (List.mem_of_getElem? (i := 106) rfl)) (hw _ (List.mem_of_getElem? (i := 107) rfl)) (hw _ (List.mem_of_getElem? (i := 108) rfl)) (hw _ (List.mem_of_getElem? (i := 109) rfl)) (by decide) (c_CPO (n := w * cap) (b := w * grow cap mn) hw hEL hA (by rcases hw12 with rfl | rfl <;> omega) hcap) rfl (by simp) rfl (lenOf pd_15 rfl) rfl (W := 1) rfl (by first | decide | (dsimp only; omega)) (by first | decide | (dsimp only; omega)) (by first | decide | (dsimp only; omega)) (by first | decide | (dsimp only; omega)) ?_
    rintro _ _ _ ⟨rfl, u, cu, rfl, rfl, hU⟩
    refine OWp.perm (M' := [(x, csb), (u, cu), (t, ct)]) (List.Perm.swap ..) ?_
    refine OWp.putfield hk d_ECI_35 (pc' := 38) rfl (hw _ (List.mem_of_getElem? (i := 59) rfl)) (i := 0) rfl F_value hE (Or.inl (hw _ (List.mem_of_getElem? (i := 60) rfl))) (hw _ (List.mem_of_getElem? (i := 46) rfl)) (ty := (.array .byte)) (by decide) rfl rfl ?_
    intro ck hE F_value hK
    have F_coder := hK F_coder (slot_ne (Or.inl (hw _ (List.mem_of_getElem? (i := 62) rfl))) (Or.inl (hw _ (List.mem_of_getElem? (i := 60) rfl))) (by decide) (t := .byte) (by decide) (t' := (.array .byte)) (by decide))
    have F_count := hK F_count (slot_ne (Or.inl (hw _ (List.mem_of_getElem? (i := 85) rfl))) (Or.inl (hw _ (List.mem_of_getElem? (i := 60) rfl))) (by decide) (t := .int) (by decide) (t' := (.array .byte)) (by decide))
    have F_maybeLatin1 := hK F_maybeLatin1 (slot_ne (Or.inl (hw _ (List.mem_of_getElem? (i := 319) rfl))) (Or.inl (hw _ (List.mem_of_getElem? (i := 60) rfl))) (by decide) (t := .boolean) (by decide) (t' := (.array .byte)) (by decide))
    simp only [List.nil_append, List.cons_append, List.set_cons_zero]
    exact OWp.ret0 hk d_ECI_38 (M' := [(x, ck), (u, cu)]) (N' := []) ⟨rfl, rfl, ck, u, cu, _, rfl, ⟨⟨hE, F_value, F_coder, F_count⟩, F_maybeLatin1⟩, hU, fun j hj => if_pos hj⟩ (List.Sublist.cons_cons _ (List.Sublist.cons_cons _ (List.nil_sublist _))) (by simp) (by decide) (by decide)
  · refine OWp.ifYes hk d_ECI_14 (XT.i0_le_t (by rw [sub_pos (by omega) (by omega)]; exact h)) (by decide) (pc' := 38) rfl ?_
    have hg : grow cap mn = cap := if_pos (by omega)
    exact OWp.ret0 hk d_ECI_38 (M' := [(x, csb), (t, ct)]) (N' := []) ⟨rfl, rfl, csb, t, ct, f, rfl, ⟨⟨hE, F_value, F_coder, F_count⟩, F_maybeLatin1⟩, by rw [hg]; exact hA, fun j hj => rfl⟩ (List.Sublist.refl _) (by simp) (by decide) (by decide)
/-- append(String) -/
theorem c_ASPg (hw : ∀ d ∈ tables_1, d.before a0 Z = true) (hEL : EW Z a0 EL) (O2 : Sta Z Z.heap "java/lang/String" "COMPACT_STRINGS" "Z" (.int zc)) (hzc : ¬ zc = 0) (O4 : Sta Z Z.heap "jdk/internal/util/Preconditions" "SIOOBE_FORMATTER" "Ljava/util/function/BiFunction;" fm) (hfm : fm.isRef = true) (OA : Sta Z Z.heap "java/lang/StringUTF16" "$assertionsDisabled" "Z" (.int 1)) (OH : Sta Z Z.heap "java/lang/StringUTF16" "HI_BYTE_SHIFT" "I" (.int 0)) (OL : Sta Z Z.heap "java/lang/StringUTF16" "LO_BYTE_SHIFT" "I" (.int 8))
    (hB : SBX Z t csb ct cs cap) (hs : SC Z st cx cst ds) (hg : grow cap (cs.length + ds.length) = n) (hn : n ≤ kCap) (hn2 : 2 * n ≤ kSB) :
    OCon l Z EL (⟨"java/lang/AbstractStringBuilder", "append", "(Ljava/lang/String;)Ljava/lang/AbstractStringBuilder;"⟩ : MethodName) jdk_68_method_22_code 3 (some (.object "java/lang/AbstractStringBuilder")) [] ({ frames := 8, cells := 2, slots := kSB + 2 * kCap, locals := 127 } : Room) #[.ref x, .ref sx] [(x, csb), (t, ct)] [(sx, cx), (st, cst)]
      (fun v M N => v = some (.ref x) ∧ N = [] ∧ ∃ csb' t' ct', M = [(x, csb'), (t', ct')] ∧ SBX Z t' csb' ct' (cs ++ ds) n) := by
  refine OCon.of_wp (L0 := [.val (.ref x), .val (.ref sx), .unset]) pn_ASP hEL (fun m => by first | (simp [entryFrame, mkF, argsToLocals, Value.category]; done) | rfl) ?_
  intro p e s m below meth c hk
  have hkc : kCap ≤ 2000 := Nat.le_of_ble_eq_true rfl
  obtain ⟨hB0, ⟨f, hA, hf⟩, hle, hc2, hch⟩ := hB
  have h4 := hs.2.2.2.2.2
  have hge := grow_ge cap (cs.length + ds.length)
  have hge' := grow_ge' cap (cs.length + ds.length)
  have hw12 := w12 cs
  subst hg
  refine OWp.aload_n hk d_ASP_0 (pc' := 1) rfl rfl rfl ?_
  refine OWp.nonnullYes hk d_ASP_1 (by decide) (pc' := 9) rfl ?_
  refine OWp.aload_n hk d_ASP_9 (pc' := 10) rfl rfl rfl ?_
  refine OWp.callV hk d_ASP_10 (pc' := 13) rfl (hw _ (List.mem_of_getElem? (i := 74) rfl)) (hw _ (List.mem_of_getElem? (i := 75) rfl)) (nfs (hw _ (List.mem_of_getElem? (i := 77) rfl))) (hw _ (List.mem_of_getElem? (i := 77) rfl)) (hw _ (List.mem_of_getElem? (i := 76) rfl)) (hw _ (List.mem_of_getElem? (i := 7) rfl)) (hw _ (List.mem_of_getElem? (i := 78) rfl)) (by decide) (by simp) hs.1 (c_LEN hw hEL O2 hzc hs) rfl (by simp) rfl (lenOf pd_18 rfl) rfl (W := 0) rfl (by first | decide | (dsimp only; omega)) (by first | decide | (dsimp only; omega)) (by first | decide | (dsimp only; omega)) (by first | decide | (dsimp only; omega)) ?_
  rintro _ _ _ ⟨rfl, rfl, rfl⟩
  refine OWp.istore_n hk d_ASP_13 (pc' := 14) rfl (kn := 2) rfl rfl (by simp only [List.set_cons_zero, List.set_cons_succ]; rfl) ?_
  refine OWp.aload_n hk d_ASP_14 (pc' := 15) rfl rfl rfl ?_
  refine OWp.aload_n hk d_ASP_15 (pc' := 16) rfl rfl rfl ?_
  refine OWp.getfield hk d_ASP_16 (pc' := 19) rfl (hw _ (List.mem_of_getElem? (i := 84) rfl)) (by simp) hB0.1.2.2.2 ?_
  refine OWp.iload_n hk d_ASP_19 (pc' := 20) rfl rfl ?_
  refine OWp.iadd hk d_ASP_20 (pc' := 21) rfl ?_
  rw [n_add]
  refine OWp.callP hk d_ASP_21 (pc' := 24) rfl (hw _ (List.mem_of_getElem? (i := 86) rfl)) (hw _ (List.mem_of_getElem? (i := 88) rfl)) (hw _ (List.mem_of_getElem? (i := 89) rfl)) (hw _ (List.mem_of_getElem? (i := 87) rfl)) (hw _ (List.mem_of_getElem? (i := 55) rfl)) (hw _ (List.mem_of_getElem? (i := 90) rfl)) (by decide) (by simp) hB0.1.1 (c_ECIm (w := wOf cs) hw hEL (cw_of cs) hB0 hA hc2 (by omega) (by rcases hw12 with h | h <;> rw [h] <;> omega)) rfl (by simp) rfl (lenOf pd_19 rfl) rfl (W := 0) rfl (by first | decide | (dsimp only; omega)) (by first | decide | (dsimp only; omega)) (by first | decide | (dsimp only; omega)) (by first | decide | (dsimp only; omega)) ?_
  rintro _ _ _ ⟨rfl, rfl, csb2, t2, ct2, f2, rfl, hB2, hA2, hf2⟩
  refine OWp.aload_n hk d_ASP_24 (pc' := 25) rfl rfl rfl ?_
  refine OWp.aload_n hk d_ASP_25 (pc' := 26) rfl rfl rfl ?_
  refine OWp.getfield hk d_ASP_26 (pc' := 29) rfl (hw _ (List.mem_of_getElem? (i := 84) rfl)) (by simp) hB2.1.2.2.2 ?_
  refine OWp.aload_n hk d_ASP_29 (pc' := 30) rfl rfl rfl ?_
  refine OWp.callP hk d_ASP_30 (pc' := 33) rfl (hw _ (List.mem_of_getElem? (i := 117) rfl)) (hw _ (List.mem_of_getElem? (i := 119) rfl)) (hw _ (List.mem_of_getElem? (i := 120) rfl)) (hw _ (List.mem_of_getElem? (i := 118) rfl)) (hw _ (List.mem_of_getElem? (i := 55) rfl)) (hw _ (List.mem_of_getElem? (i := 121) rfl)) (by decide) (by simp) hB2.1.1 (c_PSAg (cap := grow cap (cs.length + ds.length)) hw hEL O2 hzc O4 hfm OA OH OL hB2 hA2 (fun j hj => by rw [hf2 j (Nat.lt_of_lt_of_le hj (Nat.mul_le_mul_left _ hle)), hf j hj]) hch hge hn hs) rfl (by simp) rfl (lenOf pd_20 rfl) rfl (W := 0) rfl (by first | decide | (dsimp only; omega)) (by first | decide | (dsimp only; omega)) (by first | decide | (dsimp only; omega)) (by first | decide | (dsimp only; omega)) ?_
  rintro _ _ _ ⟨rfl, rfl, csb3, t3, ct3, f3, rfl, hB3, hA3, hf3⟩
  refine OWp.aload_n hk d_ASP_33 (pc' := 34) rfl rfl rfl ?_
  refine OWp.dup hk d_ASP_34 (pc' := 35) rfl rfl ?_
  refine OWp.getfield hk d_ASP_35 (pc' := 38) rfl (hw _ (List.mem_of_getElem? (i := 84) rfl)) (by simp) hB3.1.2.2.2 ?_
  refine OWp.iload_n hk d_ASP_38 (pc' := 39) rfl rfl ?_
  refine OWp.iadd hk d_ASP_39 (pc' := 40) rfl ?_
  rw [n_add]
  obtain ⟨⟨hE, F_value, F_coder, F_count⟩, F_maybeLatin1⟩ := hB3
  refine OWp.putfield hk d_ASP_40 (pc' := 43) rfl (hw _ (List.mem_of_getElem? (i := 84) rfl)) (i := 0) rfl F_count hE (Or.inl (hw _ (List.mem_of_getElem? (i := 85) rfl))) (hw _ (List.mem_of_getElem? (i := 46) rfl)) (ty := .int) (by decide) rfl rfl ?_
  intro ck hE F_count hK
  have F_value := hK F_value (slot_ne (Or.inl (hw _ (List.mem_of_getElem? (i := 60) rfl))) (Or.inl (hw _ (List.mem_of_getElem? (i := 85) rfl))) (by decide) (t := (.array .byte)) (by decide) (t' := .int) (by decide))
  have F_coder := hK F_coder (slot_ne (Or.inl (hw _ (List.mem_of_getElem? (i := 62) rfl))) (Or.inl (hw _ (List.mem_of_getElem? (i := 85) rfl))) (by decide) (t := .byte) (by decide) (t' := .int) (by decide))
  have F_maybeLatin1 := hK F_maybeLatin1 (slot_ne (Or.inl (hw _ (List.mem_of_getElem? (i := 319) rfl))) (Or.inl (hw _ (List.mem_of_getElem? (i := 85) rfl))) (by decide) (t := .boolean) (by decide) (t' := .int) (by decide))
  simp only [List.nil_append, List.cons_append, List.set_cons_zero]
  refine OWp.aload_n hk d_ASP_43 (pc' := 44) rfl rfl rfl ?_
  exact OWp.retA hk rfl rfl rfl d_ASP_44 (M' := [(x, ck), (t3, ct3)]) (N' := []) ⟨rfl, rfl, ck, t3, ct3, rfl, ⟨⟨⟨hE, F_value, F_coder, by rw [List.length_append]; exact F_count⟩, F_maybeLatin1⟩, ⟨f3, hA3, hf3⟩, by rw [List.length_append]; exact hge, by omega, ch_app hch hs.2.2.2.2 (by omega)⟩⟩ (List.Sublist.refl _) (by simp) (by decide) (by decide)
theorem c_SAPg (hw : ∀ d ∈ tables_1, d.before a0 Z = true) (hEL : EW Z a0 EL) (O2 : Sta Z Z.heap "java/lang/String" "COMPACT_STRINGS" "Z" (.int zc)) (hzc : ¬ zc = 0) (O4 : Sta Z Z.heap "jdk/internal/util/Preconditions" "SIOOBE_FORMATTER" "Ljava/util/function/BiFunction;" fm) (hfm : fm.isRef = true) (OA : Sta Z Z.heap "java/lang/StringUTF16" "$assertionsDisabled" "Z" (.int 1)) (OH : Sta Z Z.heap "java/lang/StringUTF16" "HI_BYTE_SHIFT" "I" (.int 0)) (OL : Sta Z Z.heap "java/lang/StringUTF16" "LO_BYTE_SHIFT" "I" (.int 8))
    (hB : SBX Z t csb ct cs cap) (hs : SC Z st cx cst ds) (hg : grow cap (cs.length + ds.length) = n) (hn : n ≤ kCap) (hn2 : 2 * n ≤ kSB) :
    OCon l Z EL (⟨"java/lang/StringBuilder", "append", "(Ljava/lang/String;)Ljava/lang/StringBuilder;"⟩ : MethodName) jdk_67_method_7_code 2 (some (.object "java/lang/StringBuilder")) [] ({ frames := 9, cells := 2, slots := kSB + 2 * kCap, locals := 141 } : Room) #[.ref x, .ref sx] [(x, csb), (t, ct)] [(sx, cx), (st, cst)]
      (fun v M N => v = some (.ref x) ∧ N = [] ∧ ∃ csb' t' ct', M = [(x, csb'), (t', ct')] ∧ SBX Z t' csb' ct' (cs ++ ds) n) := by
  refine OCon.of_wp (L0 := [.val (.ref x), .val (.ref sx)]) pn_SAP hEL (fun m => by first | (simp [entryFrame, mkF, argsToLocals, Value.category]; done) | rfl) ?_
  intro p e s m below meth c hk
  refine OWp.aload_n hk d_SAP_0 (pc' := 1) rfl rfl rfl ?_
  refine OWp.aload_n hk d_SAP_1 (pc' := 2) rfl rfl rfl ?_
  refine OWp.callU hk d_SAP_2 (pc' := 5) rfl (hw _ (List.mem_of_getElem? (i := 69) rfl)) (sameM (ret' := none) (hw _ (List.mem_of_getElem? (i := 89) rfl)) rfl (hw _ (List.mem_of_getElem? (i := 70) rfl)) (by decide)) (hw _ (List.mem_of_getElem? (i := 71) rfl)) (hw _ (List.mem_of_getElem? (i := 70) rfl)) (by decide) (hw _ (List.mem_of_getElem? (i := 55) rfl)) (hw _ (List.mem_of_getElem? (i := 73) rfl)) (by simp) hB.1.1.1 (c_ASPg hw hEL O2 hzc O4 hfm OA OH OL hB hs hg hn hn2) rfl (by simp) rfl (lenOf pd_21 rfl) rfl (W := 0) rfl (by first | decide | (dsimp only; omega)) (by first | decide | (dsimp only; omega)) (by first | decide | (dsimp only; omega)) (by first | decide | (dsimp only; omega)) ?_
  rintro _ _ _ ⟨rfl, rfl, csb2, t2, ct2, rfl, hB2⟩
  refine OWp.pop hk d_SAP_5 (pc' := 6) rfl rfl ?_
  refine OWp.aload_n hk d_SAP_6 (pc' := 7) rfl rfl rfl ?_
  exact OWp.retA hk rfl rfl rfl d_SAP_7 (M' := [(x, csb2), (t2, ct2)]) (N' := []) ⟨rfl, rfl, csb2, t2, ct2, rfl, hB2⟩ (List.Sublist.refl _) (by simp) (by decide) (by decide)
/-- String(AbstractStringBuilder, Void) of a wide builder -/
theorem c_S2Bw (hw : ∀ d ∈ tables_1, d.before a0 Z = true) (hEL : EW Z a0 EL) (O2 : Sta Z Z.heap "java/lang/String" "COMPACT_STRINGS" "Z" (.int zc)) (hzc : ¬ zc = 0) (hE : EC Z cy "java/lang/String") (F_value : FC Z cy "java/lang/String" "value" "[B" v0) (F_coder : FC Z cy "java/lang/String" "coder" "B" v1) (hB : SBX Z t csb ct cs cap) (hl : lat cs = false) (hne : ¬ cs.length = cap) (hcap : 2 * cs.length ≤ kCap) :
    OCon l Z EL (⟨"java/lang/String", "<init>", "(Ljava/lang/AbstractStringBuilder;Ljava/lang/Void;)V"⟩ : MethodName) jdk_42_method_150_code 5 none [] ({ frames := 3, cells := 1, slots := kCap, locals := 49 } : Room) #[.ref y, .ref x, .null] [(y, cy)] [(x, csb), (t, ct)]
      (fun v M N => v = none ∧ M = [] ∧ ∃ u cy' cu, N = [(y, cy'), (u, cu)] ∧ SC Z u cy' cu cs) := by
  refine OCon.of_wp (L0 := [.val (.ref y), .val (.ref x), .val .null, .unset, .unset]) pn_S2B hEL (fun m => by first | (simp [entryFrame, mkF, argsToLocals, Value.category]; done) | rfl) ?_
  intro p e s m below meth c hk
  obtain ⟨⟨hB0, hM⟩, ⟨f, hA, hf⟩, hle, hc2, hch⟩ := hB
  rw [w_wide hl] at hA hf
  rw [cd_wide hl] at hB0
  refine OWp.aload_n hk d_S2B_0 (pc' := 1) rfl rfl rfl ?_
  refine OWp.initO hk d_S2B_1 (pc' := 4) rfl (hw _ (List.mem_of_getElem? (i := 16) rfl)) (hw _ (List.mem_of_getElem? (i := 17) rfl)) (hw _ (List.mem_of_getElem? (i := 18) rfl)) rfl (by first | decide | (dsimp only; omega)) (W := 0) rfl (by first | decide | (dsimp only; omega)) ?_
  refine OWp.aload_n hk d_S2B_4 (pc' := 5) rfl rfl rfl ?_
  refine OWp.callV hk d_S2B_5 (pc' := 8) rfl (hw _ (List.mem_of_getElem? (i := 147) rfl)) (hw _ (List.mem_of_getElem? (i := 148) rfl)) (nfs (hw _ (List.mem_of_getElem? (i := 150) rfl))) (hw _ (List.mem_of_getElem? (i := 150) rfl)) (hw _ (List.mem_of_getElem? (i := 149) rfl)) (hw _ (List.mem_of_getElem? (i := 55) rfl)) (hw _ (List.mem_of_getElem? (i := 151) rfl)) (by decide) (by simp) hB0.1 (c_GV hw hEL hB0) rfl (by simp) rfl (lenOf pd_22 rfl) rfl (W := 0) rfl (by first | decide | (dsimp only; omega)) (by first | decide | (dsimp only; omega)) (by first | decide | (dsimp only; omega)) (by first | decide | (dsimp only; omega)) ?_
  rintro _ _ _ ⟨rfl, rfl, rfl⟩
  refine OWp.astore_n hk d_S2B_8 (pc' := 9) rfl (kn := 3) rfl rfl rfl (by simp only [List.set_cons_zero, List.set_cons_succ]; rfl) ?_
  refine OWp.aload_n hk d_S2B_9 (pc' := 10) rfl rfl rfl ?_
  refine OWp.callV hk d_S2B_10 (pc' := 13) rfl (hw _ (List.mem_of_getElem? (i := 152) rfl)) (hw _ (List.mem_of_getElem? (i := 153) rfl)) (nfs2 (hw _ (List.mem_of_getElem? (i := 89) rfl)) rfl) (hw _ (List.mem_of_getElem? (i := 155) rfl)) (hw _ (List.mem_of_getElem? (i := 156) rfl)) (hw _ (List.mem_of_getElem? (i := 47) rfl)) (hw _ (List.mem_of_getElem? (i := 157) rfl)) (by decide) (by simp) hB0.1 (c_SBLN hw hEL hB0) rfl (by simp) rfl (lenOf pd_18 rfl) rfl (W := 0) rfl (by first | decide | (dsimp only; omega)) (by first | decide | (dsimp only; omega)) (by first | decide | (dsimp only; omega)) (by first | decide | (dsimp only; omega)) ?_
  rintro _ _ _ ⟨rfl, rfl, rfl⟩
  refine OWp.istore hk d_S2B_13 (pc' := 15) rfl rfl (by simp only [List.set_cons_zero, List.set_cons_succ]; rfl) ?_
  refine OWp.aload_n hk d_S2B_15 (pc' := 16) rfl rfl rfl ?_
  refine OWp.callV hk d_S2B_16 (pc' := 19) rfl (hw _ (List.mem_of_getElem? (i := 160) rfl)) (hw _ (List.mem_of_getElem? (i := 161) rfl)) (nfs (hw _ (List.mem_of_getElem? (i := 163) rfl))) (hw _ (List.mem_of_getElem? (i := 163) rfl)) (hw _ (List.mem_of_getElem? (i := 162) rfl)) (hw _ (List.mem_of_getElem? (i := 55) rfl)) (hw _ (List.mem_of_getElem? (i := 164) rfl)) (by decide) (by simp) hB0.1 (c_ISLW hw hEL O2 hzc hB0) rfl (by simp) rfl (lenOf pd_11 rfl) rfl (W := 0) rfl (by first | decide | (dsimp only; omega)) (by first | decide | (dsimp only; omega)) (by first | decide | (dsimp only; omega)) (by first | decide | (dsimp only; omega)) ?_
  rintro _ _ _ ⟨rfl, rfl, rfl⟩
  refine OWp.ifYes hk d_S2B_19 (XT.i0_eq_t (by decide)) (by decide) (pc' := 41) rfl ?_
  refine OWp.getstatic hk d_S2B_41 (pc' := 44) rfl (hw _ (List.mem_of_getElem? (i := 19) rfl)) O2 ?_
  refine OWp.ifNo hk d_S2B_44 (XT.i0_eq_f hzc) (pc' := 47) rfl ?_
  refine OWp.aload_n hk d_S2B_47 (pc' := 48) rfl rfl rfl ?_
  refine OWp.getfield hk d_S2B_48 (pc' := 51) rfl (hw _ (List.mem_of_getElem? (i := 318) rfl)) (by simp) hM ?_
  refine OWp.ifYes hk d_S2B_51 (XT.i0_eq_t (by decide)) (by decide) (pc' := 79) rfl ?_
  refine OWp.aload_n hk d_S2B_79 (pc' := 80) rfl rfl rfl ?_
  refine OWp.iconst hk d_S2B_80 (pc' := 81) rfl (z := 1) rfl ?_
  refine OWp.putfield hk d_S2B_81 (pc' := 84) rfl (hw _ (List.mem_of_getElem? (i := 31) rfl)) (i := 0) rfl F_coder hE (Or.inr ⟨(hw _ (List.mem_of_getElem? (i := 32) rfl)), rfl, rfl⟩) (hw _ (List.mem_of_getElem? (i := 6) rfl)) (ty := .byte) (by decide) rfl rfl ?_
  intro ck hE F_coder hK
  have F_value := hK F_value (slot_ne (Or.inr (hw _ (List.mem_of_getElem? (i := 34) rfl))) (Or.inr (hw _ (List.mem_of_getElem? (i := 32) rfl))) (by decide) (t := (.array .byte)) (by decide) (t' := .byte) (by decide))
  simp only [List.nil_append, List.cons_append, List.set_cons_zero]
  refine OWp.aload_n hk d_S2B_84 (pc' := 85) rfl rfl rfl ?_
  refine OWp.aload_n hk d_S2B_85 (pc' := 86) rfl rfl rfl ?_
  refine OWp.iconst hk d_S2B_86 (pc' := 87) rfl (z := 0) rfl ?_
  refine OWp.iload hk d_S2B_87 (pc' := 89) rfl rfl ?_
  refine OWp.iconst hk d_S2B_89 (pc' := 90) rfl (z := 1) rfl ?_
  refine OWp.ishl hk d_S2B_90 (pc' := 91) rfl ?_
  rw [shl_1 _ (by omega)]
  refine OWp.callS hk d_S2B_91 (pc' := 94) rfl (hw _ (List.mem_of_getElem? (i := 165) rfl)) (hw _ (List.mem_of_getElem? (i := 166) rfl)) (hw _ (List.mem_of_getElem? (i := 108) rfl)) (hw _ (List.mem_of_getElem? (i := 167) rfl)) (by decide) (c_COR (a := 0) (b := 2 * cs.length) (n := 2 * cap) hw hEL hA (Nat.zero_le _) (by omega) (by omega) (by omega)) rfl (by simp) rfl (lenOf pd_13 rfl) rfl (W := 1) rfl (by first | decide | (dsimp only; omega)) (by first | decide | (dsimp only; omega)) (by first | decide | (dsimp only; omega)) (by first | decide | (dsimp only; omega)) ?_
  rintro _ _ _ ⟨rfl, u, cu, rfl, rfl, hU⟩
  refine OWp.putfield hk d_S2B_94 (pc' := 97) rfl (hw _ (List.mem_of_getElem? (i := 33) rfl)) (i := 0) rfl F_value hE (Or.inr ⟨(hw _ (List.mem_of_getElem? (i := 34) rfl)), rfl, rfl⟩) (hw _ (List.mem_of_getElem? (i := 6) rfl)) (ty := (.array .byte)) (by decide) rfl rfl ?_
  intro ck hE F_value hK
  have F_coder := hK F_coder (slot_ne (Or.inr (hw _ (List.mem_of_getElem? (i := 32) rfl))) (Or.inr (hw _ (List.mem_of_getElem? (i := 34) rfl))) (by decide) (t := .byte) (by decide) (t' := (.array .byte)) (by decide))
  simp only [List.nil_append, List.cons_append, List.set_cons_zero]
  refine OWp.freeze ?_
  exact OWp.ret0 hk d_S2B_97 (N' := [(y, ck), (u, cu)]) ⟨rfl, rfl, u, ck, cu, rfl, hE, F_value, by rw [cd_wide hl]; exact F_coder, by
    rw [bytes_wide hl, oWide]
    have hU' := hU
    rw [Nat.sub_zero] at hU'
    exact hU'.congr fun j hj => by rw [Nat.zero_add, hf j (by omega)]; simp [wbAt], hch⟩ (List.nil_sublist _) (by simp) (by decide) (by decide)
theorem c_S1Bg (hw : ∀ d ∈ tables_1, d.before a0 Z = true) (hEL : EW Z a0 EL) (O2 : Sta Z Z.heap "java/lang/String" "COMPACT_STRINGS" "Z" (.int zc)) (hzc : ¬ zc = 0) (hE : EC Z cy "java/lang/String") (F_value : FC Z cy "java/lang/String" "value" "[B" v0) (F_coder : FC Z cy "java/lang/String" "coder" "B" v1) (hB : SBX Z t csb ct cs cap) (hne : ¬ cs.length = cap) (hcap : 2 * cs.length ≤ kCap) :
    OCon l Z EL (⟨"java/lang/String", "<init>", "(Ljava/lang/StringBuilder;)V"⟩ : MethodName) jdk_42_method_53_code 2 none [] ({ frames := 4, cells := 1, slots := kCap, locals := 65 } : Room) #[.ref y, .ref x] [(y, cy)] [(x, csb), (t, ct)]
      (fun v M N => v = none ∧ M = [] ∧ ∃ u cy' cu, N = [(y, cy'), (u, cu)] ∧ SC Z u cy' cu cs) := by
  refine OCon.of_wp (L0 := [.val (.ref y), .val (.ref x)]) pn_S1B hEL (fun m => by first | (simp [entryFrame, mkF, argsToLocals, Value.category]; done) | rfl) ?_
  intro p e s m below meth c hk
  have h2 : OCon l Z EL (⟨"java/lang/String", "<init>", "(Ljava/lang/AbstractStringBuilder;Ljava/lang/Void;)V"⟩ : MethodName) jdk_42_method_150_code 5 none [] ({ frames := 3, cells := 1, slots := kCap, locals := 49 } : Room) #[.ref y, .ref x, .null] [(y, cy)] [(x, csb), (t, ct)] (fun v M N => v = none ∧ M = [] ∧ ∃ u cy' cu, N = [(y, cy'), (u, cu)] ∧ SC Z u cy' cu cs) := by
    cases hl : lat cs
    · exact c_S2Bw hw hEL O2 hzc hE F_value F_coder hB hl hne hcap
    · exact c_S2B hw hEL O2 hzc hE F_value F_coder hB.sbf hl hne (by omega)
  refine OWp.aload_n hk d_S1B_0 (pc' := 1) rfl rfl rfl ?_
  refine OWp.aload_n hk d_S1B_1 (pc' := 2) rfl rfl rfl ?_
  refine OWp.aconst_null hk d_S1B_2 (pc' := 3) rfl ?_
  refine OWp.callI hk d_S1B_3 (pc' := 6) rfl rfl (hw _ (List.mem_of_getElem? (i := 144) rfl)) (hw _ (List.mem_of_getElem? (i := 145) rfl)) (hw _ (List.mem_of_getElem? (i := 7) rfl)) (hw _ (List.mem_of_getElem? (i := 146) rfl)) (by decide) h2 rfl (by simp) rfl (lenOf pd_23 rfl) rfl (W := 0) rfl (by first | decide | (dsimp only; omega)) (by first | decide | (dsimp only; omega)) (by first | decide | (dsimp only; omega)) (by first | decide | (dsimp only; omega)) ?_
  rintro _ _ _ ⟨rfl, rfl, u, cy', cu, rfl, hS⟩
  exact OWp.ret0 hk d_S1B_6 (N' := [(y, cy'), (u, cu)]) ⟨rfl, rfl, u, cy', cu, rfl, hS⟩ (List.nil_sublist _) (by simp) (by decide) (by decide)
theorem c_TSg (hw : ∀ d ∈ tables_1, d.before a0 Z = true) (hEL : EW Z a0 EL) (O2 : Sta Z Z.heap "java/lang/String" "COMPACT_STRINGS" "Z" (.int zc)) (hzc : ¬ zc = 0) (hB : SBX Z t csb ct cs cap) (hne : ¬ cs.length = cap) (hcap : 2 * cs.length ≤ kCap) :
    OCon l Z EL (⟨"java/lang/StringBuilder", "toString", "()Ljava/lang/String;"⟩ : MethodName) jdk_67_method_42_code 1 (some (.object "java/lang/String")) [] ({ frames := 5, cells := 2, slots := kCap + 4, locals := 79 } : Room) #[.ref x] [] [(x, csb), (t, ct)]
      (fun v M N => M = [] ∧ ∃ y u cy cu, v = some (.ref y) ∧ N = [(y, cy), (u, cu)] ∧ SC Z u cy cu cs) := by
  refine OCon.of_wp (L0 := [.val (.ref x)]) pn_TS hEL (fun m => by first | (simp [entryFrame, mkF, argsToLocals, Value.category]; done) | rfl) ?_
  intro p e s m below meth c hk
  refine OWp.new hk d_TS_0 (pc' := 3) rfl (hw _ (List.mem_of_getElem? (i := 140) rfl)) (hw _ (List.mem_of_getElem? (i := 6) rfl)) (hw _ (List.mem_of_getElem? (i := 7) rfl)) (by decide) (by decide) ?_
  intro y cy hE hD
  have hV : FC Z cy "java/lang/String" "value" "[B" .null := hD (Or.inr (hw _ (List.mem_of_getElem? (i := 34) rfl))) (ty := .array .byte) (by decide)
  have hC : FC Z cy "java/lang/String" "coder" "B" (.int 0) := hD (Or.inr (hw _ (List.mem_of_getElem? (i := 32) rfl))) (ty := .byte) (by decide)
  refine OWp.dup hk d_TS_3 (pc' := 4) rfl rfl ?_
  refine OWp.aload_n hk d_TS_4 (pc' := 5) rfl rfl rfl ?_
  refine OWp.callI hk d_TS_5 (pc' := 8) rfl rfl (hw _ (List.mem_of_getElem? (i := 141) rfl)) (hw _ (List.mem_of_getElem? (i := 142) rfl)) (hw _ (List.mem_of_getElem? (i := 7) rfl)) (hw _ (List.mem_of_getElem? (i := 143) rfl)) (by decide) (c_S1Bg hw hEL O2 hzc hE hV hC hB hne hcap) rfl (by simp) rfl (lenOf pd_24 rfl) rfl (W := 1) rfl (by first | decide | (dsimp only; omega)) (by first | decide | (dsimp only; omega)) (by first | decide | (dsimp only; omega)) (by first | decide | (dsimp only; omega)) ?_
  rintro _ _ _ ⟨rfl, rfl, u, cy', cu, rfl, hS⟩
  exact OWp.retA hk rfl rfl rfl d_TS_8 (M' := []) (N' := [(y, cy'), (u, cu)]) ⟨rfl, y, u, cy', cu, rfl, rfl, hS⟩ (List.nil_sublist _) (by simp) (by decide) (by decide)
end StrSBW
theorem d_ASBI_0 : decode jdk_68_method_2_code 0 = .ok (.aload_n 0, 1) := by decide +kernel
theorem d_ASBI_1 : decode jdk_68_method_2_code 1 = .ok (.invokespecial 3, 3) := by decide +kernel
theorem d_ASBI_4 : decode jdk_68_method_2_code 4 = .ok (.getstatic 18, 3) := by decide +kernel
theorem d_ASBI_7 : decode jdk_68_method_2_code 7 = .ok (.ifCond .eq 18, 3) := by decide +kernel
theorem d_ASBI_10 : decode jdk_68_method_2_code 10 = .ok (.aload_n 0, 1) := by decide +kernel
theorem d_ASBI_11 : decode jdk_68_method_2_code 11 = .ok (.iload_n 1, 1) := by decide +kernel
theorem d_ASBI_12 : decode jdk_68_method_2_code 12 = .ok (.newarray .byte, 2) := by decide +kernel
theorem d_ASBI_14 : decode jdk_68_method_2_code 14 = .ok (.putfield 15, 3) := by decide +kernel
theorem d_ASBI_17 : decode jdk_68_method_2_code 17 = .ok (.aload_n 0, 1) := by decide +kernel
theorem d_ASBI_18 : decode jdk_68_method_2_code 18 = .ok (.iconst 0, 1) := by decide +kernel
theorem d_ASBI_19 : decode jdk_68_method_2_code 19 = .ok (.putfield 22, 3) := by decide +kernel
theorem d_ASBI_22 : decode jdk_68_method_2_code 22 = .ok (.goto 16, 3) := by decide +kernel
theorem d_ASBI_25 : decode jdk_68_method_2_code 25 = .ok (.aload_n 0, 1) := by decide +kernel
theorem d_ASBI_26 : decode jdk_68_method_2_code 26 = .ok (.iload_n 1, 1) := by decide +kernel
theorem d_ASBI_27 : decode jdk_68_method_2_code 27 = .ok (.invokestatic 26, 3) := by decide +kernel
theorem d_ASBI_30 : decode jdk_68_method_2_code 30 = .ok (.putfield 15, 3) := by decide +kernel
theorem d_ASBI_33 : decode jdk_68_method_2_code 33 = .ok (.aload_n 0, 1) := by decide +kernel
theorem d_ASBI_34 : decode jdk_68_method_2_code 34 = .ok (.iconst 1, 1) := by decide +kernel
theorem d_ASBI_35 : decode jdk_68_method_2_code 35 = .ok (.putfield 22, 3) := by decide +kernel
theorem d_ASBI_38 : decode jdk_68_method_2_code 38 = .ok (.return_, 1) := by decide +kernel
theorem pn_ASBI : plainFor (⟨"java/lang/AbstractStringBuilder", "<init>", "(I)V"⟩ : MethodName) = true := by first | exact plainFor_of_name (by first | (simp [plainName, overriddenIn]; done) | decide +kernel) | decide +kernel
theorem d_SB0_0 : decode jdk_67_method_1_code 0 = .ok (.aload_n 0, 1) := by decide +kernel
theorem d_SB0_1 : decode jdk_67_method_1_code 1 = .ok (.bipush 16, 2) := by decide +kernel
theorem d_SB0_3 : decode jdk_67_method_1_code 3 = .ok (.invokespecial 1, 3) := by decide +kernel
theorem d_SB0_6 : decode jdk_67_method_1_code 6 = .ok (.return_, 1) := by decide +kernel
theorem pn_SB0 : plainFor (⟨"java/lang/StringBuilder", "<init>", "()V"⟩ : MethodName) = true := by first | exact plainFor_of_name (by first | (simp [plainName, overriddenIn]; done) | decide +kernel) | decide +kernel
section StrSBIm
variable {l : Launch} {Z : State} {a0 : Array Value} {EL : List (String × Nat)} {zc cd : Int32} {x t : Addr} {csb ct : Cell} {n : Nat} {v0 v1 : Value}
theorem c_ASBI (hw : ∀ d ∈ tables_1, d.before a0 Z = true) (hEL : EW Z a0 EL) (O2 : Sta Z Z.heap "java/lang/String" "COMPACT_STRINGS" "Z" (.int zc)) (hzc : ¬ zc = 0) (hE : EC Z csb "java/lang/StringBuilder") (F_value : FC Z csb "java/lang/AbstractStringBuilder" "value" "[B" v0) (F_coder : FC Z csb "java/lang/AbstractStringBuilder" "coder" "B" v1) (F_count : FC Z csb "java/lang/AbstractStringBuilder" "count" "I" (.int 0)) (F_maybeLatin1 : FC Z csb "java/lang/AbstractStringBuilder" "maybeLatin1" "Z" (.int 0)) (hn : n ≤ kSB) (h0 : n ≤ 2000) :
    OCon l Z EL (⟨"java/lang/AbstractStringBuilder", "<init>", "(I)V"⟩ : MethodName) jdk_68_method_2_code 2 none [] ({ frames := 1, cells := 1, slots := kSB, locals := 14 } : Room) #[.ref x, .int (Int32.ofNat n)] [(x, csb)] []
      (fun v M N => v = none ∧ N = [] ∧ ∃ csb' t ct, M = [(x, csb'), (t, ct)] ∧ SBX Z t csb' ct [] n) := by
  refine OCon.of_wp (L0 := [.val (.ref x), .val (.int (Int32.ofNat n))]) pn_ASBI hEL (fun m => by first | (simp [entryFrame, mkF, argsToLocals, Value.category]; done) | rfl) ?_
  intro p e s m below meth c' hk
  refine OWp.aload_n hk d_ASBI_0 (pc' := 1) rfl rfl rfl ?_
  refine OWp.initO hk d_ASBI_1 (pc' := 4) rfl (hw _ (List.mem_of_getElem? (i := 57) rfl)) (hw _ (List.mem_of_getElem? (i := 17) rfl)) (hw _ (List.mem_of_getElem? (i := 18) rfl)) rfl (by first | decide | (dsimp only; omega)) (W := 0) rfl (by first | decide | (dsimp only; omega)) ?_
  refine OWp.getstatic hk d_ASBI_4 (pc' := 7) rfl (hw _ (List.mem_of_getElem? (i := 58) rfl)) O2 ?_
  refine OWp.ifNo hk d_ASBI_7 (XT.i0_eq_f hzc) (pc' := 10) rfl ?_
  refine OWp.aload_n hk d_ASBI_10 (pc' := 11) rfl rfl rfl ?_
  refine OWp.iload_n hk d_ASBI_11 (pc' := 12) rfl rfl ?_
  refine OWp.newarray hk d_ASBI_12 (pc' := 14) rfl (hw _ (List.mem_of_getElem? (i := 24) rfl)) (n_nn (by omega)) (cap := kSB) (by rw [n_nat (by omega)]; exact hn) (by decide) (by decide) (by decide) (vs := tab n fun _ => .int 0) (by rw [n_nat (by omega)]; exact tab_rep _ _) ?_
  intro u cu hU
  refine OWp.perm (M' := [(x, csb), (u, cu)]) (List.Perm.swap ..) ?_
  refine OWp.putfield hk d_ASBI_14 (pc' := 17) rfl (hw _ (List.mem_of_getElem? (i := 59) rfl)) (i := 0) rfl F_value hE (Or.inl (hw _ (List.mem_of_getElem? (i := 60) rfl))) (hw _ (List.mem_of_getElem? (i := 46) rfl)) (ty := (.array .byte)) (by decide) rfl rfl ?_
  intro ck hE F_value hK
  have F_coder := hK F_coder (slot_ne (Or.inl (hw _ (List.mem_of_getElem? (i := 62) rfl))) (Or.inl (hw _ (List.mem_of_getElem? (i := 60) rfl))) (by decide) (t := .byte) (by decide) (t' := (.array .byte)) (by decide))
  have F_count := hK F_count (slot_ne (Or.inl (hw _ (List.mem_of_getElem? (i := 85) rfl))) (Or.inl (hw _ (List.mem_of_getElem? (i := 60) rfl))) (by decide) (t := .int) (by decide) (t' := (.array .byte)) (by decide))
  have F_maybeLatin1 := hK F_maybeLatin1 (slot_ne (Or.inl (hw _ (List.mem_of_getElem? (i := 319) rfl))) (Or.inl (hw _ (List.mem_of_getElem? (i := 60) rfl))) (by decide) (t := .boolean) (by decide) (t' := (.array .byte)) (by decide))
  simp only [List.nil_append, List.cons_append, List.set_cons_zero]
  refine OWp.aload_n hk d_ASBI_17 (pc' := 18) rfl rfl rfl ?_
  refine OWp.iconst hk d_ASBI_18 (pc' := 19) rfl (z := 0) rfl ?_
  refine OWp.putfield hk d_ASBI_19 (pc' := 22) rfl (hw _ (List.mem_of_getElem? (i := 61) rfl)) (i := 0) rfl F_coder hE (Or.inl (hw _ (List.mem_of_getElem? (i := 62) rfl))) (hw _ (List.mem_of_getElem? (i := 46) rfl)) (ty := .byte) (by decide) rfl rfl ?_
  intro ck hE F_coder hK
  have F_value := hK F_value (slot_ne (Or.inl (hw _ (List.mem_of_getElem? (i := 60) rfl))) (Or.inl (hw _ (List.mem_of_getElem? (i := 62) rfl))) (by decide) (t := (.array .byte)) (by decide) (t' := .byte) (by decide))
  have F_count := hK F_count (slot_ne (Or.inl (hw _ (List.mem_of_getElem? (i := 85) rfl))) (Or.inl (hw _ (List.mem_of_getElem? (i := 62) rfl))) (by decide) (t := .int) (by decide) (t' := .byte) (by decide))
  have F_maybeLatin1 := hK F_maybeLatin1 (slot_ne (Or.inl (hw _ (List.mem_of_getElem? (i := 319) rfl))) (Or.inl (hw _ (List.mem_of_getElem? (i := 62) rfl))) (by decide) (t := .boolean) (by decide) (t' := .byte) (by decide))
  simp only [List.nil_append, List.cons_append, List.set_cons_zero]
  refine OWp.goto hk d_ASBI_22 (by decide) (pc' := 38) rfl ?_
  exact OWp.ret0 hk d_ASBI_38 (M' := [(x, ck), (u, cu)]) (N' := []) ⟨rfl, rfl, ck, u, cu, rfl, ⟨⟨hE, F_value, F_coder, F_count⟩, F_maybeLatin1⟩, ⟨_, by rw [show wOf [] * n = n from Nat.one_mul n]; exact hU, fun j hj => absurd hj (Nat.not_lt_zero _)⟩, Nat.zero_le _, h0, ch_nil⟩ (List.Sublist.refl _) (by simp) (by decide) (by decide)
theorem c_SB0 (hw : ∀ d ∈ tables_1, d.before a0 Z = true) (hEL : EW Z a0 EL) (O2 : Sta Z Z.heap "java/lang/String" "COMPACT_STRINGS" "Z" (.int zc)) (hzc : ¬ zc = 0) (hE : EC Z csb "java/lang/StringBuilder") (F_value : FC Z csb "java/lang/AbstractStringBuilder" "value" "[B" v0) (F_coder : FC Z csb "java/lang/AbstractStringBuilder" "coder" "B" v1) (F_count : FC Z csb "java/lang/AbstractStringBuilder" "count" "I" (.int 0)) (F_maybeLatin1 : FC Z csb "java/lang/AbstractStringBuilder" "maybeLatin1" "Z" (.int 0)) :
    OCon l Z EL (⟨"java/lang/StringBuilder", "<init>", "()V"⟩ : MethodName) jdk_67_method_1_code 1 none [] ({ frames := 2, cells := 1, slots := kSB, locals := 27 } : Room) #[.ref x] [(x, csb)] []
      (fun v M N => v = none ∧ N = [] ∧ ∃ csb' t ct, M = [(x, csb'), (t, ct)] ∧ SBX Z t csb' ct [] 16) := by
  refine OCon.of_wp (L0 := [.val (.ref x)]) pn_SB0 hEL (fun m => by first | (simp [entryFrame, mkF, argsToLocals, Value.category]; done) | rfl) ?_
  intro p e s m below meth c hk
  refine OWp.aload_n hk d_SB0_0 (pc' := 1) rfl rfl rfl ?_
  refine OWp.bipush hk d_SB0_1 (pc' := 3) rfl (z := 16) rfl ?_
  refine OWp.callI hk d_SB0_3 (pc' := 6) rfl rfl (hw _ (List.mem_of_getElem? (i := 51) rfl)) (hw _ (List.mem_of_getElem? (i := 52) rfl)) (hw _ (List.mem_of_getElem? (i := 55) rfl)) (hw _ (List.mem_of_getElem? (i := 56) rfl)) (by decide) (c_ASBI (n := 16) hw hEL O2 hzc hE F_value F_coder F_count F_maybeLatin1 (by decide) (by decide)) rfl (by simp) rfl (lenOf pd_19 rfl) rfl (W := 0) rfl (by first | decide | (dsimp only; omega)) (by first | decide | (dsimp only; omega)) (by first | decide | (dsimp only; omega)) (by first | decide | (dsimp only; omega)) ?_
  rintro _ _ _ ⟨rfl, rfl, csb2, t2, ct2, rfl, hB2⟩
  exact OWp.ret0 hk d_SB0_6 (M' := [(x, csb2), (t2, ct2)]) (N' := []) ⟨rfl, rfl, csb2, t2, ct2, rfl, hB2⟩ (List.Sublist.refl _) (by simp) (by decide) (by decide)
end StrSBIm
theorem d_UCA_0 : decode jdk_52_method_83_code 0 = .ok (.iload_n 1, 1) := by decide +kernel
theorem d_UCA_1 : decode jdk_52_method_83_code 1 = .ok (.aload_n 0, 1) := by decide +kernel
theorem d_UCA_2 : decode jdk_52_method_83_code 2 = .ok (.invokestatic 67, 3) := by decide +kernel
theorem d_UCA_5 : decode jdk_52_method_83_code 5 = .ok (.aload_n 0, 1) := by decide +kernel
theorem d_UCA_6 : decode jdk_52_method_83_code 6 = .ok (.iload_n 1, 1) := by decide +kernel
theorem d_UCA_7 : decode jdk_52_method_83_code 7 = .ok (.invokestatic 71, 3) := by decide +kernel
theorem d_UCA_10 : decode jdk_52_method_83_code 10 = .ok (.ireturn, 1) := by decide +kernel
theorem pn_UCA : plainFor (⟨"java/lang/StringUTF16", "charAt", "([BI)C"⟩ : MethodName) = true := by first | exact plainFor_of_name (by first | (simp [plainName, overriddenIn]; done) | decide +kernel) | decide +kernel
theorem d_UCI_0 : decode jdk_52_method_91_code 0 = .ok (.iload_n 0, 1) := by decide +kernel
theorem d_UCI_1 : decode jdk_52_method_91_code 1 = .ok (.aload_n 1, 1) := by decide +kernel
theorem d_UCI_2 : decode jdk_52_method_91_code 2 = .ok (.invokestatic 48, 3) := by decide +kernel
theorem d_UCI_5 : decode jdk_52_method_91_code 5 = .ok (.invokestatic 414, 3) := by decide +kernel
theorem d_UCI_8 : decode jdk_52_method_91_code 8 = .ok (.return_, 1) := by decide +kernel
theorem pn_UCI : plainFor (⟨"java/lang/StringUTF16", "checkIndex", "(I[B)V"⟩ : MethodName) = true := by first | exact plainFor_of_name (by first | (simp [plainName, overriddenIn]; done) | decide +kernel) | decide +kernel
section StrChW
variable {l : Launch} {Z : State} {a0 : Array Value} {EL : List (String × Nat)} {zc : Int32} {x t : Addr} {cx ct : Cell} {cs : List Int32} {fm : Value} {i n : Nat}
theorem c_UCI (hw : ∀ d ∈ tables_1, d.before a0 Z = true) (hEL : EW Z a0 EL) (O4 : Sta Z Z.heap "jdk/internal/util/Preconditions" "SIOOBE_FORMATTER" "Ljava/util/function/BiFunction;" fm) (hf : fm.isRef = true) (hA : AC Z ct .byte (oWide cs)) (h4 : cs.length ≤ 4000) (hi : i < cs.length) :
    OCon l Z EL (⟨"java/lang/StringUTF16", "checkIndex", "(I[B)V"⟩ : MethodName) jdk_52_method_91_code 2 none [] ({ frames := 2, cells := 0, slots := 0, locals := 27 } : Room) #[.int (Int32.ofNat i), .ref t] [] [(t, ct)] (fun v M N => v = none ∧ M = [] ∧ N = []) := by
  refine OCon.of_wp (L0 := [.val (.int (Int32.ofNat i)), .val (.ref t)]) pn_UCI hEL (fun m => by first | (simp [entryFrame, mkF, argsToLocals, Value.category]; done) | rfl) ?_
  intro p e s m below meth c hk
  refine OWp.iload_n hk d_UCI_0 (pc' := 1) rfl rfl ?_
  refine OWp.aload_n hk d_UCI_1 (pc' := 2) rfl rfl rfl ?_
  refine OWp.callS hk d_UCI_2 (pc' := 5) rfl (hw _ (List.mem_of_getElem? (i := 308) rfl)) (hw _ (List.mem_of_getElem? (i := 309) rfl)) (hw _ (List.mem_of_getElem? (i := 22) rfl)) (hw _ (List.mem_of_getElem? (i := 310) rfl)) (by decide) (c_ULX (n := cs.length) hw hEL (by rw [oWide] at hA; exact hA) h4) rfl (by simp) rfl (lenOf pd_29 rfl) rfl (W := 1) rfl (by first | decide | (dsimp only; omega)) (by first | decide | (dsimp only; omega)) (by first | decide | (dsimp only; omega)) (by first | decide | (dsimp only; omega)) ?_
  rintro _ _ _ ⟨rfl, rfl, rfl⟩
  refine OWp.callS hk d_UCI_5 (pc' := 8) rfl (hw _ (List.mem_of_getElem? (i := 326) rfl)) (hw _ (List.mem_of_getElem? (i := 257) rfl)) (hw _ (List.mem_of_getElem? (i := 7) rfl)) (hw _ (List.mem_of_getElem? (i := 258) rfl)) (by decide) (c_CKI hw hEL O4 hf hi (by omega)) rfl (by simp) rfl (lenOf pd_10 rfl) rfl (W := 0) rfl (by first | decide | (dsimp only; omega)) (by first | decide | (dsimp only; omega)) (by first | decide | (dsimp only; omega)) (by first | decide | (dsimp only; omega)) ?_
  rintro _ _ _ ⟨rfl, rfl, rfl⟩
  exact OWp.ret0 hk d_UCI_8 ⟨rfl, rfl, rfl⟩ (List.Sublist.refl _) (fun _ h => h) (by decide) (by decide)
theorem c_UCA (hw : ∀ d ∈ tables_1, d.before a0 Z = true) (hEL : EW Z a0 EL) (O4 : Sta Z Z.heap "jdk/internal/util/Preconditions" "SIOOBE_FORMATTER" "Ljava/util/function/BiFunction;" fm) (hf : fm.isRef = true) (OA : Sta Z Z.heap "java/lang/StringUTF16" "$assertionsDisabled" "Z" (.int 1)) (OH : Sta Z Z.heap "java/lang/StringUTF16" "HI_BYTE_SHIFT" "I" (.int 0)) (OL : Sta Z Z.heap "java/lang/StringUTF16" "LO_BYTE_SHIFT" "I" (.int 8))
    (hA : AC Z ct .byte (oWide cs)) (hcs : Chars cs) (hi : i < cs.length) :
    OCon l Z EL (⟨"java/lang/StringUTF16", "charAt", "([BI)C"⟩ : MethodName) jdk_52_method_83_code 2 (some .char) [] ({ frames := 3, cells := 0, slots := 0, locals := 40 } : Room) #[.ref t, .int (Int32.ofNat i)] [] [(t, ct)] (fun v M N => v = some (.int (cs.getD i 0)) ∧ M = [] ∧ N = []) := by
  refine OCon.of_wp (L0 := [.val (.ref t), .val (.int (Int32.ofNat i))]) pn_UCA hEL (fun m => by first | (simp [entryFrame, mkF, argsToLocals, Value.category]; done) | rfl) ?_
  intro p e s m below meth c hk
  have hc := hcs.1 _ (getD_mem hi)
  refine OWp.iload_n hk d_UCA_0 (pc' := 1) rfl rfl ?_
  refine OWp.aload_n hk d_UCA_1 (pc' := 2) rfl rfl rfl ?_
  refine OWp.callS hk d_UCA_2 (pc' := 5) rfl (hw _ (List.mem_of_getElem? (i := 323) rfl)) (hw _ (List.mem_of_getElem? (i := 324) rfl)) (hw _ (List.mem_of_getElem? (i := 22) rfl)) (hw _ (List.mem_of_getElem? (i := 325) rfl)) (by decide) (c_UCI hw hEL O4 hf hA hcs.2 hi) rfl (by simp) rfl (lenOf pd_33 rfl) rfl (W := 0) rfl (by first | decide | (dsimp only; omega)) (by first | decide | (dsimp only; omega)) (by first | decide | (dsimp only; omega)) (by first | decide | (dsimp only; omega)) ?_
  rintro _ _ _ ⟨rfl, rfl, rfl⟩
  refine OWp.aload_n hk d_UCA_5 (pc' := 6) rfl rfl rfl ?_
  refine OWp.iload_n hk d_UCA_6 (pc' := 7) rfl rfl ?_
  refine OWp.callS hk d_UCA_7 (pc' := 10) rfl (hw _ (List.mem_of_getElem? (i := 327) rfl)) (hw _ (List.mem_of_getElem? (i := 328) rfl)) (hw _ (List.mem_of_getElem? (i := 22) rfl)) (hw _ (List.mem_of_getElem? (i := 329) rfl)) (by decide) (c_GET hw hEL OA OH OL hA hcs hi) rfl (by simp) rfl (lenOf pd_6 rfl) rfl (W := 0) rfl (by first | decide | (dsimp only; omega)) (by first | decide | (dsimp only; omega)) (by first | decide | (dsimp only; omega)) (by first | decide | (dsimp only; omega)) ?_
  rintro _ _ _ ⟨rfl, rfl, rfl⟩
  exact OWp.retN hk (Or.inr (Or.inr (Or.inl rfl))) d_UCA_10 ⟨by rw [nar_char_id hc.1 hc.2], rfl, rfl⟩ (List.Sublist.refl _) (fun _ h => h) (by decide) (by decide)
theorem c_CHAg (hw : ∀ d ∈ tables_1, d.before a0 Z = true) (hEL : EW Z a0 EL) (O2 : Sta Z Z.heap "java/lang/String" "COMPACT_STRINGS" "Z" (.int zc)) (hzc : ¬ zc = 0) (O4 : Sta Z Z.heap "jdk/internal/util/Preconditions" "SIOOBE_FORMATTER" "Ljava/util/function/BiFunction;" fm) (hf : fm.isRef = true) (OA : Sta Z Z.heap "java/lang/StringUTF16" "$assertionsDisabled" "Z" (.int 1)) (OH : Sta Z Z.heap "java/lang/StringUTF16" "HI_BYTE_SHIFT" "I" (.int 0)) (OL : Sta Z Z.heap "java/lang/StringUTF16" "LO_BYTE_SHIFT" "I" (.int 8))
    (hs : SC Z t cx ct cs) (hi : i < cs.length) :
    OCon l Z EL (⟨"java/lang/String", "charAt", "(I)C"⟩ : MethodName) jdk_42_method_56_code 2 (some .char) [] ({ frames := 4, cells := 0, slots := 0, locals := 55 } : Room) #[.ref x, .int (Int32.ofNat i)] [] [(x, cx), (t, ct)] (fun v M N => v = some (.int (cs.getD i 0)) ∧ M = [] ∧ N = []) := by
  refine OCon.of_wp (L0 := [.val (.ref x), .val (.int (Int32.ofNat i))]) pn_CHA hEL (fun m => by first | (simp [entryFrame, mkF, argsToLocals, Value.category]; done) | rfl) ?_
  intro p e s m below meth c hk
  have hc := hs.2.2.2.2.1 _ (getD_mem hi)
  refine OWp.aload_n hk d_CHA_0 (pc' := 1) rfl rfl rfl ?_
  refine OWp.callV hk d_CHA_1 (pc' := 4) rfl (hw _ (List.mem_of_getElem? (i := 247) rfl)) (hw _ (List.mem_of_getElem? (i := 248) rfl)) (nfs (hw _ (List.mem_of_getElem? (i := 250) rfl))) (hw _ (List.mem_of_getElem? (i := 250) rfl)) (hw _ (List.mem_of_getElem? (i := 249) rfl)) (hw _ (List.mem_of_getElem? (i := 7) rfl)) (hw _ (List.mem_of_getElem? (i := 251) rfl)) (by decide) (by simp) hs.1 (c_ISL hw hEL O2 hzc hs) rfl (by simp) rfl (lenOf pd_11 rfl) rfl (W := 0) rfl (by first | decide | (dsimp only; omega)) (by first | decide | (dsimp only; omega)) (by first | decide | (dsimp only; omega)) (by first | decide | (dsimp only; omega)) ?_
  rintro _ _ _ ⟨rfl, rfl, rfl⟩
  cases hl : lat cs
  · refine OWp.ifYes hk d_CHA_4 (XT.i0_eq_t (by decide)) (by decide) (pc' := 16) rfl ?_
    refine OWp.aload_n hk d_CHA_16 (pc' := 17) rfl rfl rfl ?_
    refine OWp.getfield hk d_CHA_17 (pc' := 20) rfl (hw _ (List.mem_of_getElem? (i := 33) rfl)) (by simp) hs.2.1 ?_
    refine OWp.iload_n hk d_CHA_20 (pc' := 21) rfl rfl ?_
    have hA := hs.2.2.2.1
    rw [bytes_wide hl] at hA
    refine OWp.callS hk d_CHA_21 (pc' := 24) rfl (hw _ (List.mem_of_getElem? (i := 320) rfl)) (hw _ (List.mem_of_getElem? (i := 321) rfl)) (hw _ (List.mem_of_getElem? (i := 22) rfl)) (hw _ (List.mem_of_getElem? (i := 322) rfl)) (by decide) (c_UCA hw hEL O4 hf OA OH OL hA hs.2.2.2.2 hi) rfl (by simp) rfl (lenOf pd_6 rfl) rfl (W := 0) rfl (by first | decide | (dsimp only; omega)) (by first | decide | (dsimp only; omega)) (by first | decide | (dsimp only; omega)) (by first | decide | (dsimp only; omega)) ?_
    rintro _ _ _ ⟨rfl, rfl, rfl⟩
    exact OWp.retN hk (Or.inr (Or.inr (Or.inl rfl))) d_CHA_24 ⟨by rw [nar_char_id hc.1 hc.2], rfl, rfl⟩ (List.Sublist.refl _) (fun _ h => h) (by decide) (by decide)
  · refine OWp.ifNo hk d_CHA_4 (XT.i0_eq_f (by decide)) (pc' := 7) rfl ?_
    refine OWp.aload_n hk d_CHA_7 (pc' := 8) rfl rfl rfl ?_
    refine OWp.getfield hk d_CHA_8 (pc' := 11) rfl (hw _ (List.mem_of_getElem? (i := 33) rfl)) (by simp) hs.2.1 ?_
    refine OWp.iload_n hk d_CHA_11 (pc' := 12) rfl rfl ?_
    refine OWp.callS hk d_CHA_12 (pc' := 15) rfl (hw _ (List.mem_of_getElem? (i := 252) rfl)) (hw _ (List.mem_of_getElem? (i := 253) rfl)) (hw _ (List.mem_of_getElem? (i := 254) rfl)) (hw _ (List.mem_of_getElem? (i := 255) rfl)) (by decide) (c_LCA (x := x) hw hEL O4 hf hs hl hi) rfl (by simp) rfl (lenOf pd_6 rfl) rfl (W := 0) rfl (by first | decide | (dsimp only; omega)) (by first | decide | (dsimp only; omega)) (by first | decide | (dsimp only; omega)) (by first | decide | (dsimp only; omega)) ?_
    rintro _ _ _ ⟨rfl, rfl, rfl⟩
    exact OWp.retN hk (Or.inr (Or.inr (Or.inl rfl))) d_CHA_15 ⟨by rw [nar_char_id hc.1 hc.2], rfl, rfl⟩ (List.Sublist.refl _) (fun _ h => h) (by decide) (by decide)
end StrChW
--CUT
theorem d_STR_0 : decode method_2_code 0 = .ok (.iload_n 0, 1) := by decide +kernel
theorem d_STR_1 : decode method_2_code 1 = .ok (.ldc 7, 2) := by decide +kernel
theorem d_STR_3 : decode method_2_code 3 = .ok (.iand, 1) := by decide +kernel
theorem d_STR_4 : decode method_2_code 4 = .ok (.i2c, 1) := by decide +kernel
theorem d_STR_5 : decode method_2_code 5 = .ok (.istore_n 2, 1) := by decide +kernel
theorem d_STR_6 : decode method_2_code 6 = .ok (.iload_n 0, 1) := by decide +kernel
theorem d_STR_7 : decode method_2_code 7 = .ok (.bipush 16, 2) := by decide +kernel
theorem d_STR_9 : decode method_2_code 9 = .ok (.iushr, 1) := by decide +kernel
theorem d_STR_10 : decode method_2_code 10 = .ok (.ldc 7, 2) := by decide +kernel
theorem d_STR_12 : decode method_2_code 12 = .ok (.iand, 1) := by decide +kernel
theorem d_STR_13 : decode method_2_code 13 = .ok (.i2c, 1) := by decide +kernel
theorem d_STR_14 : decode method_2_code 14 = .ok (.istore_n 3, 1) := by decide +kernel
theorem d_STR_15 : decode method_2_code 15 = .ok (.iload_n 1, 1) := by decide +kernel
theorem d_STR_16 : decode method_2_code 16 = .ok (.ifCond .ne 14, 3) := by decide +kernel
theorem d_STR_19 : decode method_2_code 19 = .ok (.new 8, 3) := by decide +kernel
theorem d_STR_22 : decode method_2_code 22 = .ok (.dup, 1) := by decide +kernel
theorem d_STR_23 : decode method_2_code 23 = .ok (.iconst 0, 1) := by decide +kernel
theorem d_STR_24 : decode method_2_code 24 = .ok (.newarray .char, 2) := by decide +kernel
theorem d_STR_26 : decode method_2_code 26 = .ok (.invokespecial 10, 3) := by decide +kernel
theorem d_STR_29 : decode method_2_code 29 = .ok (.areturn, 1) := by decide +kernel
theorem d_STR_30 : decode method_2_code 30 = .ok (.iload_n 1, 1) := by decide +kernel
theorem d_STR_31 : decode method_2_code 31 = .ok (.iconst 1, 1) := by decide +kernel
theorem d_STR_32 : decode method_2_code 32 = .ok (.if_icmp .ne 8, 3) := by decide +kernel
theorem d_STR_35 : decode method_2_code 35 = .ok (.iload_n 2, 1) := by decide +kernel
theorem d_STR_36 : decode method_2_code 36 = .ok (.invokestatic 13, 3) := by decide +kernel
theorem d_STR_39 : decode method_2_code 39 = .ok (.areturn, 1) := by decide +kernel
theorem d_STR_40 : decode method_2_code 40 = .ok (.new 8, 3) := by decide +kernel
theorem d_STR_43 : decode method_2_code 43 = .ok (.dup, 1) := by decide +kernel
theorem d_STR_44 : decode method_2_code 44 = .ok (.iconst 2, 1) := by decide +kernel
theorem d_STR_45 : decode method_2_code 45 = .ok (.newarray .char, 2) := by decide +kernel
theorem d_STR_47 : decode method_2_code 47 = .ok (.dup, 1) := by decide +kernel
theorem d_STR_48 : decode method_2_code 48 = .ok (.iconst 0, 1) := by decide +kernel
theorem d_STR_49 : decode method_2_code 49 = .ok (.iload_n 2, 1) := by decide +kernel
theorem d_STR_50 : decode method_2_code 50 = .ok (.castore, 1) := by decide +kernel
theorem d_STR_51 : decode method_2_code 51 = .ok (.dup, 1) := by decide +kernel
theorem d_STR_52 : decode method_2_code 52 = .ok (.iconst 1, 1) := by decide +kernel
theorem d_STR_53 : decode method_2_code 53 = .ok (.iload_n 3, 1) := by decide +kernel
theorem d_STR_54 : decode method_2_code 54 = .ok (.castore, 1) := by decide +kernel
theorem d_STR_55 : decode method_2_code 55 = .ok (.invokespecial 10, 3) := by decide +kernel
theorem d_STR_58 : decode method_2_code 58 = .ok (.areturn, 1) := by decide +kernel
theorem pn_STR : plainFor (⟨"com/example/tannoy/tannoy/internal/HandlerRefusedFunctionPinLaw", "str", "(II)Ljava/lang/String;"⟩ : MethodName) = true := by first | exact plainFor_of_name (by first | (simp [plainName, overriddenIn]; done) | decide +kernel) | decide +kernel
theorem d_PAT_0 : decode method_3_code 0 = .ok (.iconst 1, 1) := by decide +kernel
theorem d_PAT_1 : decode method_3_code 1 = .ok (.istore_n 3, 1) := by decide +kernel
theorem d_PAT_2 : decode method_3_code 2 = .ok (.aload_n 2, 1) := by decide +kernel
theorem d_PAT_3 : decode method_3_code 3 = .ok (.invokevirtual 17, 3) := by decide +kernel
theorem d_PAT_6 : decode method_3_code 6 = .ok (.ifCond .le 22, 3) := by decide +kernel
theorem d_PAT_9 : decode method_3_code 9 = .ok (.aload_n 0, 1) := by decide +kernel
theorem d_PAT_10 : decode method_3_code 10 = .ok (.iload_n 1, 1) := by decide +kernel
theorem d_PAT_11 : decode method_3_code 11 = .ok (.invokevirtual 21, 3) := by decide +kernel
theorem d_PAT_14 : decode method_3_code 14 = .ok (.aload_n 2, 1) := by decide +kernel
theorem d_PAT_15 : decode method_3_code 15 = .ok (.iconst 0, 1) := by decide +kernel
theorem d_PAT_16 : decode method_3_code 16 = .ok (.invokevirtual 21, 3) := by decide +kernel
theorem d_PAT_19 : decode method_3_code 19 = .ok (.if_icmp .ne 7, 3) := by decide +kernel
theorem d_PAT_22 : decode method_3_code 22 = .ok (.iconst 1, 1) := by decide +kernel
theorem d_PAT_23 : decode method_3_code 23 = .ok (.goto 4, 3) := by decide +kernel
theorem d_PAT_26 : decode method_3_code 26 = .ok (.iconst 0, 1) := by decide +kernel
theorem d_PAT_27 : decode method_3_code 27 = .ok (.istore_n 3, 1) := by decide +kernel
theorem d_PAT_28 : decode method_3_code 28 = .ok (.aload_n 2, 1) := by decide +kernel
theorem d_PAT_29 : decode method_3_code 29 = .ok (.invokevirtual 17, 3) := by decide +kernel
theorem d_PAT_32 : decode method_3_code 32 = .ok (.iconst 1, 1) := by decide +kernel
theorem d_PAT_33 : decode method_3_code 33 = .ok (.if_icmp .le 28, 3) := by decide +kernel
theorem d_PAT_36 : decode method_3_code 36 = .ok (.iload_n 3, 1) := by decide +kernel
theorem d_PAT_37 : decode method_3_code 37 = .ok (.ifCond .eq 22, 3) := by decide +kernel
theorem d_PAT_40 : decode method_3_code 40 = .ok (.aload_n 0, 1) := by decide +kernel
theorem d_PAT_41 : decode method_3_code 41 = .ok (.iload_n 1, 1) := by decide +kernel
theorem d_PAT_42 : decode method_3_code 42 = .ok (.iconst 1, 1) := by decide +kernel
theorem d_PAT_43 : decode method_3_code 43 = .ok (.iadd, 1) := by decide +kernel
theorem d_PAT_44 : decode method_3_code 44 = .ok (.invokevirtual 21, 3) := by decide +kernel
theorem d_PAT_47 : decode method_3_code 47 = .ok (.aload_n 2, 1) := by decide +kernel
theorem d_PAT_48 : decode method_3_code 48 = .ok (.iconst 1, 1) := by decide +kernel
theorem d_PAT_49 : decode method_3_code 49 = .ok (.invokevirtual 21, 3) := by decide +kernel
theorem d_PAT_52 : decode method_3_code 52 = .ok (.if_icmp .ne 7, 3) := by decide +kernel
theorem d_PAT_55 : decode method_3_code 55 = .ok (.iconst 1, 1) := by decide +kernel
theorem d_PAT_56 : decode method_3_code 56 = .ok (.goto 4, 3) := by decide +kernel
theorem d_PAT_59 : decode method_3_code 59 = .ok (.iconst 0, 1) := by decide +kernel
theorem d_PAT_60 : decode method_3_code 60 = .ok (.istore_n 3, 1) := by decide +kernel
theorem d_PAT_61 : decode method_3_code 61 = .ok (.iload_n 3, 1) := by decide +kernel
theorem d_PAT_62 : decode method_3_code 62 = .ok (.ireturn, 1) := by decide +kernel
theorem pn_PAT : plainFor (⟨"com/example/tannoy/tannoy/internal/HandlerRefusedFunctionPinLaw", "partAt", "(Ljava/lang/String;ILjava/lang/String;)Z"⟩ : MethodName) = true := by first | exact plainFor_of_name (by first | (simp [plainName, overriddenIn]; done) | decide +kernel) | decide +kernel
theorem d_PRE_0 : decode method_4_code 0 = .ok (.aload_n 0, 1) := by decide +kernel
theorem d_PRE_1 : decode method_4_code 1 = .ok (.iconst 0, 1) := by decide +kernel
theorem d_PRE_2 : decode method_4_code 2 = .ok (.invokevirtual 21, 3) := by decide +kernel
theorem d_PRE_5 : decode method_4_code 5 = .ok (.bipush 65, 2) := by decide +kernel
theorem d_PRE_7 : decode method_4_code 7 = .ok (.if_icmp .ne 332, 3) := by decide +kernel
theorem d_PRE_10 : decode method_4_code 10 = .ok (.aload_n 0, 1) := by decide +kernel
theorem d_PRE_11 : decode method_4_code 11 = .ok (.iconst 1, 1) := by decide +kernel
theorem d_PRE_12 : decode method_4_code 12 = .ok (.invokevirtual 21, 3) := by decide +kernel
theorem d_PRE_15 : decode method_4_code 15 = .ok (.bipush 32, 2) := by decide +kernel
theorem d_PRE_17 : decode method_4_code 17 = .ok (.if_icmp .ne 322, 3) := by decide +kernel
theorem d_PRE_20 : decode method_4_code 20 = .ok (.aload_n 0, 1) := by decide +kernel
theorem d_PRE_21 : decode method_4_code 21 = .ok (.iconst 2, 1) := by decide +kernel
theorem d_PRE_22 : decode method_4_code 22 = .ok (.invokevirtual 21, 3) := by decide +kernel
theorem d_PRE_25 : decode method_4_code 25 = .ok (.bipush 102, 2) := by decide +kernel
theorem d_PRE_27 : decode method_4_code 27 = .ok (.if_icmp .ne 312, 3) := by decide +kernel
theorem d_PRE_30 : decode method_4_code 30 = .ok (.aload_n 0, 1) := by decide +kernel
theorem d_PRE_31 : decode method_4_code 31 = .ok (.iconst 3, 1) := by decide +kernel
theorem d_PRE_32 : decode method_4_code 32 = .ok (.invokevirtual 21, 3) := by decide +kernel
theorem d_PRE_35 : decode method_4_code 35 = .ok (.bipush 117, 2) := by decide +kernel
theorem d_PRE_37 : decode method_4_code 37 = .ok (.if_icmp .ne 302, 3) := by decide +kernel
theorem d_PRE_40 : decode method_4_code 40 = .ok (.aload_n 0, 1) := by decide +kernel
theorem d_PRE_41 : decode method_4_code 41 = .ok (.iconst 4, 1) := by decide +kernel
theorem d_PRE_42 : decode method_4_code 42 = .ok (.invokevirtual 21, 3) := by decide +kernel
theorem d_PRE_45 : decode method_4_code 45 = .ok (.bipush 110, 2) := by decide +kernel
theorem d_PRE_47 : decode method_4_code 47 = .ok (.if_icmp .ne 292, 3) := by decide +kernel
theorem d_PRE_50 : decode method_4_code 50 = .ok (.aload_n 0, 1) := by decide +kernel
theorem d_PRE_51 : decode method_4_code 51 = .ok (.iconst 5, 1) := by decide +kernel
theorem d_PRE_52 : decode method_4_code 52 = .ok (.invokevirtual 21, 3) := by decide +kernel
theorem d_PRE_55 : decode method_4_code 55 = .ok (.bipush 99, 2) := by decide +kernel
theorem d_PRE_57 : decode method_4_code 57 = .ok (.if_icmp .ne 282, 3) := by decide +kernel
theorem d_PRE_60 : decode method_4_code 60 = .ok (.aload_n 0, 1) := by decide +kernel
theorem d_PRE_61 : decode method_4_code 61 = .ok (.bipush 6, 2) := by decide +kernel
theorem d_PRE_63 : decode method_4_code 63 = .ok (.invokevirtual 21, 3) := by decide +kernel
theorem d_PRE_66 : decode method_4_code 66 = .ok (.bipush 116, 2) := by decide +kernel
theorem d_PRE_68 : decode method_4_code 68 = .ok (.if_icmp .ne 271, 3) := by decide +kernel
theorem d_PRE_71 : decode method_4_code 71 = .ok (.aload_n 0, 1) := by decide +kernel
theorem d_PRE_72 : decode method_4_code 72 = .ok (.bipush 7, 2) := by decide +kernel
theorem d_PRE_74 : decode method_4_code 74 = .ok (.invokevirtual 21, 3) := by decide +kernel
theorem d_PRE_77 : decode method_4_code 77 = .ok (.bipush 105, 2) := by decide +kernel
theorem d_PRE_79 : decode method_4_code 79 = .ok (.if_icmp .ne 260, 3) := by decide +kernel
theorem d_PRE_82 : decode method_4_code 82 = .ok (.aload_n 0, 1) := by decide +kernel
theorem d_PRE_83 : decode method_4_code 83 = .ok (.bipush 8, 2) := by decide +kernel
theorem d_PRE_85 : decode method_4_code 85 = .ok (.invokevirtual 21, 3) := by decide +kernel
theorem d_PRE_88 : decode method_4_code 88 = .ok (.bipush 111, 2) := by decide +kernel
theorem d_PRE_90 : decode method_4_code 90 = .ok (.if_icmp .ne 249, 3) := by decide +kernel
theorem d_PRE_93 : decode method_4_code 93 = .ok (.aload_n 0, 1) := by decide +kernel
theorem d_PRE_94 : decode method_4_code 94 = .ok (.bipush 9, 2) := by decide +kernel
theorem d_PRE_96 : decode method_4_code 96 = .ok (.invokevirtual 21, 3) := by decide +kernel
theorem d_PRE_99 : decode method_4_code 99 = .ok (.bipush 110, 2) := by decide +kernel
theorem d_PRE_101 : decode method_4_code 101 = .ok (.if_icmp .ne 238, 3) := by decide +kernel
theorem d_PRE_104 : decode method_4_code 104 = .ok (.aload_n 0, 1) := by decide +kernel
theorem d_PRE_105 : decode method_4_code 105 = .ok (.bipush 10, 2) := by decide +kernel
theorem d_PRE_107 : decode method_4_code 107 = .ok (.invokevirtual 21, 3) := by decide +kernel
theorem d_PRE_110 : decode method_4_code 110 = .ok (.bipush 32, 2) := by decide +kernel
theorem d_PRE_112 : decode method_4_code 112 = .ok (.if_icmp .ne 227, 3) := by decide +kernel
theorem d_PRE_115 : decode method_4_code 115 = .ok (.aload_n 0, 1) := by decide +kernel
theorem d_PRE_116 : decode method_4_code 116 = .ok (.bipush 11, 2) := by decide +kernel
theorem d_PRE_118 : decode method_4_code 118 = .ok (.invokevirtual 21, 3) := by decide +kernel
theorem d_PRE_121 : decode method_4_code 121 = .ok (.bipush 99, 2) := by decide +kernel
theorem d_PRE_123 : decode method_4_code 123 = .ok (.if_icmp .ne 216, 3) := by decide +kernel
theorem d_PRE_126 : decode method_4_code 126 = .ok (.aload_n 0, 1) := by decide +kernel
theorem d_PRE_127 : decode method_4_code 127 = .ok (.bipush 12, 2) := by decide +kernel
theorem d_PRE_129 : decode method_4_code 129 = .ok (.invokevirtual 21, 3) := by decide +kernel
theorem d_PRE_132 : decode method_4_code 132 = .ok (.bipush 97, 2) := by decide +kernel
theorem d_PRE_134 : decode method_4_code 134 = .ok (.if_icmp .ne 205, 3) := by decide +kernel
theorem d_PRE_137 : decode method_4_code 137 = .ok (.aload_n 0, 1) := by decide +kernel
theorem d_PRE_138 : decode method_4_code 138 = .ok (.bipush 13, 2) := by decide +kernel
theorem d_PRE_140 : decode method_4_code 140 = .ok (.invokevirtual 21, 3) := by decide +kernel
theorem d_PRE_143 : decode method_4_code 143 = .ok (.bipush 110, 2) := by decide +kernel
theorem d_PRE_145 : decode method_4_code 145 = .ok (.if_icmp .ne 194, 3) := by decide +kernel
theorem d_PRE_148 : decode method_4_code 148 = .ok (.aload_n 0, 1) := by decide +kernel
theorem d_PRE_149 : decode method_4_code 149 = .ok (.bipush 14, 2) := by decide +kernel
theorem d_PRE_151 : decode method_4_code 151 = .ok (.invokevirtual 21, 3) := by decide +kernel
theorem d_PRE_154 : decode method_4_code 154 = .ok (.bipush 110, 2) := by decide +kernel
theorem d_PRE_156 : decode method_4_code 156 = .ok (.if_icmp .ne 183, 3) := by decide +kernel
theorem d_PRE_159 : decode method_4_code 159 = .ok (.aload_n 0, 1) := by decide +kernel
theorem d_PRE_160 : decode method_4_code 160 = .ok (.bipush 15, 2) := by decide +kernel
theorem d_PRE_162 : decode method_4_code 162 = .ok (.invokevirtual 21, 3) := by decide +kernel
theorem d_PRE_165 : decode method_4_code 165 = .ok (.bipush 111, 2) := by decide +kernel
theorem d_PRE_167 : decode method_4_code 167 = .ok (.if_icmp .ne 172, 3) := by decide +kernel
theorem d_PRE_170 : decode method_4_code 170 = .ok (.aload_n 0, 1) := by decide +kernel
theorem d_PRE_171 : decode method_4_code 171 = .ok (.bipush 16, 2) := by decide +kernel
theorem d_PRE_173 : decode method_4_code 173 = .ok (.invokevirtual 21, 3) := by decide +kernel
theorem d_PRE_176 : decode method_4_code 176 = .ok (.bipush 116, 2) := by decide +kernel
theorem d_PRE_178 : decode method_4_code 178 = .ok (.if_icmp .ne 161, 3) := by decide +kernel
theorem d_PRE_181 : decode method_4_code 181 = .ok (.aload_n 0, 1) := by decide +kernel
theorem d_PRE_182 : decode method_4_code 182 = .ok (.bipush 17, 2) := by decide +kernel
theorem d_PRE_184 : decode method_4_code 184 = .ok (.invokevirtual 21, 3) := by decide +kernel
theorem d_PRE_187 : decode method_4_code 187 = .ok (.bipush 32, 2) := by decide +kernel
theorem d_PRE_189 : decode method_4_code 189 = .ok (.if_icmp .ne 150, 3) := by decide +kernel
theorem d_PRE_192 : decode method_4_code 192 = .ok (.aload_n 0, 1) := by decide +kernel
theorem d_PRE_193 : decode method_4_code 193 = .ok (.bipush 18, 2) := by decide +kernel
theorem d_PRE_195 : decode method_4_code 195 = .ok (.invokevirtual 21, 3) := by decide +kernel
theorem d_PRE_198 : decode method_4_code 198 = .ok (.bipush 115, 2) := by decide +kernel
theorem d_PRE_200 : decode method_4_code 200 = .ok (.if_icmp .ne 139, 3) := by decide +kernel
theorem d_PRE_203 : decode method_4_code 203 = .ok (.aload_n 0, 1) := by decide +kernel
theorem d_PRE_204 : decode method_4_code 204 = .ok (.bipush 19, 2) := by decide +kernel
theorem d_PRE_206 : decode method_4_code 206 = .ok (.invokevirtual 21, 3) := by decide +kernel
theorem d_PRE_209 : decode method_4_code 209 = .ok (.bipush 117, 2) := by decide +kernel
theorem d_PRE_211 : decode method_4_code 211 = .ok (.if_icmp .ne 128, 3) := by decide +kernel
theorem d_PRE_214 : decode method_4_code 214 = .ok (.aload_n 0, 1) := by decide +kernel
theorem d_PRE_215 : decode method_4_code 215 = .ok (.bipush 20, 2) := by decide +kernel
theorem d_PRE_217 : decode method_4_code 217 = .ok (.invokevirtual 21, 3) := by decide +kernel
theorem d_PRE_220 : decode method_4_code 220 = .ok (.bipush 98, 2) := by decide +kernel
theorem d_PRE_222 : decode method_4_code 222 = .ok (.if_icmp .ne 117, 3) := by decide +kernel
theorem d_PRE_225 : decode method_4_code 225 = .ok (.aload_n 0, 1) := by decide +kernel
theorem d_PRE_226 : decode method_4_code 226 = .ok (.bipush 21, 2) := by decide +kernel
theorem d_PRE_228 : decode method_4_code 228 = .ok (.invokevirtual 21, 3) := by decide +kernel
theorem d_PRE_231 : decode method_4_code 231 = .ok (.bipush 115, 2) := by decide +kernel
theorem d_PRE_233 : decode method_4_code 233 = .ok (.if_icmp .ne 106, 3) := by decide +kernel
theorem d_PRE_236 : decode method_4_code 236 = .ok (.aload_n 0, 1) := by decide +kernel
theorem d_PRE_237 : decode method_4_code 237 = .ok (.bipush 22, 2) := by decide +kernel
theorem d_PRE_239 : decode method_4_code 239 = .ok (.invokevirtual 21, 3) := by decide +kernel
theorem d_PRE_242 : decode method_4_code 242 = .ok (.bipush 99, 2) := by decide +kernel
theorem d_PRE_244 : decode method_4_code 244 = .ok (.if_icmp .ne 95, 3) := by decide +kernel
theorem d_PRE_247 : decode method_4_code 247 = .ok (.aload_n 0, 1) := by decide +kernel
theorem d_PRE_248 : decode method_4_code 248 = .ok (.bipush 23, 2) := by decide +kernel
theorem d_PRE_250 : decode method_4_code 250 = .ok (.invokevirtual 21, 3) := by decide +kernel
theorem d_PRE_253 : decode method_4_code 253 = .ok (.bipush 114, 2) := by decide +kernel
theorem d_PRE_255 : decode method_4_code 255 = .ok (.if_icmp .ne 84, 3) := by decide +kernel
theorem d_PRE_258 : decode method_4_code 258 = .ok (.aload_n 0, 1) := by decide +kernel
theorem d_PRE_259 : decode method_4_code 259 = .ok (.bipush 24, 2) := by decide +kernel
theorem d_PRE_261 : decode method_4_code 261 = .ok (.invokevirtual 21, 3) := by decide +kernel
theorem d_PRE_264 : decode method_4_code 264 = .ok (.bipush 105, 2) := by decide +kernel
theorem d_PRE_266 : decode method_4_code 266 = .ok (.if_icmp .ne 73, 3) := by decide +kernel
theorem d_PRE_269 : decode method_4_code 269 = .ok (.aload_n 0, 1) := by decide +kernel
theorem d_PRE_270 : decode method_4_code 270 = .ok (.bipush 25, 2) := by decide +kernel
theorem d_PRE_272 : decode method_4_code 272 = .ok (.invokevirtual 21, 3) := by decide +kernel
theorem d_PRE_275 : decode method_4_code 275 = .ok (.bipush 98, 2) := by decide +kernel
theorem d_PRE_277 : decode method_4_code 277 = .ok (.if_icmp .ne 62, 3) := by decide +kernel
theorem d_PRE_280 : decode method_4_code 280 = .ok (.aload_n 0, 1) := by decide +kernel
theorem d_PRE_281 : decode method_4_code 281 = .ok (.bipush 26, 2) := by decide +kernel
theorem d_PRE_283 : decode method_4_code 283 = .ok (.invokevirtual 21, 3) := by decide +kernel
theorem d_PRE_286 : decode method_4_code 286 = .ok (.bipush 101, 2) := by decide +kernel
theorem d_PRE_288 : decode method_4_code 288 = .ok (.if_icmp .ne 51, 3) := by decide +kernel
theorem d_PRE_291 : decode method_4_code 291 = .ok (.aload_n 0, 1) := by decide +kernel
theorem d_PRE_292 : decode method_4_code 292 = .ok (.bipush 27, 2) := by decide +kernel
theorem d_PRE_294 : decode method_4_code 294 = .ok (.invokevirtual 21, 3) := by decide +kernel
theorem d_PRE_297 : decode method_4_code 297 = .ok (.bipush 32, 2) := by decide +kernel
theorem d_PRE_299 : decode method_4_code 299 = .ok (.if_icmp .ne 40, 3) := by decide +kernel
theorem d_PRE_302 : decode method_4_code 302 = .ok (.aload_n 0, 1) := by decide +kernel
theorem d_PRE_303 : decode method_4_code 303 = .ok (.bipush 28, 2) := by decide +kernel
theorem d_PRE_305 : decode method_4_code 305 = .ok (.invokevirtual 21, 3) := by decide +kernel
theorem d_PRE_308 : decode method_4_code 308 = .ok (.bipush 116, 2) := by decide +kernel
theorem d_PRE_310 : decode method_4_code 310 = .ok (.if_icmp .ne 29, 3) := by decide +kernel
theorem d_PRE_313 : decode method_4_code 313 = .ok (.aload_n 0, 1) := by decide +kernel
theorem d_PRE_314 : decode method_4_code 314 = .ok (.bipush 29, 2) := by decide +kernel
theorem d_PRE_316 : decode method_4_code 316 = .ok (.invokevirtual 21, 3) := by decide +kernel
theorem d_PRE_319 : decode method_4_code 319 = .ok (.bipush 111, 2) := by decide +kernel
theorem d_PRE_321 : decode method_4_code 321 = .ok (.if_icmp .ne 18, 3) := by decide +kernel
theorem d_PRE_324 : decode method_4_code 324 = .ok (.aload_n 0, 1) := by decide +kernel
theorem d_PRE_325 : decode method_4_code 325 = .ok (.bipush 30, 2) := by decide +kernel
theorem d_PRE_327 : decode method_4_code 327 = .ok (.invokevirtual 21, 3) := by decide +kernel
theorem d_PRE_330 : decode method_4_code 330 = .ok (.bipush 32, 2) := by decide +kernel
theorem d_PRE_332 : decode method_4_code 332 = .ok (.if_icmp .ne 7, 3) := by decide +kernel
theorem d_PRE_335 : decode method_4_code 335 = .ok (.iconst 1, 1) := by decide +kernel
theorem d_PRE_336 : decode method_4_code 336 = .ok (.goto 4, 3) := by decide +kernel
theorem d_PRE_339 : decode method_4_code 339 = .ok (.iconst 0, 1) := by decide +kernel
theorem d_PRE_340 : decode method_4_code 340 = .ok (.ireturn, 1) := by decide +kernel
theorem pn_PRE : plainFor (⟨"com/example/tannoy/tannoy/internal/HandlerRefusedFunctionPinLaw", "prefixOk", "(Ljava/lang/String;)Z"⟩ : MethodName) = true := by first | exact plainFor_of_name (by first | (simp [plainName, overriddenIn]; done) | decide +kernel) | decide +kernel
theorem d_RF_0 : decode prog_16_method_3_code 0 = .ok (.new 53, 3) := by decide +kernel
theorem d_RF_3 : decode prog_16_method_3_code 3 = .ok (.dup, 1) := by decide +kernel
theorem d_RF_4 : decode prog_16_method_3_code 4 = .ok (.new 55, 3) := by decide +kernel
theorem d_RF_7 : decode prog_16_method_3_code 7 = .ok (.dup, 1) := by decide +kernel
theorem d_RF_8 : decode prog_16_method_3_code 8 = .ok (.invokespecial 57, 3) := by decide +kernel
theorem d_RF_11 : decode prog_16_method_3_code 11 = .ok (.ldc 58, 2) := by decide +kernel
theorem d_RF_13 : decode prog_16_method_3_code 13 = .ok (.invokevirtual 60, 3) := by decide +kernel
theorem d_RF_16 : decode prog_16_method_3_code 16 = .ok (.aload_n 0, 1) := by decide +kernel
theorem d_RF_17 : decode prog_16_method_3_code 17 = .ok (.invokevirtual 60, 3) := by decide +kernel
theorem d_RF_20 : decode prog_16_method_3_code 20 = .ok (.ldc 64, 2) := by decide +kernel
theorem d_RF_22 : decode prog_16_method_3_code 22 = .ok (.invokevirtual 60, 3) := by decide +kernel
theorem d_RF_25 : decode prog_16_method_3_code 25 = .ok (.aload_n 1, 1) := by decide +kernel
theorem d_RF_26 : decode prog_16_method_3_code 26 = .ok (.invokevirtual 60, 3) := by decide +kernel
theorem d_RF_29 : decode prog_16_method_3_code 29 = .ok (.invokevirtual 66, 3) := by decide +kernel
theorem d_RF_32 : decode prog_16_method_3_code 32 = .ok (.invokespecial 70, 3) := by decide +kernel
theorem d_RF_35 : decode prog_16_method_3_code 35 = .ok (.areturn, 1) := by decide +kernel
theorem pn_RF : plainFor (⟨"com/example/tannoy/tannoy/internal/Handler", "refusedFunction", "(Ljava/lang/String;Ljava/lang/String;)Ljava/lang/IllegalArgumentException;"⟩ : MethodName) = true := by first | exact plainFor_of_name (by first | (simp [plainName, overriddenIn]; done) | decide +kernel) | decide +kernel
theorem d_GM_0 : decode jdk_78_method_6_code 0 = .ok (.aload_n 0, 1) := by decide +kernel
theorem d_GM_1 : decode jdk_78_method_6_code 1 = .ok (.getfield 31, 3) := by decide +kernel
theorem d_GM_4 : decode jdk_78_method_6_code 4 = .ok (.areturn, 1) := by decide +kernel
theorem pn_GM : plainFor (⟨"java/lang/Throwable", "getMessage", "()Ljava/lang/String;"⟩ : MethodName) = true := by first | exact plainFor_of_name (by first | (simp [plainName, overriddenIn]; done) | decide +kernel) | decide +kernel
theorem d_TI_0 : decode jdk_78_method_2_code 0 = .ok (.aload_n 0, 1) := by decide +kernel
theorem d_TI_1 : decode jdk_78_method_2_code 1 = .ok (.invokespecial 1, 3) := by decide +kernel
theorem d_TI_4 : decode jdk_78_method_2_code 4 = .ok (.aload_n 0, 1) := by decide +kernel
theorem d_TI_5 : decode jdk_78_method_2_code 5 = .ok (.aload_n 0, 1) := by decide +kernel
theorem d_TI_6 : decode jdk_78_method_2_code 6 = .ok (.putfield 7, 3) := by decide +kernel
theorem d_TI_9 : decode jdk_78_method_2_code 9 = .ok (.aload_n 0, 1) := by decide +kernel
theorem d_TI_10 : decode jdk_78_method_2_code 10 = .ok (.getstatic 13, 3) := by decide +kernel
theorem d_TI_13 : decode jdk_78_method_2_code 13 = .ok (.putfield 17, 3) := by decide +kernel
theorem d_TI_16 : decode jdk_78_method_2_code 16 = .ok (.aload_n 0, 1) := by decide +kernel
theorem d_TI_17 : decode jdk_78_method_2_code 17 = .ok (.getstatic 20, 3) := by decide +kernel
theorem d_TI_20 : decode jdk_78_method_2_code 20 = .ok (.putfield 24, 3) := by decide +kernel
theorem d_TI_23 : decode jdk_78_method_2_code 23 = .ok (.aload_n 0, 1) := by decide +kernel
theorem d_TI_24 : decode jdk_78_method_2_code 24 = .ok (.invokevirtual 27, 3) := by decide +kernel
theorem d_TI_27 : decode jdk_78_method_2_code 27 = .ok (.pop, 1) := by decide +kernel
theorem d_TI_28 : decode jdk_78_method_2_code 28 = .ok (.aload_n 0, 1) := by decide +kernel
theorem d_TI_29 : decode jdk_78_method_2_code 29 = .ok (.aload_n 1, 1) := by decide +kernel
theorem d_TI_30 : decode jdk_78_method_2_code 30 = .ok (.putfield 31, 3) := by decide +kernel
theorem d_TI_33 : decode jdk_78_method_2_code 33 = .ok (.return_, 1) := by decide +kernel
theorem pn_TI : plainFor (⟨"java/lang/Throwable", "<init>", "(Ljava/lang/String;)V"⟩ : MethodName) = true := by first | exact plainFor_of_name (by first | (simp [plainName, overriddenIn]; done) | decide +kernel) | decide +kernel
theorem d_EI_0 : decode jdk_59_method_2_code 0 = .ok (.aload_n 0, 1) := by decide +kernel
theorem d_EI_1 : decode jdk_59_method_2_code 1 = .ok (.aload_n 1, 1) := by decide +kernel
theorem d_EI_2 : decode jdk_59_method_2_code 2 = .ok (.invokespecial 7, 3) := by decide +kernel
theorem d_EI_5 : decode jdk_59_method_2_code 5 = .ok (.return_, 1) := by decide +kernel
theorem pn_EI : plainFor (⟨"java/lang/Exception", "<init>", "(Ljava/lang/String;)V"⟩ : MethodName) = true := by first | exact plainFor_of_name (by first | (simp [plainName, overriddenIn]; done) | decide +kernel) | decide +kernel
theorem d_RI_0 : decode jdk_58_method_2_code 0 = .ok (.aload_n 0, 1) := by decide +kernel
theorem d_RI_1 : decode jdk_58_method_2_code 1 = .ok (.aload_n 1, 1) := by decide +kernel
theorem d_RI_2 : decode jdk_58_method_2_code 2 = .ok (.invokespecial 7, 3) := by decide +kernel
theorem d_RI_5 : decode jdk_58_method_2_code 5 = .ok (.return_, 1) := by decide +kernel
theorem pn_RI : plainFor (⟨"java/lang/RuntimeException", "<init>", "(Ljava/lang/String;)V"⟩ : MethodName) = true := by first | exact plainFor_of_name (by first | (simp [plainName, overriddenIn]; done) | decide +kernel) | decide +kernel
theorem d_II_0 : decode jdk_57_method_2_code 0 = .ok (.aload_n 0, 1) := by decide +kernel
theorem d_II_1 : decode jdk_57_method_2_code 1 = .ok (.aload_n 1, 1) := by decide +kernel
theorem d_II_2 : decode jdk_57_method_2_code 2 = .ok (.invokespecial 7, 3) := by decide +kernel
theorem d_II_5 : decode jdk_57_method_2_code 5 = .ok (.return_, 1) := by decide +kernel
theorem pn_II : plainFor (⟨"java/lang/IllegalArgumentException", "<init>", "(Ljava/lang/String;)V"⟩ : MethodName) = true := by first | exact plainFor_of_name (by first | (simp [plainName, overriddenIn]; done) | decide +kernel) | decide +kernel
theorem pn_law : plainFor (⟨"com/example/tannoy/tannoy/internal/HandlerRefusedFunctionPinLaw", "law", "(III)Z"⟩ : MethodName) = true := by first | exact plainFor_of_name (by first | (simp [plainName, overriddenIn]; done) | decide +kernel) | decide +kernel
section Own
variable {l : Launch} {Z : State} {a0 : Array Value} {EL : List (String × Nat)} {zc : Int32} {x t sx st mx mt y u : Addr} {cx cst cm cmt ce cdx cdt : Cell} {cs ds : List Int32} {k n : Nat} {fm : Value} {dx dt : Addr}
def litP : List Int32 := [65, 32, 102, 117, 110, 99, 116, 105, 111, 110, 32, 99, 97, 110, 110, 111, 116, 32, 115, 117, 98, 115, 99, 114, 105, 98, 101, 32, 116, 111, 32]
def litM : List Int32 := [58, 32, 105, 116, 32]
theorem sc_lit {lit : List Int32} (hE : EC Z cx "java/lang/String") (hC : FC Z cx "java/lang/String" "coder" "B" (.int 0)) (hV : FC Z cx "java/lang/String" "value" "[B" (.ref t)) (hA : AC Z cst .byte (oBytes lit)) (hl : lat lit = true) (hch : Chars lit) : SC Z t cx cst lit := ⟨hE, hV, by rw [cd_lat hl]; exact hC, hA, hch⟩
def allL (cs ds : List Int32) : List Int32 := litP ++ cs ++ litM ++ ds
theorem all_len (cs ds : List Int32) : (allL cs ds).length = 36 + cs.length + ds.length := by
  simp only [allL, List.length_append, show litP.length = 31 from rfl, show litM.length = 5 from rfl]; omega
theorem pre_get {cs ds : List Int32} {j : Nat} (hj : j < 31) : (allL cs ds).getD j 0 = litP.getD j 0 := by
  simp only [allL, getD_app, List.length_append, show litP.length = 31 from rfl, show litM.length = 5 from rfl]
  rw [if_pos (by omega), if_pos (by omega), if_pos hj]
theorem s_get {cs ds : List Int32} {j : Nat} (hj : j < cs.length) : (allL cs ds).getD (31 + j) 0 = cs.getD j 0 := by
  simp only [allL, getD_app, List.length_append, show litP.length = 31 from rfl, show litM.length = 5 from rfl]
  rw [if_pos (by omega), if_pos (by omega), if_neg (by omega), Nat.add_sub_cancel_left]
theorem mid_get {cs ds : List Int32} {j : Nat} (hj : j < 5) : (allL cs ds).getD (31 + cs.length + j) 0 = litM.getD j 0 := by
  simp only [allL, getD_app, List.length_append, show litP.length = 31 from rfl, show litM.length = 5 from rfl]
  rw [if_pos (by omega), if_neg (by omega), Nat.add_sub_cancel_left]
theorem f_get {cs ds : List Int32} {j : Nat} (hj : j < ds.length) : (allL cs ds).getD (31 + cs.length + 5 + j) 0 = ds.getD j 0 := by
  simp only [allL, getD_app, List.length_append, show litP.length = 31 from rfl, show litM.length = 5 from rfl]
  rw [if_neg (by omega), Nat.add_sub_cancel_left]
theorem rem3 (v : Int32) : ∃ n : Nat, n ≤ 2 ∧ (v &&& 3) % 3 = Int32.ofNat n := by
  have h := c_and v 3 (by decide)
  have e3 : (3 : Int32).toInt = 3 := by decide
  have q : v &&& 3 = 0 ∨ v &&& 3 = 1 ∨ v &&& 3 = 2 ∨ v &&& 3 = 3 := by
    have e0 : (0 : Int32).toInt = 0 := by decide
    have e1 : (1 : Int32).toInt = 1 := by decide
    have e2 : (2 : Int32).toInt = 2 := by decide
    have z : (v &&& 3).toInt = 0 ∨ (v &&& 3).toInt = 1 ∨ (v &&& 3).toInt = 2 ∨ (v &&& 3).toInt = 3 := by omega
    rcases z with z | z | z | z
    · exact Or.inl (i_eq (by rw [z, e0]))
    · exact Or.inr (Or.inl (i_eq (by rw [z, e1])))
    · exact Or.inr (Or.inr (Or.inl (i_eq (by rw [z, e2]))))
    · exact Or.inr (Or.inr (Or.inr (i_eq (by rw [z, e3]))))
  rcases q with q | q | q | q <;> rw [q]
  · exact ⟨0, by decide, by decide⟩
  · exact ⟨1, by decide, by decide⟩
  · exact ⟨2, by decide, by decide⟩
  · exact ⟨0, by decide, by decide⟩
theorem thr_in : ((thrA "java/lang/IllegalArgumentException").all fun c => tables_1.contains c) = true := by decide +kernel
theorem thr_w (hw : ∀ d ∈ tables_1, d.before a0 Z = true) : ∀ d ∈ thrA "java/lang/IllegalArgumentException", d.before a0 Z = true := fun c hc => hw c (by simpa using (List.all_eq_true.mp thr_in) c hc)
theorem c_TI (hl : l.stackTraces = true) (hw : ∀ d ∈ tables_1, d.before a0 Z = true) (hEL : EW Z a0 EL) {u1 u2 : Value} (hu1 : u1.isRef = true) (hu2 : u2.isRef = true) (SU : Sta Z Z.heap "java/lang/Throwable" "UNASSIGNED_STACK" "[Ljava/lang/StackTraceElement;" u1) (SS : Sta Z Z.heap "java/lang/Throwable" "SUPPRESSED_SENTINEL" "Ljava/util/List;" u2) {v1 v2 v3 : Value} (hE : EC Z ce "java/lang/IllegalArgumentException") (hU : UC ce)
    (F_cause : FC Z ce "java/lang/Throwable" "cause" "Ljava/lang/Throwable;" v1) (F_stackTrace : FC Z ce "java/lang/Throwable" "stackTrace" "[Ljava/lang/StackTraceElement;" v2) (F_suppressedExceptions : FC Z ce "java/lang/Throwable" "suppressedExceptions" "Ljava/util/List;" v3) (F_backtrace : FC Z ce "java/lang/Throwable" "backtrace" "Ljava/lang/Object;" .null) :
    OConK l Z EL (⟨"java/lang/Throwable", "<init>", "(Ljava/lang/String;)V"⟩ : MethodName) jdk_78_method_2_code 2 none [] ({ frames := 3, cells := 1, slots := 2752, locals := 42 } : Room) #[.ref x, .ref y] [(x, ce)] []
      (fun v M N => v = none ∧ M = [] ∧ ∃ ce', N = [(x, ce')] ∧ EC Z ce' "java/lang/IllegalArgumentException" ∧ FC Z ce' "java/lang/Throwable" "detailMessage" "Ljava/lang/String;" (.ref y)) := by
  refine OConK.of_wp (L0 := [.val (.ref x), .val (.ref y)]) pn_TI hEL (fun m => by first | (simp [entryFrame, mkF, argsToLocals, Value.category]; done) | rfl) ?_
  intro p e s m below meth c hk hTK hBl hE0
  have nar_r : ∀ {t : FieldType} {w : Value}, w.isRef = true → narrow t w = w := fun {t w} q => narrow_refV t ⟨w, q⟩
  refine OWp.aload_n hk d_TI_0 (pc' := 1) rfl rfl rfl ?_
  refine OWp.initO hk d_TI_1 (pc' := 4) rfl (hw _ (List.mem_of_getElem? (i := 195) rfl)) (hw _ (List.mem_of_getElem? (i := 17) rfl)) (hw _ (List.mem_of_getElem? (i := 18) rfl)) rfl (by first | decide | (dsimp only; omega)) (W := 0) rfl (by first | decide | (dsimp only; omega)) ?_
  refine OWp.aload_n hk d_TI_4 (pc' := 5) rfl rfl rfl ?_
  refine OWp.aload_n hk d_TI_5 (pc' := 6) rfl rfl rfl ?_
  refine OWp.putfieldX hk d_TI_6 (pc' := 9) rfl (hw _ (List.mem_of_getElem? (i := 196) rfl)) (i := 0) rfl F_cause hE hU (hw _ (List.mem_of_getElem? (i := 197) rfl)) (hw _ (List.mem_of_getElem? (i := 43) rfl)) (ty := .object "java/lang/Throwable") (by decide) rfl rfl ?_
  intro ck hE hU F_cause hK
  have F_stackTrace := hK F_stackTrace (slot_ne (Or.inl (hw _ (List.mem_of_getElem? (i := 200) rfl))) (Or.inl (hw _ (List.mem_of_getElem? (i := 197) rfl))) (by decide) (t := .array (.object "java/lang/StackTraceElement")) (by decide) (t' := .object "java/lang/Throwable") (by decide))
  have F_suppressedExceptions := hK F_suppressedExceptions (slot_ne (Or.inl (hw _ (List.mem_of_getElem? (i := 203) rfl))) (Or.inl (hw _ (List.mem_of_getElem? (i := 197) rfl))) (by decide) (t := .object "java/util/List") (by decide) (t' := .object "java/lang/Throwable") (by decide))
  have F_backtrace := hK F_backtrace (slot_ne (Or.inl (hw _ (List.mem_of_getElem? (i := 228) rfl))) (Or.inl (hw _ (List.mem_of_getElem? (i := 197) rfl))) (by decide) (t := .object "java/lang/Object") (by decide) (t' := .object "java/lang/Throwable") (by decide))
  simp only [List.nil_append, List.cons_append, List.set_cons_zero]
  refine OWp.aload_n hk d_TI_9 (pc' := 10) rfl rfl rfl ?_
  refine OWp.getstatic hk d_TI_10 (pc' := 13) rfl (hw _ (List.mem_of_getElem? (i := 198) rfl)) SU ?_
  refine OWp.putfieldX hk d_TI_13 (pc' := 16) rfl (hw _ (List.mem_of_getElem? (i := 199) rfl)) (i := 0) rfl F_stackTrace hE hU (hw _ (List.mem_of_getElem? (i := 200) rfl)) (hw _ (List.mem_of_getElem? (i := 43) rfl)) (ty := .array (.object "java/lang/StackTraceElement")) (by decide) (nar_r hu1) (fits_refV_array _ ⟨u1, hu1⟩) ?_
  intro ck hE hU F_stackTrace hK
  have F_suppressedExceptions := hK F_suppressedExceptions (slot_ne (Or.inl (hw _ (List.mem_of_getElem? (i := 203) rfl))) (Or.inl (hw _ (List.mem_of_getElem? (i := 200) rfl))) (by decide) (t := .object "java/util/List") (by decide) (t' := .array (.object "java/lang/StackTraceElement")) (by decide))
  have F_backtrace := hK F_backtrace (slot_ne (Or.inl (hw _ (List.mem_of_getElem? (i := 228) rfl))) (Or.inl (hw _ (List.mem_of_getElem? (i := 200) rfl))) (by decide) (t := .object "java/lang/Object") (by decide) (t' := .array (.object "java/lang/StackTraceElement")) (by decide))
  simp only [List.nil_append, List.cons_append, List.set_cons_zero]
  refine OWp.aload_n hk d_TI_16 (pc' := 17) rfl rfl rfl ?_
  refine OWp.getstatic hk d_TI_17 (pc' := 20) rfl (hw _ (List.mem_of_getElem? (i := 201) rfl)) SS ?_
  refine OWp.putfieldX hk d_TI_20 (pc' := 23) rfl (hw _ (List.mem_of_getElem? (i := 202) rfl)) (i := 0) rfl F_suppressedExceptions hE hU (hw _ (List.mem_of_getElem? (i := 203) rfl)) (hw _ (List.mem_of_getElem? (i := 43) rfl)) (ty := .object "java/util/List") (by decide) (nar_r hu2) (fits_refV_object _ ⟨u2, hu2⟩) ?_
  intro ck hE hU F_suppressedExceptions hK
  have F_stackTrace := hK F_stackTrace (slot_ne (Or.inl (hw _ (List.mem_of_getElem? (i := 200) rfl))) (Or.inl (hw _ (List.mem_of_getElem? (i := 203) rfl))) (by decide) (t := .array (.object "java/lang/StackTraceElement")) (by decide) (t' := .object "java/util/List") (by decide))
  have F_backtrace := hK F_backtrace (slot_ne (Or.inl (hw _ (List.mem_of_getElem? (i := 228) rfl))) (Or.inl (hw _ (List.mem_of_getElem? (i := 203) rfl))) (by decide) (t := .object "java/lang/Object") (by decide) (t' := .object "java/util/List") (by decide))
  simp only [List.nil_append, List.cons_append, List.set_cons_zero]
  refine OWp.aload_n hk d_TI_23 (pc' := 24) rfl rfl rfl ?_
  refine OWp.fillT hk d_TI_24 (pc' := 27) rfl hl (thr_w hw) (hw _ (List.mem_of_getElem? (i := 43) rfl)) hTK hBl hE0 hE hU hu1 SU F_stackTrace F_backtrace rfl (W := 0) rfl (by decide) (by decide) (by decide) (by decide) ?_
  rintro c6 hE6 ⟨w6, F6⟩
  refine OWp.pop hk d_TI_27 (pc' := 28) rfl rfl ?_
  refine OWp.aload_n hk d_TI_28 (pc' := 29) rfl rfl rfl ?_
  refine OWp.aload_n hk d_TI_29 (pc' := 30) rfl rfl rfl ?_
  refine OWp.putfield hk d_TI_30 (pc' := 33) rfl (hw _ (List.mem_of_getElem? (i := 231) rfl)) (i := 0) rfl F6 hE6 (Or.inl (hw _ (List.mem_of_getElem? (i := 227) rfl))) (hw _ (List.mem_of_getElem? (i := 43) rfl)) (ty := .object "java/lang/String") (by decide) rfl rfl ?_
  intro c7 hE7 F7 _
  simp only [List.nil_append, List.cons_append, List.set_cons_zero]
  refine OWp.freeze ?_
  exact OWp.ret0 hk d_TI_33 (M' := []) (N' := [(x, c7)]) ⟨rfl, rfl, c7, rfl, hE7, F7⟩ (List.nil_sublist _) (by simp) (by decide) (by decide)
theorem c_EI (hl : l.stackTraces = true) (hw : ∀ d ∈ tables_1, d.before a0 Z = true) (hEL : EW Z a0 EL) {u1 u2 : Value} (hu1 : u1.isRef = true) (hu2 : u2.isRef = true) (SU : Sta Z Z.heap "java/lang/Throwable" "UNASSIGNED_STACK" "[Ljava/lang/StackTraceElement;" u1) (SS : Sta Z Z.heap "java/lang/Throwable" "SUPPRESSED_SENTINEL" "Ljava/util/List;" u2) {v1 v2 v3 : Value} (hE : EC Z ce "java/lang/IllegalArgumentException") (hU : UC ce)
    (F_cause : FC Z ce "java/lang/Throwable" "cause" "Ljava/lang/Throwable;" v1) (F_stackTrace : FC Z ce "java/lang/Throwable" "stackTrace" "[Ljava/lang/StackTraceElement;" v2) (F_suppressedExceptions : FC Z ce "java/lang/Throwable" "suppressedExceptions" "Ljava/util/List;" v3) (F_backtrace : FC Z ce "java/lang/Throwable" "backtrace" "Ljava/lang/Object;" .null) :
    OConK l Z EL (⟨"java/lang/Exception", "<init>", "(Ljava/lang/String;)V"⟩ : MethodName) jdk_59_method_2_code 2 none [] ({ frames := 4, cells := 1, slots := 2752, locals := 55 } : Room) #[.ref x, .ref y] [(x, ce)] []
      (fun v M N => v = none ∧ M = [] ∧ ∃ ce', N = [(x, ce')] ∧ EC Z ce' "java/lang/IllegalArgumentException" ∧ FC Z ce' "java/lang/Throwable" "detailMessage" "Ljava/lang/String;" (.ref y)) := by
  refine OConK.of_wp (L0 := [.val (.ref x), .val (.ref y)]) pn_EI hEL (fun m => by first | (simp [entryFrame, mkF, argsToLocals, Value.category]; done) | rfl) ?_
  intro p e s m below meth c hk hTK hBl hE0
  refine OWp.aload_n hk d_EI_0 (pc' := 1) rfl rfl rfl ?_
  refine OWp.aload_n hk d_EI_1 (pc' := 2) rfl rfl rfl ?_
  refine OWp.callIK hTK hBl hk d_EI_2 (pc' := 5) rfl rfl (hw _ (List.mem_of_getElem? (i := 189) rfl)) (hw _ (List.mem_of_getElem? (i := 190) rfl)) (hw _ (List.mem_of_getElem? (i := 193) rfl)) (hw _ (List.mem_of_getElem? (i := 194) rfl)) (by decide) (c_TI hl hw hEL hu1 hu2 SU SS hE hU F_cause F_stackTrace F_suppressedExceptions F_backtrace) rfl (by simp) rfl (lenOf pd_16 rfl) rfl (W := 0) rfl (by first | decide | (dsimp only; omega)) (by first | decide | (dsimp only; omega)) (by first | decide | (dsimp only; omega)) (by first | decide | (dsimp only; omega)) ?_
  rintro _ _ _ ⟨rfl, rfl, c7, rfl, hE7, F7⟩
  exact OWp.ret0 hk d_EI_5 (M' := []) (N' := [(x, c7)]) ⟨rfl, rfl, c7, rfl, hE7, F7⟩ (List.nil_sublist _) (by simp) (by decide) (by decide)
theorem c_RI (hl : l.stackTraces = true) (hw : ∀ d ∈ tables_1, d.before a0 Z = true) (hEL : EW Z a0 EL) {u1 u2 : Value} (hu1 : u1.isRef = true) (hu2 : u2.isRef = true) (SU : Sta Z Z.heap "java/lang/Throwable" "UNASSIGNED_STACK" "[Ljava/lang/StackTraceElement;" u1) (SS : Sta Z Z.heap "java/lang/Throwable" "SUPPRESSED_SENTINEL" "Ljava/util/List;" u2) {v1 v2 v3 : Value} (hE : EC Z ce "java/lang/IllegalArgumentException") (hU : UC ce)
    (F_cause : FC Z ce "java/lang/Throwable" "cause" "Ljava/lang/Throwable;" v1) (F_stackTrace : FC Z ce "java/lang/Throwable" "stackTrace" "[Ljava/lang/StackTraceElement;" v2) (F_suppressedExceptions : FC Z ce "java/lang/Throwable" "suppressedExceptions" "Ljava/util/List;" v3) (F_backtrace : FC Z ce "java/lang/Throwable" "backtrace" "Ljava/lang/Object;" .null) :
    OConK l Z EL (⟨"java/lang/RuntimeException", "<init>", "(Ljava/lang/String;)V"⟩ : MethodName) jdk_58_method_2_code 2 none [] ({ frames := 5, cells := 1, slots := 2752, locals := 68 } : Room) #[.ref x, .ref y] [(x, ce)] []
      (fun v M N => v = none ∧ M = [] ∧ ∃ ce', N = [(x, ce')] ∧ EC Z ce' "java/lang/IllegalArgumentException" ∧ FC Z ce' "java/lang/Throwable" "detailMessage" "Ljava/lang/String;" (.ref y)) := by
  refine OConK.of_wp (L0 := [.val (.ref x), .val (.ref y)]) pn_RI hEL (fun m => by first | (simp [entryFrame, mkF, argsToLocals, Value.category]; done) | rfl) ?_
  intro p e s m below meth c hk hTK hBl hE0
  refine OWp.aload_n hk d_RI_0 (pc' := 1) rfl rfl rfl ?_
  refine OWp.aload_n hk d_RI_1 (pc' := 2) rfl rfl rfl ?_
  refine OWp.callIK hTK hBl hk d_RI_2 (pc' := 5) rfl rfl (hw _ (List.mem_of_getElem? (i := 183) rfl)) (hw _ (List.mem_of_getElem? (i := 184) rfl)) (hw _ (List.mem_of_getElem? (i := 187) rfl)) (hw _ (List.mem_of_getElem? (i := 188) rfl)) (by decide) (c_EI hl hw hEL hu1 hu2 SU SS hE hU F_cause F_stackTrace F_suppressedExceptions F_backtrace) rfl (by simp) rfl (lenOf pd_16 rfl) rfl (W := 0) rfl (by first | decide | (dsimp only; omega)) (by first | decide | (dsimp only; omega)) (by first | decide | (dsimp only; omega)) (by first | decide | (dsimp only; omega)) ?_
  rintro _ _ _ ⟨rfl, rfl, c7, rfl, hE7, F7⟩
  exact OWp.ret0 hk d_RI_5 (M' := []) (N' := [(x, c7)]) ⟨rfl, rfl, c7, rfl, hE7, F7⟩ (List.nil_sublist _) (by simp) (by decide) (by decide)
theorem c_II (hl : l.stackTraces = true) (hw : ∀ d ∈ tables_1, d.before a0 Z = true) (hEL : EW Z a0 EL) {u1 u2 : Value} (hu1 : u1.isRef = true) (hu2 : u2.isRef = true) (SU : Sta Z Z.heap "java/lang/Throwable" "UNASSIGNED_STACK" "[Ljava/lang/StackTraceElement;" u1) (SS : Sta Z Z.heap "java/lang/Throwable" "SUPPRESSED_SENTINEL" "Ljava/util/List;" u2) {v1 v2 v3 : Value} (hE : EC Z ce "java/lang/IllegalArgumentException") (hU : UC ce)
    (F_cause : FC Z ce "java/lang/Throwable" "cause" "Ljava/lang/Throwable;" v1) (F_stackTrace : FC Z ce "java/lang/Throwable" "stackTrace" "[Ljava/lang/StackTraceElement;" v2) (F_suppressedExceptions : FC Z ce "java/lang/Throwable" "suppressedExceptions" "Ljava/util/List;" v3) (F_backtrace : FC Z ce "java/lang/Throwable" "backtrace" "Ljava/lang/Object;" .null) :
    OConK l Z EL (⟨"java/lang/IllegalArgumentException", "<init>", "(Ljava/lang/String;)V"⟩ : MethodName) jdk_57_method_2_code 2 none [] ({ frames := 6, cells := 1, slots := 2752, locals := 81 } : Room) #[.ref x, .ref y] [(x, ce)] []
      (fun v M N => v = none ∧ M = [] ∧ ∃ ce', N = [(x, ce')] ∧ EC Z ce' "java/lang/IllegalArgumentException" ∧ FC Z ce' "java/lang/Throwable" "detailMessage" "Ljava/lang/String;" (.ref y)) := by
  refine OConK.of_wp (L0 := [.val (.ref x), .val (.ref y)]) pn_II hEL (fun m => by first | (simp [entryFrame, mkF, argsToLocals, Value.category]; done) | rfl) ?_
  intro p e s m below meth c hk hTK hBl hE0
  refine OWp.aload_n hk d_II_0 (pc' := 1) rfl rfl rfl ?_
  refine OWp.aload_n hk d_II_1 (pc' := 2) rfl rfl rfl ?_
  refine OWp.callIK hTK hBl hk d_II_2 (pc' := 5) rfl rfl (hw _ (List.mem_of_getElem? (i := 177) rfl)) (hw _ (List.mem_of_getElem? (i := 178) rfl)) (hw _ (List.mem_of_getElem? (i := 181) rfl)) (hw _ (List.mem_of_getElem? (i := 182) rfl)) (by decide) (c_RI hl hw hEL hu1 hu2 SU SS hE hU F_cause F_stackTrace F_suppressedExceptions F_backtrace) rfl (by simp) rfl (lenOf pd_16 rfl) rfl (W := 0) rfl (by first | decide | (dsimp only; omega)) (by first | decide | (dsimp only; omega)) (by first | decide | (dsimp only; omega)) (by first | decide | (dsimp only; omega)) ?_
  rintro _ _ _ ⟨rfl, rfl, c7, rfl, hE7, F7⟩
  exact OWp.ret0 hk d_II_5 (M' := []) (N' := [(x, c7)]) ⟨rfl, rfl, c7, rfl, hE7, F7⟩ (List.nil_sublist _) (by simp) (by decide) (by decide)
theorem c_GM (hw : ∀ d ∈ tables_1, d.before a0 Z = true) (hEL : EW Z a0 EL) (hE : EC Z ce "java/lang/IllegalArgumentException") (hM : FC Z ce "java/lang/Throwable" "detailMessage" "Ljava/lang/String;" (.ref y)) :
    OCon l Z EL (⟨"java/lang/Throwable", "getMessage", "()Ljava/lang/String;"⟩ : MethodName) jdk_78_method_6_code 1 (some (.object "java/lang/String")) [] ({ frames := 0, cells := 0, slots := 0, locals := 0 } : Room) #[.ref x] [] [(x, ce)] (fun v M N => v = some (.ref y) ∧ M = [] ∧ N = []) := by
  refine OCon.of_wp (L0 := [.val (.ref x)]) pn_GM hEL (fun m => by first | (simp [entryFrame, mkF, argsToLocals, Value.category]; done) | rfl) ?_
  intro p e s m below meth c hk
  refine OWp.aload_n hk d_GM_0 (pc' := 1) rfl rfl rfl ?_
  refine OWp.getfield hk d_GM_1 (pc' := 4) rfl (hw _ (List.mem_of_getElem? (i := 231) rfl)) (by simp) hM ?_
  exact OWp.retA hk rfl rfl rfl d_GM_4 ⟨rfl, rfl, rfl⟩ (List.Sublist.refl _) (fun _ h => h) (by decide) (by decide)
set_option maxRecDepth 65536 in
theorem c_STR (hw : ∀ d ∈ tables_1, d.before a0 Z = true) (hEL : EW Z a0 EL) (O2 : Sta Z Z.heap "java/lang/String" "COMPACT_STRINGS" "Z" (.int zc)) (hzc : ¬ zc = 0) (O4 : Sta Z Z.heap "jdk/internal/util/Preconditions" "SIOOBE_FORMATTER" "Ljava/util/function/BiFunction;" fm) (hfm : fm.isRef = true) (OA : Sta Z Z.heap "java/lang/StringUTF16" "$assertionsDisabled" "Z" (.int 1)) (OH : Sta Z Z.heap "java/lang/StringUTF16" "HI_BYTE_SHIFT" "I" (.int 0)) (OL : Sta Z Z.heap "java/lang/StringUTF16" "LO_BYTE_SHIFT" "I" (.int 8)) (hmem : ("java/lang/String", 7) ∈ EL) (q : Int32) (hn : n ≤ 2) :
    OCon l Z EL (⟨"com/example/tannoy/tannoy/internal/HandlerRefusedFunctionPinLaw", "str", "(II)Ljava/lang/String;"⟩ : MethodName) method_2_code 4 (some (.object "java/lang/String")) [] ({ frames := 6, cells := 8, slots := 400, locals := 100 } : Room) #[.int q, .int (Int32.ofNat n)] [] []
      (fun v M N => M = [] ∧ ∃ x t cx ct cs, v = some (.ref x) ∧ N = [(x, cx), (t, ct)] ∧ SC Z t cx ct cs ∧ cs.length = n) := by
  refine OCon.of_wp (L0 := [.val (.int q), .val (.int (Int32.ofNat n)), .unset, .unset]) pn_STR hEL (fun m => by first | (simp [entryFrame, mkF, argsToLocals, Value.category]; done) | rfl) ?_
  intro p e s m below meth c hk
  refine OWp.iload_n hk d_STR_0 (pc' := 1) rfl rfl ?_
  refine OWp.ldcI hk d_STR_1 (pc' := 3) rfl (hw _ (List.mem_of_getElem? (i := 4) rfl)) ?_
  refine OWp.iand hk d_STR_3 (pc' := 4) rfl ?_
  refine OWp.i2c hk d_STR_4 (pc' := 5) rfl ?_
  refine OWp.istore_n hk d_STR_5 (pc' := 6) rfl (kn := 2) rfl rfl (by simp only [List.set_cons_zero, List.set_cons_succ]; rfl) ?_
  refine OWp.iload_n hk d_STR_6 (pc' := 7) rfl rfl ?_
  refine OWp.bipush hk d_STR_7 (pc' := 9) rfl (z := 16) rfl ?_
  refine OWp.iushr hk d_STR_9 (pc' := 10) rfl ?_
  refine OWp.ldcI hk d_STR_10 (pc' := 12) rfl (hw _ (List.mem_of_getElem? (i := 4) rfl)) ?_
  refine OWp.iand hk d_STR_12 (pc' := 13) rfl ?_
  refine OWp.i2c hk d_STR_13 (pc' := 14) rfl ?_
  refine OWp.istore_n hk d_STR_14 (pc' := 15) rfl (kn := 3) rfl rfl (by simp only [List.set_cons_zero, List.set_cons_succ]; rfl) ?_
  refine OWp.iload_n hk d_STR_15 (pc' := 16) rfl rfl ?_
  rcases (show n = 0 ∨ n = 1 ∨ n = 2 by omega) with rfl | rfl | rfl
  · refine OWp.ifNo hk d_STR_16 (XT.i0_ne_f (by decide)) (pc' := 19) rfl ?_
    refine OWp.new hk d_STR_19 (pc' := 22) rfl (hw _ (List.mem_of_getElem? (i := 5) rfl)) (hw _ (List.mem_of_getElem? (i := 6) rfl)) (hw _ (List.mem_of_getElem? (i := 7) rfl)) (by decide) (by decide) ?_
    intro x cx hE hD
    have hV : FC Z cx "java/lang/String" "value" "[B" .null := hD (Or.inr (hw _ (List.mem_of_getElem? (i := 34) rfl))) (ty := .array .byte) (by decide)
    have hC : FC Z cx "java/lang/String" "coder" "B" (.int 0) := hD (Or.inr (hw _ (List.mem_of_getElem? (i := 32) rfl))) (ty := .byte) (by decide)
    refine OWp.dup hk d_STR_22 (pc' := 23) rfl rfl ?_
    refine OWp.iconst hk d_STR_23 (pc' := 24) rfl (z := 0) rfl ?_
    refine OWp.newarray hk d_STR_24 (pc' := 26) rfl (hw _ (List.mem_of_getElem? (i := 8) rfl)) (by decide) (cap := kCap) (by decide) (by decide) (by decide) (by decide) (vs := []) rfl ?_
    intro b cb hA
    refine OWp.freeze ?_
    refine OWp.callI hk d_STR_26 (pc' := 29) rfl rfl (hw _ (List.mem_of_getElem? (i := 9) rfl)) (hw _ (List.mem_of_getElem? (i := 10) rfl)) (hw _ (List.mem_of_getElem? (i := 7) rfl)) (hw _ (List.mem_of_getElem? (i := 11) rfl)) (by decide) (c_NEW (cs := []) hw hEL O2 hzc OA OH OL hmem hE hV hC hA ch_nil (Nat.le_of_ble_eq_true rfl)) rfl (by simp) rfl (lenOf pd_34 rfl) rfl (W := 1) rfl (by first | decide | (dsimp only; omega)) (by first | decide | (dsimp only; omega)) (by first | decide | (dsimp only; omega)) (by first | decide | (dsimp only; omega)) ?_
    rintro _ _ _ ⟨rfl, rfl, t, cx2, ct, rfl, hs⟩
    exact OWp.retA hk rfl rfl rfl d_STR_29 (M' := []) (N' := [(x, cx2), (t, ct)]) ⟨rfl, x, t, cx2, ct, _, rfl, rfl, hs, rfl⟩ (List.nil_sublist _) (by simp) (by decide) (by decide)
  · refine OWp.ifYes hk d_STR_16 (XT.i0_ne_t (by decide)) (by decide) (pc' := 30) rfl ?_
    refine OWp.iload_n hk d_STR_30 (pc' := 31) rfl rfl ?_
    refine OWp.iconst hk d_STR_31 (pc' := 32) rfl (z := 1) rfl ?_
    refine OWp.icmpNo hk d_STR_32 (XT.ii_ne_f (by decide)) (pc' := 35) rfl ?_
    refine OWp.iload_n hk d_STR_35 (pc' := 36) rfl rfl ?_
    refine OWp.callS hk d_STR_36 (pc' := 39) rfl (hw _ (List.mem_of_getElem? (i := 267) rfl)) (hw _ (List.mem_of_getElem? (i := 268) rfl)) (hw _ (List.mem_of_getElem? (i := 7) rfl)) (hw _ (List.mem_of_getElem? (i := 269) rfl)) (by decide) (c_VALg hw hEL O2 hzc OA OH OL (rng_char (fits_nar_char (q &&& 65535))).1 (rng_char (fits_nar_char (q &&& 65535))).2) rfl (by simp) rfl (lenOf pd_35 rfl) rfl (W := 0) rfl (by first | decide | (dsimp only; omega)) (by first | decide | (dsimp only; omega)) (by first | decide | (dsimp only; omega)) (by first | decide | (dsimp only; omega)) ?_
    rintro _ _ _ ⟨rfl, x, t, cx, ct, rfl, rfl, hs⟩
    exact OWp.retA hk rfl rfl rfl d_STR_39 (M' := []) (N' := [(x, cx), (t, ct)]) ⟨rfl, x, t, cx, ct, _, rfl, rfl, hs, rfl⟩ (List.nil_sublist _) (by simp) (by decide) (by decide)
  · refine OWp.ifYes hk d_STR_16 (XT.i0_ne_t (by decide)) (by decide) (pc' := 30) rfl ?_
    refine OWp.iload_n hk d_STR_30 (pc' := 31) rfl rfl ?_
    refine OWp.iconst hk d_STR_31 (pc' := 32) rfl (z := 1) rfl ?_
    refine OWp.icmpYes hk d_STR_32 (XT.ii_ne_t (by decide)) (by decide) (pc' := 40) rfl ?_
    refine OWp.new hk d_STR_40 (pc' := 43) rfl (hw _ (List.mem_of_getElem? (i := 5) rfl)) (hw _ (List.mem_of_getElem? (i := 6) rfl)) (hw _ (List.mem_of_getElem? (i := 7) rfl)) (by decide) (by decide) ?_
    intro x cx hE hD
    have hV : FC Z cx "java/lang/String" "value" "[B" .null := hD (Or.inr (hw _ (List.mem_of_getElem? (i := 34) rfl))) (ty := .array .byte) (by decide)
    have hC : FC Z cx "java/lang/String" "coder" "B" (.int 0) := hD (Or.inr (hw _ (List.mem_of_getElem? (i := 32) rfl))) (ty := .byte) (by decide)
    refine OWp.dup hk d_STR_43 (pc' := 44) rfl rfl ?_
    refine OWp.iconst hk d_STR_44 (pc' := 45) rfl (z := 2) rfl ?_
    refine OWp.newarray hk d_STR_45 (pc' := 47) rfl (hw _ (List.mem_of_getElem? (i := 8) rfl)) (by decide) (cap := kCap) (by decide) (by decide) (by decide) (by decide) (vs := [.int 0, .int 0]) rfl ?_
    intro b cb hA
    refine OWp.dup hk d_STR_47 (pc' := 48) rfl rfl ?_
    refine OWp.iconst hk d_STR_48 (pc' := 49) rfl (z := 0) rfl ?_
    refine OWp.iload_n hk d_STR_49 (pc' := 50) rfl rfl ?_
    refine OWp.castore hk d_STR_50 (pc' := 51) rfl (i := 0) rfl hA (by decide) (t := 0) (by decide) (Nat.le_of_ble_eq_true rfl) ?_
    clear hA
    intro cb hA
    simp only [List.nil_append, List.cons_append, List.set_cons_zero, List.set_cons_succ] at hA ⊢
    refine OWp.dup hk d_STR_51 (pc' := 52) rfl rfl ?_
    refine OWp.iconst hk d_STR_52 (pc' := 53) rfl (z := 1) rfl ?_
    refine OWp.iload_n hk d_STR_53 (pc' := 54) rfl rfl ?_
    refine OWp.castore hk d_STR_54 (pc' := 55) rfl (i := 0) rfl hA (by decide) (t := 1) (by decide) (Nat.le_of_ble_eq_true rfl) ?_
    clear hA
    intro cb hA
    simp only [List.nil_append, List.cons_append, List.set_cons_zero, List.set_cons_succ] at hA ⊢
    refine OWp.freeze ?_
    refine OWp.callI hk d_STR_55 (pc' := 58) rfl rfl (hw _ (List.mem_of_getElem? (i := 9) rfl)) (hw _ (List.mem_of_getElem? (i := 10) rfl)) (hw _ (List.mem_of_getElem? (i := 7) rfl)) (hw _ (List.mem_of_getElem? (i := 11) rfl)) (by decide) (c_NEW (cs := [_, _]) hw hEL O2 hzc OA OH OL hmem hE hV hC hA (ch_cons _ (ch_cons _ ch_nil (Nat.le_of_ble_eq_true rfl)) (Nat.le_of_ble_eq_true rfl)) (Nat.le_of_ble_eq_true rfl)) rfl (by simp) rfl (lenOf pd_34 rfl) rfl (W := 1) rfl (by first | decide | (dsimp only; omega)) (by first | decide | (dsimp only; omega)) (by first | decide | (dsimp only; omega)) (by first | decide | (dsimp only; omega)) ?_
    rintro _ _ _ ⟨rfl, rfl, t, cx2, ct, rfl, hs⟩
    exact OWp.retA hk rfl rfl rfl d_STR_58 (M' := []) (N' := [(x, cx2), (t, ct)]) ⟨rfl, x, t, cx2, ct, _, rfl, rfl, hs, rfl⟩ (List.nil_sublist _) (by simp) (by decide) (by decide)
set_option maxRecDepth 65536 in
theorem c_PAT (hw : ∀ d ∈ tables_1, d.before a0 Z = true) (hEL : EW Z a0 EL) (O2 : Sta Z Z.heap "java/lang/String" "COMPACT_STRINGS" "Z" (.int zc)) (hzc : ¬ zc = 0) (O4 : Sta Z Z.heap "jdk/internal/util/Preconditions" "SIOOBE_FORMATTER" "Ljava/util/function/BiFunction;" fm) (hfm : fm.isRef = true) (OA : Sta Z Z.heap "java/lang/StringUTF16" "$assertionsDisabled" "Z" (.int 1)) (OH : Sta Z Z.heap "java/lang/StringUTF16" "HI_BYTE_SHIFT" "I" (.int 0)) (OL : Sta Z Z.heap "java/lang/StringUTF16" "LO_BYTE_SHIFT" "I" (.int 8)) (hm : SC Z mt cm cmt cs) (hs : SC Z st cx cst ds) (hle : k + ds.length ≤ cs.length) (h2 : ds.length ≤ 2) (heq : ∀ j, j < ds.length → cs.getD (k + j) 0 = ds.getD j 0) :
    OCon l Z EL (⟨"com/example/tannoy/tannoy/internal/HandlerRefusedFunctionPinLaw", "partAt", "(Ljava/lang/String;ILjava/lang/String;)Z"⟩ : MethodName) method_3_code 4 (some .boolean) [] ({ frames := 5, cells := 0, slots := 0, locals := 75 } : Room) #[.ref mx, .int (Int32.ofNat k), .ref sx] [] [(mx, cm), (mt, cmt), (sx, cx), (st, cst)] (fun v M N => v = some (.int 1) ∧ M = [] ∧ N = []) := by
  refine OCon.of_wp (L0 := [.val (.ref mx), .val (.int (Int32.ofNat k)), .val (.ref sx), .unset]) pn_PAT hEL (fun m => by first | (simp [entryFrame, mkF, argsToLocals, Value.category]; done) | rfl) ?_
  intro p e s m below meth c hk
  have hlen : ds.length = 0 ∨ ds.length = 1 ∨ ds.length = 2 := by omega
  refine OWp.iconst hk d_PAT_0 (pc' := 1) rfl (z := 1) rfl ?_
  refine OWp.istore_n hk d_PAT_1 (pc' := 2) rfl (kn := 3) rfl rfl (by simp only [List.set_cons_zero, List.set_cons_succ]; rfl) ?_
  refine OWp.aload_n hk d_PAT_2 (pc' := 3) rfl rfl rfl ?_
  refine OWp.callV hk d_PAT_3 (pc' := 6) rfl (hw _ (List.mem_of_getElem? (i := 238) rfl)) (hw _ (List.mem_of_getElem? (i := 75) rfl)) (nfs (hw _ (List.mem_of_getElem? (i := 77) rfl))) (hw _ (List.mem_of_getElem? (i := 77) rfl)) (hw _ (List.mem_of_getElem? (i := 76) rfl)) (hw _ (List.mem_of_getElem? (i := 7) rfl)) (hw _ (List.mem_of_getElem? (i := 78) rfl)) (by decide) (by simp) hs.1 (c_LEN hw hEL O2 hzc hs) rfl (by simp) rfl (lenOf pd_18 rfl) rfl (W := 0) rfl (by first | decide | (dsimp only; omega)) (by first | decide | (dsimp only; omega)) (by first | decide | (dsimp only; omega)) (by first | decide | (dsimp only; omega)) ?_
  rintro _ _ _ ⟨rfl, rfl, rfl⟩
  obtain hz | hz | hz := hlen
  · rw [hz]
    refine OWp.ifYes hk d_PAT_6 (XT.i0_le_t (by decide)) (by decide) (pc' := 28) rfl ?_
    refine OWp.aload_n hk d_PAT_28 (pc' := 29) rfl rfl rfl ?_
    refine OWp.callV hk d_PAT_29 (pc' := 32) rfl (hw _ (List.mem_of_getElem? (i := 238) rfl)) (hw _ (List.mem_of_getElem? (i := 75) rfl)) (nfs (hw _ (List.mem_of_getElem? (i := 77) rfl))) (hw _ (List.mem_of_getElem? (i := 77) rfl)) (hw _ (List.mem_of_getElem? (i := 76) rfl)) (hw _ (List.mem_of_getElem? (i := 7) rfl)) (hw _ (List.mem_of_getElem? (i := 78) rfl)) (by decide) (by simp) hs.1 (c_LEN hw hEL O2 hzc hs) rfl (by simp) rfl (lenOf pd_18 rfl) rfl (W := 0) rfl (by first | decide | (dsimp only; omega)) (by first | decide | (dsimp only; omega)) (by first | decide | (dsimp only; omega)) (by first | decide | (dsimp only; omega)) ?_
    rintro _ _ _ ⟨rfl, rfl, rfl⟩
    rw [hz]
    refine OWp.iconst hk d_PAT_32 (pc' := 33) rfl (z := 1) rfl ?_
    refine OWp.icmpYes hk d_PAT_33 (XT.ii_le_t (by decide)) (by decide) (pc' := 61) rfl ?_
    refine OWp.iload_n hk d_PAT_61 (pc' := 62) rfl rfl ?_
    exact OWp.retN hk (Or.inl rfl) d_PAT_62 ⟨rfl, rfl, rfl⟩ (List.Sublist.refl _) (fun _ h => h) (by decide) (by decide)
  · rw [hz]
    refine OWp.ifNo hk d_PAT_6 (XT.i0_le_f (by decide)) (pc' := 9) rfl ?_
    refine OWp.aload_n hk d_PAT_9 (pc' := 10) rfl rfl rfl ?_
    refine OWp.iload_n hk d_PAT_10 (pc' := 11) rfl rfl ?_
    refine OWp.callV hk d_PAT_11 (pc' := 14) rfl (hw _ (List.mem_of_getElem? (i := 242) rfl)) (hw _ (List.mem_of_getElem? (i := 243) rfl)) (nfs (hw _ (List.mem_of_getElem? (i := 245) rfl))) (hw _ (List.mem_of_getElem? (i := 245) rfl)) (hw _ (List.mem_of_getElem? (i := 244) rfl)) (hw _ (List.mem_of_getElem? (i := 7) rfl)) (hw _ (List.mem_of_getElem? (i := 246) rfl)) (by decide) (by simp) hm.1 (c_CHAg (i := k) hw hEL O2 hzc O4 hfm OA OH OL hm (by omega)) rfl (by simp) rfl (lenOf pd_36 rfl) rfl (W := 0) rfl (by first | decide | (dsimp only; omega)) (by first | decide | (dsimp only; omega)) (by first | decide | (dsimp only; omega)) (by first | decide | (dsimp only; omega)) ?_
    rintro _ _ _ ⟨rfl, rfl, rfl⟩
    refine OWp.aload_n hk d_PAT_14 (pc' := 15) rfl rfl rfl ?_
    refine OWp.iconst hk d_PAT_15 (pc' := 16) rfl (z := 0) rfl ?_
    refine OWp.callV hk d_PAT_16 (pc' := 19) rfl (hw _ (List.mem_of_getElem? (i := 242) rfl)) (hw _ (List.mem_of_getElem? (i := 243) rfl)) (nfs (hw _ (List.mem_of_getElem? (i := 245) rfl))) (hw _ (List.mem_of_getElem? (i := 245) rfl)) (hw _ (List.mem_of_getElem? (i := 244) rfl)) (hw _ (List.mem_of_getElem? (i := 7) rfl)) (hw _ (List.mem_of_getElem? (i := 246) rfl)) (by decide) (by simp) hs.1 (c_CHAg (i := 0) hw hEL O2 hzc O4 hfm OA OH OL hs (by omega)) rfl (by simp) rfl (lenOf pd_36 rfl) rfl (W := 1) rfl (by first | decide | (dsimp only; omega)) (by first | decide | (dsimp only; omega)) (by first | decide | (dsimp only; omega)) (by first | decide | (dsimp only; omega)) ?_
    rintro _ _ _ ⟨rfl, rfl, rfl⟩
    refine OWp.icmpNo hk d_PAT_19 (XT.ii_ne_f (heq 0 (by omega))) (pc' := 22) rfl ?_
    refine OWp.iconst hk d_PAT_22 (pc' := 23) rfl (z := 1) rfl ?_
    refine OWp.goto hk d_PAT_23 (by decide) (pc' := 27) rfl ?_
    refine OWp.istore_n hk d_PAT_27 (pc' := 28) rfl (kn := 3) rfl rfl (by simp only [List.set_cons_zero, List.set_cons_succ]; rfl) ?_
    refine OWp.aload_n hk d_PAT_28 (pc' := 29) rfl rfl rfl ?_
    refine OWp.callV hk d_PAT_29 (pc' := 32) rfl (hw _ (List.mem_of_getElem? (i := 238) rfl)) (hw _ (List.mem_of_getElem? (i := 75) rfl)) (nfs (hw _ (List.mem_of_getElem? (i := 77) rfl))) (hw _ (List.mem_of_getElem? (i := 77) rfl)) (hw _ (List.mem_of_getElem? (i := 76) rfl)) (hw _ (List.mem_of_getElem? (i := 7) rfl)) (hw _ (List.mem_of_getElem? (i := 78) rfl)) (by decide) (by simp) hs.1 (c_LEN hw hEL O2 hzc hs) rfl (by simp) rfl (lenOf pd_18 rfl) rfl (W := 0) rfl (by first | decide | (dsimp only; omega)) (by first | decide | (dsimp only; omega)) (by first | decide | (dsimp only; omega)) (by first | decide | (dsimp only; omega)) ?_
    rintro _ _ _ ⟨rfl, rfl, rfl⟩
    rw [hz]
    refine OWp.iconst hk d_PAT_32 (pc' := 33) rfl (z := 1) rfl ?_
    refine OWp.icmpYes hk d_PAT_33 (XT.ii_le_t (by decide)) (by decide) (pc' := 61) rfl ?_
    refine OWp.iload_n hk d_PAT_61 (pc' := 62) rfl rfl ?_
    exact OWp.retN hk (Or.inl rfl) d_PAT_62 ⟨rfl, rfl, rfl⟩ (List.Sublist.refl _) (fun _ h => h) (by decide) (by decide)
  · rw [hz]
    refine OWp.ifNo hk d_PAT_6 (XT.i0_le_f (by decide)) (pc' := 9) rfl ?_
    refine OWp.aload_n hk d_PAT_9 (pc' := 10) rfl rfl rfl ?_
    refine OWp.iload_n hk d_PAT_10 (pc' := 11) rfl rfl ?_
    refine OWp.callV hk d_PAT_11 (pc' := 14) rfl (hw _ (List.mem_of_getElem? (i := 242) rfl)) (hw _ (List.mem_of_getElem? (i := 243) rfl)) (nfs (hw _ (List.mem_of_getElem? (i := 245) rfl))) (hw _ (List.mem_of_getElem? (i := 245) rfl)) (hw _ (List.mem_of_getElem? (i := 244) rfl)) (hw _ (List.mem_of_getElem? (i := 7) rfl)) (hw _ (List.mem_of_getElem? (i := 246) rfl)) (by decide) (by simp) hm.1 (c_CHAg (i := k) hw hEL O2 hzc O4 hfm OA OH OL hm (by omega)) rfl (by simp) rfl (lenOf pd_36 rfl) rfl (W := 0) rfl (by first | decide | (dsimp only; omega)) (by first | decide | (dsimp only; omega)) (by first | decide | (dsimp only; omega)) (by first | decide | (dsimp only; omega)) ?_
    rintro _ _ _ ⟨rfl, rfl, rfl⟩
    refine OWp.aload_n hk d_PAT_14 (pc' := 15) rfl rfl rfl ?_
    refine OWp.iconst hk d_PAT_15 (pc' := 16) rfl (z := 0) rfl ?_
    refine OWp.callV hk d_PAT_16 (pc' := 19) rfl (hw _ (List.mem_of_getElem? (i := 242) rfl)) (hw _ (List.mem_of_getElem? (i := 243) rfl)) (nfs (hw _ (List.mem_of_getElem? (i := 245) rfl))) (hw _ (List.mem_of_getElem? (i := 245) rfl)) (hw _ (List.mem_of_getElem? (i := 244) rfl)) (hw _ (List.mem_of_getElem? (i := 7) rfl)) (hw _ (List.mem_of_getElem? (i := 246) rfl)) (by decide) (by simp) hs.1 (c_CHAg (i := 0) hw hEL O2 hzc O4 hfm OA OH OL hs (by omega)) rfl (by simp) rfl (lenOf pd_36 rfl) rfl (W := 1) rfl (by first | decide | (dsimp only; omega)) (by first | decide | (dsimp only; omega)) (by first | decide | (dsimp only; omega)) (by first | decide | (dsimp only; omega)) ?_
    rintro _ _ _ ⟨rfl, rfl, rfl⟩
    refine OWp.icmpNo hk d_PAT_19 (XT.ii_ne_f (heq 0 (by omega))) (pc' := 22) rfl ?_
    refine OWp.iconst hk d_PAT_22 (pc' := 23) rfl (z := 1) rfl ?_
    refine OWp.goto hk d_PAT_23 (by decide) (pc' := 27) rfl ?_
    refine OWp.istore_n hk d_PAT_27 (pc' := 28) rfl (kn := 3) rfl rfl (by simp only [List.set_cons_zero, List.set_cons_succ]; rfl) ?_
    refine OWp.aload_n hk d_PAT_28 (pc' := 29) rfl rfl rfl ?_
    refine OWp.callV hk d_PAT_29 (pc' := 32) rfl (hw _ (List.mem_of_getElem? (i := 238) rfl)) (hw _ (List.mem_of_getElem? (i := 75) rfl)) (nfs (hw _ (List.mem_of_getElem? (i := 77) rfl))) (hw _ (List.mem_of_getElem? (i := 77) rfl)) (hw _ (List.mem_of_getElem? (i := 76) rfl)) (hw _ (List.mem_of_getElem? (i := 7) rfl)) (hw _ (List.mem_of_getElem? (i := 78) rfl)) (by decide) (by simp) hs.1 (c_LEN hw hEL O2 hzc hs) rfl (by simp) rfl (lenOf pd_18 rfl) rfl (W := 0) rfl (by first | decide | (dsimp only; omega)) (by first | decide | (dsimp only; omega)) (by first | decide | (dsimp only; omega)) (by first | decide | (dsimp only; omega)) ?_
    rintro _ _ _ ⟨rfl, rfl, rfl⟩
    rw [hz]
    refine OWp.iconst hk d_PAT_32 (pc' := 33) rfl (z := 1) rfl ?_
    refine OWp.icmpNo hk d_PAT_33 (XT.ii_le_f (by decide)) (pc' := 36) rfl ?_
    refine OWp.iload_n hk d_PAT_36 (pc' := 37) rfl rfl ?_
    refine OWp.ifNo hk d_PAT_37 (XT.i0_eq_f (by decide)) (pc' := 40) rfl ?_
    refine OWp.aload_n hk d_PAT_40 (pc' := 41) rfl rfl rfl ?_
    refine OWp.iload_n hk d_PAT_41 (pc' := 42) rfl rfl ?_
    refine OWp.iconst hk d_PAT_42 (pc' := 43) rfl (z := 1) rfl ?_
    refine OWp.iadd hk d_PAT_43 (pc' := 44) rfl ?_
    rw [n_succ]
    refine OWp.callV hk d_PAT_44 (pc' := 47) rfl (hw _ (List.mem_of_getElem? (i := 242) rfl)) (hw _ (List.mem_of_getElem? (i := 243) rfl)) (nfs (hw _ (List.mem_of_getElem? (i := 245) rfl))) (hw _ (List.mem_of_getElem? (i := 245) rfl)) (hw _ (List.mem_of_getElem? (i := 244) rfl)) (hw _ (List.mem_of_getElem? (i := 7) rfl)) (hw _ (List.mem_of_getElem? (i := 246) rfl)) (by decide) (by simp) hm.1 (c_CHAg (i := k + 1) hw hEL O2 hzc O4 hfm OA OH OL hm (by omega)) rfl (by simp) rfl (lenOf pd_36 rfl) rfl (W := 0) rfl (by first | decide | (dsimp only; omega)) (by first | decide | (dsimp only; omega)) (by first | decide | (dsimp only; omega)) (by first | decide | (dsimp only; omega)) ?_
    rintro _ _ _ ⟨rfl, rfl, rfl⟩
    refine OWp.aload_n hk d_PAT_47 (pc' := 48) rfl rfl rfl ?_
    refine OWp.iconst hk d_PAT_48 (pc' := 49) rfl (z := 1) rfl ?_
    refine OWp.callV hk d_PAT_49 (pc' := 52) rfl (hw _ (List.mem_of_getElem? (i := 242) rfl)) (hw _ (List.mem_of_getElem? (i := 243) rfl)) (nfs (hw _ (List.mem_of_getElem? (i := 245) rfl))) (hw _ (List.mem_of_getElem? (i := 245) rfl)) (hw _ (List.mem_of_getElem? (i := 244) rfl)) (hw _ (List.mem_of_getElem? (i := 7) rfl)) (hw _ (List.mem_of_getElem? (i := 246) rfl)) (by decide) (by simp) hs.1 (c_CHAg (i := 1) hw hEL O2 hzc O4 hfm OA OH OL hs (by omega)) rfl (by simp) rfl (lenOf pd_36 rfl) rfl (W := 1) rfl (by first | decide | (dsimp only; omega)) (by first | decide | (dsimp only; omega)) (by first | decide | (dsimp only; omega)) (by first | decide | (dsimp only; omega)) ?_
    rintro _ _ _ ⟨rfl, rfl, rfl⟩
    refine OWp.icmpNo hk d_PAT_52 (XT.ii_ne_f (heq 1 (by omega))) (pc' := 55) rfl ?_
    refine OWp.iconst hk d_PAT_55 (pc' := 56) rfl (z := 1) rfl ?_
    refine OWp.goto hk d_PAT_56 (by decide) (pc' := 60) rfl ?_
    refine OWp.istore_n hk d_PAT_60 (pc' := 61) rfl (kn := 3) rfl rfl (by simp only [List.set_cons_zero, List.set_cons_succ]; rfl) ?_
    refine OWp.iload_n hk d_PAT_61 (pc' := 62) rfl rfl ?_
    exact OWp.retN hk (Or.inl rfl) d_PAT_62 ⟨rfl, rfl, rfl⟩ (List.Sublist.refl _) (fun _ h => h) (by decide) (by decide)
set_option maxRecDepth 65536 in
theorem c_PRE (hw : ∀ d ∈ tables_1, d.before a0 Z = true) (hEL : EW Z a0 EL) (O2 : Sta Z Z.heap "java/lang/String" "COMPACT_STRINGS" "Z" (.int zc)) (hzc : ¬ zc = 0) (O4 : Sta Z Z.heap "jdk/internal/util/Preconditions" "SIOOBE_FORMATTER" "Ljava/util/function/BiFunction;" fm) (hfm : fm.isRef = true) (OA : Sta Z Z.heap "java/lang/StringUTF16" "$assertionsDisabled" "Z" (.int 1)) (OH : Sta Z Z.heap "java/lang/StringUTF16" "HI_BYTE_SHIFT" "I" (.int 0)) (OL : Sta Z Z.heap "java/lang/StringUTF16" "LO_BYTE_SHIFT" "I" (.int 8)) (hm : SC Z mt cm cmt cs) (hle : 31 ≤ cs.length) (heq : ∀ j, j < 31 → cs.getD j 0 = litP.getD j 0) :
    OCon l Z EL (⟨"com/example/tannoy/tannoy/internal/HandlerRefusedFunctionPinLaw", "prefixOk", "(Ljava/lang/String;)Z"⟩ : MethodName) method_4_code 1 (some .boolean) [] ({ frames := 5, cells := 0, slots := 0, locals := 75 } : Room) #[.ref mx] [] [(mx, cm), (mt, cmt)] (fun v M N => v = some (.int 1) ∧ M = [] ∧ N = []) := by
  refine OCon.of_wp (L0 := [.val (.ref mx)]) pn_PRE hEL (fun m => by first | (simp [entryFrame, mkF, argsToLocals, Value.category]; done) | rfl) ?_
  intro p e s m below meth c hk
  refine OWp.aload_n hk d_PRE_0 (pc' := 1) rfl rfl rfl ?_
  refine OWp.iconst hk d_PRE_1 (pc' := 2) rfl (z := 0) rfl ?_
  refine OWp.callV hk d_PRE_2 (pc' := 5) rfl (hw _ (List.mem_of_getElem? (i := 242) rfl)) (hw _ (List.mem_of_getElem? (i := 243) rfl)) (nfs (hw _ (List.mem_of_getElem? (i := 245) rfl))) (hw _ (List.mem_of_getElem? (i := 245) rfl)) (hw _ (List.mem_of_getElem? (i := 244) rfl)) (hw _ (List.mem_of_getElem? (i := 7) rfl)) (hw _ (List.mem_of_getElem? (i := 246) rfl)) (by decide) (by simp) hm.1 (c_CHAg (i := 0) hw hEL O2 hzc O4 hfm OA OH OL hm (by omega)) rfl (by simp) rfl (lenOf pd_36 rfl) rfl (W := 0) rfl (by first | decide | (dsimp only; omega)) (by first | decide | (dsimp only; omega)) (by first | decide | (dsimp only; omega)) (by first | decide | (dsimp only; omega)) ?_
  rintro _ _ _ ⟨rfl, rfl, rfl⟩
  refine OWp.bipush hk d_PRE_5 (pc' := 7) rfl (z := 65) rfl ?_
  refine OWp.icmpNo hk d_PRE_7 (XT.ii_ne_f (heq 0 (by decide))) (pc' := 10) rfl ?_
  refine OWp.aload_n hk d_PRE_10 (pc' := 11) rfl rfl rfl ?_
  refine OWp.iconst hk d_PRE_11 (pc' := 12) rfl (z := 1) rfl ?_
  refine OWp.callV hk d_PRE_12 (pc' := 15) rfl (hw _ (List.mem_of_getElem? (i := 242) rfl)) (hw _ (List.mem_of_getElem? (i := 243) rfl)) (nfs (hw _ (List.mem_of_getElem? (i := 245) rfl))) (hw _ (List.mem_of_getElem? (i := 245) rfl)) (hw _ (List.mem_of_getElem? (i := 244) rfl)) (hw _ (List.mem_of_getElem? (i := 7) rfl)) (hw _ (List.mem_of_getElem? (i := 246) rfl)) (by decide) (by simp) hm.1 (c_CHAg (i := 1) hw hEL O2 hzc O4 hfm OA OH OL hm (by omega)) rfl (by simp) rfl (lenOf pd_36 rfl) rfl (W := 0) rfl (by first | decide | (dsimp only; omega)) (by first | decide | (dsimp only; omega)) (by first | decide | (dsimp only; omega)) (by first | decide | (dsimp only; omega)) ?_
  rintro _ _ _ ⟨rfl, rfl, rfl⟩
  refine OWp.bipush hk d_PRE_15 (pc' := 17) rfl (z := 32) rfl ?_
  refine OWp.icmpNo hk d_PRE_17 (XT.ii_ne_f (heq 1 (by decide))) (pc' := 20) rfl ?_
  refine OWp.aload_n hk d_PRE_20 (pc' := 21) rfl rfl rfl ?_
  refine OWp.iconst hk d_PRE_21 (pc' := 22) rfl (z := 2) rfl ?_
  refine OWp.callV hk d_PRE_22 (pc' := 25) rfl (hw _ (List.mem_of_getElem? (i := 242) rfl)) (hw _ (List.mem_of_getElem? (i := 243) rfl)) (nfs (hw _ (List.mem_of_getElem? (i := 245) rfl))) (hw _ (List.mem_of_getElem? (i := 245) rfl)) (hw _ (List.mem_of_getElem? (i := 244) rfl)) (hw _ (List.mem_of_getElem? (i := 7) rfl)) (hw _ (List.mem_of_getElem? (i := 246) rfl)) (by decide) (by simp) hm.1 (c_CHAg (i := 2) hw hEL O2 hzc O4 hfm OA OH OL hm (by omega)) rfl (by simp) rfl (lenOf pd_36 rfl) rfl (W := 0) rfl (by first | decide | (dsimp only; omega)) (by first | decide | (dsimp only; omega)) (by first | decide | (dsimp only; omega)) (by first | decide | (dsimp only; omega)) ?_
  rintro _ _ _ ⟨rfl, rfl, rfl⟩
  refine OWp.bipush hk d_PRE_25 (pc' := 27) rfl (z := 102) rfl ?_
  refine OWp.icmpNo hk d_PRE_27 (XT.ii_ne_f (heq 2 (by decide))) (pc' := 30) rfl ?_
  refine OWp.aload_n hk d_PRE_30 (pc' := 31) rfl rfl rfl ?_
  refine OWp.iconst hk d_PRE_31 (pc' := 32) rfl (z := 3) rfl ?_
  refine OWp.callV hk d_PRE_32 (pc' := 35) rfl (hw _ (List.mem_of_getElem? (i := 242) rfl)) (hw _ (List.mem_of_getElem? (i := 243) rfl)) (nfs (hw _ (List.mem_of_getElem? (i := 245) rfl))) (hw _ (List.mem_of_getElem? (i := 245) rfl)) (hw _ (List.mem_of_getElem? (i := 244) rfl)) (hw _ (List.mem_of_getElem? (i := 7) rfl)) (hw _ (List.mem_of_getElem? (i := 246) rfl)) (by decide) (by simp) hm.1 (c_CHAg (i := 3) hw hEL O2 hzc O4 hfm OA OH OL hm (by omega)) rfl (by simp) rfl (lenOf pd_36 rfl) rfl (W := 0) rfl (by first | decide | (dsimp only; omega)) (by first | decide | (dsimp only; omega)) (by first | decide | (dsimp only; omega)) (by first | decide | (dsimp only; omega)) ?_
  rintro _ _ _ ⟨rfl, rfl, rfl⟩
  refine OWp.bipush hk d_PRE_35 (pc' := 37) rfl (z := 117) rfl ?_
  refine OWp.icmpNo hk d_PRE_37 (XT.ii_ne_f (heq 3 (by decide))) (pc' := 40) rfl ?_
  refine OWp.aload_n hk d_PRE_40 (pc' := 41) rfl rfl rfl ?_
  refine OWp.iconst hk d_PRE_41 (pc' := 42) rfl (z := 4) rfl ?_
  refine OWp.callV hk d_PRE_42 (pc' := 45) rfl (hw _ (List.mem_of_getElem? (i := 242) rfl)) (hw _ (List.mem_of_getElem? (i := 243) rfl)) (nfs (hw _ (List.mem_of_getElem? (i := 245) rfl))) (hw _ (List.mem_of_getElem? (i := 245) rfl)) (hw _ (List.mem_of_getElem? (i := 244) rfl)) (hw _ (List.mem_of_getElem? (i := 7) rfl)) (hw _ (List.mem_of_getElem? (i := 246) rfl)) (by decide) (by simp) hm.1 (c_CHAg (i := 4) hw hEL O2 hzc O4 hfm OA OH OL hm (by omega)) rfl (by simp) rfl (lenOf pd_36 rfl) rfl (W := 0) rfl (by first | decide | (dsimp only; omega)) (by first | decide | (dsimp only; omega)) (by first | decide | (dsimp only; omega)) (by first | decide | (dsimp only; omega)) ?_
  rintro _ _ _ ⟨rfl, rfl, rfl⟩
  refine OWp.bipush hk d_PRE_45 (pc' := 47) rfl (z := 110) rfl ?_
  refine OWp.icmpNo hk d_PRE_47 (XT.ii_ne_f (heq 4 (by decide))) (pc' := 50) rfl ?_
  refine OWp.aload_n hk d_PRE_50 (pc' := 51) rfl rfl rfl ?_
  refine OWp.iconst hk d_PRE_51 (pc' := 52) rfl (z := 5) rfl ?_
  refine OWp.callV hk d_PRE_52 (pc' := 55) rfl (hw _ (List.mem_of_getElem? (i := 242) rfl)) (hw _ (List.mem_of_getElem? (i := 243) rfl)) (nfs (hw _ (List.mem_of_getElem? (i := 245) rfl))) (hw _ (List.mem_of_getElem? (i := 245) rfl)) (hw _ (List.mem_of_getElem? (i := 244) rfl)) (hw _ (List.mem_of_getElem? (i := 7) rfl)) (hw _ (List.mem_of_getElem? (i := 246) rfl)) (by decide) (by simp) hm.1 (c_CHAg (i := 5) hw hEL O2 hzc O4 hfm OA OH OL hm (by omega)) rfl (by simp) rfl (lenOf pd_36 rfl) rfl (W := 0) rfl (by first | decide | (dsimp only; omega)) (by first | decide | (dsimp only; omega)) (by first | decide | (dsimp only; omega)) (by first | decide | (dsimp only; omega)) ?_
  rintro _ _ _ ⟨rfl, rfl, rfl⟩
  refine OWp.bipush hk d_PRE_55 (pc' := 57) rfl (z := 99) rfl ?_
  refine OWp.icmpNo hk d_PRE_57 (XT.ii_ne_f (heq 5 (by decide))) (pc' := 60) rfl ?_
  refine OWp.aload_n hk d_PRE_60 (pc' := 61) rfl rfl rfl ?_
  refine OWp.bipush hk d_PRE_61 (pc' := 63) rfl (z := 6) rfl ?_
  refine OWp.callV hk d_PRE_63 (pc' := 66) rfl (hw _ (List.mem_of_getElem? (i := 242) rfl)) (hw _ (List.mem_of_getElem? (i := 243) rfl)) (nfs (hw _ (List.mem_of_getElem? (i := 245) rfl))) (hw _ (List.mem_of_getElem? (i := 245) rfl)) (hw _ (List.mem_of_getElem? (i := 244) rfl)) (hw _ (List.mem_of_getElem? (i := 7) rfl)) (hw _ (List.mem_of_getElem? (i := 246) rfl)) (by decide) (by simp) hm.1 (c_CHAg (i := 6) hw hEL O2 hzc O4 hfm OA OH OL hm (by omega)) rfl (by simp) rfl (lenOf pd_36 rfl) rfl (W := 0) rfl (by first | decide | (dsimp only; omega)) (by first | decide | (dsimp only; omega)) (by first | decide | (dsimp only; omega)) (by first | decide | (dsimp only; omega)) ?_
  rintro _ _ _ ⟨rfl, rfl, rfl⟩
  refine OWp.bipush hk d_PRE_66 (pc' := 68) rfl (z := 116) rfl ?_
  refine OWp.icmpNo hk d_PRE_68 (XT.ii_ne_f (heq 6 (by decide))) (pc' := 71) rfl ?_
  refine OWp.aload_n hk d_PRE_71 (pc' := 72) rfl rfl rfl ?_
  refine OWp.bipush hk d_PRE_72 (pc' := 74) rfl (z := 7) rfl ?_
  refine OWp.callV hk d_PRE_74 (pc' := 77) rfl (hw _ (List.mem_of_getElem? (i := 242) rfl)) (hw _ (List.mem_of_getElem? (i := 243) rfl)) (nfs (hw _ (List.mem_of_getElem? (i := 245) rfl))) (hw _ (List.mem_of_getElem? (i := 245) rfl)) (hw _ (List.mem_of_getElem? (i := 244) rfl)) (hw _ (List.mem_of_getElem? (i := 7) rfl)) (hw _ (List.mem_of_getElem? (i := 246) rfl)) (by decide) (by simp) hm.1 (c_CHAg (i := 7) hw hEL O2 hzc O4 hfm OA OH OL hm (by omega)) rfl (by simp) rfl (lenOf pd_36 rfl) rfl (W := 0) rfl (by first | decide | (dsimp only; omega)) (by first | decide | (dsimp only; omega)) (by first | decide | (dsimp only; omega)) (by first | decide | (dsimp only; omega)) ?_
  rintro _ _ _ ⟨rfl, rfl, rfl⟩
  refine OWp.bipush hk d_PRE_77 (pc' := 79) rfl (z := 105) rfl ?_
  refine OWp.icmpNo hk d_PRE_79 (XT.ii_ne_f (heq 7 (by decide))) (pc' := 82) rfl ?_
  refine OWp.aload_n hk d_PRE_82 (pc' := 83) rfl rfl rfl ?_
  refine OWp.bipush hk d_PRE_83 (pc' := 85) rfl (z := 8) rfl ?_
  refine OWp.callV hk d_PRE_85 (pc' := 88) rfl (hw _ (List.mem_of_getElem? (i := 242) rfl)) (hw _ (List.mem_of_getElem? (i := 243) rfl)) (nfs (hw _ (List.mem_of_getElem? (i := 245) rfl))) (hw _ (List.mem_of_getElem? (i := 245) rfl)) (hw _ (List.mem_of_getElem? (i := 244) rfl)) (hw _ (List.mem_of_getElem? (i := 7) rfl)) (hw _ (List.mem_of_getElem? (i := 246) rfl)) (by decide) (by simp) hm.1 (c_CHAg (i := 8) hw hEL O2 hzc O4 hfm OA OH OL hm (by omega)) rfl (by simp) rfl (lenOf pd_36 rfl) rfl (W := 0) rfl (by first | decide | (dsimp only; omega)) (by first | decide | (dsimp only; omega)) (by first | decide | (dsimp only; omega)) (by first | decide | (dsimp only; omega)) ?_
  rintro _ _ _ ⟨rfl, rfl, rfl⟩
  refine OWp.bipush hk d_PRE_88 (pc' := 90) rfl (z := 111) rfl ?_
  refine OWp.icmpNo hk d_PRE_90 (XT.ii_ne_f (heq 8 (by decide))) (pc' := 93) rfl ?_
  refine OWp.aload_n hk d_PRE_93 (pc' := 94) rfl rfl rfl ?_
  refine OWp.bipush hk d_PRE_94 (pc' := 96) rfl (z := 9) rfl ?_
  refine OWp.callV hk d_PRE_96 (pc' := 99) rfl (hw _ (List.mem_of_getElem? (i := 242) rfl)) (hw _ (List.mem_of_getElem? (i := 243) rfl)) (nfs (hw _ (List.mem_of_getElem? (i := 245) rfl))) (hw _ (List.mem_of_getElem? (i := 245) rfl)) (hw _ (List.mem_of_getElem? (i := 244) rfl)) (hw _ (List.mem_of_getElem? (i := 7) rfl)) (hw _ (List.mem_of_getElem? (i := 246) rfl)) (by decide) (by simp) hm.1 (c_CHAg (i := 9) hw hEL O2 hzc O4 hfm OA OH OL hm (by omega)) rfl (by simp) rfl (lenOf pd_36 rfl) rfl (W := 0) rfl (by first | decide | (dsimp only; omega)) (by first | decide | (dsimp only; omega)) (by first | decide | (dsimp only; omega)) (by first | decide | (dsimp only; omega)) ?_
  rintro _ _ _ ⟨rfl, rfl, rfl⟩
  refine OWp.bipush hk d_PRE_99 (pc' := 101) rfl (z := 110) rfl ?_
  refine OWp.icmpNo hk d_PRE_101 (XT.ii_ne_f (heq 9 (by decide))) (pc' := 104) rfl ?_
  refine OWp.aload_n hk d_PRE_104 (pc' := 105) rfl rfl rfl ?_
  refine OWp.bipush hk d_PRE_105 (pc' := 107) rfl (z := 10) rfl ?_
  refine OWp.callV hk d_PRE_107 (pc' := 110) rfl (hw _ (List.mem_of_getElem? (i := 242) rfl)) (hw _ (List.mem_of_getElem? (i := 243) rfl)) (nfs (hw _ (List.mem_of_getElem? (i := 245) rfl))) (hw _ (List.mem_of_getElem? (i := 245) rfl)) (hw _ (List.mem_of_getElem? (i := 244) rfl)) (hw _ (List.mem_of_getElem? (i := 7) rfl)) (hw _ (List.mem_of_getElem? (i := 246) rfl)) (by decide) (by simp) hm.1 (c_CHAg (i := 10) hw hEL O2 hzc O4 hfm OA OH OL hm (by omega)) rfl (by simp) rfl (lenOf pd_36 rfl) rfl (W := 0) rfl (by first | decide | (dsimp only; omega)) (by first | decide | (dsimp only; omega)) (by first | decide | (dsimp only; omega)) (by first | decide | (dsimp only; omega)) ?_
  rintro _ _ _ ⟨rfl, rfl, rfl⟩
  refine OWp.bipush hk d_PRE_110 (pc' := 112) rfl (z := 32) rfl ?_
  refine OWp.icmpNo hk d_PRE_112 (XT.ii_ne_f (heq 10 (by decide))) (pc' := 115) rfl ?_
  refine OWp.aload_n hk d_PRE_115 (pc' := 116) rfl rfl rfl ?_
  refine OWp.bipush hk d_PRE_116 (pc' := 118) rfl (z := 11) rfl ?_
  refine OWp.callV hk d_PRE_118 (pc' := 121) rfl (hw _ (List.mem_of_getElem? (i := 242) rfl)) (hw _ (List.mem_of_getElem? (i := 243) rfl)) (nfs (hw _ (List.mem_of_getElem? (i := 245) rfl))) (hw _ (List.mem_of_getElem? (i := 245) rfl)) (hw _ (List.mem_of_getElem? (i := 244) rfl)) (hw _ (List.mem_of_getElem? (i := 7) rfl)) (hw _ (List.mem_of_getElem? (i := 246) rfl)) (by decide) (by simp) hm.1 (c_CHAg (i := 11) hw hEL O2 hzc O4 hfm OA OH OL hm (by omega)) rfl (by simp) rfl (lenOf pd_36 rfl) rfl (W := 0) rfl (by first | decide | (dsimp only; omega)) (by first | decide | (dsimp only; omega)) (by first | decide | (dsimp only; omega)) (by first | decide | (dsimp only; omega)) ?_
  rintro _ _ _ ⟨rfl, rfl, rfl⟩
  refine OWp.bipush hk d_PRE_121 (pc' := 123) rfl (z := 99) rfl ?_
  refine OWp.icmpNo hk d_PRE_123 (XT.ii_ne_f (heq 11 (by decide))) (pc' := 126) rfl ?_
  refine OWp.aload_n hk d_PRE_126 (pc' := 127) rfl rfl rfl ?_
  refine OWp.bipush hk d_PRE_127 (pc' := 129) rfl (z := 12) rfl ?_
  refine OWp.callV hk d_PRE_129 (pc' := 132) rfl (hw _ (List.mem_of_getElem? (i := 242) rfl)) (hw _ (List.mem_of_getElem? (i := 243) rfl)) (nfs (hw _ (List.mem_of_getElem? (i := 245) rfl))) (hw _ (List.mem_of_getElem? (i := 245) rfl)) (hw _ (List.mem_of_getElem? (i := 244) rfl)) (hw _ (List.mem_of_getElem? (i := 7) rfl)) (hw _ (List.mem_of_getElem? (i := 246) rfl)) (by decide) (by simp) hm.1 (c_CHAg (i := 12) hw hEL O2 hzc O4 hfm OA OH OL hm (by omega)) rfl (by simp) rfl (lenOf pd_36 rfl) rfl (W := 0) rfl (by first | decide | (dsimp only; omega)) (by first | decide | (dsimp only; omega)) (by first | decide | (dsimp only; omega)) (by first | decide | (dsimp only; omega)) ?_
  rintro _ _ _ ⟨rfl, rfl, rfl⟩
  refine OWp.bipush hk d_PRE_132 (pc' := 134) rfl (z := 97) rfl ?_
  refine OWp.icmpNo hk d_PRE_134 (XT.ii_ne_f (heq 12 (by decide))) (pc' := 137) rfl ?_
  refine OWp.aload_n hk d_PRE_137 (pc' := 138) rfl rfl rfl ?_
  refine OWp.bipush hk d_PRE_138 (pc' := 140) rfl (z := 13) rfl ?_
  refine OWp.callV hk d_PRE_140 (pc' := 143) rfl (hw _ (List.mem_of_getElem? (i := 242) rfl)) (hw _ (List.mem_of_getElem? (i := 243) rfl)) (nfs (hw _ (List.mem_of_getElem? (i := 245) rfl))) (hw _ (List.mem_of_getElem? (i := 245) rfl)) (hw _ (List.mem_of_getElem? (i := 244) rfl)) (hw _ (List.mem_of_getElem? (i := 7) rfl)) (hw _ (List.mem_of_getElem? (i := 246) rfl)) (by decide) (by simp) hm.1 (c_CHAg (i := 13) hw hEL O2 hzc O4 hfm OA OH OL hm (by omega)) rfl (by simp) rfl (lenOf pd_36 rfl) rfl (W := 0) rfl (by first | decide | (dsimp only; omega)) (by first | decide | (dsimp only; omega)) (by first | decide | (dsimp only; omega)) (by first | decide | (dsimp only; omega)) ?_
  rintro _ _ _ ⟨rfl, rfl, rfl⟩
  refine OWp.bipush hk d_PRE_143 (pc' := 145) rfl (z := 110) rfl ?_
  refine OWp.icmpNo hk d_PRE_145 (XT.ii_ne_f (heq 13 (by decide))) (pc' := 148) rfl ?_
  refine OWp.aload_n hk d_PRE_148 (pc' := 149) rfl rfl rfl ?_
  refine OWp.bipush hk d_PRE_149 (pc' := 151) rfl (z := 14) rfl ?_
  refine OWp.callV hk d_PRE_151 (pc' := 154) rfl (hw _ (List.mem_of_getElem? (i := 242) rfl)) (hw _ (List.mem_of_getElem? (i := 243) rfl)) (nfs (hw _ (List.mem_of_getElem? (i := 245) rfl))) (hw _ (List.mem_of_getElem? (i := 245) rfl)) (hw _ (List.mem_of_getElem? (i := 244) rfl)) (hw _ (List.mem_of_getElem? (i := 7) rfl)) (hw _ (List.mem_of_getElem? (i := 246) rfl)) (by decide) (by simp) hm.1 (c_CHAg (i := 14) hw hEL O2 hzc O4 hfm OA OH OL hm (by omega)) rfl (by simp) rfl (lenOf pd_36 rfl) rfl (W := 0) rfl (by first | decide | (dsimp only; omega)) (by first | decide | (dsimp only; omega)) (by first | decide | (dsimp only; omega)) (by first | decide | (dsimp only; omega)) ?_
  rintro _ _ _ ⟨rfl, rfl, rfl⟩
  refine OWp.bipush hk d_PRE_154 (pc' := 156) rfl (z := 110) rfl ?_
  refine OWp.icmpNo hk d_PRE_156 (XT.ii_ne_f (heq 14 (by decide))) (pc' := 159) rfl ?_
  refine OWp.aload_n hk d_PRE_159 (pc' := 160) rfl rfl rfl ?_
  refine OWp.bipush hk d_PRE_160 (pc' := 162) rfl (z := 15) rfl ?_
  refine OWp.callV hk d_PRE_162 (pc' := 165) rfl (hw _ (List.mem_of_getElem? (i := 242) rfl)) (hw _ (List.mem_of_getElem? (i := 243) rfl)) (nfs (hw _ (List.mem_of_getElem? (i := 245) rfl))) (hw _ (List.mem_of_getElem? (i := 245) rfl)) (hw _ (List.mem_of_getElem? (i := 244) rfl)) (hw _ (List.mem_of_getElem? (i := 7) rfl)) (hw _ (List.mem_of_getElem? (i := 246) rfl)) (by decide) (by simp) hm.1 (c_CHAg (i := 15) hw hEL O2 hzc O4 hfm OA OH OL hm (by omega)) rfl (by simp) rfl (lenOf pd_36 rfl) rfl (W := 0) rfl (by first | decide | (dsimp only; omega)) (by first | decide | (dsimp only; omega)) (by first | decide | (dsimp only; omega)) (by first | decide | (dsimp only; omega)) ?_
  rintro _ _ _ ⟨rfl, rfl, rfl⟩
  refine OWp.bipush hk d_PRE_165 (pc' := 167) rfl (z := 111) rfl ?_
  refine OWp.icmpNo hk d_PRE_167 (XT.ii_ne_f (heq 15 (by decide))) (pc' := 170) rfl ?_
  refine OWp.aload_n hk d_PRE_170 (pc' := 171) rfl rfl rfl ?_
  refine OWp.bipush hk d_PRE_171 (pc' := 173) rfl (z := 16) rfl ?_
  refine OWp.callV hk d_PRE_173 (pc' := 176) rfl (hw _ (List.mem_of_getElem? (i := 242) rfl)) (hw _ (List.mem_of_getElem? (i := 243) rfl)) (nfs (hw _ (List.mem_of_getElem? (i := 245) rfl))) (hw _ (List.mem_of_getElem? (i := 245) rfl)) (hw _ (List.mem_of_getElem? (i := 244) rfl)) (hw _ (List.mem_of_getElem? (i := 7) rfl)) (hw _ (List.mem_of_getElem? (i := 246) rfl)) (by decide) (by simp) hm.1 (c_CHAg (i := 16) hw hEL O2 hzc O4 hfm OA OH OL hm (by omega)) rfl (by simp) rfl (lenOf pd_36 rfl) rfl (W := 0) rfl (by first | decide | (dsimp only; omega)) (by first | decide | (dsimp only; omega)) (by first | decide | (dsimp only; omega)) (by first | decide | (dsimp only; omega)) ?_
  rintro _ _ _ ⟨rfl, rfl, rfl⟩
  refine OWp.bipush hk d_PRE_176 (pc' := 178) rfl (z := 116) rfl ?_
  refine OWp.icmpNo hk d_PRE_178 (XT.ii_ne_f (heq 16 (by decide))) (pc' := 181) rfl ?_
  refine OWp.aload_n hk d_PRE_181 (pc' := 182) rfl rfl rfl ?_
  refine OWp.bipush hk d_PRE_182 (pc' := 184) rfl (z := 17) rfl ?_
  refine OWp.callV hk d_PRE_184 (pc' := 187) rfl (hw _ (List.mem_of_getElem? (i := 242) rfl)) (hw _ (List.mem_of_getElem? (i := 243) rfl)) (nfs (hw _ (List.mem_of_getElem? (i := 245) rfl))) (hw _ (List.mem_of_getElem? (i := 245) rfl)) (hw _ (List.mem_of_getElem? (i := 244) rfl)) (hw _ (List.mem_of_getElem? (i := 7) rfl)) (hw _ (List.mem_of_getElem? (i := 246) rfl)) (by decide) (by simp) hm.1 (c_CHAg (i := 17) hw hEL O2 hzc O4 hfm OA OH OL hm (by omega)) rfl (by simp) rfl (lenOf pd_36 rfl) rfl (W := 0) rfl (by first | decide | (dsimp only; omega)) (by first | decide | (dsimp only; omega)) (by first | decide | (dsimp only; omega)) (by first | decide | (dsimp only; omega)) ?_
  rintro _ _ _ ⟨rfl, rfl, rfl⟩
  refine OWp.bipush hk d_PRE_187 (pc' := 189) rfl (z := 32) rfl ?_
  refine OWp.icmpNo hk d_PRE_189 (XT.ii_ne_f (heq 17 (by decide))) (pc' := 192) rfl ?_
  refine OWp.aload_n hk d_PRE_192 (pc' := 193) rfl rfl rfl ?_
  refine OWp.bipush hk d_PRE_193 (pc' := 195) rfl (z := 18) rfl ?_
  refine OWp.callV hk d_PRE_195 (pc' := 198) rfl (hw _ (List.mem_of_getElem? (i := 242) rfl)) (hw _ (List.mem_of_getElem? (i := 243) rfl)) (nfs (hw _ (List.mem_of_getElem? (i := 245) rfl))) (hw _ (List.mem_of_getElem? (i := 245) rfl)) (hw _ (List.mem_of_getElem? (i := 244) rfl)) (hw _ (List.mem_of_getElem? (i := 7) rfl)) (hw _ (List.mem_of_getElem? (i := 246) rfl)) (by decide) (by simp) hm.1 (c_CHAg (i := 18) hw hEL O2 hzc O4 hfm OA OH OL hm (by omega)) rfl (by simp) rfl (lenOf pd_36 rfl) rfl (W := 0) rfl (by first | decide | (dsimp only; omega)) (by first | decide | (dsimp only; omega)) (by first | decide | (dsimp only; omega)) (by first | decide | (dsimp only; omega)) ?_
  rintro _ _ _ ⟨rfl, rfl, rfl⟩
  refine OWp.bipush hk d_PRE_198 (pc' := 200) rfl (z := 115) rfl ?_
  refine OWp.icmpNo hk d_PRE_200 (XT.ii_ne_f (heq 18 (by decide))) (pc' := 203) rfl ?_
  refine OWp.aload_n hk d_PRE_203 (pc' := 204) rfl rfl rfl ?_
  refine OWp.bipush hk d_PRE_204 (pc' := 206) rfl (z := 19) rfl ?_
  refine OWp.callV hk d_PRE_206 (pc' := 209) rfl (hw _ (List.mem_of_getElem? (i := 242) rfl)) (hw _ (List.mem_of_getElem? (i := 243) rfl)) (nfs (hw _ (List.mem_of_getElem? (i := 245) rfl))) (hw _ (List.mem_of_getElem? (i := 245) rfl)) (hw _ (List.mem_of_getElem? (i := 244) rfl)) (hw _ (List.mem_of_getElem? (i := 7) rfl)) (hw _ (List.mem_of_getElem? (i := 246) rfl)) (by decide) (by simp) hm.1 (c_CHAg (i := 19) hw hEL O2 hzc O4 hfm OA OH OL hm (by omega)) rfl (by simp) rfl (lenOf pd_36 rfl) rfl (W := 0) rfl (by first | decide | (dsimp only; omega)) (by first | decide | (dsimp only; omega)) (by first | decide | (dsimp only; omega)) (by first | decide | (dsimp only; omega)) ?_
  rintro _ _ _ ⟨rfl, rfl, rfl⟩
  refine OWp.bipush hk d_PRE_209 (pc' := 211) rfl (z := 117) rfl ?_
  refine OWp.icmpNo hk d_PRE_211 (XT.ii_ne_f (heq 19 (by decide))) (pc' := 214) rfl ?_
  refine OWp.aload_n hk d_PRE_214 (pc' := 215) rfl rfl rfl ?_
  refine OWp.bipush hk d_PRE_215 (pc' := 217) rfl (z := 20) rfl ?_
  refine OWp.callV hk d_PRE_217 (pc' := 220) rfl (hw _ (List.mem_of_getElem? (i := 242) rfl)) (hw _ (List.mem_of_getElem? (i := 243) rfl)) (nfs (hw _ (List.mem_of_getElem? (i := 245) rfl))) (hw _ (List.mem_of_getElem? (i := 245) rfl)) (hw _ (List.mem_of_getElem? (i := 244) rfl)) (hw _ (List.mem_of_getElem? (i := 7) rfl)) (hw _ (List.mem_of_getElem? (i := 246) rfl)) (by decide) (by simp) hm.1 (c_CHAg (i := 20) hw hEL O2 hzc O4 hfm OA OH OL hm (by omega)) rfl (by simp) rfl (lenOf pd_36 rfl) rfl (W := 0) rfl (by first | decide | (dsimp only; omega)) (by first | decide | (dsimp only; omega)) (by first | decide | (dsimp only; omega)) (by first | decide | (dsimp only; omega)) ?_
  rintro _ _ _ ⟨rfl, rfl, rfl⟩
  refine OWp.bipush hk d_PRE_220 (pc' := 222) rfl (z := 98) rfl ?_
  refine OWp.icmpNo hk d_PRE_222 (XT.ii_ne_f (heq 20 (by decide))) (pc' := 225) rfl ?_
  refine OWp.aload_n hk d_PRE_225 (pc' := 226) rfl rfl rfl ?_
  refine OWp.bipush hk d_PRE_226 (pc' := 228) rfl (z := 21) rfl ?_
  refine OWp.callV hk d_PRE_228 (pc' := 231) rfl (hw _ (List.mem_of_getElem? (i := 242) rfl)) (hw _ (List.mem_of_getElem? (i := 243) rfl)) (nfs (hw _ (List.mem_of_getElem? (i := 245) rfl))) (hw _ (List.mem_of_getElem? (i := 245) rfl)) (hw _ (List.mem_of_getElem? (i := 244) rfl)) (hw _ (List.mem_of_getElem? (i := 7) rfl)) (hw _ (List.mem_of_getElem? (i := 246) rfl)) (by decide) (by simp) hm.1 (c_CHAg (i := 21) hw hEL O2 hzc O4 hfm OA OH OL hm (by omega)) rfl (by simp) rfl (lenOf pd_36 rfl) rfl (W := 0) rfl (by first | decide | (dsimp only; omega)) (by first | decide | (dsimp only; omega)) (by first | decide | (dsimp only; omega)) (by first | decide | (dsimp only; omega)) ?_
  rintro _ _ _ ⟨rfl, rfl, rfl⟩
  refine OWp.bipush hk d_PRE_231 (pc' := 233) rfl (z := 115) rfl ?_
  refine OWp.icmpNo hk d_PRE_233 (XT.ii_ne_f (heq 21 (by decide))) (pc' := 236) rfl ?_
  refine OWp.aload_n hk d_PRE_236 (pc' := 237) rfl rfl rfl ?_
  refine OWp.bipush hk d_PRE_237 (pc' := 239) rfl (z := 22) rfl ?_
  refine OWp.callV hk d_PRE_239 (pc' := 242) rfl (hw _ (List.mem_of_getElem? (i := 242) rfl)) (hw _ (List.mem_of_getElem? (i := 243) rfl)) (nfs (hw _ (List.mem_of_getElem? (i := 245) rfl))) (hw _ (List.mem_of_getElem? (i := 245) rfl)) (hw _ (List.mem_of_getElem? (i := 244) rfl)) (hw _ (List.mem_of_getElem? (i := 7) rfl)) (hw _ (List.mem_of_getElem? (i := 246) rfl)) (by decide) (by simp) hm.1 (c_CHAg (i := 22) hw hEL O2 hzc O4 hfm OA OH OL hm (by omega)) rfl (by simp) rfl (lenOf pd_36 rfl) rfl (W := 0) rfl (by first | decide | (dsimp only; omega)) (by first | decide | (dsimp only; omega)) (by first | decide | (dsimp only; omega)) (by first | decide | (dsimp only; omega)) ?_
  rintro _ _ _ ⟨rfl, rfl, rfl⟩
  refine OWp.bipush hk d_PRE_242 (pc' := 244) rfl (z := 99) rfl ?_
  refine OWp.icmpNo hk d_PRE_244 (XT.ii_ne_f (heq 22 (by decide))) (pc' := 247) rfl ?_
  refine OWp.aload_n hk d_PRE_247 (pc' := 248) rfl rfl rfl ?_
  refine OWp.bipush hk d_PRE_248 (pc' := 250) rfl (z := 23) rfl ?_
  refine OWp.callV hk d_PRE_250 (pc' := 253) rfl (hw _ (List.mem_of_getElem? (i := 242) rfl)) (hw _ (List.mem_of_getElem? (i := 243) rfl)) (nfs (hw _ (List.mem_of_getElem? (i := 245) rfl))) (hw _ (List.mem_of_getElem? (i := 245) rfl)) (hw _ (List.mem_of_getElem? (i := 244) rfl)) (hw _ (List.mem_of_getElem? (i := 7) rfl)) (hw _ (List.mem_of_getElem? (i := 246) rfl)) (by decide) (by simp) hm.1 (c_CHAg (i := 23) hw hEL O2 hzc O4 hfm OA OH OL hm (by omega)) rfl (by simp) rfl (lenOf pd_36 rfl) rfl (W := 0) rfl (by first | decide | (dsimp only; omega)) (by first | decide | (dsimp only; omega)) (by first | decide | (dsimp only; omega)) (by first | decide | (dsimp only; omega)) ?_
  rintro _ _ _ ⟨rfl, rfl, rfl⟩
  refine OWp.bipush hk d_PRE_253 (pc' := 255) rfl (z := 114) rfl ?_
  refine OWp.icmpNo hk d_PRE_255 (XT.ii_ne_f (heq 23 (by decide))) (pc' := 258) rfl ?_
  refine OWp.aload_n hk d_PRE_258 (pc' := 259) rfl rfl rfl ?_
  refine OWp.bipush hk d_PRE_259 (pc' := 261) rfl (z := 24) rfl ?_
  refine OWp.callV hk d_PRE_261 (pc' := 264) rfl (hw _ (List.mem_of_getElem? (i := 242) rfl)) (hw _ (List.mem_of_getElem? (i := 243) rfl)) (nfs (hw _ (List.mem_of_getElem? (i := 245) rfl))) (hw _ (List.mem_of_getElem? (i := 245) rfl)) (hw _ (List.mem_of_getElem? (i := 244) rfl)) (hw _ (List.mem_of_getElem? (i := 7) rfl)) (hw _ (List.mem_of_getElem? (i := 246) rfl)) (by decide) (by simp) hm.1 (c_CHAg (i := 24) hw hEL O2 hzc O4 hfm OA OH OL hm (by omega)) rfl (by simp) rfl (lenOf pd_36 rfl) rfl (W := 0) rfl (by first | decide | (dsimp only; omega)) (by first | decide | (dsimp only; omega)) (by first | decide | (dsimp only; omega)) (by first | decide | (dsimp only; omega)) ?_
  rintro _ _ _ ⟨rfl, rfl, rfl⟩
  refine OWp.bipush hk d_PRE_264 (pc' := 266) rfl (z := 105) rfl ?_
  refine OWp.icmpNo hk d_PRE_266 (XT.ii_ne_f (heq 24 (by decide))) (pc' := 269) rfl ?_
  refine OWp.aload_n hk d_PRE_269 (pc' := 270) rfl rfl rfl ?_
  refine OWp.bipush hk d_PRE_270 (pc' := 272) rfl (z := 25) rfl ?_
  refine OWp.callV hk d_PRE_272 (pc' := 275) rfl (hw _ (List.mem_of_getElem? (i := 242) rfl)) (hw _ (List.mem_of_getElem? (i := 243) rfl)) (nfs (hw _ (List.mem_of_getElem? (i := 245) rfl))) (hw _ (List.mem_of_getElem? (i := 245) rfl)) (hw _ (List.mem_of_getElem? (i := 244) rfl)) (hw _ (List.mem_of_getElem? (i := 7) rfl)) (hw _ (List.mem_of_getElem? (i := 246) rfl)) (by decide) (by simp) hm.1 (c_CHAg (i := 25) hw hEL O2 hzc O4 hfm OA OH OL hm (by omega)) rfl (by simp) rfl (lenOf pd_36 rfl) rfl (W := 0) rfl (by first | decide | (dsimp only; omega)) (by first | decide | (dsimp only; omega)) (by first | decide | (dsimp only; omega)) (by first | decide | (dsimp only; omega)) ?_
  rintro _ _ _ ⟨rfl, rfl, rfl⟩
  refine OWp.bipush hk d_PRE_275 (pc' := 277) rfl (z := 98) rfl ?_
  refine OWp.icmpNo hk d_PRE_277 (XT.ii_ne_f (heq 25 (by decide))) (pc' := 280) rfl ?_
  refine OWp.aload_n hk d_PRE_280 (pc' := 281) rfl rfl rfl ?_
  refine OWp.bipush hk d_PRE_281 (pc' := 283) rfl (z := 26) rfl ?_
  refine OWp.callV hk d_PRE_283 (pc' := 286) rfl (hw _ (List.mem_of_getElem? (i := 242) rfl)) (hw _ (List.mem_of_getElem? (i := 243) rfl)) (nfs (hw _ (List.mem_of_getElem? (i := 245) rfl))) (hw _ (List.mem_of_getElem? (i := 245) rfl)) (hw _ (List.mem_of_getElem? (i := 244) rfl)) (hw _ (List.mem_of_getElem? (i := 7) rfl)) (hw _ (List.mem_of_getElem? (i := 246) rfl)) (by decide) (by simp) hm.1 (c_CHAg (i := 26) hw hEL O2 hzc O4 hfm OA OH OL hm (by omega)) rfl (by simp) rfl (lenOf pd_36 rfl) rfl (W := 0) rfl (by first | decide | (dsimp only; omega)) (by first | decide | (dsimp only; omega)) (by first | decide | (dsimp only; omega)) (by first | decide | (dsimp only; omega)) ?_
  rintro _ _ _ ⟨rfl, rfl, rfl⟩
  refine OWp.bipush hk d_PRE_286 (pc' := 288) rfl (z := 101) rfl ?_
  refine OWp.icmpNo hk d_PRE_288 (XT.ii_ne_f (heq 26 (by decide))) (pc' := 291) rfl ?_
  refine OWp.aload_n hk d_PRE_291 (pc' := 292) rfl rfl rfl ?_
  refine OWp.bipush hk d_PRE_292 (pc' := 294) rfl (z := 27) rfl ?_
  refine OWp.callV hk d_PRE_294 (pc' := 297) rfl (hw _ (List.mem_of_getElem? (i := 242) rfl)) (hw _ (List.mem_of_getElem? (i := 243) rfl)) (nfs (hw _ (List.mem_of_getElem? (i := 245) rfl))) (hw _ (List.mem_of_getElem? (i := 245) rfl)) (hw _ (List.mem_of_getElem? (i := 244) rfl)) (hw _ (List.mem_of_getElem? (i := 7) rfl)) (hw _ (List.mem_of_getElem? (i := 246) rfl)) (by decide) (by simp) hm.1 (c_CHAg (i := 27) hw hEL O2 hzc O4 hfm OA OH OL hm (by omega)) rfl (by simp) rfl (lenOf pd_36 rfl) rfl (W := 0) rfl (by first | decide | (dsimp only; omega)) (by first | decide | (dsimp only; omega)) (by first | decide | (dsimp only; omega)) (by first | decide | (dsimp only; omega)) ?_
  rintro _ _ _ ⟨rfl, rfl, rfl⟩
  refine OWp.bipush hk d_PRE_297 (pc' := 299) rfl (z := 32) rfl ?_
  refine OWp.icmpNo hk d_PRE_299 (XT.ii_ne_f (heq 27 (by decide))) (pc' := 302) rfl ?_
  refine OWp.aload_n hk d_PRE_302 (pc' := 303) rfl rfl rfl ?_
  refine OWp.bipush hk d_PRE_303 (pc' := 305) rfl (z := 28) rfl ?_
  refine OWp.callV hk d_PRE_305 (pc' := 308) rfl (hw _ (List.mem_of_getElem? (i := 242) rfl)) (hw _ (List.mem_of_getElem? (i := 243) rfl)) (nfs (hw _ (List.mem_of_getElem? (i := 245) rfl))) (hw _ (List.mem_of_getElem? (i := 245) rfl)) (hw _ (List.mem_of_getElem? (i := 244) rfl)) (hw _ (List.mem_of_getElem? (i := 7) rfl)) (hw _ (List.mem_of_getElem? (i := 246) rfl)) (by decide) (by simp) hm.1 (c_CHAg (i := 28) hw hEL O2 hzc O4 hfm OA OH OL hm (by omega)) rfl (by simp) rfl (lenOf pd_36 rfl) rfl (W := 0) rfl (by first | decide | (dsimp only; omega)) (by first | decide | (dsimp only; omega)) (by first | decide | (dsimp only; omega)) (by first | decide | (dsimp only; omega)) ?_
  rintro _ _ _ ⟨rfl, rfl, rfl⟩
  refine OWp.bipush hk d_PRE_308 (pc' := 310) rfl (z := 116) rfl ?_
  refine OWp.icmpNo hk d_PRE_310 (XT.ii_ne_f (heq 28 (by decide))) (pc' := 313) rfl ?_
  refine OWp.aload_n hk d_PRE_313 (pc' := 314) rfl rfl rfl ?_
  refine OWp.bipush hk d_PRE_314 (pc' := 316) rfl (z := 29) rfl ?_
  refine OWp.callV hk d_PRE_316 (pc' := 319) rfl (hw _ (List.mem_of_getElem? (i := 242) rfl)) (hw _ (List.mem_of_getElem? (i := 243) rfl)) (nfs (hw _ (List.mem_of_getElem? (i := 245) rfl))) (hw _ (List.mem_of_getElem? (i := 245) rfl)) (hw _ (List.mem_of_getElem? (i := 244) rfl)) (hw _ (List.mem_of_getElem? (i := 7) rfl)) (hw _ (List.mem_of_getElem? (i := 246) rfl)) (by decide) (by simp) hm.1 (c_CHAg (i := 29) hw hEL O2 hzc O4 hfm OA OH OL hm (by omega)) rfl (by simp) rfl (lenOf pd_36 rfl) rfl (W := 0) rfl (by first | decide | (dsimp only; omega)) (by first | decide | (dsimp only; omega)) (by first | decide | (dsimp only; omega)) (by first | decide | (dsimp only; omega)) ?_
  rintro _ _ _ ⟨rfl, rfl, rfl⟩
  refine OWp.bipush hk d_PRE_319 (pc' := 321) rfl (z := 111) rfl ?_
  refine OWp.icmpNo hk d_PRE_321 (XT.ii_ne_f (heq 29 (by decide))) (pc' := 324) rfl ?_
  refine OWp.aload_n hk d_PRE_324 (pc' := 325) rfl rfl rfl ?_
  refine OWp.bipush hk d_PRE_325 (pc' := 327) rfl (z := 30) rfl ?_
  refine OWp.callV hk d_PRE_327 (pc' := 330) rfl (hw _ (List.mem_of_getElem? (i := 242) rfl)) (hw _ (List.mem_of_getElem? (i := 243) rfl)) (nfs (hw _ (List.mem_of_getElem? (i := 245) rfl))) (hw _ (List.mem_of_getElem? (i := 245) rfl)) (hw _ (List.mem_of_getElem? (i := 244) rfl)) (hw _ (List.mem_of_getElem? (i := 7) rfl)) (hw _ (List.mem_of_getElem? (i := 246) rfl)) (by decide) (by simp) hm.1 (c_CHAg (i := 30) hw hEL O2 hzc O4 hfm OA OH OL hm (by omega)) rfl (by simp) rfl (lenOf pd_36 rfl) rfl (W := 0) rfl (by first | decide | (dsimp only; omega)) (by first | decide | (dsimp only; omega)) (by first | decide | (dsimp only; omega)) (by first | decide | (dsimp only; omega)) ?_
  rintro _ _ _ ⟨rfl, rfl, rfl⟩
  refine OWp.bipush hk d_PRE_330 (pc' := 332) rfl (z := 32) rfl ?_
  refine OWp.icmpNo hk d_PRE_332 (XT.ii_ne_f (heq 30 (by decide))) (pc' := 335) rfl ?_
  refine OWp.iconst hk d_PRE_335 (pc' := 336) rfl (z := 1) rfl ?_
  refine OWp.goto hk d_PRE_336 (by decide) (pc' := 340) rfl ?_
  exact OWp.retN hk (Or.inl rfl) d_PRE_340 ⟨rfl, rfl, rfl⟩ (List.Sublist.refl _) (fun _ h => h) (by decide) (by decide)
--CUT
set_option maxRecDepth 65536 in
theorem c_RF (hl : l.stackTraces = true) {u1 u2 : Value} (hu1 : u1.isRef = true) (hu2 : u2.isRef = true) (SU : Sta Z Z.heap "java/lang/Throwable" "UNASSIGNED_STACK" "[Ljava/lang/StackTraceElement;" u1) (SS : Sta Z Z.heap "java/lang/Throwable" "SUPPRESSED_SENTINEL" "Ljava/util/List;" u2) (hw : ∀ d ∈ tables_1, d.before a0 Z = true) (hEL : EW Z a0 EL) (O2 : Sta Z Z.heap "java/lang/String" "COMPACT_STRINGS" "Z" (.int zc)) (hzc : ¬ zc = 0) (O4 : Sta Z Z.heap "jdk/internal/util/Preconditions" "SIOOBE_FORMATTER" "Ljava/util/function/BiFunction;" fm) (hfm : fm.isRef = true) (OA : Sta Z Z.heap "java/lang/StringUTF16" "$assertionsDisabled" "Z" (.int 1)) (OH : Sta Z Z.heap "java/lang/StringUTF16" "HI_BYTE_SHIFT" "I" (.int 0)) (OL : Sta Z Z.heap "java/lang/StringUTF16" "LO_BYTE_SHIFT" "I" (.int 8)) (hm1 : ("com/example/tannoy/tannoy/internal/Handler", 58) ∈ EL) (hm2 : ("com/example/tannoy/tannoy/internal/Handler", 64) ∈ EL) (hs : SC Z st cx cst cs) (h2 : cs.length ≤ 2) (hd : SC Z dt cdx cdt ds) (h2' : ds.length ≤ 2) :
    OConK l Z EL (⟨"com/example/tannoy/tannoy/internal/Handler", "refusedFunction", "(Ljava/lang/String;Ljava/lang/String;)Ljava/lang/IllegalArgumentException;"⟩ : MethodName) prog_16_method_3_code 2 (some (.object "java/lang/IllegalArgumentException")) [] ({ frames := 10, cells := 18, slots := 4600, locals := 160 } : Room) #[.ref sx, .ref dx] [] [(sx, cx), (st, cst), (dx, cdx), (dt, cdt)]
      (fun v M N => M = [] ∧ ∃ ea ce y u cy cu, v = some (.ref ea) ∧ N = [(ea, ce), (y, cy), (u, cu)] ∧ EC Z ce "java/lang/IllegalArgumentException" ∧ FC Z ce "java/lang/Throwable" "detailMessage" "Ljava/lang/String;" (.ref y) ∧ SC Z u cy cu (allL cs ds)) := by
  refine OConK.of_wp (L0 := [.val (.ref sx), .val (.ref dx)]) pn_RF hEL (fun m => by first | (simp [entryFrame, mkF, argsToLocals, Value.category]; done) | rfl) ?_
  intro p e s m below meth c hk hTK hBl hE0
  have lP : litP.length = 31 := rfl
  have lM : litM.length = 5 := rfl
  refine OWp.newX hk d_RF_0 (pc' := 3) rfl (hw _ (List.mem_of_getElem? (i := 42) rfl)) (hw _ (List.mem_of_getElem? (i := 43) rfl)) (hw _ (List.mem_of_getElem? (i := 44) rfl)) (by decide) (by decide) ?_
  intro ea ce hUe hEe hDe
  have Fb : FC Z ce "java/lang/Throwable" "backtrace" "Ljava/lang/Object;" .null := hDe (Or.inl (hw _ (List.mem_of_getElem? (i := 228) rfl))) (ty := .object "java/lang/Object") (by decide)
  have Fc : FC Z ce "java/lang/Throwable" "cause" "Ljava/lang/Throwable;" .null := hDe (Or.inl (hw _ (List.mem_of_getElem? (i := 197) rfl))) (ty := .object "java/lang/Throwable") (by decide)
  have Fs : FC Z ce "java/lang/Throwable" "stackTrace" "[Ljava/lang/StackTraceElement;" .null := hDe (Or.inl (hw _ (List.mem_of_getElem? (i := 200) rfl))) (ty := .array (.object "java/lang/StackTraceElement")) (by decide)
  have Fp : FC Z ce "java/lang/Throwable" "suppressedExceptions" "Ljava/util/List;" .null := hDe (Or.inl (hw _ (List.mem_of_getElem? (i := 203) rfl))) (ty := .object "java/util/List") (by decide)
  refine OWp.dup hk d_RF_3 (pc' := 4) rfl rfl ?_
  refine OWp.new hk d_RF_4 (pc' := 7) rfl (hw _ (List.mem_of_getElem? (i := 45) rfl)) (hw _ (List.mem_of_getElem? (i := 46) rfl)) (hw _ (List.mem_of_getElem? (i := 47) rfl)) (by decide) (by decide) ?_
  intro sb csb hE hD0
  have F0 : FC Z csb "java/lang/AbstractStringBuilder" "value" "[B" .null := hD0 (Or.inl (hw _ (List.mem_of_getElem? (i := 60) rfl))) (ty := .array .byte) (by decide)
  have F1 : FC Z csb "java/lang/AbstractStringBuilder" "coder" "B" (.int 0) := hD0 (Or.inl (hw _ (List.mem_of_getElem? (i := 62) rfl))) (ty := .byte) (by decide)
  have F2 : FC Z csb "java/lang/AbstractStringBuilder" "count" "I" (.int 0) := hD0 (Or.inl (hw _ (List.mem_of_getElem? (i := 85) rfl))) (ty := .int) (by decide)
  have F3 : FC Z csb "java/lang/AbstractStringBuilder" "maybeLatin1" "Z" (.int 0) := hD0 (Or.inl (hw _ (List.mem_of_getElem? (i := 319) rfl))) (ty := .boolean) (by decide)
  refine OWp.dup hk d_RF_7 (pc' := 8) rfl rfl ?_
  refine OWp.callI hk d_RF_8 (pc' := 11) rfl rfl (hw _ (List.mem_of_getElem? (i := 48) rfl)) (hw _ (List.mem_of_getElem? (i := 49) rfl)) (hw _ (List.mem_of_getElem? (i := 47) rfl)) (hw _ (List.mem_of_getElem? (i := 50) rfl)) (by decide) (c_SB0 hw hEL O2 hzc hE F0 F1 F2 F3) rfl (by simp) rfl (lenOf pd_32 rfl) rfl (W := 3) rfl (by first | decide | (dsimp only; omega)) (by first | decide | (dsimp only; omega)) (by first | decide | (dsimp only; omega)) (by first | decide | (dsimp only; omega)) ?_
  rintro _ _ _ ⟨rfl, rfl, csb1, t1, ct1, rfl, hB1⟩
  refine OWp.ldcS hk d_RF_11 (pc' := 13) rfl (hw _ (List.mem_of_getElem? (i := 63) rfl)) (str_atoms hw) hm1 (vs := oBytes litP) ⟨by decide +kernel, by decide +kernel⟩ (by decide +kernel) (n := 124) (by decide) (by decide) (by decide) (by decide) ?_
  intro a1 b1 ca1 cb1 hE1 hC1 hV1 hA1
  have hS1 : SC Z b1 ca1 cb1 litP := sc_lit hE1 hC1 hV1 hA1 (by decide) ⟨by decide, by decide⟩
  refine OWp.callV hk d_RF_13 (pc' := 16) rfl (hw _ (List.mem_of_getElem? (i := 64) rfl)) (hw _ (List.mem_of_getElem? (i := 65) rfl)) (nfs (hw _ (List.mem_of_getElem? (i := 67) rfl))) (hw _ (List.mem_of_getElem? (i := 67) rfl)) (hw _ (List.mem_of_getElem? (i := 66) rfl)) (hw _ (List.mem_of_getElem? (i := 47) rfl)) (hw _ (List.mem_of_getElem? (i := 68) rfl)) (by decide) (by simp) hB1.1.1.1 (c_SAPg (n := 34) hw hEL O2 hzc O4 hfm OA OH OL hB1 hS1 (by decide) (by decide) (by decide)) rfl (by simp) rfl (lenOf pd_37 rfl) rfl (W := 2) rfl (by first | decide | (dsimp only; omega)) (by first | decide | (dsimp only; omega)) (by first | decide | (dsimp only; omega)) (by first | decide | (dsimp only; omega)) ?_
  rintro _ _ _ ⟨rfl, rfl, csb2, t2, ct2, rfl, hB2⟩
  rw [List.nil_append] at hB2
  refine OWp.aload_n hk d_RF_16 (pc' := 17) rfl rfl rfl ?_
  refine OWp.callV hk d_RF_17 (pc' := 20) rfl (hw _ (List.mem_of_getElem? (i := 64) rfl)) (hw _ (List.mem_of_getElem? (i := 65) rfl)) (nfs (hw _ (List.mem_of_getElem? (i := 67) rfl))) (hw _ (List.mem_of_getElem? (i := 67) rfl)) (hw _ (List.mem_of_getElem? (i := 66) rfl)) (hw _ (List.mem_of_getElem? (i := 47) rfl)) (hw _ (List.mem_of_getElem? (i := 68) rfl)) (by decide) (by simp) hB2.1.1.1 (c_SAPg (n := 34) hw hEL O2 hzc O4 hfm OA OH OL hB2 hs (if_pos (by omega)) (by decide) (by decide)) rfl (by simp) rfl (lenOf pd_37 rfl) rfl (W := 2) rfl (by first | decide | (dsimp only; omega)) (by first | decide | (dsimp only; omega)) (by first | decide | (dsimp only; omega)) (by first | decide | (dsimp only; omega)) ?_
  rintro _ _ _ ⟨rfl, rfl, csb3, t3, ct3, rfl, hB3⟩
  refine OWp.ldcS hk d_RF_20 (pc' := 22) rfl (hw _ (List.mem_of_getElem? (i := 134) rfl)) (str_atoms hw) hm2 (vs := oBytes litM) ⟨by decide +kernel, by decide +kernel⟩ (by decide +kernel) (n := 20) (by decide) (by decide) (by decide) (by decide) ?_
  intro a4 b4 ca4 cb4 hE4 hC4 hV4 hA4
  have hS4 : SC Z b4 ca4 cb4 litM := sc_lit hE4 hC4 hV4 hA4 (by decide) ⟨by decide, by decide⟩
  refine OWp.callV hk d_RF_22 (pc' := 25) rfl (hw _ (List.mem_of_getElem? (i := 64) rfl)) (hw _ (List.mem_of_getElem? (i := 65) rfl)) (nfs (hw _ (List.mem_of_getElem? (i := 67) rfl))) (hw _ (List.mem_of_getElem? (i := 67) rfl)) (hw _ (List.mem_of_getElem? (i := 66) rfl)) (hw _ (List.mem_of_getElem? (i := 47) rfl)) (hw _ (List.mem_of_getElem? (i := 68) rfl)) (by decide) (by simp) hB3.1.1.1 (c_SAPg (n := 70) hw hEL O2 hzc O4 hfm OA OH OL hB3 hS4 (by rw [List.length_append]; unfold grow; rw [if_neg (by omega), if_pos (by omega)]) (by decide) (by decide)) rfl (by simp) rfl (lenOf pd_37 rfl) rfl (W := 2) rfl (by first | decide | (dsimp only; omega)) (by first | decide | (dsimp only; omega)) (by first | decide | (dsimp only; omega)) (by first | decide | (dsimp only; omega)) ?_
  rintro _ _ _ ⟨rfl, rfl, csb5, t5, ct5, rfl, hB5⟩
  refine OWp.aload_n hk d_RF_25 (pc' := 26) rfl rfl rfl ?_
  refine OWp.callV hk d_RF_26 (pc' := 29) rfl (hw _ (List.mem_of_getElem? (i := 64) rfl)) (hw _ (List.mem_of_getElem? (i := 65) rfl)) (nfs (hw _ (List.mem_of_getElem? (i := 67) rfl))) (hw _ (List.mem_of_getElem? (i := 67) rfl)) (hw _ (List.mem_of_getElem? (i := 66) rfl)) (hw _ (List.mem_of_getElem? (i := 47) rfl)) (hw _ (List.mem_of_getElem? (i := 68) rfl)) (by decide) (by simp) hB5.1.1.1 (c_SAPg (n := 70) hw hEL O2 hzc O4 hfm OA OH OL hB5 hd (if_pos (by rw [List.length_append, List.length_append]; omega)) (by decide) (by decide)) rfl (by simp) rfl (lenOf pd_37 rfl) rfl (W := 2) rfl (by first | decide | (dsimp only; omega)) (by first | decide | (dsimp only; omega)) (by first | decide | (dsimp only; omega)) (by first | decide | (dsimp only; omega)) ?_
  rintro _ _ _ ⟨rfl, rfl, csb6, t6, ct6, rfl, hB6⟩
  have hB7 : SBX Z t6 csb6 ct6 (allL cs ds) 70 := hB6
  have l7 := all_len cs ds
  refine OWp.callV hk d_RF_29 (pc' := 32) rfl (hw _ (List.mem_of_getElem? (i := 135) rfl)) (hw _ (List.mem_of_getElem? (i := 136) rfl)) (nfs (hw _ (List.mem_of_getElem? (i := 138) rfl))) (hw _ (List.mem_of_getElem? (i := 138) rfl)) (hw _ (List.mem_of_getElem? (i := 137) rfl)) (hw _ (List.mem_of_getElem? (i := 47) rfl)) (hw _ (List.mem_of_getElem? (i := 139) rfl)) (by decide) (by simp) hB7.1.1.1 (c_TSg hw hEL O2 hzc hB7 (by omega) (by show _ ≤ 80; omega)) rfl (by simp) rfl (lenOf pd_38 rfl) rfl (W := 2) rfl (by first | decide | (dsimp only; omega)) (by first | decide | (dsimp only; omega)) (by first | decide | (dsimp only; omega)) (by first | decide | (dsimp only; omega)) ?_
  rintro _ _ _ ⟨rfl, y, u, cy, cu, rfl, rfl, hS⟩
  refine OWp.perm (M' := [(ea, ce), (sb, csb6), (t6, ct6)]) ((List.Perm.swap ..).trans ((List.Perm.swap ..).cons _)) ?_
  refine OWp.callIK hTK hBl hk d_RF_32 (pc' := 35) rfl rfl (hw _ (List.mem_of_getElem? (i := 174) rfl)) (hw _ (List.mem_of_getElem? (i := 175) rfl)) (hw _ (List.mem_of_getElem? (i := 44) rfl)) (hw _ (List.mem_of_getElem? (i := 176) rfl)) (by decide) (c_II hl hw hEL hu1 hu2 SU SS hEe hUe Fc Fs Fp Fb) rfl (by simp) rfl (lenOf pd_16 rfl) rfl (W := 1) rfl (by first | decide | (dsimp only; omega)) (by first | decide | (dsimp only; omega)) (by first | decide | (dsimp only; omega)) (by first | decide | (dsimp only; omega)) ?_
  rintro _ _ _ ⟨rfl, rfl, ce2, rfl, hEe2, hM2⟩
  exact OWp.retA hk rfl rfl rfl d_RF_35 (M' := []) (N' := [(ea, ce2), (y, cy), (u, cu)]) ⟨rfl, ea, ce2, y, u, cy, cu, rfl, rfl, hEe2, hM2, hS⟩ (List.nil_sublist _) (by simp) (by decide) (by decide)
end Own
section Know
theorem knows_m {vm : Vm} {m : MethodId} (h : methodKnown vm m = true) : vm.knowsMethod m := by
  unfold methodKnown at h
  split at h
  · rename_i k hk
    exact ⟨k, hk, fun cf hcf => by simpa [hcf] using h⟩
  · cases h
theorem knows_t {s : State} (h : tablesKnown s = true) : s.vm.MethodsKnown := fun m x hm => by
  obtain ⟨k, hk, hx⟩ := Option.bind_eq_some_iff.mp (show (s.vm.classes[m.cls]?).bind (fun k => k.methods[m.idx]?) = some x from hm)
  refine ⟨k, hk, fun cf hcf => ?_⟩
  have h1 := Array.all_eq_true_iff_forall_mem.mp h k (Array.mem_of_getElem? hk)
  simp only [hcf, beq_iff_eq] at h1
  have hlt := (Array.getElem?_eq_some_iff.mp hx).1
  rw [h1] at hlt
  simp [hlt]
theorem knows_f {s : State} {m : MethodId} {args : Array Value} {below : List Frame} (h : framesKnown s = true) (hf : s.frames = .invoking m args :: below) : s.vm.FramesKnown below := fun y hy m' hm' => by
  unfold framesKnown at h
  rw [hf] at h
  have h1 := List.all_eq_true.mp h y (List.mem_cons_of_mem _ hy)
  cases y <;> first | (cases hm'; exact knows_m h1) | cases hm'
end Know
section Law
variable {l : Launch} {Z : State} {a0 : Array Value} {EL : List (String × Nat)} {zc : Int32} {fm : Value}
set_option maxRecDepth 65536 in
theorem c_law (hw : ∀ d ∈ tables_1, d.before a0 Z = true) (hEL : EW Z a0 EL) (hl : l.stackTraces = true) {u1 u2 : Value} (hu1 : u1.isRef = true) (hu2 : u2.isRef = true) (SU : Sta Z Z.heap "java/lang/Throwable" "UNASSIGNED_STACK" "[Ljava/lang/StackTraceElement;" u1) (SS : Sta Z Z.heap "java/lang/Throwable" "SUPPRESSED_SENTINEL" "Ljava/util/List;" u2) (O2 : Sta Z Z.heap "java/lang/String" "COMPACT_STRINGS" "Z" (.int zc)) (hzc : ¬ zc = 0) (O4 : Sta Z Z.heap "jdk/internal/util/Preconditions" "SIOOBE_FORMATTER" "Ljava/util/function/BiFunction;" fm) (hfm : fm.isRef = true) (OA : Sta Z Z.heap "java/lang/StringUTF16" "$assertionsDisabled" "Z" (.int 1)) (OH : Sta Z Z.heap "java/lang/StringUTF16" "HI_BYTE_SHIFT" "I" (.int 0)) (OL : Sta Z Z.heap "java/lang/StringUTF16" "LO_BYTE_SHIFT" "I" (.int 8)) (hm0 : ("java/lang/String", 7) ∈ EL) (hm1 : ("com/example/tannoy/tannoy/internal/Handler", 58) ∈ EL) (hm2 : ("com/example/tannoy/tannoy/internal/Handler", 64) ∈ EL) (p0 p1 p2 : Int32) :
    OConK l Z EL x code maxLocals ret tables_1 room_1 #[.int p0, .int p1, .int p2] [] [] (fun v M N => v = some (.int 1)) := by
  refine OConK.of_wp (L0 := [.val (.int p0), .val (.int p1), .val (.int p2), .unset, .unset, .unset, .unset, .unset, .unset, .unset]) pn_law hEL (fun m => by first | (simp [entryFrame, mkF, argsToLocals, Value.category]; done) | rfl) ?_
  intro p e s m below meth c hk hTK hBl hE0
  obtain ⟨a, ha, ea⟩ := rem3 p2
  obtain ⟨b, hb', eb⟩ := rem3 (XT.ushr p2 2)
  refine OWp.iload_n hk at_0 (pc' := 1) rfl rfl ?_
  refine OWp.iconst hk at_1 (pc' := 2) rfl (z := 3) rfl ?_
  refine OWp.iand hk at_2 (pc' := 3) rfl ?_
  refine OWp.iconst hk at_3 (pc' := 4) rfl (z := 3) rfl ?_
  refine OWp.irem hk at_4 (pc' := 5) rfl (by decide) ?_
  refine OWp.istore_n hk at_5 (pc' := 6) rfl (kn := 3) rfl rfl (by simp only [List.set_cons_zero, List.set_cons_succ]; rfl) ?_
  refine OWp.iload_n hk at_6 (pc' := 7) rfl rfl ?_
  refine OWp.iconst hk at_7 (pc' := 8) rfl (z := 2) rfl ?_
  refine OWp.iushr hk at_8 (pc' := 9) rfl ?_
  refine OWp.iconst hk at_9 (pc' := 10) rfl (z := 3) rfl ?_
  refine OWp.iand hk at_10 (pc' := 11) rfl ?_
  refine OWp.iconst hk at_11 (pc' := 12) rfl (z := 3) rfl ?_
  refine OWp.irem hk at_12 (pc' := 13) rfl (by decide) ?_
  refine OWp.istore hk at_13 (pc' := 15) rfl rfl (by simp only [List.set_cons_zero, List.set_cons_succ]; rfl) ?_
  refine OWp.iload_n hk at_15 (pc' := 16) rfl rfl ?_
  refine OWp.iload_n hk at_16 (pc' := 17) rfl rfl ?_
  rw [ea, eb]
  refine OWp.callS hk at_17 (pc' := 20) rfl (hw _ (List.mem_of_getElem? (i := 0) rfl)) (hw _ (List.mem_of_getElem? (i := 1) rfl)) (hw _ (List.mem_of_getElem? (i := 2) rfl)) (hw _ (List.mem_of_getElem? (i := 3) rfl)) (by decide) (c_STR (n := a) hw hEL O2 hzc O4 hfm OA OH OL hm0 p0 ha) rfl (by simp) rfl (lenOf pd_39 rfl) rfl (W := 0) rfl (by first | decide | (dsimp only; omega)) (by first | decide | (dsimp only; omega)) (by first | decide | (dsimp only; omega)) (by first | decide | (dsimp only; omega)) ?_
  rintro _ _ _ ⟨rfl, sx, st, cx, cst, cs, rfl, rfl, hs, rfl⟩
  refine OWp.astore hk at_20 (pc' := 22) rfl rfl rfl (by simp only [List.set_cons_zero, List.set_cons_succ]; rfl) ?_
  refine OWp.iload_n hk at_22 (pc' := 23) rfl rfl ?_
  refine OWp.iload hk at_23 (pc' := 25) rfl rfl ?_
  refine OWp.callS hk at_25 (pc' := 28) rfl (hw _ (List.mem_of_getElem? (i := 0) rfl)) (hw _ (List.mem_of_getElem? (i := 1) rfl)) (hw _ (List.mem_of_getElem? (i := 2) rfl)) (hw _ (List.mem_of_getElem? (i := 3) rfl)) (by decide) (c_STR (n := b) hw hEL O2 hzc O4 hfm OA OH OL hm0 p1 hb') rfl (by simp) rfl (lenOf pd_39 rfl) rfl (W := 0) rfl (by first | decide | (dsimp only; omega)) (by first | decide | (dsimp only; omega)) (by first | decide | (dsimp only; omega)) (by first | decide | (dsimp only; omega)) ?_
  rintro _ _ _ ⟨rfl, dx, dt, cdx, cdt, ds, rfl, rfl, hd, rfl⟩
  refine OWp.astore hk at_28 (pc' := 30) rfl rfl rfl (by simp only [List.set_cons_zero, List.set_cons_succ]; rfl) ?_
  refine OWp.aload hk at_30 (pc' := 32) rfl rfl rfl ?_
  refine OWp.aload hk at_32 (pc' := 34) rfl rfl rfl ?_
  refine OWp.callSK hTK hBl hk at_34 (pc' := 37) rfl (hw _ (List.mem_of_getElem? (i := 38) rfl)) (hw _ (List.mem_of_getElem? (i := 39) rfl)) (hw _ (List.mem_of_getElem? (i := 40) rfl)) (hw _ (List.mem_of_getElem? (i := 41) rfl)) (by decide) (c_RF hl hu1 hu2 SU SS hw hEL O2 hzc O4 hfm OA OH OL hm1 hm2 hs ha hd hb') rfl (by simp) rfl (lenOf pd_40 rfl) rfl (W := 0) rfl (by first | decide | (dsimp only; omega)) (by first | decide | (dsimp only; omega)) (by first | decide | (dsimp only; omega)) (by first | decide | (dsimp only; omega)) ?_
  rintro _ _ _ ⟨rfl, xa, ce, y, u, cy, cu, rfl, rfl, hEx, hM, hS⟩
  have hL := all_len cs ds
  refine OWp.astore hk at_37 (pc' := 39) rfl rfl rfl (by simp only [List.set_cons_zero, List.set_cons_succ]; rfl) ?_
  refine OWp.aload hk at_39 (pc' := 41) rfl rfl rfl ?_
  refine OWp.nonnullYes hk at_41 (by decide) (pc' := 46) rfl ?_
  refine OWp.aload hk at_46 (pc' := 48) rfl rfl rfl ?_
  refine OWp.callVU hk at_48 (pc' := 51) rfl (hw _ (List.mem_of_getElem? (i := 232) rfl)) (hw _ (List.mem_of_getElem? (i := 233) rfl)) (hw _ (List.mem_of_getElem? (i := 234) rfl)) (by decide) (hw _ (List.mem_of_getElem? (i := 236) rfl)) (hw _ (List.mem_of_getElem? (i := 235) rfl)) (hw _ (List.mem_of_getElem? (i := 193) rfl)) (hw _ (List.mem_of_getElem? (i := 237) rfl)) (by simp) hEx (c_GM hw hEL hEx hM) rfl (by simp) rfl (lenOf pd_38 rfl) rfl (W := 0) rfl (by first | decide | (dsimp only; omega)) (by first | decide | (dsimp only; omega)) (by first | decide | (dsimp only; omega)) (by first | decide | (dsimp only; omega)) ?_
  rintro _ _ _ ⟨rfl, rfl, rfl⟩
  refine OWp.astore hk at_51 (pc' := 53) rfl rfl rfl (by simp only [List.set_cons_zero, List.set_cons_succ]; rfl) ?_
  refine OWp.aload hk at_53 (pc' := 55) rfl rfl rfl ?_
  refine OWp.nullNo hk at_55 (pc' := 58) rfl ?_
  refine OWp.aload hk at_58 (pc' := 60) rfl rfl rfl ?_
  refine OWp.callV hk at_60 (pc' := 63) rfl (hw _ (List.mem_of_getElem? (i := 238) rfl)) (hw _ (List.mem_of_getElem? (i := 75) rfl)) (nfs (hw _ (List.mem_of_getElem? (i := 77) rfl))) (hw _ (List.mem_of_getElem? (i := 77) rfl)) (hw _ (List.mem_of_getElem? (i := 76) rfl)) (hw _ (List.mem_of_getElem? (i := 7) rfl)) (hw _ (List.mem_of_getElem? (i := 78) rfl)) (by decide) (by simp) hS.1 (c_LEN hw hEL O2 hzc hS) rfl (by simp) rfl (lenOf pd_18 rfl) rfl (W := 0) rfl (by first | decide | (dsimp only; omega)) (by first | decide | (dsimp only; omega)) (by first | decide | (dsimp only; omega)) (by first | decide | (dsimp only; omega)) ?_
  rintro _ _ _ ⟨rfl, rfl, rfl⟩
  refine OWp.bipush hk at_63 (pc' := 65) rfl (z := 36) rfl ?_
  refine OWp.iload_n hk at_65 (pc' := 66) rfl rfl ?_
  refine OWp.iadd hk at_66 (pc' := 67) rfl ?_
  refine OWp.iload hk at_67 (pc' := 69) rfl rfl ?_
  refine OWp.iadd hk at_69 (pc' := 70) rfl ?_
  rw [show (36 : Int32) = Int32.ofNat 36 from rfl, n_add, n_add]
  refine OWp.icmpYes hk at_70 (XT.ii_eq_t (by rw [hL])) (by decide) (pc' := 75) rfl ?_
  refine OWp.bipush hk at_75 (pc' := 77) rfl (z := 31) rfl ?_
  refine OWp.iload_n hk at_77 (pc' := 78) rfl rfl ?_
  refine OWp.iadd hk at_78 (pc' := 79) rfl ?_
  rw [show (31 : Int32) = Int32.ofNat 31 from rfl, n_add]
  refine OWp.istore hk at_79 (pc' := 81) rfl rfl (by simp only [List.set_cons_zero, List.set_cons_succ]; rfl) ?_
  refine OWp.aload hk at_81 (pc' := 83) rfl rfl rfl ?_
  refine OWp.callS hk at_83 (pc' := 86) rfl (hw _ (List.mem_of_getElem? (i := 239) rfl)) (hw _ (List.mem_of_getElem? (i := 240) rfl)) (hw _ (List.mem_of_getElem? (i := 2) rfl)) (hw _ (List.mem_of_getElem? (i := 241) rfl)) (by decide) (c_PRE hw hEL O2 hzc O4 hfm OA OH OL hS (by omega) (fun j hj => pre_get hj)) rfl (by simp) rfl (lenOf pd_41 rfl) rfl (W := 0) rfl (by first | decide | (dsimp only; omega)) (by first | decide | (dsimp only; omega)) (by first | decide | (dsimp only; omega)) (by first | decide | (dsimp only; omega)) ?_
  rintro _ _ _ ⟨rfl, rfl, rfl⟩
  refine OWp.ifNo hk at_86 (XT.i0_eq_f (by decide)) (pc' := 89) rfl ?_
  refine OWp.aload hk at_89 (pc' := 91) rfl rfl rfl ?_
  refine OWp.bipush hk at_91 (pc' := 93) rfl (z := 31) rfl ?_
  refine OWp.aload hk at_93 (pc' := 95) rfl rfl rfl ?_
  refine OWp.callS hk at_95 (pc' := 98) rfl (hw _ (List.mem_of_getElem? (i := 264) rfl)) (hw _ (List.mem_of_getElem? (i := 265) rfl)) (hw _ (List.mem_of_getElem? (i := 2) rfl)) (hw _ (List.mem_of_getElem? (i := 266) rfl)) (by decide) (c_PAT (k := 31) hw hEL O2 hzc O4 hfm OA OH OL hS hs (by omega) ha (fun j hj => s_get hj)) rfl (by simp) rfl (lenOf pd_42 rfl) rfl (W := 0) rfl (by first | decide | (dsimp only; omega)) (by first | decide | (dsimp only; omega)) (by first | decide | (dsimp only; omega)) (by first | decide | (dsimp only; omega)) ?_
  rintro _ _ _ ⟨rfl, rfl, rfl⟩
  refine OWp.ifNo hk at_98 (XT.i0_eq_f (by decide)) (pc' := 101) rfl ?_
  refine OWp.aload hk at_101 (pc' := 103) rfl rfl rfl ?_
  refine OWp.iload hk at_103 (pc' := 105) rfl rfl ?_
  refine OWp.callV hk at_105 (pc' := 108) rfl (hw _ (List.mem_of_getElem? (i := 242) rfl)) (hw _ (List.mem_of_getElem? (i := 243) rfl)) (nfs (hw _ (List.mem_of_getElem? (i := 245) rfl))) (hw _ (List.mem_of_getElem? (i := 245) rfl)) (hw _ (List.mem_of_getElem? (i := 244) rfl)) (hw _ (List.mem_of_getElem? (i := 7) rfl)) (hw _ (List.mem_of_getElem? (i := 246) rfl)) (by decide) (by simp) hS.1 (c_CHAg (i := 31 + cs.length) hw hEL O2 hzc O4 hfm OA OH OL hS (by omega)) rfl (by simp) rfl (lenOf pd_36 rfl) rfl (W := 0) rfl (by first | decide | (dsimp only; omega)) (by first | decide | (dsimp only; omega)) (by first | decide | (dsimp only; omega)) (by first | decide | (dsimp only; omega)) ?_
  rintro _ _ _ ⟨rfl, rfl, rfl⟩
  refine OWp.bipush hk at_108 (pc' := 110) rfl (z := 58) rfl ?_
  refine OWp.icmpNo hk at_110 (XT.ii_ne_f (mid_get (j := 0) (by decide))) (pc' := 113) rfl ?_
  refine OWp.aload hk at_113 (pc' := 115) rfl rfl rfl ?_
  refine OWp.iload hk at_115 (pc' := 117) rfl rfl ?_
  refine OWp.iconst hk at_117 (pc' := 118) rfl (z := 1) rfl ?_
  refine OWp.iadd hk at_118 (pc' := 119) rfl ?_
  rw [show (1 : Int32) = Int32.ofNat 1 from rfl, n_add]
  refine OWp.callV hk at_119 (pc' := 122) rfl (hw _ (List.mem_of_getElem? (i := 242) rfl)) (hw _ (List.mem_of_getElem? (i := 243) rfl)) (nfs (hw _ (List.mem_of_getElem? (i := 245) rfl))) (hw _ (List.mem_of_getElem? (i := 245) rfl)) (hw _ (List.mem_of_getElem? (i := 244) rfl)) (hw _ (List.mem_of_getElem? (i := 7) rfl)) (hw _ (List.mem_of_getElem? (i := 246) rfl)) (by decide) (by simp) hS.1 (c_CHAg (i := 31 + cs.length + 1) hw hEL O2 hzc O4 hfm OA OH OL hS (by omega)) rfl (by simp) rfl (lenOf pd_36 rfl) rfl (W := 0) rfl (by first | decide | (dsimp only; omega)) (by first | decide | (dsimp only; omega)) (by first | decide | (dsimp only; omega)) (by first | decide | (dsimp only; omega)) ?_
  rintro _ _ _ ⟨rfl, rfl, rfl⟩
  refine OWp.bipush hk at_122 (pc' := 124) rfl (z := 32) rfl ?_
  refine OWp.icmpNo hk at_124 (XT.ii_ne_f (mid_get (j := 1) (by decide))) (pc' := 127) rfl ?_
  refine OWp.aload hk at_127 (pc' := 129) rfl rfl rfl ?_
  refine OWp.iload hk at_129 (pc' := 131) rfl rfl ?_
  refine OWp.iconst hk at_131 (pc' := 132) rfl (z := 2) rfl ?_
  refine OWp.iadd hk at_132 (pc' := 133) rfl ?_
  rw [show (2 : Int32) = Int32.ofNat 2 from rfl, n_add]
  refine OWp.callV hk at_133 (pc' := 136) rfl (hw _ (List.mem_of_getElem? (i := 242) rfl)) (hw _ (List.mem_of_getElem? (i := 243) rfl)) (nfs (hw _ (List.mem_of_getElem? (i := 245) rfl))) (hw _ (List.mem_of_getElem? (i := 245) rfl)) (hw _ (List.mem_of_getElem? (i := 244) rfl)) (hw _ (List.mem_of_getElem? (i := 7) rfl)) (hw _ (List.mem_of_getElem? (i := 246) rfl)) (by decide) (by simp) hS.1 (c_CHAg (i := 31 + cs.length + 2) hw hEL O2 hzc O4 hfm OA OH OL hS (by omega)) rfl (by simp) rfl (lenOf pd_36 rfl) rfl (W := 0) rfl (by first | decide | (dsimp only; omega)) (by first | decide | (dsimp only; omega)) (by first | decide | (dsimp only; omega)) (by first | decide | (dsimp only; omega)) ?_
  rintro _ _ _ ⟨rfl, rfl, rfl⟩
  refine OWp.bipush hk at_136 (pc' := 138) rfl (z := 105) rfl ?_
  refine OWp.icmpNo hk at_138 (XT.ii_ne_f (mid_get (j := 2) (by decide))) (pc' := 141) rfl ?_
  refine OWp.aload hk at_141 (pc' := 143) rfl rfl rfl ?_
  refine OWp.iload hk at_143 (pc' := 145) rfl rfl ?_
  refine OWp.iconst hk at_145 (pc' := 146) rfl (z := 3) rfl ?_
  refine OWp.iadd hk at_146 (pc' := 147) rfl ?_
  rw [show (3 : Int32) = Int32.ofNat 3 from rfl, n_add]
  refine OWp.callV hk at_147 (pc' := 150) rfl (hw _ (List.mem_of_getElem? (i := 242) rfl)) (hw _ (List.mem_of_getElem? (i := 243) rfl)) (nfs (hw _ (List.mem_of_getElem? (i := 245) rfl))) (hw _ (List.mem_of_getElem? (i := 245) rfl)) (hw _ (List.mem_of_getElem? (i := 244) rfl)) (hw _ (List.mem_of_getElem? (i := 7) rfl)) (hw _ (List.mem_of_getElem? (i := 246) rfl)) (by decide) (by simp) hS.1 (c_CHAg (i := 31 + cs.length + 3) hw hEL O2 hzc O4 hfm OA OH OL hS (by omega)) rfl (by simp) rfl (lenOf pd_36 rfl) rfl (W := 0) rfl (by first | decide | (dsimp only; omega)) (by first | decide | (dsimp only; omega)) (by first | decide | (dsimp only; omega)) (by first | decide | (dsimp only; omega)) ?_
  rintro _ _ _ ⟨rfl, rfl, rfl⟩
  refine OWp.bipush hk at_150 (pc' := 152) rfl (z := 116) rfl ?_
  refine OWp.icmpNo hk at_152 (XT.ii_ne_f (mid_get (j := 3) (by decide))) (pc' := 155) rfl ?_
  refine OWp.aload hk at_155 (pc' := 157) rfl rfl rfl ?_
  refine OWp.iload hk at_157 (pc' := 159) rfl rfl ?_
  refine OWp.iconst hk at_159 (pc' := 160) rfl (z := 4) rfl ?_
  refine OWp.iadd hk at_160 (pc' := 161) rfl ?_
  rw [show (4 : Int32) = Int32.ofNat 4 from rfl, n_add]
  refine OWp.callV hk at_161 (pc' := 164) rfl (hw _ (List.mem_of_getElem? (i := 242) rfl)) (hw _ (List.mem_of_getElem? (i := 243) rfl)) (nfs (hw _ (List.mem_of_getElem? (i := 245) rfl))) (hw _ (List.mem_of_getElem? (i := 245) rfl)) (hw _ (List.mem_of_getElem? (i := 244) rfl)) (hw _ (List.mem_of_getElem? (i := 7) rfl)) (hw _ (List.mem_of_getElem? (i := 246) rfl)) (by decide) (by simp) hS.1 (c_CHAg (i := 31 + cs.length + 4) hw hEL O2 hzc O4 hfm OA OH OL hS (by omega)) rfl (by simp) rfl (lenOf pd_36 rfl) rfl (W := 0) rfl (by first | decide | (dsimp only; omega)) (by first | decide | (dsimp only; omega)) (by first | decide | (dsimp only; omega)) (by first | decide | (dsimp only; omega)) ?_
  rintro _ _ _ ⟨rfl, rfl, rfl⟩
  refine OWp.bipush hk at_164 (pc' := 166) rfl (z := 32) rfl ?_
  refine OWp.icmpNo hk at_166 (XT.ii_ne_f (mid_get (j := 4) (by decide))) (pc' := 169) rfl ?_
  refine OWp.aload hk at_169 (pc' := 171) rfl rfl rfl ?_
  refine OWp.iload hk at_171 (pc' := 173) rfl rfl ?_
  refine OWp.iconst hk at_173 (pc' := 174) rfl (z := 5) rfl ?_
  refine OWp.iadd hk at_174 (pc' := 175) rfl ?_
  rw [show (5 : Int32) = Int32.ofNat 5 from rfl, n_add]
  refine OWp.aload hk at_175 (pc' := 177) rfl rfl rfl ?_
  refine OWp.callS hk at_177 (pc' := 180) rfl (hw _ (List.mem_of_getElem? (i := 264) rfl)) (hw _ (List.mem_of_getElem? (i := 265) rfl)) (hw _ (List.mem_of_getElem? (i := 2) rfl)) (hw _ (List.mem_of_getElem? (i := 266) rfl)) (by decide) (c_PAT (k := 31 + cs.length + 5) hw hEL O2 hzc O4 hfm OA OH OL hS hd (by omega) hb' (fun j hj => f_get hj)) rfl (by simp) rfl (lenOf pd_42 rfl) rfl (W := 0) rfl (by first | decide | (dsimp only; omega)) (by first | decide | (dsimp only; omega)) (by first | decide | (dsimp only; omega)) (by first | decide | (dsimp only; omega)) ?_
  rintro _ _ _ ⟨rfl, rfl, rfl⟩
  refine OWp.ifNo hk at_180 (XT.i0_eq_f (by decide)) (pc' := 183) rfl ?_
  refine OWp.iconst hk at_183 (pc' := 184) rfl (z := 1) rfl ?_
  refine OWp.goto hk at_184 (by decide) (pc' := 188) rfl ?_
  exact OWp.retN hk (Or.inl rfl) at_188 (M' := []) (N' := []) rfl (List.nil_sublist _) (by simp) (by decide) (by decide)
set_option maxRecDepth 65536 in
set_option maxHeartbeats 40000000 in
theorem comes_1 {Post : Tables → Env → Array Value → State → Outcome → State → Prop} (hpost : ∀ tb e args s v u, (limb_1_1.after args s (.returned v) u = true ∧ limb_1_2.after args s (.returned v) u = true ∧ True) → ReturnedEndW s (.returned v) u (Jvm.fieldLocs frame_1_writes args s ++ Jvm.arrayLocs frame_1_arrays args s ++ Jvm.staticLocs frame_1_statics s) 48 9408 → Post tb e args s (.returned v) u) :
    ArmFor flags0 classFile x code maxLocals ret World_1 tables_1 room_1 Calls_1 rest_1 Pre_1 Post := by
  intro l hfl _ _ p e ha hc hk s m args below hf hA hF happ hP
  obtain ⟨hcalls, hrest, hpre⟩ := hP
  obtain ⟨-, -, -, hnamed, -, -, -, hat⟩ := (Spec.applies_iff hf).mp happ
  obtain ⟨hg, hn⟩ := and_e (Cond.before_iff.mp (show (Jvm.Cond.and given_1 narrow_1).before args s = true from hpre))
  obtain ⟨g0, r0⟩ := and_e hg
  obtain ⟨q0, r1⟩ := and_e r0
  obtain ⟨q1, r2⟩ := and_e r1
  obtain ⟨w0, w1, w2, rfl⟩ : ∃ w0 w1 w2 : Value, args = #[w0, w1, w2] := by
    have hs : args.size = 3 := by simpa [Cond.value, given_1] using g0
    obtain ⟨L⟩ := args
    match L, hs with
    | [w0, w1, w2], _ => exact ⟨w0, w1, w2, rfl⟩
  have hw := fun d (hd : d ∈ tables_1) => atoms_spec (ws := Jvm.Cond.code x code maxLocals ret :: tables_1) hat d (List.mem_cons_of_mem _ hd)
  obtain ⟨hsets, hown0⟩ := atoms_of _ (rest_1_c_eq ▸ (show rest_1_c.before _ s = true from hrest))
  have hfit : Fit s := fun {y c} hc i hi => by
    obtain ⟨ha, rfl⟩ := Array.getElem?_eq_some_iff.mp hc
    have q := List.all_eq_true.mp ((Array.all_eq_true_iff_forall_mem.mp hF) _ (Array.getElem_mem ha)) i (List.mem_range.mpr hi)
    simpa [Array.getElem?_eq_getElem hi] using q
  obtain ⟨i0, e0⟩ := is_v q0
  obtain rfl : w0 = (.int i0) := Option.some.inj e0
  obtain ⟨i1, e1⟩ := is_v q1
  obtain rfl : w1 = (.int i1) := Option.some.inj e1
  obtain ⟨i2, e2⟩ := is_v r2
  obtain rfl : w2 = (.int i2) := Option.some.inj e2
  obtain ⟨zc, ezc⟩ := is_v (Cond.before_iff.mp (hsets _ (List.mem_of_getElem? (i := 1) rfl)))
  have O2 : Sta s s.heap "java/lang/String" "COMPACT_STRINGS" "Z" (.int zc) := Sta.start ezc (Or.inl (hsets _ (List.mem_of_getElem? (i := 0) rfl)))
  have hzc : ¬ (zc = (0 : Int32)) := gotF (Cond.eq_ints ezc (Term.int_eval (0))) (not_v (Cond.before_iff.mp (hsets _ (List.mem_of_getElem? (i := 2) rfl))))
  obtain ⟨fm, efm, hfm⟩ := isR_v (Cond.before_iff.mp (hsets _ (List.mem_of_getElem? (i := 8) rfl)))
  have O4 : Sta s s.heap "jdk/internal/util/Preconditions" "SIOOBE_FORMATTER" "Ljava/util/function/BiFunction;" fm := Sta.start efm (Or.inl (hsets _ (List.mem_of_getElem? (i := 7) rfl)))
  have OA : Sta s s.heap "java/lang/StringUTF16" "$assertionsDisabled" "Z" (.int 1) := Sta.start (eqv_i (Term.int_eval (1)) (Cond.before_iff.mp (hsets _ (List.mem_of_getElem? (i := 32) rfl)))) (Or.inl (hsets _ (List.mem_of_getElem? (i := 31) rfl)))
  have OH : Sta s s.heap "java/lang/StringUTF16" "HI_BYTE_SHIFT" "I" (.int 0) := Sta.start (eqv_i (Term.int_eval (0)) (Cond.before_iff.mp (hsets _ (List.mem_of_getElem? (i := 35) rfl)))) (Or.inl (hsets _ (List.mem_of_getElem? (i := 34) rfl)))
  have OL : Sta s s.heap "java/lang/StringUTF16" "LO_BYTE_SHIFT" "I" (.int 8) := Sta.start (eqv_i (Term.int_eval (8)) (Cond.before_iff.mp (hsets _ (List.mem_of_getElem? (i := 38) rfl)))) (Or.inl (hsets _ (List.mem_of_getElem? (i := 37) rfl)))
  obtain ⟨u1, eu1, hu1⟩ := isR_v (Cond.before_iff.mp (hsets _ (List.mem_of_getElem? (i := 16) rfl)))
  have SU : Sta s s.heap "java/lang/Throwable" "UNASSIGNED_STACK" "[Ljava/lang/StackTraceElement;" u1 := Sta.start eu1 (Or.inl (hsets _ (List.mem_of_getElem? (i := 15) rfl)))
  obtain ⟨u2, eu2, hu2⟩ := isR_v (Cond.before_iff.mp (hsets _ (List.mem_of_getElem? (i := 21) rfl)))
  have SS : Sta s s.heap "java/lang/Throwable" "SUPPRESSED_SENTINEL" "Ljava/util/List;" u2 := Sta.start eu2 (Or.inl (hsets _ (List.mem_of_getElem? (i := 20) rfl)))
  have hlT : l.stackTraces = true := by unfold Launch.stackTraces; rw [hfl]; decide
  have hEL : EW s #[.int i0, .int i1, .int i2] consts_1 := (EW.cons (hw _ (List.mem_of_getElem? (i := 63) rfl)) (by decide) (EW.cons (hw _ (List.mem_of_getElem? (i := 134) rfl)) (by decide) (EW.cons (hw _ (List.mem_of_getElem? (i := 35) rfl)) (by decide) EW.nil)))
  have hCH : CHv s consts_1 s.vm s.heap := CHv.start hEL (fun p hp => hcalls.2.2.1 p hp) (hsets _ (List.mem_of_getElem? (i := 2) rfl)) (hw _ (List.mem_of_getElem? (i := 24) rfl)) (hw _ (List.mem_of_getElem? (i := 6) rfl))
  have I0 : OInv s consts_1 s.vm s.heap (dom []) s.vm s.heap [] [] [] := ⟨CHr.refl hCH, ext_refl _, fun _ h => (nomatch h), List.nodup_nil, fun _ h => (nomatch h), fun _ h => (nomatch h)⟩
  obtain ⟨n, o, h1, h2, h3, v, L, rfl, ⟨M, N, rfl, -⟩, -, hL, hq⟩ := c_law (l := l) hw hEL hlT hu1 hu2 SU SS O2 hzc O4 hfm OA OH OL (List.mem_of_getElem? (i := 2) rfl) (List.mem_of_getElem? (i := 0) rfl) (List.mem_of_getElem? (i := 1) rfl) i0 i1 i2 p e ha hc hk s m _ below hf ((Spec.applies_iff_loose hf).mp happ).1 ⟨rfl, State.Warmed39.refl s, I0⟩ ⟨knows_t hcalls.2.1, knows_f hcalls.1 hf⟩
  refine ⟨n, _, h1, h2, h3, hpost _ _ _ _ _ _ ⟨Cond.after_iff.mpr rfl, Cond.after_iff.mpr (eq_i res_at (Term.int_eval (1)) rfl), trivial⟩ ⟨hq.1, hq.2.1, hq.2.2.1, (hq.2.2.2.sift fun y hy => Or.inr ((hL y hy).elim id fun z => (nomatch z))).mono (by decide) (by decide)⟩⟩
theorem main_1_1 : Claimed_1_1 := comes_1 fun _ _ _ _ _ _ h hF => ⟨h.1, hF⟩
theorem main_1_2 : Claimed_1_2 := comes_1 fun _ _ _ _ _ _ h hF => ⟨h.2.1, hF⟩
end Law
end Jvm.Pilot.@@N@@
namespace Jvm.Pilot.@@N@@
open Jvm Jvm.ClassFile Sem Op Lib Jvm.Free Jvm.Stand Jvm.Pilot.@@N@@.Jvm.D
/-! MADE BY PROGRAM (witnessworld.py) out of the Statement's table words and the real class files: 43 classes; the members and pool entries that the words name. The judged class is class 1, her method 4. -/
namespace start1
open Jvm.ClassFile
def u (s : String) : CpInfo := .utf8 (stringToUtf16 s)
/-- a pool by its gaps: so many unusable entries, then the entry; so many at the end -/
def gap : Nat → List CpInfo → List CpInfo
  | 0, r => r
  | n + 1, r => .unusable :: gap n r
def poolList (es : List (Nat × CpInfo)) (last : Nat) : List CpInfo := es.foldr (fun e r => gap e.1 (e.2 :: r)) (gap last [])
def pool (es : List (Nat × CpInfo)) (last : Nat) : Array CpInfo := ⟨poolList es last⟩
def fileOf (pool : Array CpInfo) (this : Nat) (attrs : Array Attribute := #[]) (ms : Array MethodInfo := #[]) (fl : Nat := 33) (sup : Nat := 0) (ifs : Array Nat := #[]) (fds : Array FieldInfo := #[]) : ClassFile where
  minorVersion := 0
  majorVersion := 65
  constantPool := pool
  accessFlags := fl
  thisClass := this
  superClass := sup
  interfaces := ifs
  fields := fds
  methods := ms
  attributes := attrs
def plain (name : String) (sup : Option ClassId) : Class where
  name := name
  kind := .ordinary
  loader := none
  accessFlags := 33
  super := sup
  interfaces := #[]
  cf := none
  fields := #[]
  methods := #[]
  instanceTypes := #[]
  staticTypes := #[]
  resolved := #[]
  callSites := []
  init := .initialized
  statics := none
  mirror := none

def pool0 : Array CpInfo := pool [(5, u "<init>"), (0, u "()V"), (1, .class_ 10), (1, u "java/lang/Object")] 113

def k0c0 : Code := { maxStack := 0, maxLocals := 1, code := object_method_1_code, exceptionTable := #[], attributes := #[] }
def k0m0 : Method := { name := "<init>", desc := "()V", sig := { parameters := [], returnType := none }, accessFlags := 1, code := some k0c0 }
/-- java/lang/Object -/
def k0 : Class := { plain "java/lang/Object" none with
  accessFlags := 33
  interfaces := #[]
  cf := some (fileOf pool0 8 #[] #[{ accessFlags := 1, nameIndex := 5, descriptorIndex := 6, attributes := #[] }] 33 0 #[] #[])
  fields := #[]
  methods := #[k0m0]
  instanceTypes := #[]
  staticTypes := #[]
  resolved := Array.replicate 124 none
  statics := none }

def pool1 : Array CpInfo := pool [(2, .class_ 4), (1, u "java/lang/Object"), (0, u "<init>"), (0, u "()V"), (0, .integer 65535), (0, .class_ 9), (0, u "java/lang/String"), (0, .methodref 8 11), (0, .nameAndType 5 12), (0, u "([C)V"), (0, .methodref 8 14), (0, .nameAndType 15 16), (0, u "valueOf"), (0, u "(C)Ljava/lang/String;"), (0, .methodref 8 18), (0, .nameAndType 19 20), (0, u "length"), (0, u "()I"), (0, .methodref 8 22), (0, .nameAndType 23 24), (0, u "charAt"), (0, u "(I)C"), (0, .methodref 26 27), (0, .class_ 28), (0, .nameAndType 29 30), (0, u "com/example/tannoy/tannoy/internal/HandlerRefusedFunctionPinLaw"), (0, u "str"), (0, u "(II)Ljava/lang/String;"), (0, .methodref 32 33), (0, .class_ 34), (0, .nameAndType 35 36), (0, u "com/example/tannoy/tannoy/internal/Handler"), (0, u "refusedFunction"), (0, u "(Ljava/lang/String;Ljava/lang/String;)Ljava/lang/IllegalArgumentException;"), (0, .methodref 38 39), (0, .class_ 40), (0, .nameAndType 41 42), (0, u "java/lang/IllegalArgumentException"), (0, u "getMessage"), (0, u "()Ljava/lang/String;"), (0, .methodref 26 44), (0, .nameAndType 45 46), (0, u "prefixOk"), (0, u "(Ljava/lang/String;)Z"), (0, .methodref 26 48), (0, .nameAndType 49 50), (0, u "partAt"), (0, u "(Ljava/lang/String;ILjava/lang/String;)Z"), (3, u "law"), (0, u "(III)Z")] 2

def k1m0 : Method := { name := "<init>", desc := "()V", sig := { parameters := [], returnType := none }, accessFlags := 1, code := none }
def k1c1 : Code := { maxStack := 6, maxLocals := 4, code := method_2_code, exceptionTable := #[], attributes := #[] }
def k1m1 : Method := { name := "str", desc := "(II)Ljava/lang/String;", sig := { parameters := [.int, .int], returnType := some (.object "java/lang/String") }, accessFlags := 10, code := some k1c1 }
def k1c2 : Code := { maxStack := 3, maxLocals := 4, code := method_3_code, exceptionTable := #[], attributes := #[] }
def k1m2 : Method := { name := "partAt", desc := "(Ljava/lang/String;ILjava/lang/String;)Z", sig := { parameters := [(.object "java/lang/String"), .int, (.object "java/lang/String")], returnType := some .boolean }, accessFlags := 10, code := some k1c2 }
def k1c3 : Code := { maxStack := 2, maxLocals := 1, code := method_4_code, exceptionTable := #[], attributes := #[] }
def k1m3 : Method := { name := "prefixOk", desc := "(Ljava/lang/String;)Z", sig := { parameters := [(.object "java/lang/String")], returnType := some .boolean }, accessFlags := 10, code := some k1c3 }
def k1c4 : Code := { maxStack := 3, maxLocals := 10, code := code, exceptionTable := #[], attributes := #[] }
def k1m4 : Method := { name := "law", desc := "(III)Z", sig := { parameters := [.int, .int, .int], returnType := some .boolean }, accessFlags := 9, code := some k1c4 }
/-- com/example/tannoy/tannoy/internal/HandlerRefusedFunctionPinLaw -/
def k1 : Class := { plain "com/example/tannoy/tannoy/internal/HandlerRefusedFunctionPinLaw" (some 0) with
  accessFlags := 49
  interfaces := #[]
  cf := some (fileOf pool1 26 #[] #[{ accessFlags := 1, nameIndex := 5, descriptorIndex := 6, attributes := #[] }, { accessFlags := 10, nameIndex := 29, descriptorIndex := 30, attributes := #[] }, { accessFlags := 10, nameIndex := 49, descriptorIndex := 50, attributes := #[] }, { accessFlags := 10, nameIndex := 45, descriptorIndex := 46, attributes := #[] }, { accessFlags := 9, nameIndex := 54, descriptorIndex := 55, attributes := #[] }] 49 2 #[] #[])
  fields := #[]
  methods := #[k1m0, k1m1, k1m2, k1m3, k1m4]
  instanceTypes := #[]
  staticTypes := #[]
  resolved := Array.replicate 58 none
  statics := none }

def pool2 : Array CpInfo := pool [(1, .class_ 2), (0, u "java/io/Serializable"), (0, .class_ 4), (0, u "java/lang/Object")] 2

/-- java/io/Serializable -/
def k2 : Class := { plain "java/io/Serializable" (some 0) with
  accessFlags := 1537
  interfaces := #[]
  cf := some (fileOf pool2 1 #[] #[] 1537 3 #[] #[])
  fields := #[]
  methods := #[]
  instanceTypes := #[]
  staticTypes := #[]
  resolved := Array.replicate 7 none
  statics := none }

def pool3 : Array CpInfo := pool [(1, .class_ 2), (0, u "java/lang/Comparable"), (0, .class_ 4), (0, u "java/lang/Object")] 7

/-- java/lang/Comparable -/
def k3 : Class := { plain "java/lang/Comparable" (some 0) with
  accessFlags := 1537
  interfaces := #[]
  cf := some (fileOf pool3 1 #[] #[] 1537 3 #[] #[])
  fields := #[]
  methods := #[]
  instanceTypes := #[]
  staticTypes := #[]
  resolved := Array.replicate 12 none
  statics := none }

def pool4 : Array CpInfo := pool [(2, .class_ 4), (1, u "java/lang/CharSequence"), (42, .class_ 48), (0, u "java/lang/CharSequence$1CodePointIterator"), (10, .class_ 60), (0, u "java/lang/CharSequence$1CharIterator"), (5, .class_ 67), (0, u "java/lang/Object")] 63

/-- java/lang/CharSequence -/
def k4 : Class := { plain "java/lang/CharSequence" (some 0) with
  accessFlags := 1537
  interfaces := #[]
  cf := some (fileOf pool4 2 #[.nestMembers #[47, 59]] #[] 1537 66 #[] #[])
  fields := #[]
  methods := #[]
  instanceTypes := #[]
  staticTypes := #[]
  resolved := Array.replicate 131 none
  statics := none }

def pool5 : Array CpInfo := pool [(1, .class_ 2), (0, u "java/lang/constant/Constable"), (0, .class_ 4), (0, u "java/lang/Object")] 6

/-- java/lang/constant/Constable -/
def k5 : Class := { plain "java/lang/constant/Constable" (some 0) with
  accessFlags := 1537
  interfaces := #[]
  cf := some (fileOf pool5 1 #[] #[] 1537 3 #[] #[])
  fields := #[]
  methods := #[]
  instanceTypes := #[]
  staticTypes := #[]
  resolved := Array.replicate 11 none
  statics := none }

def pool6 : Array CpInfo := pool [(1, .class_ 2), (0, u "java/lang/constant/ConstantDesc"), (0, .class_ 4), (0, u "java/lang/Object")] 32

/-- java/lang/constant/ConstantDesc -/
def k6 : Class := { plain "java/lang/constant/ConstantDesc" (some 0) with
  accessFlags := 1537
  interfaces := #[]
  cf := some (fileOf pool6 1 #[] #[] 1537 3 #[] #[])
  fields := #[]
  methods := #[]
  instanceTypes := #[]
  staticTypes := #[]
  resolved := Array.replicate 37 none
  statics := none }

def pool7 : Array CpInfo := pool [(1, .methodref 2 3), (0, .class_ 4), (0, .nameAndType 5 6), (0, u "java/lang/Object"), (0, u "<init>"), (0, u "()V"), (0, .string 8), (0, u ""), (0, .fieldref 10 11), (0, .class_ 12), (0, .nameAndType 13 14), (0, u "java/lang/String"), (0, u "value"), (0, u "[B"), (0, .fieldref 10 16), (0, .nameAndType 17 18), (0, u "coder"), (0, u "B"), (2, u "hash"), (0, u "I"), (2, u "hashIsZero"), (0, u "Z"), (0, .methodref 10 28), (0, .nameAndType 5 29), (0, u "([CIILjava/lang/Void;)V"), (6, u "checkBoundsOffCount"), (0, u "(III)I"), (0, .fieldref 10 39), (0, .nameAndType 40 26), (0, u "COMPACT_STRINGS"), (1, .class_ 44), (1, u "java/lang/StringUTF16"), (0, u "compress"), (1, .methodref 42 48), (0, .nameAndType 49 50), (0, u "coderFromArrayLen"), (0, u "([BI)B"), (2, u "toBytes"), (0, .methodref 55 56), (0, .class_ 57), (0, .nameAndType 58 59), (0, u "java/util/Arrays"), (0, u "copyOfRange"), (0, u "([BII)[B"), (46, .methodref 107 108), (0, .class_ 109), (0, .nameAndType 110 111), (0, u "java/lang/StringLatin1"), (0, u "inflate"), (0, u "([BI[BII)V"), (30, u "()Z"), (34, .methodref 42 178), (0, .nameAndType 45 179), (0, u "([CII)[B"), (13, .class_ 195), (1, u "java/lang/System"), (13, .methodref 10 210), (0, .nameAndType 5 211), (0, u "([BB)V"), (0, .methodref 193 213), (0, .nameAndType 214 215), (0, u "arraycopy"), (0, u "(Ljava/lang/Object;ILjava/lang/Object;II)V"), (118, u "()I"), (0, .methodref 10 336), (0, .nameAndType 17 337), (0, u "()B"), (2, u "()[B"), (22, u "([BI)C"), (5, u "(C)Z"), (21, u "(II)V"), (35, u "(I)C"), (61, .methodref 10 490), (0, .nameAndType 5 491), (0, u "(Ljava/lang/AbstractStringBuilder;Ljava/lang/Void;)V"), (0, .methodref 10 493), (0, .nameAndType 494 142), (0, u "isLatin1"), (0, .methodref 107 496), (0, .nameAndType 497 363), (0, u "charAt"), (0, .methodref 42 496), (2, u "checkIndex"), (4, .nameAndType 507 334), (0, u "length"), (24, u "getBytes"), (16, .methodref 550 506), (0, .class_ 551), (0, u "java/lang/AbstractStringBuilder"), (0, .methodref 550 553), (0, .nameAndType 554 340), (0, u "getValue"), (20, .class_ 576), (0, u "java/lang/CharSequence"), (22, u "CASE_INSENSITIVE_ORDER"), (0, u "Ljava/util/Comparator;"), (181, u "valueOf"), (0, u "(C)Ljava/lang/String;"), (37, u "([BIB)V"), (188, u "([C)V"), (4, .methodref 107 1016), (0, .nameAndType 1017 369), (0, u "canEncode"), (0, .methodref 107 1019), (0, .nameAndType 53 1020), (0, u "(C)[B"), (0, .methodref 42 1019), (25, .methodref 550 493), (0, .fieldref 550 1049), (0, .nameAndType 1050 26), (0, u "maybeLatin1"), (2, .fieldref 1054 1055), (0, .class_ 1056), (0, .nameAndType 1057 1058), (0, u "jdk/internal/util/Preconditions"), (0, u "SIOOBE_FORMATTER"), (0, u "Ljava/util/function/BiFunction;"), (0, .methodref 1054 1060), (0, .nameAndType 501 1061), (0, u "(IILjava/util/function/BiFunction;)I"), (2, u "(IIILjava/util/function/BiFunction;)I"), (0, .methodref 1054 1066), (0, .nameAndType 1067 1064), (0, u "checkFromIndexSize"), (33, u "serialPersistentFields"), (0, u "[Ljava/io/ObjectStreamField;"), (0, .class_ 1104), (0, u "java/lang/String$CaseInsensitiveComparator"), (1, .class_ 1107), (0, u "java/io/Serializable"), (0, .class_ 1109), (0, u "java/lang/Comparable"), (0, .class_ 1111), (0, u "java/lang/constant/Constable"), (0, .class_ 1113), (0, u "java/lang/constant/ConstantDesc"), (2, u "serialVersionUID"), (0, u "J"), (3, u "REPL"), (0, u "C"), (2, u "LATIN1"), (1, u "UTF16"), (105, u "(Ljava/lang/StringBuilder;)V")] 217

def k7m0 : Method := { name := "<init>", desc := "()V", sig := { parameters := [], returnType := none }, accessFlags := 1, code := none }
def k7c1 : Code := { maxStack := 5, maxLocals := 2, code := jdk_42_method_3_code, exceptionTable := #[], attributes := #[] }
def k7m1 : Method := { name := "<init>", desc := "([C)V", sig := { parameters := [(.array .char)], returnType := none }, accessFlags := 1, code := some k7c1 }
def k7c2 : Code := { maxStack := 3, maxLocals := 2, code := jdk_42_method_53_code, exceptionTable := #[], attributes := #[] }
def k7m2 : Method := { name := "<init>", desc := "(Ljava/lang/StringBuilder;)V", sig := { parameters := [(.object "java/lang/StringBuilder")], returnType := none }, accessFlags := 1, code := some k7c2 }
def k7c3 : Code := { maxStack := 2, maxLocals := 1, code := jdk_42_method_54_code, exceptionTable := #[], attributes := #[] }
def k7m3 : Method := { name := "length", desc := "()I", sig := { parameters := [], returnType := some .int }, accessFlags := 1, code := some k7c3 }
def k7c4 : Code := { maxStack := 2, maxLocals := 2, code := jdk_42_method_56_code, exceptionTable := #[], attributes := #[] }
def k7m4 : Method := { name := "charAt", desc := "(I)C", sig := { parameters := [.int], returnType := some .char }, accessFlags := 1, code := some k7c4 }
def k7c5 : Code := { maxStack := 4, maxLocals := 1, code := jdk_42_method_139_code, exceptionTable := #[], attributes := #[] }
def k7m5 : Method := { name := "valueOf", desc := "(C)Ljava/lang/String;", sig := { parameters := [.char], returnType := some (.object "java/lang/String") }, accessFlags := 9, code := some k7c5 }
def k7c6 : Code := { maxStack := 5, maxLocals := 4, code := jdk_42_method_147_code, exceptionTable := #[], attributes := #[] }
def k7m6 : Method := { name := "getBytes", desc := "([BIB)V", sig := { parameters := [(.array .byte), .int, .byte], returnType := none }, accessFlags := 0, code := some k7c6 }
def k7c7 : Code := { maxStack := 4, maxLocals := 6, code := jdk_42_method_149_code, exceptionTable := #[], attributes := #[] }
def k7m7 : Method := { name := "<init>", desc := "([CIILjava/lang/Void;)V", sig := { parameters := [(.array .char), .int, .int, (.object "java/lang/Void")], returnType := none }, accessFlags := 2, code := some k7c7 }
def k7c8 : Code := { maxStack := 5, maxLocals := 5, code := jdk_42_method_150_code, exceptionTable := #[], attributes := #[] }
def k7m8 : Method := { name := "<init>", desc := "(Ljava/lang/AbstractStringBuilder;Ljava/lang/Void;)V", sig := { parameters := [(.object "java/lang/AbstractStringBuilder"), (.object "java/lang/Void")], returnType := none }, accessFlags := 0, code := some k7c8 }
def k7c9 : Code := { maxStack := 2, maxLocals := 3, code := jdk_42_method_151_code, exceptionTable := #[], attributes := #[] }
def k7m9 : Method := { name := "<init>", desc := "([BB)V", sig := { parameters := [(.array .byte), .byte], returnType := none }, accessFlags := 0, code := some k7c9 }
def k7c10 : Code := { maxStack := 1, maxLocals := 1, code := jdk_42_method_152_code, exceptionTable := #[], attributes := #[] }
def k7m10 : Method := { name := "coder", desc := "()B", sig := { parameters := [], returnType := some .byte }, accessFlags := 0, code := some k7c10 }
def k7c11 : Code := { maxStack := 1, maxLocals := 1, code := jdk_42_method_154_code, exceptionTable := #[], attributes := #[] }
def k7m11 : Method := { name := "isLatin1", desc := "()Z", sig := { parameters := [], returnType := some .boolean }, accessFlags := 0, code := some k7c11 }
def k7c12 : Code := { maxStack := 3, maxLocals := 2, code := jdk_42_method_155_code, exceptionTable := #[], attributes := #[] }
def k7m12 : Method := { name := "checkIndex", desc := "(II)V", sig := { parameters := [.int, .int], returnType := none }, accessFlags := 8, code := some k7c12 }
def k7c13 : Code := { maxStack := 4, maxLocals := 3, code := jdk_42_method_157_code, exceptionTable := #[], attributes := #[] }
def k7m13 : Method := { name := "checkBoundsOffCount", desc := "(III)I", sig := { parameters := [.int, .int, .int], returnType := some .int }, accessFlags := 8, code := some k7c13 }
/-- java/lang/String -/
def k7 : Class := { plain "java/lang/String" (some 0) with
  accessFlags := 49
  interfaces := #[2, 3, 4, 5, 6]
  cf := some (fileOf pool7 10 #[.nestMembers #[1103]] #[{ accessFlags := 1, nameIndex := 5, descriptorIndex := 6, attributes := #[] }, { accessFlags := 1, nameIndex := 5, descriptorIndex := 1010, attributes := #[] }, { accessFlags := 1, nameIndex := 5, descriptorIndex := 1233, attributes := #[] }, { accessFlags := 1, nameIndex := 507, descriptorIndex := 334, attributes := #[] }, { accessFlags := 1, nameIndex := 497, descriptorIndex := 427, attributes := #[] }, { accessFlags := 9, nameIndex := 782, descriptorIndex := 783, attributes := #[] }, { accessFlags := 0, nameIndex := 532, descriptorIndex := 821, attributes := #[] }, { accessFlags := 2, nameIndex := 5, descriptorIndex := 29, attributes := #[] }, { accessFlags := 0, nameIndex := 5, descriptorIndex := 491, attributes := #[] }, { accessFlags := 0, nameIndex := 5, descriptorIndex := 211, attributes := #[] }, { accessFlags := 0, nameIndex := 17, descriptorIndex := 337, attributes := #[] }, { accessFlags := 0, nameIndex := 494, descriptorIndex := 142, attributes := #[] }, { accessFlags := 8, nameIndex := 501, descriptorIndex := 391, attributes := #[] }, { accessFlags := 8, nameIndex := 36, descriptorIndex := 37, attributes := #[] }] 49 2 #[1106, 1108, 575, 1110, 1112] #[{ accessFlags := 18, nameIndex := 13, descriptorIndex := 14, attributes := #[] }, { accessFlags := 18, nameIndex := 17, descriptorIndex := 18, attributes := #[] }, { accessFlags := 2, nameIndex := 21, descriptorIndex := 22, attributes := #[] }, { accessFlags := 2, nameIndex := 25, descriptorIndex := 26, attributes := #[] }, { accessFlags := 26, nameIndex := 1116, descriptorIndex := 1117, attributes := #[] }, { accessFlags := 24, nameIndex := 40, descriptorIndex := 26, attributes := #[] }, { accessFlags := 26, nameIndex := 1101, descriptorIndex := 1102, attributes := #[] }, { accessFlags := 26, nameIndex := 1121, descriptorIndex := 1122, attributes := #[] }, { accessFlags := 25, nameIndex := 599, descriptorIndex := 600, attributes := #[] }, { accessFlags := 24, nameIndex := 1125, descriptorIndex := 18, attributes := #[] }, { accessFlags := 24, nameIndex := 1127, descriptorIndex := 18, attributes := #[] }])
  fields := #[{ name := "value", type := (.array .byte), accessFlags := 18, slot := 0, constantValue := 0 }, { name := "coder", type := .byte, accessFlags := 18, slot := 1, constantValue := 0 }, { name := "hash", type := .int, accessFlags := 2, slot := 2, constantValue := 0 }, { name := "hashIsZero", type := .boolean, accessFlags := 2, slot := 3, constantValue := 0 }, { name := "serialVersionUID", type := .long, accessFlags := 26, slot := 0, constantValue := 0 }, { name := "COMPACT_STRINGS", type := .boolean, accessFlags := 24, slot := 1, constantValue := 0 }, { name := "serialPersistentFields", type := (.array (.object "java/io/ObjectStreamField")), accessFlags := 26, slot := 2, constantValue := 0 }, { name := "REPL", type := .char, accessFlags := 26, slot := 3, constantValue := 0 }, { name := "CASE_INSENSITIVE_ORDER", type := (.object "java/util/Comparator"), accessFlags := 25, slot := 4, constantValue := 0 }, { name := "LATIN1", type := .byte, accessFlags := 24, slot := 5, constantValue := 0 }, { name := "UTF16", type := .byte, accessFlags := 24, slot := 6, constantValue := 0 }]
  methods := #[k7m0, k7m1, k7m2, k7m3, k7m4, k7m5, k7m6, k7m7, k7m8, k7m9, k7m10, k7m11, k7m12, k7m13]
  instanceTypes := #[(.array .byte), .byte, .int, .boolean]
  staticTypes := #[.long, .boolean, (.array (.object "java/io/ObjectStreamField")), .char, (.object "java/util/Comparator"), .byte, .byte]
  resolved := Array.replicate 1451 none
  statics := some 0 }

def pool8 : Array CpInfo := pool [(3, .class_ 4), (0, u "java/lang/String"), (1, .class_ 8), (1, u "java/lang/Object"), (0, u "<init>"), (0, u "()V"), (0, .methodref 12 13), (0, .class_ 14), (0, .nameAndType 15 16), (0, u "java/lang/StringUTF16"), (0, u "newBytesLength"), (0, u "(I)I"), (3, .integer 1073741823), (23, .fieldref 12 45), (0, .nameAndType 46 47), (0, u "$assertionsDisabled"), (0, u "Z"), (0, .methodref 12 49), (0, .nameAndType 50 51), (0, u "length"), (0, u "([B)I"), (7, .fieldref 12 60), (0, .nameAndType 61 62), (0, u "HI_BYTE_SHIFT"), (0, u "I"), (0, .fieldref 12 64), (0, .nameAndType 65 62), (0, u "LO_BYTE_SHIFT"), (1, .methodref 12 68), (0, .nameAndType 69 70), (0, u "checkIndex"), (0, u "(I[B)V"), (0, .methodref 12 72), (0, .nameAndType 73 74), (0, u "getChar"), (0, u "([BI)C"), (24, u "(II[B)V"), (7, .methodref 12 108), (0, .nameAndType 109 110), (0, u "newBytesFor"), (0, u "(I)[B"), (0, .methodref 12 112), (0, .nameAndType 113 114), (0, u "putChar"), (0, u "([BII)V"), (0, .methodref 12 116), (0, .nameAndType 117 118), (0, u "compress"), (0, u "([CI[BII)I"), (0, .methodref 12 120), (0, .nameAndType 121 122), (0, u "toBytes"), (0, u "([CII)[B"), (17, u "inflate"), (0, u "([BI[BII)V"), (31, .methodref 12 174), (0, .nameAndType 175 99), (0, u "checkBoundsOffCount"), (85, u "coderFromArrayLen"), (0, u "([BI)B"), (18, u "(III)I"), (87, .class_ 371), (1, u "java/lang/StringUTF16$LinesSpliterator"), (20, u "charAt"), (21, .methodref 3 415), (0, .nameAndType 69 416), (0, u "(II)V"), (2, .methodref 3 420), (0, .nameAndType 175 281), (9, u "MAX_LENGTH"), (44, u "(C)[B"), (151, .class_ 628), (0, u "java/lang/StringUTF16$CodePointsSpliterator"), (0, .class_ 630), (0, u "java/lang/StringUTF16$CharsSpliterator")] 4

def k8m0 : Method := { name := "<init>", desc := "()V", sig := { parameters := [], returnType := none }, accessFlags := 0, code := none }
def k8c1 : Code := { maxStack := 1, maxLocals := 1, code := jdk_52_method_2_code, exceptionTable := #[], attributes := #[] }
def k8m1 : Method := { name := "newBytesFor", desc := "(I)[B", sig := { parameters := [.int], returnType := some (.array .byte) }, accessFlags := 9, code := some k8c1 }
def k8c2 : Code := { maxStack := 4, maxLocals := 1, code := jdk_52_method_3_code, exceptionTable := #[], attributes := #[] }
def k8m2 : Method := { name := "newBytesLength", desc := "(I)I", sig := { parameters := [.int], returnType := some .int }, accessFlags := 9, code := some k8c2 }
def k8c3 : Code := { maxStack := 4, maxLocals := 3, code := jdk_52_method_4_code, exceptionTable := #[], attributes := #[] }
def k8m3 : Method := { name := "putChar", desc := "([BII)V", sig := { parameters := [(.array .byte), .int, .int], returnType := none }, accessFlags := 8, code := some k8c3 }
def k8c4 : Code := { maxStack := 3, maxLocals := 2, code := jdk_52_method_5_code, exceptionTable := #[], attributes := #[] }
def k8m4 : Method := { name := "getChar", desc := "([BI)C", sig := { parameters := [(.array .byte), .int], returnType := some .char }, accessFlags := 8, code := some k8c4 }
def k8c5 : Code := { maxStack := 2, maxLocals := 1, code := jdk_52_method_6_code, exceptionTable := #[], attributes := #[] }
def k8m5 : Method := { name := "length", desc := "([B)I", sig := { parameters := [(.array .byte)], returnType := some .int }, accessFlags := 9, code := some k8c5 }
def k8c6 : Code := { maxStack := 4, maxLocals := 5, code := jdk_52_method_14_code, exceptionTable := #[], attributes := #[] }
def k8m6 : Method := { name := "toBytes", desc := "([CII)[B", sig := { parameters := [(.array .char), .int, .int], returnType := some (.array .byte) }, accessFlags := 9, code := some k8c6 }
def k8c7 : Code := { maxStack := 2, maxLocals := 2, code := jdk_52_method_15_code, exceptionTable := #[], attributes := #[] }
def k8m7 : Method := { name := "coderFromArrayLen", desc := "([BI)B", sig := { parameters := [(.array .byte), .int], returnType := some .byte }, accessFlags := 8, code := some k8c7 }
def k8c8 : Code := { maxStack := 5, maxLocals := 6, code := jdk_52_method_16_code, exceptionTable := #[], attributes := #[] }
def k8m8 : Method := { name := "compress", desc := "([CII)[B", sig := { parameters := [(.array .char), .int, .int], returnType := some (.array .byte) }, accessFlags := 9, code := some k8c8 }
def k8c9 : Code := { maxStack := 3, maxLocals := 7, code := jdk_52_method_21_code, exceptionTable := #[], attributes := #[] }
def k8m9 : Method := { name := "compress", desc := "([CI[BII)I", sig := { parameters := [(.array .char), .int, (.array .byte), .int, .int], returnType := some .int }, accessFlags := 9, code := some k8c9 }
def k8c10 : Code := { maxStack := 3, maxLocals := 2, code := jdk_52_method_24_code, exceptionTable := #[], attributes := #[] }
def k8m10 : Method := { name := "toBytes", desc := "(C)[B", sig := { parameters := [.char], returnType := some (.array .byte) }, accessFlags := 9, code := some k8c10 }
def k8c11 : Code := { maxStack := 2, maxLocals := 2, code := jdk_52_method_83_code, exceptionTable := #[], attributes := #[] }
def k8m11 : Method := { name := "charAt", desc := "([BI)C", sig := { parameters := [(.array .byte), .int], returnType := some .char }, accessFlags := 9, code := some k8c11 }
def k8c12 : Code := { maxStack := 4, maxLocals := 6, code := jdk_52_method_86_code, exceptionTable := #[], attributes := #[] }
def k8m12 : Method := { name := "inflate", desc := "([BI[BII)V", sig := { parameters := [(.array .byte), .int, (.array .byte), .int, .int], returnType := none }, accessFlags := 9, code := some k8c12 }
def k8c13 : Code := { maxStack := 2, maxLocals := 2, code := jdk_52_method_91_code, exceptionTable := #[], attributes := #[] }
def k8m13 : Method := { name := "checkIndex", desc := "(I[B)V", sig := { parameters := [.int, (.array .byte)], returnType := none }, accessFlags := 9, code := some k8c13 }
def k8c14 : Code := { maxStack := 3, maxLocals := 3, code := jdk_52_method_94_code, exceptionTable := #[], attributes := #[] }
def k8m14 : Method := { name := "checkBoundsOffCount", desc := "(II[B)V", sig := { parameters := [.int, .int, (.array .byte)], returnType := none }, accessFlags := 9, code := some k8c14 }
/-- java/lang/StringUTF16 -/
def k8 : Class := { plain "java/lang/StringUTF16" (some 0) with
  accessFlags := 48
  interfaces := #[]
  cf := some (fileOf pool8 12 #[.nestMembers #[627, 629, 369]] #[{ accessFlags := 0, nameIndex := 9, descriptorIndex := 10, attributes := #[] }, { accessFlags := 9, nameIndex := 109, descriptorIndex := 110, attributes := #[] }, { accessFlags := 9, nameIndex := 15, descriptorIndex := 16, attributes := #[] }, { accessFlags := 8, nameIndex := 113, descriptorIndex := 114, attributes := #[] }, { accessFlags := 8, nameIndex := 73, descriptorIndex := 74, attributes := #[] }, { accessFlags := 9, nameIndex := 50, descriptorIndex := 51, attributes := #[] }, { accessFlags := 9, nameIndex := 121, descriptorIndex := 122, attributes := #[] }, { accessFlags := 8, nameIndex := 261, descriptorIndex := 262, attributes := #[] }, { accessFlags := 9, nameIndex := 117, descriptorIndex := 122, attributes := #[] }, { accessFlags := 9, nameIndex := 117, descriptorIndex := 118, attributes := #[] }, { accessFlags := 9, nameIndex := 121, descriptorIndex := 475, attributes := #[] }, { accessFlags := 9, nameIndex := 392, descriptorIndex := 74, attributes := #[] }, { accessFlags := 9, nameIndex := 140, descriptorIndex := 141, attributes := #[] }, { accessFlags := 9, nameIndex := 69, descriptorIndex := 70, attributes := #[] }, { accessFlags := 9, nameIndex := 175, descriptorIndex := 99, attributes := #[] }] 48 6 #[] #[{ accessFlags := 26, nameIndex := 61, descriptorIndex := 62, attributes := #[] }, { accessFlags := 26, nameIndex := 65, descriptorIndex := 62, attributes := #[] }, { accessFlags := 24, nameIndex := 430, descriptorIndex := 62, attributes := #[] }, { accessFlags := 4120, nameIndex := 46, descriptorIndex := 47, attributes := #[] }])
  fields := #[{ name := "HI_BYTE_SHIFT", type := .int, accessFlags := 26, slot := 0, constantValue := 0 }, { name := "LO_BYTE_SHIFT", type := .int, accessFlags := 26, slot := 1, constantValue := 0 }, { name := "MAX_LENGTH", type := .int, accessFlags := 24, slot := 2, constantValue := 0 }, { name := "$assertionsDisabled", type := .boolean, accessFlags := 4120, slot := 3, constantValue := 0 }]
  methods := #[k8m0, k8m1, k8m2, k8m3, k8m4, k8m5, k8m6, k8m7, k8m8, k8m9, k8m10, k8m11, k8m12, k8m13, k8m14]
  instanceTypes := #[]
  staticTypes := #[.int, .int, .int, .boolean]
  resolved := Array.replicate 635 none
  statics := some 1 }

def pool9 : Array CpInfo := pool [(2, .class_ 4), (0, .nameAndType 5 6), (0, u "java/lang/Object"), (0, u "<init>"), (0, u "()V"), (1, .class_ 10), (1, u "com/example/tannoy/tannoy/internal/Handler"), (0, u "eventType"), (0, u "Ljava/lang/Class;"), (2, u "exact"), (0, u "Z"), (2, u "priority"), (0, u "I"), (2, u "route"), (0, u "Lcom/example/tannoy/tannoy/internal/Route;"), (28, .class_ 54), (0, u "java/lang/IllegalArgumentException"), (0, .class_ 56), (0, u "java/lang/StringBuilder"), (0, .methodref 55 3), (0, .string 59), (0, u "A function cannot subscribe to "), (0, .methodref 55 61), (0, .nameAndType 62 63), (0, u "append"), (0, u "(Ljava/lang/String;)Ljava/lang/StringBuilder;"), (0, .string 65), (0, u ": it "), (0, .methodref 55 67), (0, .nameAndType 68 69), (0, u "toString"), (0, u "()Ljava/lang/String;"), (0, .methodref 53 71), (0, .nameAndType 5 72), (0, u "(Ljava/lang/String;)V"), (21, u "handover"), (0, u "Lcom/example/tannoy/tannoy/internal/Handover;"), (17, u "refusedFunction"), (0, u "(Ljava/lang/String;Ljava/lang/String;)Ljava/lang/IllegalArgumentException;")] 22

def k9c0 : Code := { maxStack := 4, maxLocals := 2, code := prog_16_method_3_code, exceptionTable := #[], attributes := #[] }
def k9m0 : Method := { name := "refusedFunction", desc := "(Ljava/lang/String;Ljava/lang/String;)Ljava/lang/IllegalArgumentException;", sig := { parameters := [(.object "java/lang/String"), (.object "java/lang/String")], returnType := some (.object "java/lang/IllegalArgumentException") }, accessFlags := 9, code := some k9c0 }
/-- com/example/tannoy/tannoy/internal/Handler -/
def k9 : Class := { plain "com/example/tannoy/tannoy/internal/Handler" (some 0) with
  accessFlags := 1057
  interfaces := #[]
  cf := some (fileOf pool9 8 #[] #[{ accessFlags := 9, nameIndex := 113, descriptorIndex := 114, attributes := #[] }] 1057 2 #[] #[{ accessFlags := 18, nameIndex := 11, descriptorIndex := 12, attributes := #[] }, { accessFlags := 18, nameIndex := 15, descriptorIndex := 16, attributes := #[] }, { accessFlags := 18, nameIndex := 19, descriptorIndex := 20, attributes := #[] }, { accessFlags := 18, nameIndex := 23, descriptorIndex := 24, attributes := #[] }, { accessFlags := 64, nameIndex := 94, descriptorIndex := 95, attributes := #[] }])
  fields := #[{ name := "eventType", type := (.object "java/lang/Class"), accessFlags := 18, slot := 0, constantValue := 0 }, { name := "exact", type := .boolean, accessFlags := 18, slot := 1, constantValue := 0 }, { name := "priority", type := .int, accessFlags := 18, slot := 2, constantValue := 0 }, { name := "route", type := (.object "com/example/tannoy/tannoy/internal/Route"), accessFlags := 18, slot := 3, constantValue := 0 }, { name := "handover", type := (.object "com/example/tannoy/tannoy/internal/Handover"), accessFlags := 64, slot := 4, constantValue := 0 }]
  methods := #[k9m0]
  instanceTypes := #[(.object "java/lang/Class"), .boolean, .int, (.object "com/example/tannoy/tannoy/internal/Route"), (.object "com/example/tannoy/tannoy/internal/Handover")]
  staticTypes := #[]
  resolved := Array.replicate 137 none
  statics := none }

def pool10 : Array CpInfo := pool [(1, .methodref 2 3), (0, .class_ 4), (0, .nameAndType 5 6), (0, u "java/lang/Object"), (0, u "<init>"), (0, u "()V"), (0, .fieldref 8 9), (0, .class_ 10), (0, .nameAndType 11 12), (0, u "java/lang/Throwable"), (0, u "cause"), (0, u "Ljava/lang/Throwable;"), (0, .fieldref 8 14), (0, .nameAndType 15 16), (0, u "UNASSIGNED_STACK"), (0, u "[Ljava/lang/StackTraceElement;"), (0, .fieldref 8 18), (0, .nameAndType 19 16), (0, u "stackTrace"), (0, .fieldref 8 21), (0, .nameAndType 22 23), (0, u "SUPPRESSED_SENTINEL"), (0, u "Ljava/util/List;"), (0, .fieldref 8 25), (0, .nameAndType 26 23), (0, u "suppressedExceptions"), (0, .methodref 8 28), (0, .nameAndType 29 30), (0, u "fillInStackTrace"), (0, u "()Ljava/lang/Throwable;"), (0, .fieldref 8 32), (0, .nameAndType 33 34), (0, u "detailMessage"), (0, u "Ljava/lang/String;"), (3, u "()Ljava/lang/String;"), (2, u "getMessage"), (51, .class_ 94), (0, u "java/lang/Throwable$WrappedPrintStream"), (6, .class_ 103), (1, u "java/lang/Throwable$PrintStreamOrWriter"), (61, u "$assertionsDisabled"), (0, u "Z"), (26, .class_ 194), (0, u "java/lang/Throwable$WrappedPrintWriter"), (3, .fieldref 8 199), (0, .nameAndType 200 201), (0, u "backtrace"), (0, u "Ljava/lang/Object;"), (0, .methodref 8 203), (0, .nameAndType 29 204), (0, u "(I)Ljava/lang/Throwable;"), (6, u "depth"), (0, u "I"), (10, u "(Ljava/lang/String;)V"), (45, .class_ 271), (1, u "java/lang/Throwable$SentinelHolder"), (32, u "EMPTY_THROWABLE_ARRAY"), (0, u "[Ljava/lang/Throwable;"), (12, .class_ 319), (0, u "java/io/Serializable"), (0, u "serialVersionUID"), (0, u "J"), (5, u "NULL_CAUSE_MESSAGE"), (0, u "SELF_SUPPRESSION_MESSAGE"), (0, u "CAUSE_CAPTION"), (0, u "SUPPRESSED_CAPTION")] 73

def k10c0 : Code := { maxStack := 2, maxLocals := 1, code := jdk_78_method_1_code, exceptionTable := #[], attributes := #[] }
def k10m0 : Method := { name := "<init>", desc := "()V", sig := { parameters := [], returnType := none }, accessFlags := 1, code := some k10c0 }
def k10c1 : Code := { maxStack := 2, maxLocals := 2, code := jdk_78_method_2_code, exceptionTable := #[], attributes := #[] }
def k10m1 : Method := { name := "<init>", desc := "(Ljava/lang/String;)V", sig := { parameters := [(.object "java/lang/String")], returnType := none }, accessFlags := 1, code := some k10c1 }
def k10c2 : Code := { maxStack := 1, maxLocals := 1, code := jdk_78_method_6_code, exceptionTable := #[], attributes := #[] }
def k10m2 : Method := { name := "getMessage", desc := "()Ljava/lang/String;", sig := { parameters := [], returnType := some (.object "java/lang/String") }, accessFlags := 1, code := some k10c2 }
def k10c3 : Code := { maxStack := 2, maxLocals := 1, code := ⟨#[0x2a, 0xb4, 0x00, 0x11, 0xc7, 0x00, 0x0a, 0x2a, 0xb4, 0x00, 0xc6, 0xc6, 0x00, 0x10, 0x2a, 0x03, 0xb6, 0x00, 0xca, 0x57, 0x2a, 0xb2, 0x00, 0x0d, 0xb5, 0x00, 0x11, 0x2a, 0xb0]⟩, exceptionTable := #[], attributes := #[] }
def k10m3 : Method := { name := "fillInStackTrace", desc := "()Ljava/lang/Throwable;", sig := { parameters := [], returnType := some (.object "java/lang/Throwable") }, accessFlags := 33, code := some k10c3 }
def k10m4 : Method := { name := "fillInStackTrace", desc := "(I)Ljava/lang/Throwable;", sig := { parameters := [.int], returnType := some (.object "java/lang/Throwable") }, accessFlags := 258, code := none }
/-- java/lang/Throwable -/
def k10 : Class := { plain "java/lang/Throwable" (some 0) with
  accessFlags := 33
  interfaces := #[2]
  cf := some (fileOf pool10 8 #[.nestMembers #[193, 93, 101, 269]] #[{ accessFlags := 1, nameIndex := 5, descriptorIndex := 6, attributes := #[] }, { accessFlags := 1, nameIndex := 5, descriptorIndex := 223, attributes := #[] }, { accessFlags := 1, nameIndex := 41, descriptorIndex := 38, attributes := #[] }, { accessFlags := 33, nameIndex := 29, descriptorIndex := 30, attributes := #[] }, { accessFlags := 258, nameIndex := 29, descriptorIndex := 204, attributes := #[] }] 33 2 #[318] #[{ accessFlags := 26, nameIndex := 320, descriptorIndex := 321, attributes := #[] }, { accessFlags := 130, nameIndex := 200, descriptorIndex := 201, attributes := #[] }, { accessFlags := 2, nameIndex := 33, descriptorIndex := 34, attributes := #[] }, { accessFlags := 26, nameIndex := 15, descriptorIndex := 16, attributes := #[] }, { accessFlags := 2, nameIndex := 11, descriptorIndex := 12, attributes := #[] }, { accessFlags := 2, nameIndex := 19, descriptorIndex := 16, attributes := #[] }, { accessFlags := 130, nameIndex := 211, descriptorIndex := 212, attributes := #[] }, { accessFlags := 26, nameIndex := 22, descriptorIndex := 23, attributes := #[] }, { accessFlags := 2, nameIndex := 26, descriptorIndex := 23, attributes := #[] }, { accessFlags := 26, nameIndex := 327, descriptorIndex := 34, attributes := #[] }, { accessFlags := 26, nameIndex := 328, descriptorIndex := 34, attributes := #[] }, { accessFlags := 26, nameIndex := 329, descriptorIndex := 34, attributes := #[] }, { accessFlags := 26, nameIndex := 330, descriptorIndex := 34, attributes := #[] }, { accessFlags := 26, nameIndex := 304, descriptorIndex := 305, attributes := #[] }, { accessFlags := 4120, nameIndex := 165, descriptorIndex := 166, attributes := #[] }])
  fields := #[{ name := "serialVersionUID", type := .long, accessFlags := 26, slot := 0, constantValue := 0 }, { name := "backtrace", type := (.object "java/lang/Object"), accessFlags := 130, slot := 0, constantValue := 0 }, { name := "detailMessage", type := (.object "java/lang/String"), accessFlags := 2, slot := 1, constantValue := 0 }, { name := "UNASSIGNED_STACK", type := (.array (.object "java/lang/StackTraceElement")), accessFlags := 26, slot := 1, constantValue := 0 }, { name := "cause", type := (.object "java/lang/Throwable"), accessFlags := 2, slot := 2, constantValue := 0 }, { name := "stackTrace", type := (.array (.object "java/lang/StackTraceElement")), accessFlags := 2, slot := 3, constantValue := 0 }, { name := "depth", type := .int, accessFlags := 130, slot := 4, constantValue := 0 }, { name := "SUPPRESSED_SENTINEL", type := (.object "java/util/List"), accessFlags := 26, slot := 2, constantValue := 0 }, { name := "suppressedExceptions", type := (.object "java/util/List"), accessFlags := 2, slot := 5, constantValue := 0 }, { name := "NULL_CAUSE_MESSAGE", type := (.object "java/lang/String"), accessFlags := 26, slot := 3, constantValue := 0 }, { name := "SELF_SUPPRESSION_MESSAGE", type := (.object "java/lang/String"), accessFlags := 26, slot := 4, constantValue := 0 }, { name := "CAUSE_CAPTION", type := (.object "java/lang/String"), accessFlags := 26, slot := 5, constantValue := 0 }, { name := "SUPPRESSED_CAPTION", type := (.object "java/lang/String"), accessFlags := 26, slot := 6, constantValue := 0 }, { name := "EMPTY_THROWABLE_ARRAY", type := (.array (.object "java/lang/Throwable")), accessFlags := 26, slot := 7, constantValue := 0 }, { name := "$assertionsDisabled", type := .boolean, accessFlags := 4120, slot := 8, constantValue := 0 }]
  methods := #[k10m0, k10m1, k10m2, k10m3, k10m4]
  instanceTypes := #[(.object "java/lang/Object"), (.object "java/lang/String"), (.object "java/lang/Throwable"), (.array (.object "java/lang/StackTraceElement")), .int, (.object "java/util/List")]
  staticTypes := #[.long, (.array (.object "java/lang/StackTraceElement")), (.object "java/util/List"), (.object "java/lang/String"), (.object "java/lang/String"), (.object "java/lang/String"), (.object "java/lang/String"), (.array (.object "java/lang/Throwable")), .boolean]
  resolved := Array.replicate 404 none
  statics := some 2 }

def pool11 : Array CpInfo := pool [(2, .class_ 4), (1, u "java/lang/Throwable"), (0, u "<init>"), (0, u "()V"), (0, .methodref 2 8), (0, .nameAndType 5 9), (0, u "(Ljava/lang/String;)V"), (9, .class_ 20), (0, u "java/lang/Exception"), (0, u "serialVersionUID"), (0, u "J")] 17

def k11m0 : Method := { name := "<init>", desc := "()V", sig := { parameters := [], returnType := none }, accessFlags := 1, code := none }
def k11c1 : Code := { maxStack := 2, maxLocals := 2, code := jdk_59_method_2_code, exceptionTable := #[], attributes := #[] }
def k11m1 : Method := { name := "<init>", desc := "(Ljava/lang/String;)V", sig := { parameters := [(.object "java/lang/String")], returnType := none }, accessFlags := 1, code := some k11c1 }
/-- java/lang/Exception -/
def k11 : Class := { plain "java/lang/Exception" (some 10) with
  accessFlags := 33
  interfaces := #[]
  cf := some (fileOf pool11 19 #[] #[{ accessFlags := 1, nameIndex := 5, descriptorIndex := 6, attributes := #[] }, { accessFlags := 1, nameIndex := 5, descriptorIndex := 9, attributes := #[] }] 33 2 #[] #[{ accessFlags := 24, nameIndex := 21, descriptorIndex := 22, attributes := #[] }])
  fields := #[{ name := "serialVersionUID", type := .long, accessFlags := 24, slot := 0, constantValue := 0 }]
  methods := #[k11m0, k11m1]
  instanceTypes := #[(.object "java/lang/Object"), (.object "java/lang/String"), (.object "java/lang/Throwable"), (.array (.object "java/lang/StackTraceElement")), .int, (.object "java/util/List")]
  staticTypes := #[.long]
  resolved := Array.replicate 40 none
  statics := none }

def pool12 : Array CpInfo := pool [(2, .class_ 4), (1, u "java/lang/Exception"), (0, u "<init>"), (0, u "()V"), (0, .methodref 2 8), (0, .nameAndType 5 9), (0, u "(Ljava/lang/String;)V"), (9, .class_ 20), (0, u "java/lang/RuntimeException"), (0, u "serialVersionUID"), (0, u "J")] 17

def k12m0 : Method := { name := "<init>", desc := "()V", sig := { parameters := [], returnType := none }, accessFlags := 1, code := none }
def k12c1 : Code := { maxStack := 2, maxLocals := 2, code := jdk_58_method_2_code, exceptionTable := #[], attributes := #[] }
def k12m1 : Method := { name := "<init>", desc := "(Ljava/lang/String;)V", sig := { parameters := [(.object "java/lang/String")], returnType := none }, accessFlags := 1, code := some k12c1 }
/-- java/lang/RuntimeException -/
def k12 : Class := { plain "java/lang/RuntimeException" (some 11) with
  accessFlags := 33
  interfaces := #[]
  cf := some (fileOf pool12 19 #[] #[{ accessFlags := 1, nameIndex := 5, descriptorIndex := 6, attributes := #[] }, { accessFlags := 1, nameIndex := 5, descriptorIndex := 9, attributes := #[] }] 33 2 #[] #[{ accessFlags := 24, nameIndex := 21, descriptorIndex := 22, attributes := #[] }])
  fields := #[{ name := "serialVersionUID", type := .long, accessFlags := 24, slot := 0, constantValue := 0 }]
  methods := #[k12m0, k12m1]
  instanceTypes := #[(.object "java/lang/Object"), (.object "java/lang/String"), (.object "java/lang/Throwable"), (.array (.object "java/lang/StackTraceElement")), .int, (.object "java/util/List")]
  staticTypes := #[.long]
  resolved := Array.replicate 40 none
  statics := none }

def pool13 : Array CpInfo := pool [(2, .class_ 4), (1, u "java/lang/RuntimeException"), (0, u "<init>"), (0, u "()V"), (0, .methodref 2 8), (0, .nameAndType 5 9), (0, u "(Ljava/lang/String;)V"), (6, .class_ 17), (0, u "java/lang/IllegalArgumentException"), (0, u "serialVersionUID"), (0, u "J")] 15

def k13m0 : Method := { name := "<init>", desc := "()V", sig := { parameters := [], returnType := none }, accessFlags := 1, code := none }
def k13c1 : Code := { maxStack := 2, maxLocals := 2, code := jdk_57_method_2_code, exceptionTable := #[], attributes := #[] }
def k13m1 : Method := { name := "<init>", desc := "(Ljava/lang/String;)V", sig := { parameters := [(.object "java/lang/String")], returnType := none }, accessFlags := 1, code := some k13c1 }
/-- java/lang/IllegalArgumentException -/
def k13 : Class := { plain "java/lang/IllegalArgumentException" (some 12) with
  accessFlags := 33
  interfaces := #[]
  cf := some (fileOf pool13 16 #[] #[{ accessFlags := 1, nameIndex := 5, descriptorIndex := 6, attributes := #[] }, { accessFlags := 1, nameIndex := 5, descriptorIndex := 9, attributes := #[] }] 33 2 #[] #[{ accessFlags := 26, nameIndex := 18, descriptorIndex := 19, attributes := #[] }])
  fields := #[{ name := "serialVersionUID", type := .long, accessFlags := 26, slot := 0, constantValue := 0 }]
  methods := #[k13m0, k13m1]
  instanceTypes := #[(.object "java/lang/Object"), (.object "java/lang/String"), (.object "java/lang/Throwable"), (.array (.object "java/lang/StackTraceElement")), .int, (.object "java/util/List")]
  staticTypes := #[.long]
  resolved := Array.replicate 35 none
  statics := none }

def pool14 : Array CpInfo := pool [(1, .class_ 2), (0, u "java/lang/Appendable"), (0, .class_ 4), (0, u "java/lang/Object")] 9

/-- java/lang/Appendable -/
def k14 : Class := { plain "java/lang/Appendable" (some 0) with
  accessFlags := 1537
  interfaces := #[]
  cf := some (fileOf pool14 1 #[] #[] 1537 3 #[] #[])
  fields := #[]
  methods := #[]
  instanceTypes := #[]
  staticTypes := #[]
  resolved := Array.replicate 14 none
  statics := none }

def pool15 : Array CpInfo := pool [(1, .class_ 2), (0, u "java/lang/String"), (0, .methodref 4 5), (0, .class_ 6), (0, .nameAndType 7 8), (0, u "java/lang/Object"), (0, u "<init>"), (0, u "()V"), (1, .class_ 12), (1, u "java/lang/AbstractStringBuilder"), (0, u "EMPTYVALUE"), (0, u "[B"), (0, .fieldref 10 16), (0, .nameAndType 17 14), (0, u "value"), (0, .fieldref 1 19), (0, .nameAndType 20 21), (0, u "COMPACT_STRINGS"), (0, u "Z"), (0, .fieldref 10 23), (0, .nameAndType 24 25), (0, u "coder"), (0, u "B"), (0, .methodref 27 28), (0, .class_ 29), (0, .nameAndType 30 31), (0, u "java/lang/StringUTF16"), (0, u "newBytesFor"), (0, u "(I)[B"), (0, .methodref 1 33), (0, .nameAndType 34 35), (0, u "length"), (0, u "()I"), (3, .integer 2147483647), (0, .methodref 1 41), (0, .nameAndType 24 42), (0, u "()B"), (2, u "append"), (0, u "(Ljava/lang/String;)Ljava/lang/AbstractStringBuilder;"), (1, .class_ 49), (0, u "java/lang/CharSequence"), (19, u "(Ljava/lang/String;)V"), (5, u "maybeLatin1"), (3, .fieldref 10 80), (0, .nameAndType 81 82), (0, u "count"), (0, u "I"), (0, .methodref 10 84), (0, .nameAndType 85 86), (0, u "isLatin1"), (0, u "()Z"), (1, .class_ 90), (1, u "java/lang/StringLatin1"), (9, .methodref 10 101), (0, .nameAndType 102 103), (0, u "ensureCapacityInternal"), (0, u "(I)V"), (0, .methodref 10 105), (0, .nameAndType 106 107), (0, u "newCapacity"), (0, u "(I)I"), (0, .methodref 109 110), (0, .class_ 111), (0, .nameAndType 112 113), (0, u "java/util/Arrays"), (0, u "copyOf"), (0, u "([BI)[B"), (0, .methodref 115 116), (0, .class_ 117), (0, .nameAndType 118 119), (0, u "jdk/internal/util/ArraysSupport"), (0, u "newLength"), (0, u "(III)I"), (5, .methodref 88 126), (0, .nameAndType 127 128), (0, u "inflate"), (0, u "([BI[BII)V"), (66, .methodref 10 196), (0, .nameAndType 127 8), (11, .methodref 10 209), (0, .nameAndType 210 211), (0, u "putStringAt"), (0, u "(ILjava/lang/String;)V"), (5, u "inflateIfNeededFor"), (2, .nameAndType 221 222), (0, u "getBytes"), (0, u "([BIB)V"), (174, .methodref 10 398), (0, .nameAndType 217 69), (0, .methodref 1 220), (3, u "()[B"), (40, .class_ 445), (0, u "java/lang/Appendable"), (106, u "getValue")] 56

def k15m0 : Method := { name := "<init>", desc := "()V", sig := { parameters := [], returnType := none }, accessFlags := 0, code := none }
def k15c1 : Code := { maxStack := 2, maxLocals := 2, code := jdk_68_method_2_code, exceptionTable := #[], attributes := #[] }
def k15m1 : Method := { name := "<init>", desc := "(I)V", sig := { parameters := [.int], returnType := none }, accessFlags := 0, code := some k15c1 }
def k15c2 : Code := { maxStack := 1, maxLocals := 1, code := jdk_68_method_6_code, exceptionTable := #[], attributes := #[] }
def k15m2 : Method := { name := "length", desc := "()I", sig := { parameters := [], returnType := some .int }, accessFlags := 1, code := some k15c2 }
def k15c3 : Code := { maxStack := 4, maxLocals := 3, code := jdk_68_method_9_code, exceptionTable := #[], attributes := #[] }
def k15m3 : Method := { name := "ensureCapacityInternal", desc := "(I)V", sig := { parameters := [.int], returnType := none }, accessFlags := 2, code := some k15c3 }
def k15c4 : Code := { maxStack := 5, maxLocals := 6, code := jdk_68_method_10_code, exceptionTable := #[], attributes := #[] }
def k15m4 : Method := { name := "newCapacity", desc := "(I)I", sig := { parameters := [.int], returnType := some .int }, accessFlags := 2, code := some k15c4 }
def k15c5 : Code := { maxStack := 5, maxLocals := 2, code := jdk_68_method_11_code, exceptionTable := #[], attributes := #[] }
def k15m5 : Method := { name := "inflate", desc := "()V", sig := { parameters := [], returnType := none }, accessFlags := 2, code := some k15c5 }
def k15c6 : Code := { maxStack := 3, maxLocals := 3, code := jdk_68_method_22_code, exceptionTable := #[], attributes := #[] }
def k15m6 : Method := { name := "append", desc := "(Ljava/lang/String;)Ljava/lang/AbstractStringBuilder;", sig := { parameters := [(.object "java/lang/String")], returnType := some (.object "java/lang/AbstractStringBuilder") }, accessFlags := 1, code := some k15c6 }
def k15c7 : Code := { maxStack := 1, maxLocals := 1, code := jdk_68_method_64_code, exceptionTable := #[], attributes := #[] }
def k15m7 : Method := { name := "getValue", desc := "()[B", sig := { parameters := [], returnType := some (.array .byte) }, accessFlags := 16, code := some k15c7 }
def k15c8 : Code := { maxStack := 1, maxLocals := 1, code := jdk_68_method_68_code, exceptionTable := #[], attributes := #[] }
def k15m8 : Method := { name := "isLatin1", desc := "()Z", sig := { parameters := [], returnType := some .boolean }, accessFlags := 16, code := some k15c8 }
def k15c9 : Code := { maxStack := 2, maxLocals := 2, code := jdk_68_method_71_code, exceptionTable := #[], attributes := #[] }
def k15m9 : Method := { name := "inflateIfNeededFor", desc := "(Ljava/lang/String;)V", sig := { parameters := [(.object "java/lang/String")], returnType := none }, accessFlags := 2, code := some k15c9 }
def k15c10 : Code := { maxStack := 4, maxLocals := 3, code := jdk_68_method_73_code, exceptionTable := #[], attributes := #[] }
def k15m10 : Method := { name := "putStringAt", desc := "(ILjava/lang/String;)V", sig := { parameters := [.int, (.object "java/lang/String")], returnType := none }, accessFlags := 2, code := some k15c10 }
/-- java/lang/AbstractStringBuilder -/
def k15 : Class := { plain "java/lang/AbstractStringBuilder" (some 0) with
  accessFlags := 1056
  interfaces := #[14, 4]
  cf := some (fileOf pool15 10 #[] #[{ accessFlags := 0, nameIndex := 7, descriptorIndex := 8, attributes := #[] }, { accessFlags := 0, nameIndex := 7, descriptorIndex := 103, attributes := #[] }, { accessFlags := 1, nameIndex := 34, descriptorIndex := 35, attributes := #[] }, { accessFlags := 2, nameIndex := 102, descriptorIndex := 103, attributes := #[] }, { accessFlags := 2, nameIndex := 106, descriptorIndex := 107, attributes := #[] }, { accessFlags := 2, nameIndex := 127, descriptorIndex := 8, attributes := #[] }, { accessFlags := 1, nameIndex := 45, descriptorIndex := 46, attributes := #[] }, { accessFlags := 16, nameIndex := 552, descriptorIndex := 403, attributes := #[] }, { accessFlags := 16, nameIndex := 85, descriptorIndex := 86, attributes := #[] }, { accessFlags := 2, nameIndex := 217, descriptorIndex := 69, attributes := #[] }, { accessFlags := 2, nameIndex := 210, descriptorIndex := 211, attributes := #[] }] 1056 4 #[444, 48] #[{ accessFlags := 0, nameIndex := 17, descriptorIndex := 14, attributes := #[] }, { accessFlags := 0, nameIndex := 24, descriptorIndex := 25, attributes := #[] }, { accessFlags := 0, nameIndex := 75, descriptorIndex := 21, attributes := #[] }, { accessFlags := 0, nameIndex := 81, descriptorIndex := 82, attributes := #[] }, { accessFlags := 26, nameIndex := 13, descriptorIndex := 14, attributes := #[] }])
  fields := #[{ name := "value", type := (.array .byte), accessFlags := 0, slot := 0, constantValue := 0 }, { name := "coder", type := .byte, accessFlags := 0, slot := 1, constantValue := 0 }, { name := "maybeLatin1", type := .boolean, accessFlags := 0, slot := 2, constantValue := 0 }, { name := "count", type := .int, accessFlags := 0, slot := 3, constantValue := 0 }, { name := "EMPTYVALUE", type := (.array .byte), accessFlags := 26, slot := 0, constantValue := 0 }]
  methods := #[k15m0, k15m1, k15m2, k15m3, k15m4, k15m5, k15m6, k15m7, k15m8, k15m9, k15m10]
  instanceTypes := #[(.array .byte), .byte, .boolean, .int]
  staticTypes := #[(.array .byte)]
  resolved := Array.replicate 609 none
  statics := none }

def pool16 : Array CpInfo := pool [(1, .methodref 2 3), (0, .class_ 4), (0, .nameAndType 5 6), (0, u "java/lang/AbstractStringBuilder"), (0, u "<init>"), (0, u "(I)V"), (11, .class_ 20), (1, u "java/lang/String"), (3, .class_ 26), (1, u "java/lang/StringBuilder"), (0, u "append"), (0, u "(Ljava/lang/String;)Ljava/lang/StringBuilder;"), (0, .methodref 2 30), (0, .nameAndType 27 31), (0, u "(Ljava/lang/String;)Ljava/lang/AbstractStringBuilder;"), (105, .methodref 18 138), (0, .nameAndType 5 139), (0, u "(Ljava/lang/StringBuilder;)V"), (5, u "()V"), (10, u "()I"), (186, .methodref 2 344), (0, .nameAndType 345 156), (0, u "length"), (3, .class_ 350), (0, u "java/lang/Appendable"), (0, .class_ 352), (0, u "java/io/Serializable"), (0, .class_ 354), (0, u "java/lang/Comparable"), (0, .class_ 356), (0, u "java/lang/CharSequence"), (0, u "serialVersionUID"), (0, u "J"), (40, u "toString"), (0, u "()Ljava/lang/String;")] 21

def k16c0 : Code := { maxStack := 2, maxLocals := 1, code := jdk_67_method_1_code, exceptionTable := #[], attributes := #[] }
def k16m0 : Method := { name := "<init>", desc := "()V", sig := { parameters := [], returnType := none }, accessFlags := 1, code := some k16c0 }
def k16c1 : Code := { maxStack := 2, maxLocals := 2, code := jdk_67_method_7_code, exceptionTable := #[], attributes := #[] }
def k16m1 : Method := { name := "append", desc := "(Ljava/lang/String;)Ljava/lang/StringBuilder;", sig := { parameters := [(.object "java/lang/String")], returnType := some (.object "java/lang/StringBuilder") }, accessFlags := 1, code := some k16c1 }
def k16c2 : Code := { maxStack := 3, maxLocals := 1, code := jdk_67_method_42_code, exceptionTable := #[], attributes := #[] }
def k16m2 : Method := { name := "toString", desc := "()Ljava/lang/String;", sig := { parameters := [], returnType := some (.object "java/lang/String") }, accessFlags := 1, code := some k16c2 }
def k16c3 : Code := { maxStack := 1, maxLocals := 1, code := jdk_67_method_93_code, exceptionTable := #[], attributes := #[] }
def k16m3 : Method := { name := "length", desc := "()I", sig := { parameters := [], returnType := some .int }, accessFlags := 4161, code := some k16c3 }
/-- java/lang/StringBuilder -/
def k16 : Class := { plain "java/lang/StringBuilder" (some 15) with
  accessFlags := 49
  interfaces := #[14, 2, 3, 4]
  cf := some (fileOf pool16 24 #[] #[{ accessFlags := 1, nameIndex := 5, descriptorIndex := 145, attributes := #[] }, { accessFlags := 1, nameIndex := 27, descriptorIndex := 28, attributes := #[] }, { accessFlags := 1, nameIndex := 399, descriptorIndex := 400, attributes := #[] }, { accessFlags := 4161, nameIndex := 345, descriptorIndex := 156, attributes := #[] }] 49 2 #[349, 351, 353, 355] #[{ accessFlags := 24, nameIndex := 357, descriptorIndex := 358, attributes := #[] }])
  fields := #[{ name := "serialVersionUID", type := .long, accessFlags := 24, slot := 0, constantValue := 0 }]
  methods := #[k16m0, k16m1, k16m2, k16m3]
  instanceTypes := #[(.array .byte), .byte, .boolean, .int]
  staticTypes := #[.long]
  resolved := Array.replicate 422 none
  statics := none }

def pool17 : Array CpInfo := pool [(9, u "<init>"), (6, .class_ 18), (1, u "java/lang/Object"), (0, u "()V"), (1, .class_ 23), (1, u "jdk/internal/util/ArraysSupport"), (0, u "LOG2_ARRAY_LONG_INDEX_SCALE"), (0, u "I"), (2, u "U"), (0, u "Ljdk/internal/misc/Unsafe;"), (8, u "BIG_ENDIAN"), (0, u "Z"), (8, u "LOG2_BYTE_BIT_SIZE"), (4, u "LOG2_ARRAY_INT_INDEX_SCALE"), (54, u "JLA"), (0, u "Ljdk/internal/access/JavaLangAccess;"), (11, u "LOG2_ARRAY_BOOLEAN_INDEX_SCALE"), (9, u "LOG2_ARRAY_BYTE_INDEX_SCALE"), (5, u "LOG2_ARRAY_CHAR_INDEX_SCALE"), (5, u "LOG2_ARRAY_SHORT_INDEX_SCALE"), (18, u "LOG2_ARRAY_FLOAT_INDEX_SCALE"), (24, u "LOG2_ARRAY_DOUBLE_INDEX_SCALE"), (6, .methodref 195 196), (0, .class_ 197), (0, .nameAndType 198 199), (0, u "java/lang/Math"), (0, u "max"), (0, u "(II)I"), (0, .integer 2147483639), (76, u "T_BOOLEAN"), (2, u "T_CHAR"), (1, u "T_FLOAT"), (1, u "T_DOUBLE"), (1, u "T_BYTE"), (1, u "T_SHORT"), (1, u "T_INT"), (1, u "T_LONG"), (1, u "SOFT_MAX_ARRAY_LENGTH"), (56, u "newLength"), (0, u "(III)I")] 25

def k17m0 : Method := { name := "<init>", desc := "()V", sig := { parameters := [], returnType := none }, accessFlags := 2, code := none }
def k17c1 : Code := { maxStack := 3, maxLocals := 4, code := jdk_48_method_27_code, exceptionTable := #[], attributes := #[] }
def k17m1 : Method := { name := "newLength", desc := "(III)I", sig := { parameters := [.int, .int, .int], returnType := some .int }, accessFlags := 9, code := some k17c1 }
/-- jdk/internal/util/ArraysSupport -/
def k17 : Class := { plain "jdk/internal/util/ArraysSupport" (some 0) with
  accessFlags := 33
  interfaces := #[]
  cf := some (fileOf pool17 21 #[] #[{ accessFlags := 2, nameIndex := 9, descriptorIndex := 19, attributes := #[] }, { accessFlags := 9, nameIndex := 351, descriptorIndex := 352, attributes := #[] }] 33 16 #[] #[{ accessFlags := 24, nameIndex := 28, descriptorIndex := 29, attributes := #[] }, { accessFlags := 26, nameIndex := 38, descriptorIndex := 39, attributes := #[] }, { accessFlags := 25, nameIndex := 121, descriptorIndex := 25, attributes := #[] }, { accessFlags := 25, nameIndex := 131, descriptorIndex := 25, attributes := #[] }, { accessFlags := 25, nameIndex := 137, descriptorIndex := 25, attributes := #[] }, { accessFlags := 25, nameIndex := 143, descriptorIndex := 25, attributes := #[] }, { accessFlags := 25, nameIndex := 53, descriptorIndex := 25, attributes := #[] }, { accessFlags := 25, nameIndex := 24, descriptorIndex := 25, attributes := #[] }, { accessFlags := 25, nameIndex := 162, descriptorIndex := 25, attributes := #[] }, { accessFlags := 25, nameIndex := 187, descriptorIndex := 25, attributes := #[] }, { accessFlags := 26, nameIndex := 48, descriptorIndex := 25, attributes := #[] }, { accessFlags := 25, nameIndex := 277, descriptorIndex := 25, attributes := #[] }, { accessFlags := 25, nameIndex := 280, descriptorIndex := 25, attributes := #[] }, { accessFlags := 25, nameIndex := 282, descriptorIndex := 25, attributes := #[] }, { accessFlags := 25, nameIndex := 284, descriptorIndex := 25, attributes := #[] }, { accessFlags := 25, nameIndex := 286, descriptorIndex := 25, attributes := #[] }, { accessFlags := 25, nameIndex := 288, descriptorIndex := 25, attributes := #[] }, { accessFlags := 25, nameIndex := 290, descriptorIndex := 25, attributes := #[] }, { accessFlags := 25, nameIndex := 292, descriptorIndex := 25, attributes := #[] }, { accessFlags := 26, nameIndex := 108, descriptorIndex := 109, attributes := #[] }, { accessFlags := 25, nameIndex := 294, descriptorIndex := 25, attributes := #[] }])
  fields := #[{ name := "U", type := (.object "jdk/internal/misc/Unsafe"), accessFlags := 24, slot := 0, constantValue := 0 }, { name := "BIG_ENDIAN", type := .boolean, accessFlags := 26, slot := 1, constantValue := 0 }, { name := "LOG2_ARRAY_BOOLEAN_INDEX_SCALE", type := .int, accessFlags := 25, slot := 2, constantValue := 0 }, { name := "LOG2_ARRAY_BYTE_INDEX_SCALE", type := .int, accessFlags := 25, slot := 3, constantValue := 0 }, { name := "LOG2_ARRAY_CHAR_INDEX_SCALE", type := .int, accessFlags := 25, slot := 4, constantValue := 0 }, { name := "LOG2_ARRAY_SHORT_INDEX_SCALE", type := .int, accessFlags := 25, slot := 5, constantValue := 0 }, { name := "LOG2_ARRAY_INT_INDEX_SCALE", type := .int, accessFlags := 25, slot := 6, constantValue := 0 }, { name := "LOG2_ARRAY_LONG_INDEX_SCALE", type := .int, accessFlags := 25, slot := 7, constantValue := 0 }, { name := "LOG2_ARRAY_FLOAT_INDEX_SCALE", type := .int, accessFlags := 25, slot := 8, constantValue := 0 }, { name := "LOG2_ARRAY_DOUBLE_INDEX_SCALE", type := .int, accessFlags := 25, slot := 9, constantValue := 0 }, { name := "LOG2_BYTE_BIT_SIZE", type := .int, accessFlags := 26, slot := 10, constantValue := 0 }, { name := "T_BOOLEAN", type := .int, accessFlags := 25, slot := 11, constantValue := 0 }, { name := "T_CHAR", type := .int, accessFlags := 25, slot := 12, constantValue := 0 }, { name := "T_FLOAT", type := .int, accessFlags := 25, slot := 13, constantValue := 0 }, { name := "T_DOUBLE", type := .int, accessFlags := 25, slot := 14, constantValue := 0 }, { name := "T_BYTE", type := .int, accessFlags := 25, slot := 15, constantValue := 0 }, { name := "T_SHORT", type := .int, accessFlags := 25, slot := 16, constantValue := 0 }, { name := "T_INT", type := .int, accessFlags := 25, slot := 17, constantValue := 0 }, { name := "T_LONG", type := .int, accessFlags := 25, slot := 18, constantValue := 0 }, { name := "JLA", type := (.object "jdk/internal/access/JavaLangAccess"), accessFlags := 26, slot := 19, constantValue := 0 }, { name := "SOFT_MAX_ARRAY_LENGTH", type := .int, accessFlags := 25, slot := 20, constantValue := 0 }]
  methods := #[k17m0, k17m1]
  instanceTypes := #[]
  staticTypes := #[(.object "jdk/internal/misc/Unsafe"), .boolean, .int, .int, .int, .int, .int, .int, .int, .int, .int, .int, .int, .int, .int, .int, .int, .int, .int, (.object "jdk/internal/access/JavaLangAccess"), .int]
  resolved := Array.replicate 378 none
  statics := none }

def pool18 : Array CpInfo := pool [(1, .class_ 2), (0, u "java/lang/Math"), (1, .class_ 6), (1, u "java/lang/Object"), (0, u "<init>"), (0, u "()V"), (89, .class_ 100), (1, u "java/lang/Math$RandomNumberGeneratorHolder"), (71, u "negativeZeroFloatBits"), (0, u "J"), (2, u "negativeZeroDoubleBits"), (21, u "max"), (2, u "min"), (43, u "$assertionsDisabled"), (0, u "Z"), (88, u "(II)I"), (2, u "twoToTheDoubleScaleDown"), (0, u "D"), (4, u "twoToTheDoubleScaleUp"), (9, u "E"), (3, u "PI"), (2, u "TAU"), (2, u "DEGREES_TO_RADIANS"), (0, u "RADIANS_TO_DEGREES")] 94

def k18m0 : Method := { name := "<init>", desc := "()V", sig := { parameters := [], returnType := none }, accessFlags := 2, code := none }
def k18c1 : Code := { maxStack := 2, maxLocals := 2, code := jdk_29_method_65_code, exceptionTable := #[], attributes := #[] }
def k18m1 : Method := { name := "max", desc := "(II)I", sig := { parameters := [.int, .int], returnType := some .int }, accessFlags := 9, code := some k18c1 }
def k18c2 : Code := { maxStack := 2, maxLocals := 2, code := jdk_29_method_69_code, exceptionTable := #[], attributes := #[] }
def k18m2 : Method := { name := "min", desc := "(II)I", sig := { parameters := [.int, .int], returnType := some .int }, accessFlags := 9, code := some k18c2 }
/-- java/lang/Math -/
def k18 : Class := { plain "java/lang/Math" (some 0) with
  accessFlags := 49
  interfaces := #[]
  cf := some (fileOf pool18 1 #[.nestMembers #[98]] #[{ accessFlags := 2, nameIndex := 7, descriptorIndex := 8, attributes := #[] }, { accessFlags := 9, nameIndex := 198, descriptorIndex := 335, attributes := #[] }, { accessFlags := 9, nameIndex := 201, descriptorIndex := 335, attributes := #[] }] 49 4 #[] #[{ accessFlags := 25, nameIndex := 354, descriptorIndex := 339, attributes := #[] }, { accessFlags := 25, nameIndex := 358, descriptorIndex := 339, attributes := #[] }, { accessFlags := 25, nameIndex := 361, descriptorIndex := 339, attributes := #[] }, { accessFlags := 26, nameIndex := 364, descriptorIndex := 339, attributes := #[] }, { accessFlags := 26, nameIndex := 365, descriptorIndex := 339, attributes := #[] }, { accessFlags := 26, nameIndex := 172, descriptorIndex := 173, attributes := #[] }, { accessFlags := 26, nameIndex := 176, descriptorIndex := 173, attributes := #[] }, { accessFlags := 8, nameIndex := 344, descriptorIndex := 339, attributes := #[] }, { accessFlags := 8, nameIndex := 338, descriptorIndex := 339, attributes := #[] }, { accessFlags := 4120, nameIndex := 245, descriptorIndex := 246, attributes := #[] }])
  fields := #[{ name := "E", type := .double, accessFlags := 25, slot := 0, constantValue := 0 }, { name := "PI", type := .double, accessFlags := 25, slot := 1, constantValue := 0 }, { name := "TAU", type := .double, accessFlags := 25, slot := 2, constantValue := 0 }, { name := "DEGREES_TO_RADIANS", type := .double, accessFlags := 26, slot := 3, constantValue := 0 }, { name := "RADIANS_TO_DEGREES", type := .double, accessFlags := 26, slot := 4, constantValue := 0 }, { name := "negativeZeroFloatBits", type := .long, accessFlags := 26, slot := 5, constantValue := 0 }, { name := "negativeZeroDoubleBits", type := .long, accessFlags := 26, slot := 6, constantValue := 0 }, { name := "twoToTheDoubleScaleUp", type := .double, accessFlags := 8, slot := 7, constantValue := 0 }, { name := "twoToTheDoubleScaleDown", type := .double, accessFlags := 8, slot := 8, constantValue := 0 }, { name := "$assertionsDisabled", type := .boolean, accessFlags := 4120, slot := 9, constantValue := 0 }]
  methods := #[k18m0, k18m1, k18m2]
  instanceTypes := #[]
  staticTypes := #[.double, .double, .double, .double, .double, .long, .long, .double, .double, .boolean]
  resolved := Array.replicate 460 none
  statics := none }

def pool19 : Array CpInfo := pool [(2, .class_ 4), (1, u "java/lang/Object"), (0, u "<init>"), (0, u "()V"), (7, .class_ 16), (1, u "java/util/Arrays"), (57, .class_ 76), (1, u "java/util/Arrays$NaturalOrder"), (36, .class_ 115), (1, u "java/util/Arrays$LegacyMergeSort"), (1, u "Z"), (21, u "copyOfRange"), (10, .methodref 151 152), (0, .class_ 153), (0, .nameAndType 154 155), (0, u "java/lang/System"), (0, u "arraycopy"), (0, u "(Ljava/lang/Object;ILjava/lang/Object;II)V"), (146, u "copyOf"), (1, .methodref 305 306), (0, .class_ 307), (0, .nameAndType 308 309), (0, u "java/lang/Math"), (0, u "min"), (0, u "(II)I"), (29, .methodref 14 340), (0, .nameAndType 341 342), (0, u "copyOfRangeByte"), (0, u "([BII)[B"), (0, .methodref 14 344), (0, .nameAndType 345 346), (0, u "checkLength"), (0, u "(II)V"), (28, .class_ 376), (0, u "java/util/Arrays$ArrayList"), (68, u "$assertionsDisabled"), (269, u "MIN_ARRAY_SORT_GRAN"), (0, u "I"), (2, u "INSERTIONSORT_THRESHOLD"), (149, u "([BI)[B"), (105, .class_ 976), (0, u "java/util/Arrays$ArrayItr")] 52

def k19m0 : Method := { name := "<init>", desc := "()V", sig := { parameters := [], returnType := none }, accessFlags := 2, code := none }
def k19c1 : Code := { maxStack := 6, maxLocals := 3, code := jdk_65_method_121_code, exceptionTable := #[], attributes := #[] }
def k19m1 : Method := { name := "copyOf", desc := "([BI)[B", sig := { parameters := [(.array .byte), .int], returnType := some (.array .byte) }, accessFlags := 9, code := some k19c1 }
def k19c2 : Code := { maxStack := 4, maxLocals := 2, code := jdk_65_method_131_code, exceptionTable := #[], attributes := #[] }
def k19m2 : Method := { name := "checkLength", desc := "(II)V", sig := { parameters := [.int, .int], returnType := none }, accessFlags := 10, code := some k19c2 }
def k19c3 : Code := { maxStack := 3, maxLocals := 3, code := jdk_65_method_132_code, exceptionTable := #[], attributes := #[] }
def k19m3 : Method := { name := "copyOfRange", desc := "([BII)[B", sig := { parameters := [(.array .byte), .int, .int], returnType := some (.array .byte) }, accessFlags := 9, code := some k19c3 }
def k19c4 : Code := { maxStack := 6, maxLocals := 5, code := jdk_65_method_133_code, exceptionTable := #[], attributes := #[] }
def k19m4 : Method := { name := "copyOfRangeByte", desc := "([BII)[B", sig := { parameters := [(.array .byte), .int, .int], returnType := some (.array .byte) }, accessFlags := 10, code := some k19c4 }
/-- java/util/Arrays -/
def k19 : Class := { plain "java/util/Arrays" (some 0) with
  accessFlags := 49
  interfaces := #[]
  cf := some (fileOf pool19 14 #[.nestMembers #[975, 375, 113, 74]] #[{ accessFlags := 2, nameIndex := 5, descriptorIndex := 6, attributes := #[] }, { accessFlags := 9, nameIndex := 302, descriptorIndex := 869, attributes := #[] }, { accessFlags := 10, nameIndex := 345, descriptorIndex := 346, attributes := #[] }, { accessFlags := 9, nameIndex := 139, descriptorIndex := 342, attributes := #[] }, { accessFlags := 10, nameIndex := 341, descriptorIndex := 342, attributes := #[] }] 49 2 #[] #[{ accessFlags := 26, nameIndex := 715, descriptorIndex := 716, attributes := #[] }, { accessFlags := 26, nameIndex := 719, descriptorIndex := 716, attributes := #[] }, { accessFlags := 4120, nameIndex := 445, descriptorIndex := 117, attributes := #[] }])
  fields := #[{ name := "MIN_ARRAY_SORT_GRAN", type := .int, accessFlags := 26, slot := 0, constantValue := 0 }, { name := "INSERTIONSORT_THRESHOLD", type := .int, accessFlags := 26, slot := 1, constantValue := 0 }, { name := "$assertionsDisabled", type := .boolean, accessFlags := 4120, slot := 2, constantValue := 0 }]
  methods := #[k19m0, k19m1, k19m2, k19m3, k19m4]
  instanceTypes := #[]
  staticTypes := #[.int, .int, .boolean]
  resolved := Array.replicate 1029 none
  statics := none }

def pool20 : Array CpInfo := pool [(2, .class_ 4), (1, u "java/lang/Object"), (0, u "<init>"), (0, u "()V"), (1, .class_ 10), (1, u "java/lang/System"), (0, u "allowSecurityManager"), (0, u "I"), (16, u "cons"), (0, u "Ljava/io/Console;"), (77, .class_ 110), (1, u "java/lang/System$CallersHolder"), (43, u "initialErrStream"), (0, u "Ljava/io/PrintStream;"), (19, u "security"), (0, u "Ljava/lang/SecurityManager;"), (31, .class_ 209), (0, u "java/lang/System$1"), (7, u "props"), (0, u "Ljava/util/Properties;"), (2, u "lineSeparator"), (0, u "Ljava/lang/String;"), (96, .class_ 321), (1, u "java/lang/System$LoggerFinder"), (5, .class_ 328), (0, u "java/lang/System$Logger"), (67, u "err"), (2, u "out"), (91, u "notSupportedJnuEncoding"), (15, u "in"), (17, u "initialIn"), (0, u "Ljava/io/InputStream;"), (35, u "bootLayer"), (0, u "Ljava/lang/ModuleLayer;"), (99, .class_ 664), (0, u "java/lang/System$2"), (9, u "NEVER"), (2, u "MAYBE"), (49, u "arraycopy"), (0, u "(Ljava/lang/Object;ILjava/lang/Object;II)V"), (72, .class_ 802), (0, u "java/lang/System$Logger$Level")] 31

def k20m0 : Method := { name := "<init>", desc := "()V", sig := { parameters := [], returnType := none }, accessFlags := 2, code := none }
def k20m1 : Method := { name := "arraycopy", desc := "(Ljava/lang/Object;ILjava/lang/Object;II)V", sig := { parameters := [(.object "java/lang/Object"), .int, (.object "java/lang/Object"), .int, .int], returnType := none }, accessFlags := 265, code := none }
/-- java/lang/System -/
def k20 : Class := { plain "java/lang/System" (some 0) with
  accessFlags := 49
  interfaces := #[]
  cf := some (fileOf pool20 8 #[.nestMembers #[319, 327, 801, 108, 663, 208]] #[{ accessFlags := 2, nameIndex := 5, descriptorIndex := 6, attributes := #[] }, { accessFlags := 265, nameIndex := 727, descriptorIndex := 728, attributes := #[] }] 49 2 #[] #[{ accessFlags := 25, nameIndex := 507, descriptorIndex := 526, attributes := #[] }, { accessFlags := 25, nameIndex := 399, descriptorIndex := 155, attributes := #[] }, { accessFlags := 25, nameIndex := 396, descriptorIndex := 155, attributes := #[] }, { accessFlags := 10, nameIndex := 525, descriptorIndex := 526, attributes := #[] }, { accessFlags := 26, nameIndex := 674, descriptorIndex := 12, attributes := #[] }, { accessFlags := 26, nameIndex := 677, descriptorIndex := 12, attributes := #[] }, { accessFlags := 10, nameIndex := 11, descriptorIndex := 12, attributes := #[] }, { accessFlags := 74, nameIndex := 175, descriptorIndex := 176, attributes := #[] }, { accessFlags := 10, nameIndex := 491, descriptorIndex := 222, attributes := #[] }, { accessFlags := 74, nameIndex := 29, descriptorIndex := 30, attributes := #[] }, { accessFlags := 74, nameIndex := 154, descriptorIndex := 155, attributes := #[] }, { accessFlags := 10, nameIndex := 217, descriptorIndex := 218, attributes := #[] }, { accessFlags := 10, nameIndex := 221, descriptorIndex := 222, attributes := #[] }, { accessFlags := 8, nameIndex := 562, descriptorIndex := 563, attributes := #[] }])
  fields := #[{ name := "in", type := (.object "java/io/InputStream"), accessFlags := 25, slot := 0, constantValue := 0 }, { name := "out", type := (.object "java/io/PrintStream"), accessFlags := 25, slot := 1, constantValue := 0 }, { name := "err", type := (.object "java/io/PrintStream"), accessFlags := 25, slot := 2, constantValue := 0 }, { name := "initialIn", type := (.object "java/io/InputStream"), accessFlags := 10, slot := 3, constantValue := 0 }, { name := "NEVER", type := .int, accessFlags := 26, slot := 4, constantValue := 0 }, { name := "MAYBE", type := .int, accessFlags := 26, slot := 5, constantValue := 0 }, { name := "allowSecurityManager", type := .int, accessFlags := 10, slot := 6, constantValue := 0 }, { name := "security", type := (.object "java/lang/SecurityManager"), accessFlags := 74, slot := 7, constantValue := 0 }, { name := "notSupportedJnuEncoding", type := (.object "java/lang/String"), accessFlags := 10, slot := 8, constantValue := 0 }, { name := "cons", type := (.object "java/io/Console"), accessFlags := 74, slot := 9, constantValue := 0 }, { name := "initialErrStream", type := (.object "java/io/PrintStream"), accessFlags := 74, slot := 10, constantValue := 0 }, { name := "props", type := (.object "java/util/Properties"), accessFlags := 10, slot := 11, constantValue := 0 }, { name := "lineSeparator", type := (.object "java/lang/String"), accessFlags := 10, slot := 12, constantValue := 0 }, { name := "bootLayer", type := (.object "java/lang/ModuleLayer"), accessFlags := 8, slot := 13, constantValue := 0 }]
  methods := #[k20m0, k20m1]
  instanceTypes := #[]
  staticTypes := #[(.object "java/io/InputStream"), (.object "java/io/PrintStream"), (.object "java/io/PrintStream"), (.object "java/io/InputStream"), .int, .int, .int, (.object "java/lang/SecurityManager"), (.object "java/lang/String"), (.object "java/io/Console"), (.object "java/io/PrintStream"), (.object "java/util/Properties"), (.object "java/lang/String"), (.object "java/lang/ModuleLayer")]
  resolved := Array.replicate 834 none
  statics := none }

def pool21 : Array CpInfo := pool [(1, .class_ 2), (0, u "java/lang/String"), (1, .class_ 6), (1, u "java/lang/Object"), (0, u "<init>"), (0, u "()V"), (0, .methodref 1 10), (0, .nameAndType 11 12), (0, u "checkIndex"), (0, u "(II)V"), (1, .class_ 16), (1, u "java/lang/StringLatin1"), (0, u "inflate"), (2, .class_ 22), (1, u "java/lang/StringUTF16"), (3, .nameAndType 17 27), (0, u "([BI[BII)V"), (25, u "([BI)C"), (36, u "canEncode"), (14, u "(C)Z"), (15, u "$assertionsDisabled"), (0, u "Z"), (98, .class_ 223), (1, u "java/lang/StringLatin1$LinesSpliterator"), (16, .methodref 20 26), (11, u "charAt"), (127, u "toBytes"), (1, u "(C)[B"), (7, .class_ 391), (0, u "java/lang/StringLatin1$CharsSpliterator")] 3

def k21m0 : Method := { name := "<init>", desc := "()V", sig := { parameters := [], returnType := none }, accessFlags := 0, code := none }
def k21c1 : Code := { maxStack := 2, maxLocals := 2, code := jdk_43_method_2_code, exceptionTable := #[], attributes := #[] }
def k21m1 : Method := { name := "charAt", desc := "([BI)C", sig := { parameters := [(.array .byte), .int], returnType := some .char }, accessFlags := 9, code := some k21c1 }
def k21c2 : Code := { maxStack := 2, maxLocals := 1, code := jdk_43_method_3_code, exceptionTable := #[], attributes := #[] }
def k21m2 : Method := { name := "canEncode", desc := "(C)Z", sig := { parameters := [.char], returnType := some .boolean }, accessFlags := 9, code := some k21c2 }
def k21c3 : Code := { maxStack := 4, maxLocals := 1, code := jdk_43_method_46_code, exceptionTable := #[], attributes := #[] }
def k21m3 : Method := { name := "toBytes", desc := "(C)[B", sig := { parameters := [.char], returnType := some (.array .byte) }, accessFlags := 9, code := some k21c3 }
def k21c4 : Code := { maxStack := 5, maxLocals := 5, code := jdk_43_method_50_code, exceptionTable := #[], attributes := #[] }
def k21m4 : Method := { name := "inflate", desc := "([BI[BII)V", sig := { parameters := [(.array .byte), .int, (.array .byte), .int, .int], returnType := none }, accessFlags := 9, code := some k21c4 }
/-- java/lang/StringLatin1 -/
def k21 : Class := { plain "java/lang/StringLatin1" (some 0) with
  accessFlags := 48
  interfaces := #[]
  cf := some (fileOf pool21 14 #[.nestMembers #[390, 221]] #[{ accessFlags := 0, nameIndex := 7, descriptorIndex := 8, attributes := #[] }, { accessFlags := 9, nameIndex := 252, descriptorIndex := 53, attributes := #[] }, { accessFlags := 9, nameIndex := 90, descriptorIndex := 105, attributes := #[] }, { accessFlags := 9, nameIndex := 380, descriptorIndex := 382, attributes := #[] }, { accessFlags := 9, nameIndex := 17, descriptorIndex := 27, attributes := #[] }] 48 4 #[] #[{ accessFlags := 4120, nameIndex := 121, descriptorIndex := 122, attributes := #[] }])
  fields := #[{ name := "$assertionsDisabled", type := .boolean, accessFlags := 4120, slot := 0, constantValue := 0 }]
  methods := #[k21m0, k21m1, k21m2, k21m3, k21m4]
  instanceTypes := #[]
  staticTypes := #[.boolean]
  resolved := Array.replicate 395 none
  statics := none }

def pool22 : Array CpInfo := pool [(2, .class_ 4), (1, u "java/lang/Object"), (0, u "<init>"), (0, u "()V"), (17, .class_ 26), (1, u "jdk/internal/util/Preconditions"), (6, u "checkIndex"), (15, u "checkFromIndexSize"), (5, .class_ 56), (0, u "jdk/internal/util/Preconditions$4"), (57, .class_ 115), (0, u "jdk/internal/util/Preconditions$1"), (7, u "SIOOBE_FORMATTER"), (0, u "Ljava/util/function/BiFunction;"), (0, .class_ 126), (0, u "jdk/internal/util/Preconditions$2"), (3, u "AIOOBE_FORMATTER"), (0, .class_ 132), (0, u "jdk/internal/util/Preconditions$3"), (3, u "IOOBE_FORMATTER"), (41, u "(IILjava/util/function/BiFunction;)I"), (4, u "(IIILjava/util/function/BiFunction;)I")] 10

def k22m0 : Method := { name := "<init>", desc := "()V", sig := { parameters := [], returnType := none }, accessFlags := 1, code := none }
def k22c1 : Code := { maxStack := 3, maxLocals := 3, code := jdk_41_method_11_code, exceptionTable := #[], attributes := #[] }
def k22m1 : Method := { name := "checkIndex", desc := "(IILjava/util/function/BiFunction;)I", sig := { parameters := [.int, .int, (.object "java/util/function/BiFunction")], returnType := some .int }, accessFlags := 9, code := some k22c1 }
def k22c2 : Code := { maxStack := 4, maxLocals := 4, code := jdk_41_method_13_code, exceptionTable := #[], attributes := #[] }
def k22m2 : Method := { name := "checkFromIndexSize", desc := "(IIILjava/util/function/BiFunction;)I", sig := { parameters := [.int, .int, .int, (.object "java/util/function/BiFunction")], returnType := some .int }, accessFlags := 9, code := some k22c2 }
/-- jdk/internal/util/Preconditions -/
def k22 : Class := { plain "jdk/internal/util/Preconditions" (some 0) with
  accessFlags := 33
  interfaces := #[]
  cf := some (fileOf pool22 24 #[.nestMembers #[55, 131, 125, 114]] #[{ accessFlags := 1, nameIndex := 5, descriptorIndex := 6, attributes := #[] }, { accessFlags := 9, nameIndex := 33, descriptorIndex := 178, attributes := #[] }, { accessFlags := 9, nameIndex := 49, descriptorIndex := 183, attributes := #[] }] 33 2 #[] #[{ accessFlags := 25, nameIndex := 123, descriptorIndex := 124, attributes := #[] }, { accessFlags := 25, nameIndex := 130, descriptorIndex := 124, attributes := #[] }, { accessFlags := 25, nameIndex := 136, descriptorIndex := 124, attributes := #[] }])
  fields := #[{ name := "SIOOBE_FORMATTER", type := (.object "java/util/function/BiFunction"), accessFlags := 25, slot := 0, constantValue := 0 }, { name := "AIOOBE_FORMATTER", type := (.object "java/util/function/BiFunction"), accessFlags := 25, slot := 1, constantValue := 0 }, { name := "IOOBE_FORMATTER", type := (.object "java/util/function/BiFunction"), accessFlags := 25, slot := 2, constantValue := 0 }]
  methods := #[k22m0, k22m1, k22m2]
  instanceTypes := #[]
  staticTypes := #[(.object "java/util/function/BiFunction"), (.object "java/util/function/BiFunction"), (.object "java/util/function/BiFunction")]
  resolved := Array.replicate 194 none
  statics := some 3 }

def pool23 : Array CpInfo := pool [(2, .class_ 4), (1, u "java/lang/Object"), (0, u "<init>"), (0, u "()V"), (12, .class_ 20), (0, u "java/util/Collections"), (63, u "r"), (0, u "Ljava/util/Random;"), (80, .class_ 167), (0, u "java/util/Collections$UnmodifiableCollection"), (6, .class_ 175), (0, u "java/util/Collections$UnmodifiableSequencedCollection"), (6, .class_ 183), (0, u "java/util/Collections$UnmodifiableSet"), (6, .class_ 191), (0, u "java/util/Collections$UnmodifiableSequencedSet"), (6, .class_ 199), (0, u "java/util/Collections$UnmodifiableSortedSet"), (6, .class_ 207), (0, u "java/util/Collections$UnmodifiableNavigableSet"), (4, .class_ 213), (0, u "java/util/Collections$UnmodifiableList"), (1, .class_ 216), (0, u "java/util/Collections$UnmodifiableRandomAccessList"), (6, .class_ 224), (0, u "java/util/Collections$UnmodifiableMap"), (6, .class_ 232), (0, u "java/util/Collections$UnmodifiableSequencedMap"), (4, .class_ 238), (0, u "java/util/Collections$UnmodifiableSortedMap"), (6, .class_ 246), (0, u "java/util/Collections$UnmodifiableNavigableMap"), (3, .class_ 251), (0, u "java/util/Collections$SynchronizedCollection"), (4, .class_ 257), (0, u "java/util/Collections$SynchronizedSet"), (4, .class_ 263), (0, u "java/util/Collections$SynchronizedSortedSet"), (1, .class_ 266), (0, u "java/util/Collections$SynchronizedNavigableSet"), (1, .class_ 269), (0, u "java/util/Collections$SynchronizedRandomAccessList"), (1, .class_ 272), (0, u "java/util/Collections$SynchronizedList"), (5, .class_ 279), (0, u "java/util/Collections$SynchronizedMap"), (1, .class_ 282), (0, u "java/util/Collections$SynchronizedSortedMap"), (1, .class_ 285), (0, u "java/util/Collections$SynchronizedNavigableMap"), (1, .class_ 288), (0, u "java/util/Collections$CheckedCollection"), (11, .class_ 301), (0, u "java/util/Collections$CheckedQueue"), (3, .class_ 306), (0, u "java/util/Collections$CheckedSet"), (3, .class_ 311), (0, u "java/util/Collections$CheckedSortedSet"), (3, .class_ 316), (0, u "java/util/Collections$CheckedNavigableSet"), (3, .class_ 321), (0, u "java/util/Collections$CheckedRandomAccessList"), (3, .class_ 326), (0, u "java/util/Collections$CheckedList"), (1, .class_ 329), (0, u "java/util/Collections$CheckedMap"), (3, .class_ 334), (0, u "java/util/Collections$CheckedSortedMap"), (3, .class_ 339), (0, u "java/util/Collections$CheckedNavigableMap"), (4, .class_ 346), (1, u "java/util/Collections$EmptyIterator"), (3, .class_ 352), (1, u "java/util/Collections$EmptyListIterator"), (2, .class_ 357), (1, u "java/util/Collections$EmptyEnumeration"), (4, u "EMPTY_SET"), (0, u "Ljava/util/Set;"), (6, u "EMPTY_LIST"), (0, u "Ljava/util/List;"), (2, u "EMPTY_MAP"), (0, u "Ljava/util/Map;"), (4, .class_ 381), (0, u "java/util/Collections$SingletonSet"), (2, .class_ 385), (0, u "java/util/Collections$1"), (1, .class_ 388), (0, u "java/util/Collections$2"), (1, .class_ 391), (0, u "java/util/Collections$SingletonList"), (1, .class_ 394), (0, u "java/util/Collections$SingletonMap"), (22, .class_ 418), (0, u "java/util/Collections$CopiesList"), (4, .class_ 425), (1, u "java/util/Collections$ReverseComparator"), (8, .class_ 435), (0, u "java/util/Collections$ReverseComparator2"), (6, .class_ 443), (0, u "java/util/Collections$3"), (25, .class_ 470), (0, u "java/util/Collections$SetFromMap"), (2, .class_ 474), (0, u "java/util/Collections$SequencedSetFromMap"), (3, .class_ 479), (0, u "java/util/Collections$AsLIFOQueue"), (11, .class_ 492), (0, u "java/util/Collections$EmptySet"), (1, .class_ 495), (0, u "java/util/Collections$EmptyList"), (1, .class_ 498), (0, u "java/util/Collections$EmptyMap"), (1, u "BINARYSEARCH_THRESHOLD"), (0, u "I"), (2, u "REVERSE_THRESHOLD"), (1, u "SHUFFLE_THRESHOLD"), (1, u "FILL_THRESHOLD"), (1, u "ROTATE_THRESHOLD"), (1, u "COPY_THRESHOLD"), (1, u "REPLACEALL_THRESHOLD"), (1, u "INDEXOFSUBLIST_THRESHOLD"), (333, .class_ 851), (0, u "java/util/Collections$CheckedMap$CheckedEntrySet"), (0, .class_ 853), (0, u "java/util/Collections$CheckedMap$CheckedEntrySet$CheckedEntry"), (0, .class_ 855), (0, u "java/util/Collections$CheckedMap$CheckedEntrySet$1"), (0, .class_ 857), (0, u "java/util/Collections$CheckedList$1"), (0, .class_ 859), (0, u "java/util/Collections$CheckedCollection$1"), (0, .class_ 861), (0, u "java/util/Collections$UnmodifiableNavigableMap$EmptyNavigableMap"), (0, .class_ 863), (0, u "java/util/Collections$UnmodifiableMap$UnmodifiableEntrySet"), (0, .class_ 865), (0, u "java/util/Collections$UnmodifiableMap$UnmodifiableEntrySet$UnmodifiableEntry"), (0, .class_ 867), (0, u "java/util/Collections$UnmodifiableMap$UnmodifiableEntrySet$UnmodifiableEntrySetSpliterator"), (0, .class_ 869), (0, u "java/util/Collections$UnmodifiableMap$UnmodifiableEntrySet$1"), (0, .class_ 871), (0, u "java/util/Collections$UnmodifiableList$1"), (0, .class_ 873), (0, u "java/util/Collections$UnmodifiableNavigableSet$EmptyNavigableSet"), (0, .class_ 875), (0, u "java/util/Collections$UnmodifiableCollection$1")] 57

def k23m0 : Method := { name := "<init>", desc := "()V", sig := { parameters := [], returnType := none }, accessFlags := 2, code := none }
/-- java/util/Collections -/
def k23 : Class := { plain "java/util/Collections" (some 0) with
  accessFlags := 33
  interfaces := #[]
  cf := some (fileOf pool23 19 #[.nestMembers #[478, 473, 469, 434, 423, 417, 393, 390, 380, 497, 494, 491, 355, 350, 344, 338, 333, 328, 850, 852, 854, 320, 325, 856, 315, 310, 305, 300, 287, 858, 284, 281, 278, 268, 271, 265, 262, 256, 250, 245, 860, 237, 231, 223, 862, 864, 866, 868, 215, 212, 870, 206, 872, 198, 190, 182, 174, 166, 874, 442, 387, 384]] #[{ accessFlags := 2, nameIndex := 5, descriptorIndex := 6, attributes := #[] }] 33 2 #[] #[{ accessFlags := 26, nameIndex := 500, descriptorIndex := 501, attributes := #[] }, { accessFlags := 26, nameIndex := 504, descriptorIndex := 501, attributes := #[] }, { accessFlags := 26, nameIndex := 506, descriptorIndex := 501, attributes := #[] }, { accessFlags := 26, nameIndex := 508, descriptorIndex := 501, attributes := #[] }, { accessFlags := 26, nameIndex := 510, descriptorIndex := 501, attributes := #[] }, { accessFlags := 26, nameIndex := 512, descriptorIndex := 501, attributes := #[] }, { accessFlags := 26, nameIndex := 514, descriptorIndex := 501, attributes := #[] }, { accessFlags := 26, nameIndex := 516, descriptorIndex := 501, attributes := #[] }, { accessFlags := 10, nameIndex := 84, descriptorIndex := 85, attributes := #[] }, { accessFlags := 25, nameIndex := 362, descriptorIndex := 363, attributes := #[] }, { accessFlags := 25, nameIndex := 370, descriptorIndex := 371, attributes := #[] }, { accessFlags := 25, nameIndex := 374, descriptorIndex := 375, attributes := #[] }])
  fields := #[{ name := "BINARYSEARCH_THRESHOLD", type := .int, accessFlags := 26, slot := 0, constantValue := 0 }, { name := "REVERSE_THRESHOLD", type := .int, accessFlags := 26, slot := 1, constantValue := 0 }, { name := "SHUFFLE_THRESHOLD", type := .int, accessFlags := 26, slot := 2, constantValue := 0 }, { name := "FILL_THRESHOLD", type := .int, accessFlags := 26, slot := 3, constantValue := 0 }, { name := "ROTATE_THRESHOLD", type := .int, accessFlags := 26, slot := 4, constantValue := 0 }, { name := "COPY_THRESHOLD", type := .int, accessFlags := 26, slot := 5, constantValue := 0 }, { name := "REPLACEALL_THRESHOLD", type := .int, accessFlags := 26, slot := 6, constantValue := 0 }, { name := "INDEXOFSUBLIST_THRESHOLD", type := .int, accessFlags := 26, slot := 7, constantValue := 0 }, { name := "r", type := (.object "java/util/Random"), accessFlags := 10, slot := 8, constantValue := 0 }, { name := "EMPTY_SET", type := (.object "java/util/Set"), accessFlags := 25, slot := 9, constantValue := 0 }, { name := "EMPTY_LIST", type := (.object "java/util/List"), accessFlags := 25, slot := 10, constantValue := 0 }, { name := "EMPTY_MAP", type := (.object "java/util/Map"), accessFlags := 25, slot := 11, constantValue := 0 }]
  methods := #[k23m0]
  instanceTypes := #[]
  staticTypes := #[.int, .int, .int, .int, .int, .int, .int, .int, (.object "java/util/Random"), (.object "java/util/Set"), (.object "java/util/List"), (.object "java/util/Map")]
  resolved := Array.replicate 933 none
  statics := some 4 }

def pool24 : Array CpInfo := pool [(8, .class_ 10), (1, u "java/lang/Iterable"), (24, .class_ 36), (0, u "java/lang/Object")] 25

/-- java/lang/Iterable -/
def k24 : Class := { plain "java/lang/Iterable" (some 0) with
  accessFlags := 1537
  interfaces := #[]
  cf := some (fileOf pool24 8 #[] #[] 1537 35 #[] #[])
  fields := #[]
  methods := #[]
  instanceTypes := #[]
  staticTypes := #[]
  resolved := Array.replicate 62 none
  statics := none }

def pool25 : Array CpInfo := pool [(10, .class_ 12), (1, u "java/util/Collection"), (47, .class_ 61), (0, u "java/lang/Object"), (0, .class_ 63), (0, u "java/lang/Iterable")] 51

/-- java/util/Collection -/
def k25 : Class := { plain "java/util/Collection" (some 0) with
  accessFlags := 1537
  interfaces := #[24]
  cf := some (fileOf pool25 10 #[] #[] 1537 60 #[62] #[])
  fields := #[]
  methods := #[]
  instanceTypes := #[]
  staticTypes := #[]
  resolved := Array.replicate 115 none
  statics := none }

def pool26 : Array CpInfo := pool [(2, .class_ 4), (1, u "java/lang/Object"), (0, u "<init>"), (0, u "()V"), (1, .class_ 10), (1, u "java/util/AbstractCollection"), (66, .class_ 78), (0, u "java/util/Collection")] 81

def k26m0 : Method := { name := "<init>", desc := "()V", sig := { parameters := [], returnType := none }, accessFlags := 4, code := none }
/-- java/util/AbstractCollection -/
def k26 : Class := { plain "java/util/AbstractCollection" (some 0) with
  accessFlags := 1057
  interfaces := #[25]
  cf := some (fileOf pool26 8 #[] #[{ accessFlags := 4, nameIndex := 5, descriptorIndex := 6, attributes := #[] }] 1057 2 #[77] #[])
  fields := #[]
  methods := #[k26m0]
  instanceTypes := #[]
  staticTypes := #[]
  resolved := Array.replicate 160 none
  statics := none }

def pool27 : Array CpInfo := pool [(8, .class_ 10), (1, u "java/util/SequencedCollection"), (15, .class_ 27), (0, u "java/lang/Object"), (0, .class_ 29), (0, u "java/util/Collection")] 27

/-- java/util/SequencedCollection -/
def k27 : Class := { plain "java/util/SequencedCollection" (some 0) with
  accessFlags := 1537
  interfaces := #[25]
  cf := some (fileOf pool27 8 #[] #[] 1537 26 #[28] #[])
  fields := #[]
  methods := #[]
  instanceTypes := #[]
  staticTypes := #[]
  resolved := Array.replicate 57 none
  statics := none }

def pool28 : Array CpInfo := pool [(8, .class_ 10), (1, u "java/util/List"), (92, .class_ 104), (0, u "java/lang/Object"), (15, .class_ 121), (0, u "java/util/SequencedCollection")] 129

/-- java/util/List -/
def k28 : Class := { plain "java/util/List" (some 0) with
  accessFlags := 1537
  interfaces := #[27]
  cf := some (fileOf pool28 8 #[] #[] 1537 103 #[120] #[])
  fields := #[]
  methods := #[]
  instanceTypes := #[]
  staticTypes := #[]
  resolved := Array.replicate 251 none
  statics := none }

def pool29 : Array CpInfo := pool [(2, .class_ 4), (1, u "java/util/AbstractCollection"), (0, u "<init>"), (0, u "()V"), (1, .class_ 10), (1, u "java/util/AbstractList"), (0, u "modCount"), (0, u "I"), (64, .class_ 78), (0, u "java/util/AbstractList$Itr"), (3, .class_ 83), (0, u "java/util/AbstractList$ListItr"), (9, .class_ 94), (0, u "java/util/AbstractList$RandomAccessSubList"), (3, .class_ 99), (0, u "java/util/AbstractList$SubList"), (33, .class_ 134), (0, u "java/util/List"), (73, .class_ 209), (0, u "java/util/AbstractList$SubList$1"), (0, .class_ 211), (0, u "java/util/AbstractList$RandomAccessSpliterator")] 6

def k29m0 : Method := { name := "<init>", desc := "()V", sig := { parameters := [], returnType := none }, accessFlags := 4, code := none }
/-- java/util/AbstractList -/
def k29 : Class := { plain "java/util/AbstractList" (some 26) with
  accessFlags := 1057
  interfaces := #[28]
  cf := some (fileOf pool29 8 #[.nestMembers #[93, 98, 208, 210, 82, 77]] #[{ accessFlags := 4, nameIndex := 5, descriptorIndex := 6, attributes := #[] }] 1057 2 #[133] #[{ accessFlags := 132, nameIndex := 11, descriptorIndex := 12, attributes := #[] }])
  fields := #[{ name := "modCount", type := .int, accessFlags := 132, slot := 0, constantValue := 0 }]
  methods := #[k29m0]
  instanceTypes := #[.int]
  staticTypes := #[]
  resolved := Array.replicate 218 none
  statics := none }

def pool30 : Array CpInfo := pool [(1, .class_ 2), (0, u "java/util/RandomAccess"), (0, .class_ 4), (0, u "java/lang/Object")] 2

/-- java/util/RandomAccess -/
def k30 : Class := { plain "java/util/RandomAccess" (some 0) with
  accessFlags := 1537
  interfaces := #[]
  cf := some (fileOf pool30 1 #[] #[] 1537 3 #[] #[])
  fields := #[]
  methods := #[]
  instanceTypes := #[]
  staticTypes := #[]
  resolved := Array.replicate 7 none
  statics := none }

def pool31 : Array CpInfo := pool [(2, .class_ 4), (1, u "java/util/AbstractList"), (0, u "<init>"), (0, u "()V"), (1, .class_ 10), (1, u "java/util/Collections"), (54, .class_ 66), (0, u "java/util/Collections$EmptyList"), (0, .class_ 68), (0, u "java/util/RandomAccess"), (0, .class_ 70), (0, u "java/io/Serializable"), (0, u "serialVersionUID"), (0, u "J")] 77

def k31m0 : Method := { name := "<init>", desc := "()V", sig := { parameters := [], returnType := none }, accessFlags := 2, code := none }
/-- java/util/Collections$EmptyList -/
def k31 : Class := { plain "java/util/Collections$EmptyList" (some 29) with
  accessFlags := 32
  interfaces := #[30, 2]
  cf := some (fileOf pool31 65 #[.nestHost 8] #[{ accessFlags := 2, nameIndex := 5, descriptorIndex := 6, attributes := #[] }] 32 2 #[67, 69] #[{ accessFlags := 26, nameIndex := 71, descriptorIndex := 72, attributes := #[] }])
  fields := #[{ name := "serialVersionUID", type := .long, accessFlags := 26, slot := 0, constantValue := 0 }]
  methods := #[k31m0]
  instanceTypes := #[.int]
  staticTypes := #[.long]
  resolved := Array.replicate 150 none
  statics := none }

def pool32 : Array CpInfo := pool [(2, .class_ 4), (1, u "java/lang/StackTraceElement"), (0, u "<init>"), (2, .class_ 10), (1, u "java/lang/Object"), (0, u "()V"), (2, u "format"), (0, u "B"), (2, u "classLoaderName"), (0, u "Ljava/lang/String;"), (2, u "moduleName"), (2, u "moduleVersion"), (12, u "declaringClass"), (4, u "methodName"), (2, u "fileName"), (2, u "lineNumber"), (0, u "I"), (65, u "declaringClassObject"), (0, u "Ljava/lang/Class;"), (33, .class_ 153), (1, u "java/lang/StackTraceElement$HashedModules"), (17, .class_ 172), (0, u "java/io/Serializable"), (0, u "NATIVE_METHOD"), (1, u "UNKNOWN_SOURCE"), (2, u "BUILTIN_CLASS_LOADER"), (1, u "JDK_NON_UPGRADEABLE_MODULE"), (1, u "serialVersionUID"), (0, u "J")] 51

def k32m0 : Method := { name := "<init>", desc := "()V", sig := { parameters := [], returnType := none }, accessFlags := 2, code := none }
/-- java/lang/StackTraceElement -/
def k32 : Class := { plain "java/lang/StackTraceElement" (some 0) with
  accessFlags := 49
  interfaces := #[2]
  cf := some (fileOf pool32 2 #[.nestMembers #[151]] #[{ accessFlags := 2, nameIndex := 5, descriptorIndex := 11, attributes := #[] }] 49 8 #[171] #[{ accessFlags := 26, nameIndex := 173, descriptorIndex := 19, attributes := #[] }, { accessFlags := 26, nameIndex := 175, descriptorIndex := 19, attributes := #[] }, { accessFlags := 130, nameIndex := 116, descriptorIndex := 117, attributes := #[] }, { accessFlags := 2, nameIndex := 18, descriptorIndex := 19, attributes := #[] }, { accessFlags := 2, nameIndex := 22, descriptorIndex := 19, attributes := #[] }, { accessFlags := 2, nameIndex := 25, descriptorIndex := 19, attributes := #[] }, { accessFlags := 2, nameIndex := 38, descriptorIndex := 19, attributes := #[] }, { accessFlags := 2, nameIndex := 43, descriptorIndex := 19, attributes := #[] }, { accessFlags := 2, nameIndex := 46, descriptorIndex := 19, attributes := #[] }, { accessFlags := 2, nameIndex := 49, descriptorIndex := 50, attributes := #[] }, { accessFlags := 2, nameIndex := 14, descriptorIndex := 15, attributes := #[] }, { accessFlags := 26, nameIndex := 178, descriptorIndex := 15, attributes := #[] }, { accessFlags := 26, nameIndex := 180, descriptorIndex := 15, attributes := #[] }, { accessFlags := 26, nameIndex := 182, descriptorIndex := 183, attributes := #[] }])
  fields := #[{ name := "NATIVE_METHOD", type := (.object "java/lang/String"), accessFlags := 26, slot := 0, constantValue := 0 }, { name := "UNKNOWN_SOURCE", type := (.object "java/lang/String"), accessFlags := 26, slot := 1, constantValue := 0 }, { name := "declaringClassObject", type := (.object "java/lang/Class"), accessFlags := 130, slot := 0, constantValue := 0 }, { name := "classLoaderName", type := (.object "java/lang/String"), accessFlags := 2, slot := 1, constantValue := 0 }, { name := "moduleName", type := (.object "java/lang/String"), accessFlags := 2, slot := 2, constantValue := 0 }, { name := "moduleVersion", type := (.object "java/lang/String"), accessFlags := 2, slot := 3, constantValue := 0 }, { name := "declaringClass", type := (.object "java/lang/String"), accessFlags := 2, slot := 4, constantValue := 0 }, { name := "methodName", type := (.object "java/lang/String"), accessFlags := 2, slot := 5, constantValue := 0 }, { name := "fileName", type := (.object "java/lang/String"), accessFlags := 2, slot := 6, constantValue := 0 }, { name := "lineNumber", type := .int, accessFlags := 2, slot := 7, constantValue := 0 }, { name := "format", type := .byte, accessFlags := 2, slot := 8, constantValue := 0 }, { name := "BUILTIN_CLASS_LOADER", type := .byte, accessFlags := 26, slot := 2, constantValue := 0 }, { name := "JDK_NON_UPGRADEABLE_MODULE", type := .byte, accessFlags := 26, slot := 3, constantValue := 0 }, { name := "serialVersionUID", type := .long, accessFlags := 26, slot := 4, constantValue := 0 }]
  methods := #[k32m0]
  instanceTypes := #[(.object "java/lang/Class"), (.object "java/lang/String"), (.object "java/lang/String"), (.object "java/lang/String"), (.object "java/lang/String"), (.object "java/lang/String"), (.object "java/lang/String"), .int, .byte]
  staticTypes := #[(.object "java/lang/String"), (.object "java/lang/String"), .byte, .byte, .long]
  resolved := Array.replicate 235 none
  statics := none }

def pool33 : Array CpInfo := pool [(1, u "java/lang/Cloneable"), (0, .class_ 1), (0, u "java/lang/Object"), (0, .class_ 3)] 3

/-- java/lang/Cloneable -/
def k33 : Class := { plain "java/lang/Cloneable" (some 0) with
  accessFlags := 1537
  interfaces := #[]
  cf := some (fileOf pool33 2 #[] #[] 1537 4 #[] #[])
  fields := #[]
  methods := #[]
  instanceTypes := #[]
  staticTypes := #[]
  resolved := Array.replicate 8 none
  statics := none }

/-- the primitive byte -/
def k34 : Class := { plain "byte" none with kind := .primitive 'B', accessFlags := 0x411 }
/-- [B -/
def k35 : Class := { plain "[B" (some 0) with kind := .array 34 .byte, interfaces := #[33, 2], accessFlags := 1041 }

/-- the primitive char -/
def k36 : Class := { plain "char" none with kind := .primitive 'C', accessFlags := 0x411 }
/-- [C -/
def k37 : Class := { plain "[C" (some 0) with kind := .array 36 .char, interfaces := #[33, 2], accessFlags := 1041 }

/-- the primitive int -/
def k38 : Class := { plain "int" none with kind := .primitive 'I', accessFlags := 0x411 }
/-- [I -/
def k39 : Class := { plain "[I" (some 0) with kind := .array 38 .int, interfaces := #[33, 2], accessFlags := 1041 }

/-- [Ljava/lang/Object; -/
def k40 : Class := { plain "[Ljava/lang/Object;" (some 0) with kind := .array 0 (.object "java/lang/Object"), interfaces := #[33, 2], accessFlags := 1041 }

/-- [Ljava/lang/StackTraceElement; -/
def k41 : Class := { plain "[Ljava/lang/StackTraceElement;" (some 0) with kind := .array 32 (.object "java/lang/StackTraceElement"), interfaces := #[33, 2], accessFlags := 1041 }

/-- [Ljava/lang/Throwable; -/
def k42 : Class := { plain "[Ljava/lang/Throwable;" (some 0) with kind := .array 10 (.object "java/lang/Throwable"), interfaces := #[33, 2], accessFlags := 1041 }

def heap : Heap := #[{ cls := 7, slots := #[.long 0, .int 1, .null, .int 0, .null, .int 0, .int 0], vm := .statics 7 },
  { cls := 8, slots := #[.int 0, .int 8, .int 0, .int 1], vm := .statics 8 },
  { cls := 10, slots := #[.long 0, .ref 5, .ref 6, .null, .null, .null, .null, .ref 7, .int 1], vm := .statics 10 },
  { cls := 22, slots := #[.null, .null, .null], vm := .statics 22 },
  { cls := 23, slots := #[.int 0, .int 0, .int 0, .int 0, .int 0, .int 0, .int 0, .int 0, .null, .null, .ref 6, .null], vm := .statics 23 },
  { cls := 41, slots := #[], vm := .none },
  { cls := 31, slots := #[.int 0], vm := .none },
  { cls := 42, slots := #[], vm := .none }]
def classes : Array Class := #[k0, k1, k2, k3, k4, k5, k6, k7, k8, k9, k10, k11, k12, k13, k14, k15, k16, k17, k18, k19, k20, k21, k22, k23, k24, k25, k26, k27, k28, k29, k30, k31, k32, k33, k34, k35, k36, k37, k38, k39, k40, k41, k42]
def interned : List (Array UInt16 × Addr) := []
def slotsUsed : Nat := 36
def theMethod : MethodId := ⟨1, 4⟩
def args0 : Array Value := #[.int 4259840, .int 66, .int 6]
def aboutOver (below : List Frame) : State where
  vm := { classes := classes, interned := interned.toArray }
  heap := heap
  slotsUsed := slotsUsed
  threads := #[{ frames := .invoking theMethod args0 :: below }]
def below0 : List Frame := [.native { method := ⟨0, 0⟩, args := #[] }]
def about1 : State := aboutOver below0
def p0 : Program := .bare "" "" ""
def e0 : Env := launch0.env 0 0 0
theorem w_frames : about1.frames = Frame.invoking theMethod args0 :: below0 := rfl
set_option maxRecDepth 65536 in
theorem w_args : argsFit about1.vm theMethod args0 = true := by decide +kernel
set_option maxRecDepth 65536 in
theorem w_heap : heapFits about1 = true := by decide +kernel
set_option maxRecDepth 65536 in
theorem w_runnable : about1.curStatus? = some .runnable := by decide +kernel
set_option maxRecDepth 65536 in
theorem w_alone : about1.alone = true := by decide +kernel
set_option maxRecDepth 65536 in
theorem w_named : about1.methodNamed? x = some theMethod := by decide +kernel
set_option maxRecDepth 65536 in
theorem w_hears : about1.hears theMethod below0 = true := by decide +kernel
set_option maxRecDepth 65536 in
theorem w_ripe : about1.ripe theMethod args0 below0 = true := by decide +kernel
theorem w_running : about1.status = .running := rfl
set_option maxRecDepth 65536 in
theorem w_room : about1.hasRoom e0.platform room_1 = true :=
  launch0.hasRoom_least _ room_1 (by decide +kernel) (by decide +kernel) (by decide +kernel) (by decide +kernel) (by decide +kernel) (by decide +kernel)
theorem allAtoms_all (ts : List Jvm.Cond) (a : Array Jvm.Value) (st : Jvm.State) : (allAtoms ts).before a st = ts.all (fun c => c.before a st) := by
  induction ts with
  | nil => rfl
  | cons c t ih =>
    show (Jvm.Cond.and c (allAtoms t)).before a st = _
    rw [Jvm.Cond.before_and, ih, List.all_cons]
def words1 : List Jvm.Cond := Jvm.Cond.code x code maxLocals ret :: tables_1
/-- a 'code' word, met by the world's own term for the bytes: nothing is compared byte by byte -/
theorem code_word {y : MethodName} {bytes : ByteArray} {mx : Nat} {rt : Option FieldType} {a : Array Value} {s : State} {m : MethodId} {meth : Method} {c : Code} (h1 : s.methodNamed? y = some m) (h2 : s.vm.method? m = some meth) (h3 : meth.code = some c) (h4 : c.code = bytes)
    (h5 : (c.maxLocals == mx && c.exceptionTable.isEmpty && decide (c.maxStack ≤ mostOperands) && decide (meth.sig.returnType = rt) && !meth.locks && decide (parseMethodDescriptor y.desc = some meth.sig)) = true) : (Jvm.Cond.code y bytes mx rt).before a s = true := by
  simp only [Bool.and_eq_true, beq_iff_eq, Bool.not_eq_true', decide_eq_true_eq] at h5
  obtain ⟨⟨⟨⟨⟨g1, g2⟩, g3⟩, g4⟩, g5⟩, g6⟩ := h5
  simp [Cond.before, Cond.holds, Cond.value, h1, h2, h3, h4, g1, g2, g3, g4, g5, g6]
def isCode : Jvm.Cond → Bool
  | .code _ _ _ _ => true
  | _ => false
theorem all_split {L : List Jvm.Cond} {P : Jvm.Cond → Bool} (h1 : L.all (fun c => isCode c || P c) = true) (h2 : ∀ c ∈ L.filter isCode, P c = true) : L.all P = true := by
  refine List.all_eq_true.mpr fun c hc => ?_
  have h := List.all_eq_true.mp h1 c hc
  rcases Bool.eq_false_or_eq_true (isCode c) with hi | hi
  · exact h2 c (List.mem_filter.mpr ⟨hc, hi⟩)
  · simpa [hi] using h
set_option maxRecDepth 65536 in
theorem w_c0 : (Jvm.Cond.code x code maxLocals ret).before args0 about1 = true := code_word (m := ⟨1, 4⟩) (meth := k1m4) (c := k1c4) (by decide +kernel) rfl rfl rfl (by decide +kernel)
set_option maxRecDepth 65536 in
theorem w_c1 : (Jvm.Cond.code ({ cls := "com/example/tannoy/tannoy/internal/HandlerRefusedFunctionPinLaw", name := "str", desc := "(II)Ljava/lang/String;" } : Jvm.MethodName) method_2_code (4 : Nat) (Option.some (Jvm.ClassFile.FieldType.object "java/lang/String"))).before args0 about1 = true := code_word (m := ⟨1, 1⟩) (meth := k1m1) (c := k1c1) (by decide +kernel) rfl rfl rfl (by decide +kernel)
set_option maxRecDepth 65536 in
theorem w_c2 : (Jvm.Cond.code ({ cls := "java/lang/String", name := "<init>", desc := "([C)V" } : Jvm.MethodName) jdk_42_method_3_code (2 : Nat) (Option.none : Option Jvm.ClassFile.FieldType)).before args0 about1 = true := code_word (m := ⟨7, 1⟩) (meth := k7m1) (c := k7c1) (by decide +kernel) rfl rfl rfl (by decide +kernel)
set_option maxRecDepth 65536 in
theorem w_c3 : (Jvm.Cond.code ({ cls := "java/lang/String", name := "<init>", desc := "([CIILjava/lang/Void;)V" } : Jvm.MethodName) jdk_42_method_149_code (6 : Nat) (Option.none : Option Jvm.ClassFile.FieldType)).before args0 about1 = true := code_word (m := ⟨7, 7⟩) (meth := k7m7) (c := k7c7) (by decide +kernel) rfl rfl rfl (by decide +kernel)
set_option maxRecDepth 65536 in
theorem w_c4 : (Jvm.Cond.code ({ cls := "java/lang/Object", name := "<init>", desc := "()V" } : Jvm.MethodName) object_method_1_code (1 : Nat) (Option.none : Option Jvm.ClassFile.FieldType)).before args0 about1 = true := code_word (m := ⟨0, 0⟩) (meth := k0m0) (c := k0c0) (by decide +kernel) rfl rfl rfl (by decide +kernel)
set_option maxRecDepth 65536 in
theorem w_c5 : (Jvm.Cond.code ({ cls := "java/lang/StringUTF16", name := "compress", desc := "([CII)[B" } : Jvm.MethodName) jdk_52_method_16_code (6 : Nat) (Option.some (Jvm.ClassFile.FieldType.array Jvm.ClassFile.FieldType.byte))).before args0 about1 = true := code_word (m := ⟨8, 8⟩) (meth := k8m8) (c := k8c8) (by decide +kernel) rfl rfl rfl (by decide +kernel)
set_option maxRecDepth 65536 in
theorem w_c6 : (Jvm.Cond.code ({ cls := "java/lang/StringUTF16", name := "compress", desc := "([CI[BII)I" } : Jvm.MethodName) jdk_52_method_21_code (7 : Nat) (Option.some Jvm.ClassFile.FieldType.int)).before args0 about1 = true := code_word (m := ⟨8, 9⟩) (meth := k8m9) (c := k8c9) (by decide +kernel) rfl rfl rfl (by decide +kernel)
set_option maxRecDepth 65536 in
theorem w_c7 : (Jvm.Cond.code ({ cls := "java/lang/StringUTF16", name := "coderFromArrayLen", desc := "([BI)B" } : Jvm.MethodName) jdk_52_method_15_code (2 : Nat) (Option.some Jvm.ClassFile.FieldType.byte)).before args0 about1 = true := code_word (m := ⟨8, 7⟩) (meth := k8m7) (c := k8c7) (by decide +kernel) rfl rfl rfl (by decide +kernel)
set_option maxRecDepth 65536 in
theorem w_c8 : (Jvm.Cond.code ({ cls := "com/example/tannoy/tannoy/internal/Handler", name := "refusedFunction", desc := "(Ljava/lang/String;Ljava/lang/String;)Ljava/lang/IllegalArgumentException;" } : Jvm.MethodName) prog_16_method_3_code (2 : Nat) (Option.some (Jvm.ClassFile.FieldType.object "java/lang/IllegalArgumentException"))).before args0 about1 = true := code_word (m := ⟨9, 0⟩) (meth := k9m0) (c := k9c0) (by decide +kernel) rfl rfl rfl (by decide +kernel)
set_option maxRecDepth 65536 in
theorem w_c9 : (Jvm.Cond.code ({ cls := "java/lang/StringBuilder", name := "<init>", desc := "()V" } : Jvm.MethodName) jdk_67_method_1_code (1 : Nat) (Option.none : Option Jvm.ClassFile.FieldType)).before args0 about1 = true := code_word (m := ⟨16, 0⟩) (meth := k16m0) (c := k16c0) (by decide +kernel) rfl rfl rfl (by decide +kernel)
set_option maxRecDepth 65536 in
theorem w_c10 : (Jvm.Cond.code ({ cls := "java/lang/AbstractStringBuilder", name := "<init>", desc := "(I)V" } : Jvm.MethodName) jdk_68_method_2_code (2 : Nat) (Option.none : Option Jvm.ClassFile.FieldType)).before args0 about1 = true := code_word (m := ⟨15, 1⟩) (meth := k15m1) (c := k15c1) (by decide +kernel) rfl rfl rfl (by decide +kernel)
set_option maxRecDepth 65536 in
theorem w_c11 : (Jvm.Cond.code ({ cls := "java/lang/StringBuilder", name := "append", desc := "(Ljava/lang/String;)Ljava/lang/StringBuilder;" } : Jvm.MethodName) jdk_67_method_7_code (2 : Nat) (Option.some (Jvm.ClassFile.FieldType.object "java/lang/StringBuilder"))).before args0 about1 = true := code_word (m := ⟨16, 1⟩) (meth := k16m1) (c := k16c1) (by decide +kernel) rfl rfl rfl (by decide +kernel)
set_option maxRecDepth 65536 in
theorem w_c12 : (Jvm.Cond.code ({ cls := "java/lang/AbstractStringBuilder", name := "append", desc := "(Ljava/lang/String;)Ljava/lang/AbstractStringBuilder;" } : Jvm.MethodName) jdk_68_method_22_code (3 : Nat) (Option.some (Jvm.ClassFile.FieldType.object "java/lang/AbstractStringBuilder"))).before args0 about1 = true := code_word (m := ⟨15, 6⟩) (meth := k15m6) (c := k15c6) (by decide +kernel) rfl rfl rfl (by decide +kernel)
set_option maxRecDepth 65536 in
theorem w_c13 : (Jvm.Cond.code ({ cls := "java/lang/String", name := "length", desc := "()I" } : Jvm.MethodName) jdk_42_method_54_code (1 : Nat) (Option.some Jvm.ClassFile.FieldType.int)).before args0 about1 = true := code_word (m := ⟨7, 3⟩) (meth := k7m3) (c := k7c3) (by decide +kernel) rfl rfl rfl (by decide +kernel)
set_option maxRecDepth 65536 in
theorem w_c14 : (Jvm.Cond.code ({ cls := "java/lang/String", name := "coder", desc := "()B" } : Jvm.MethodName) jdk_42_method_152_code (1 : Nat) (Option.some Jvm.ClassFile.FieldType.byte)).before args0 about1 = true := code_word (m := ⟨7, 10⟩) (meth := k7m10) (c := k7c10) (by decide +kernel) rfl rfl rfl (by decide +kernel)
set_option maxRecDepth 65536 in
theorem w_c15 : (Jvm.Cond.code ({ cls := "java/lang/AbstractStringBuilder", name := "ensureCapacityInternal", desc := "(I)V" } : Jvm.MethodName) jdk_68_method_9_code (3 : Nat) (Option.none : Option Jvm.ClassFile.FieldType)).before args0 about1 = true := code_word (m := ⟨15, 3⟩) (meth := k15m3) (c := k15c3) (by decide +kernel) rfl rfl rfl (by decide +kernel)
set_option maxRecDepth 65536 in
theorem w_c16 : (Jvm.Cond.code ({ cls := "java/lang/AbstractStringBuilder", name := "newCapacity", desc := "(I)I" } : Jvm.MethodName) jdk_68_method_10_code (6 : Nat) (Option.some Jvm.ClassFile.FieldType.int)).before args0 about1 = true := code_word (m := ⟨15, 4⟩) (meth := k15m4) (c := k15c4) (by decide +kernel) rfl rfl rfl (by decide +kernel)
set_option maxRecDepth 65536 in
theorem w_c17 : (Jvm.Cond.code ({ cls := "jdk/internal/util/ArraysSupport", name := "newLength", desc := "(III)I" } : Jvm.MethodName) jdk_48_method_27_code (4 : Nat) (Option.some Jvm.ClassFile.FieldType.int)).before args0 about1 = true := code_word (m := ⟨17, 1⟩) (meth := k17m1) (c := k17c1) (by decide +kernel) rfl rfl rfl (by decide +kernel)
set_option maxRecDepth 65536 in
theorem w_c18 : (Jvm.Cond.code ({ cls := "java/lang/Math", name := "max", desc := "(II)I" } : Jvm.MethodName) jdk_29_method_65_code (2 : Nat) (Option.some Jvm.ClassFile.FieldType.int)).before args0 about1 = true := code_word (m := ⟨18, 1⟩) (meth := k18m1) (c := k18c1) (by decide +kernel) rfl rfl rfl (by decide +kernel)
set_option maxRecDepth 65536 in
theorem w_c19 : (Jvm.Cond.code ({ cls := "java/util/Arrays", name := "copyOf", desc := "([BI)[B" } : Jvm.MethodName) jdk_65_method_121_code (3 : Nat) (Option.some (Jvm.ClassFile.FieldType.array Jvm.ClassFile.FieldType.byte))).before args0 about1 = true := code_word (m := ⟨19, 1⟩) (meth := k19m1) (c := k19c1) (by decide +kernel) rfl rfl rfl (by decide +kernel)
set_option maxRecDepth 65536 in
theorem w_c20 : (Jvm.Cond.code ({ cls := "java/lang/Math", name := "min", desc := "(II)I" } : Jvm.MethodName) jdk_29_method_69_code (2 : Nat) (Option.some Jvm.ClassFile.FieldType.int)).before args0 about1 = true := code_word (m := ⟨18, 2⟩) (meth := k18m2) (c := k18c2) (by decide +kernel) rfl rfl rfl (by decide +kernel)
set_option maxRecDepth 65536 in
theorem w_c21 : (Jvm.Cond.code ({ cls := "java/lang/AbstractStringBuilder", name := "putStringAt", desc := "(ILjava/lang/String;)V" } : Jvm.MethodName) jdk_68_method_73_code (3 : Nat) (Option.none : Option Jvm.ClassFile.FieldType)).before args0 about1 = true := code_word (m := ⟨15, 10⟩) (meth := k15m10) (c := k15c10) (by decide +kernel) rfl rfl rfl (by decide +kernel)
set_option maxRecDepth 65536 in
theorem w_c22 : (Jvm.Cond.code ({ cls := "java/lang/AbstractStringBuilder", name := "inflateIfNeededFor", desc := "(Ljava/lang/String;)V" } : Jvm.MethodName) jdk_68_method_71_code (2 : Nat) (Option.none : Option Jvm.ClassFile.FieldType)).before args0 about1 = true := code_word (m := ⟨15, 9⟩) (meth := k15m9) (c := k15c9) (by decide +kernel) rfl rfl rfl (by decide +kernel)
set_option maxRecDepth 65536 in
theorem w_c23 : (Jvm.Cond.code ({ cls := "java/lang/String", name := "getBytes", desc := "([BIB)V" } : Jvm.MethodName) jdk_42_method_147_code (4 : Nat) (Option.none : Option Jvm.ClassFile.FieldType)).before args0 about1 = true := code_word (m := ⟨7, 6⟩) (meth := k7m6) (c := k7c6) (by decide +kernel) rfl rfl rfl (by decide +kernel)
set_option maxRecDepth 65536 in
theorem w_c24 : (Jvm.Cond.code ({ cls := "java/lang/StringBuilder", name := "toString", desc := "()Ljava/lang/String;" } : Jvm.MethodName) jdk_67_method_42_code (1 : Nat) (Option.some (Jvm.ClassFile.FieldType.object "java/lang/String"))).before args0 about1 = true := code_word (m := ⟨16, 2⟩) (meth := k16m2) (c := k16c2) (by decide +kernel) rfl rfl rfl (by decide +kernel)
set_option maxRecDepth 65536 in
theorem w_c25 : (Jvm.Cond.code ({ cls := "java/lang/String", name := "<init>", desc := "(Ljava/lang/StringBuilder;)V" } : Jvm.MethodName) jdk_42_method_53_code (2 : Nat) (Option.none : Option Jvm.ClassFile.FieldType)).before args0 about1 = true := code_word (m := ⟨7, 2⟩) (meth := k7m2) (c := k7c2) (by decide +kernel) rfl rfl rfl (by decide +kernel)
set_option maxRecDepth 65536 in
theorem w_c26 : (Jvm.Cond.code ({ cls := "java/lang/String", name := "<init>", desc := "(Ljava/lang/AbstractStringBuilder;Ljava/lang/Void;)V" } : Jvm.MethodName) jdk_42_method_150_code (5 : Nat) (Option.none : Option Jvm.ClassFile.FieldType)).before args0 about1 = true := code_word (m := ⟨7, 8⟩) (meth := k7m8) (c := k7c8) (by decide +kernel) rfl rfl rfl (by decide +kernel)
set_option maxRecDepth 65536 in
theorem w_c27 : (Jvm.Cond.code ({ cls := "java/lang/AbstractStringBuilder", name := "getValue", desc := "()[B" } : Jvm.MethodName) jdk_68_method_64_code (1 : Nat) (Option.some (Jvm.ClassFile.FieldType.array Jvm.ClassFile.FieldType.byte))).before args0 about1 = true := code_word (m := ⟨15, 7⟩) (meth := k15m7) (c := k15c7) (by decide +kernel) rfl rfl rfl (by decide +kernel)
set_option maxRecDepth 65536 in
theorem w_c28 : (Jvm.Cond.code ({ cls := "java/lang/StringBuilder", name := "length", desc := "()I" } : Jvm.MethodName) jdk_67_method_93_code (1 : Nat) (Option.some Jvm.ClassFile.FieldType.int)).before args0 about1 = true := code_word (m := ⟨16, 3⟩) (meth := k16m3) (c := k16c3) (by decide +kernel) rfl rfl rfl (by decide +kernel)
set_option maxRecDepth 65536 in
theorem w_c29 : (Jvm.Cond.code ({ cls := "java/lang/AbstractStringBuilder", name := "length", desc := "()I" } : Jvm.MethodName) jdk_68_method_6_code (1 : Nat) (Option.some Jvm.ClassFile.FieldType.int)).before args0 about1 = true := code_word (m := ⟨15, 2⟩) (meth := k15m2) (c := k15c2) (by decide +kernel) rfl rfl rfl (by decide +kernel)
set_option maxRecDepth 65536 in
theorem w_c30 : (Jvm.Cond.code ({ cls := "java/lang/AbstractStringBuilder", name := "isLatin1", desc := "()Z" } : Jvm.MethodName) jdk_68_method_68_code (1 : Nat) (Option.some Jvm.ClassFile.FieldType.boolean)).before args0 about1 = true := code_word (m := ⟨15, 8⟩) (meth := k15m8) (c := k15c8) (by decide +kernel) rfl rfl rfl (by decide +kernel)
set_option maxRecDepth 65536 in
theorem w_c31 : (Jvm.Cond.code ({ cls := "java/util/Arrays", name := "copyOfRange", desc := "([BII)[B" } : Jvm.MethodName) jdk_65_method_132_code (3 : Nat) (Option.some (Jvm.ClassFile.FieldType.array Jvm.ClassFile.FieldType.byte))).before args0 about1 = true := code_word (m := ⟨19, 3⟩) (meth := k19m3) (c := k19c3) (by decide +kernel) rfl rfl rfl (by decide +kernel)
set_option maxRecDepth 65536 in
theorem w_c32 : (Jvm.Cond.code ({ cls := "java/util/Arrays", name := "copyOfRangeByte", desc := "([BII)[B" } : Jvm.MethodName) jdk_65_method_133_code (5 : Nat) (Option.some (Jvm.ClassFile.FieldType.array Jvm.ClassFile.FieldType.byte))).before args0 about1 = true := code_word (m := ⟨19, 4⟩) (meth := k19m4) (c := k19c4) (by decide +kernel) rfl rfl rfl (by decide +kernel)
set_option maxRecDepth 65536 in
theorem w_c33 : (Jvm.Cond.code ({ cls := "java/util/Arrays", name := "checkLength", desc := "(II)V" } : Jvm.MethodName) jdk_65_method_131_code (2 : Nat) (Option.none : Option Jvm.ClassFile.FieldType)).before args0 about1 = true := code_word (m := ⟨19, 2⟩) (meth := k19m2) (c := k19c2) (by decide +kernel) rfl rfl rfl (by decide +kernel)
set_option maxRecDepth 65536 in
theorem w_c34 : (Jvm.Cond.code ({ cls := "java/lang/IllegalArgumentException", name := "<init>", desc := "(Ljava/lang/String;)V" } : Jvm.MethodName) jdk_57_method_2_code (2 : Nat) (Option.none : Option Jvm.ClassFile.FieldType)).before args0 about1 = true := code_word (m := ⟨13, 1⟩) (meth := k13m1) (c := k13c1) (by decide +kernel) rfl rfl rfl (by decide +kernel)
set_option maxRecDepth 65536 in
theorem w_c35 : (Jvm.Cond.code ({ cls := "java/lang/RuntimeException", name := "<init>", desc := "(Ljava/lang/String;)V" } : Jvm.MethodName) jdk_58_method_2_code (2 : Nat) (Option.none : Option Jvm.ClassFile.FieldType)).before args0 about1 = true := code_word (m := ⟨12, 1⟩) (meth := k12m1) (c := k12c1) (by decide +kernel) rfl rfl rfl (by decide +kernel)
set_option maxRecDepth 65536 in
theorem w_c36 : (Jvm.Cond.code ({ cls := "java/lang/Exception", name := "<init>", desc := "(Ljava/lang/String;)V" } : Jvm.MethodName) jdk_59_method_2_code (2 : Nat) (Option.none : Option Jvm.ClassFile.FieldType)).before args0 about1 = true := code_word (m := ⟨11, 1⟩) (meth := k11m1) (c := k11c1) (by decide +kernel) rfl rfl rfl (by decide +kernel)
set_option maxRecDepth 65536 in
theorem w_c37 : (Jvm.Cond.code ({ cls := "java/lang/Throwable", name := "<init>", desc := "(Ljava/lang/String;)V" } : Jvm.MethodName) jdk_78_method_2_code (2 : Nat) (Option.none : Option Jvm.ClassFile.FieldType)).before args0 about1 = true := code_word (m := ⟨10, 1⟩) (meth := k10m1) (c := k10c1) (by decide +kernel) rfl rfl rfl (by decide +kernel)
set_option maxRecDepth 65536 in
theorem w_c38 : (Jvm.Cond.code ({ cls := "java/lang/Throwable", name := "<init>", desc := "()V" } : Jvm.MethodName) jdk_78_method_1_code (1 : Nat) (Option.none : Option Jvm.ClassFile.FieldType)).before args0 about1 = true := code_word (m := ⟨10, 0⟩) (meth := k10m0) (c := k10c0) (by decide +kernel) rfl rfl rfl (by decide +kernel)
set_option maxRecDepth 65536 in
theorem w_c39 : (Jvm.Cond.code ({ cls := "java/lang/Throwable", name := "getMessage", desc := "()Ljava/lang/String;" } : Jvm.MethodName) jdk_78_method_6_code (1 : Nat) (Option.some (Jvm.ClassFile.FieldType.object "java/lang/String"))).before args0 about1 = true := code_word (m := ⟨10, 2⟩) (meth := k10m2) (c := k10c2) (by decide +kernel) rfl rfl rfl (by decide +kernel)
set_option maxRecDepth 65536 in
theorem w_c40 : (Jvm.Cond.code ({ cls := "com/example/tannoy/tannoy/internal/HandlerRefusedFunctionPinLaw", name := "prefixOk", desc := "(Ljava/lang/String;)Z" } : Jvm.MethodName) method_4_code (1 : Nat) (Option.some Jvm.ClassFile.FieldType.boolean)).before args0 about1 = true := code_word (m := ⟨1, 3⟩) (meth := k1m3) (c := k1c3) (by decide +kernel) rfl rfl rfl (by decide +kernel)
set_option maxRecDepth 65536 in
theorem w_c41 : (Jvm.Cond.code ({ cls := "java/lang/String", name := "charAt", desc := "(I)C" } : Jvm.MethodName) jdk_42_method_56_code (2 : Nat) (Option.some Jvm.ClassFile.FieldType.char)).before args0 about1 = true := code_word (m := ⟨7, 4⟩) (meth := k7m4) (c := k7c4) (by decide +kernel) rfl rfl rfl (by decide +kernel)
set_option maxRecDepth 65536 in
theorem w_c42 : (Jvm.Cond.code ({ cls := "java/lang/String", name := "isLatin1", desc := "()Z" } : Jvm.MethodName) jdk_42_method_154_code (1 : Nat) (Option.some Jvm.ClassFile.FieldType.boolean)).before args0 about1 = true := code_word (m := ⟨7, 11⟩) (meth := k7m11) (c := k7c11) (by decide +kernel) rfl rfl rfl (by decide +kernel)
set_option maxRecDepth 65536 in
theorem w_c43 : (Jvm.Cond.code ({ cls := "java/lang/StringLatin1", name := "charAt", desc := "([BI)C" } : Jvm.MethodName) jdk_43_method_2_code (2 : Nat) (Option.some Jvm.ClassFile.FieldType.char)).before args0 about1 = true := code_word (m := ⟨21, 1⟩) (meth := k21m1) (c := k21c1) (by decide +kernel) rfl rfl rfl (by decide +kernel)
set_option maxRecDepth 65536 in
theorem w_c44 : (Jvm.Cond.code ({ cls := "java/lang/String", name := "checkIndex", desc := "(II)V" } : Jvm.MethodName) jdk_42_method_155_code (2 : Nat) (Option.none : Option Jvm.ClassFile.FieldType)).before args0 about1 = true := code_word (m := ⟨7, 12⟩) (meth := k7m12) (c := k7c12) (by decide +kernel) rfl rfl rfl (by decide +kernel)
set_option maxRecDepth 65536 in
theorem w_c45 : (Jvm.Cond.code ({ cls := "jdk/internal/util/Preconditions", name := "checkIndex", desc := "(IILjava/util/function/BiFunction;)I" } : Jvm.MethodName) jdk_41_method_11_code (3 : Nat) (Option.some Jvm.ClassFile.FieldType.int)).before args0 about1 = true := code_word (m := ⟨22, 1⟩) (meth := k22m1) (c := k22c1) (by decide +kernel) rfl rfl rfl (by decide +kernel)
set_option maxRecDepth 65536 in
theorem w_c46 : (Jvm.Cond.code ({ cls := "com/example/tannoy/tannoy/internal/HandlerRefusedFunctionPinLaw", name := "partAt", desc := "(Ljava/lang/String;ILjava/lang/String;)Z" } : Jvm.MethodName) method_3_code (4 : Nat) (Option.some Jvm.ClassFile.FieldType.boolean)).before args0 about1 = true := code_word (m := ⟨1, 2⟩) (meth := k1m2) (c := k1c2) (by decide +kernel) rfl rfl rfl (by decide +kernel)
set_option maxRecDepth 65536 in
theorem w_c47 : (Jvm.Cond.code ({ cls := "java/lang/String", name := "valueOf", desc := "(C)Ljava/lang/String;" } : Jvm.MethodName) jdk_42_method_139_code (1 : Nat) (Option.some (Jvm.ClassFile.FieldType.object "java/lang/String"))).before args0 about1 = true := code_word (m := ⟨7, 5⟩) (meth := k7m5) (c := k7c5) (by decide +kernel) rfl rfl rfl (by decide +kernel)
set_option maxRecDepth 65536 in
theorem w_c48 : (Jvm.Cond.code ({ cls := "java/lang/StringLatin1", name := "canEncode", desc := "(C)Z" } : Jvm.MethodName) jdk_43_method_3_code (1 : Nat) (Option.some Jvm.ClassFile.FieldType.boolean)).before args0 about1 = true := code_word (m := ⟨21, 2⟩) (meth := k21m2) (c := k21c2) (by decide +kernel) rfl rfl rfl (by decide +kernel)
set_option maxRecDepth 65536 in
theorem w_c49 : (Jvm.Cond.code ({ cls := "java/lang/StringUTF16", name := "toBytes", desc := "(C)[B" } : Jvm.MethodName) jdk_52_method_24_code (2 : Nat) (Option.some (Jvm.ClassFile.FieldType.array Jvm.ClassFile.FieldType.byte))).before args0 about1 = true := code_word (m := ⟨8, 10⟩) (meth := k8m10) (c := k8c10) (by decide +kernel) rfl rfl rfl (by decide +kernel)
set_option maxRecDepth 65536 in
theorem w_c50 : (Jvm.Cond.code ({ cls := "java/lang/StringUTF16", name := "putChar", desc := "([BII)V" } : Jvm.MethodName) jdk_52_method_4_code (3 : Nat) (Option.none : Option Jvm.ClassFile.FieldType)).before args0 about1 = true := code_word (m := ⟨8, 3⟩) (meth := k8m3) (c := k8c3) (by decide +kernel) rfl rfl rfl (by decide +kernel)
set_option maxRecDepth 65536 in
theorem w_c51 : (Jvm.Cond.code ({ cls := "java/lang/String", name := "<init>", desc := "([BB)V" } : Jvm.MethodName) jdk_42_method_151_code (3 : Nat) (Option.none : Option Jvm.ClassFile.FieldType)).before args0 about1 = true := code_word (m := ⟨7, 9⟩) (meth := k7m9) (c := k7c9) (by decide +kernel) rfl rfl rfl (by decide +kernel)
set_option maxRecDepth 65536 in
theorem w_c52 : (Jvm.Cond.code ({ cls := "java/lang/AbstractStringBuilder", name := "inflate", desc := "()V" } : Jvm.MethodName) jdk_68_method_11_code (2 : Nat) (Option.none : Option Jvm.ClassFile.FieldType)).before args0 about1 = true := code_word (m := ⟨15, 5⟩) (meth := k15m5) (c := k15c5) (by decide +kernel) rfl rfl rfl (by decide +kernel)
set_option maxRecDepth 65536 in
theorem w_c53 : (Jvm.Cond.code ({ cls := "java/lang/StringUTF16", name := "newBytesFor", desc := "(I)[B" } : Jvm.MethodName) jdk_52_method_2_code (1 : Nat) (Option.some (Jvm.ClassFile.FieldType.array Jvm.ClassFile.FieldType.byte))).before args0 about1 = true := code_word (m := ⟨8, 1⟩) (meth := k8m1) (c := k8c1) (by decide +kernel) rfl rfl rfl (by decide +kernel)
set_option maxRecDepth 65536 in
theorem w_c54 : (Jvm.Cond.code ({ cls := "java/lang/StringUTF16", name := "newBytesLength", desc := "(I)I" } : Jvm.MethodName) jdk_52_method_3_code (1 : Nat) (Option.some Jvm.ClassFile.FieldType.int)).before args0 about1 = true := code_word (m := ⟨8, 2⟩) (meth := k8m2) (c := k8c2) (by decide +kernel) rfl rfl rfl (by decide +kernel)
set_option maxRecDepth 65536 in
theorem w_c55 : (Jvm.Cond.code ({ cls := "java/lang/StringLatin1", name := "inflate", desc := "([BI[BII)V" } : Jvm.MethodName) jdk_43_method_50_code (5 : Nat) (Option.none : Option Jvm.ClassFile.FieldType)).before args0 about1 = true := code_word (m := ⟨21, 4⟩) (meth := k21m4) (c := k21c4) (by decide +kernel) rfl rfl rfl (by decide +kernel)
set_option maxRecDepth 65536 in
theorem w_c56 : (Jvm.Cond.code ({ cls := "java/lang/StringUTF16", name := "inflate", desc := "([BI[BII)V" } : Jvm.MethodName) jdk_52_method_86_code (6 : Nat) (Option.none : Option Jvm.ClassFile.FieldType)).before args0 about1 = true := code_word (m := ⟨8, 12⟩) (meth := k8m12) (c := k8c12) (by decide +kernel) rfl rfl rfl (by decide +kernel)
set_option maxRecDepth 65536 in
theorem w_c57 : (Jvm.Cond.code ({ cls := "java/lang/StringUTF16", name := "checkBoundsOffCount", desc := "(II[B)V" } : Jvm.MethodName) jdk_52_method_94_code (3 : Nat) (Option.none : Option Jvm.ClassFile.FieldType)).before args0 about1 = true := code_word (m := ⟨8, 14⟩) (meth := k8m14) (c := k8c14) (by decide +kernel) rfl rfl rfl (by decide +kernel)
set_option maxRecDepth 65536 in
theorem w_c58 : (Jvm.Cond.code ({ cls := "java/lang/StringUTF16", name := "length", desc := "([B)I" } : Jvm.MethodName) jdk_52_method_6_code (1 : Nat) (Option.some Jvm.ClassFile.FieldType.int)).before args0 about1 = true := code_word (m := ⟨8, 5⟩) (meth := k8m5) (c := k8c5) (by decide +kernel) rfl rfl rfl (by decide +kernel)
set_option maxRecDepth 65536 in
theorem w_c59 : (Jvm.Cond.code ({ cls := "java/lang/String", name := "checkBoundsOffCount", desc := "(III)I" } : Jvm.MethodName) jdk_42_method_157_code (3 : Nat) (Option.some Jvm.ClassFile.FieldType.int)).before args0 about1 = true := code_word (m := ⟨7, 13⟩) (meth := k7m13) (c := k7c13) (by decide +kernel) rfl rfl rfl (by decide +kernel)
set_option maxRecDepth 65536 in
theorem w_c60 : (Jvm.Cond.code ({ cls := "jdk/internal/util/Preconditions", name := "checkFromIndexSize", desc := "(IIILjava/util/function/BiFunction;)I" } : Jvm.MethodName) jdk_41_method_13_code (4 : Nat) (Option.some Jvm.ClassFile.FieldType.int)).before args0 about1 = true := code_word (m := ⟨22, 2⟩) (meth := k22m2) (c := k22c2) (by decide +kernel) rfl rfl rfl (by decide +kernel)
set_option maxRecDepth 65536 in
theorem w_c61 : (Jvm.Cond.code ({ cls := "java/lang/StringUTF16", name := "charAt", desc := "([BI)C" } : Jvm.MethodName) jdk_52_method_83_code (2 : Nat) (Option.some Jvm.ClassFile.FieldType.char)).before args0 about1 = true := code_word (m := ⟨8, 11⟩) (meth := k8m11) (c := k8c11) (by decide +kernel) rfl rfl rfl (by decide +kernel)
set_option maxRecDepth 65536 in
theorem w_c62 : (Jvm.Cond.code ({ cls := "java/lang/StringUTF16", name := "checkIndex", desc := "(I[B)V" } : Jvm.MethodName) jdk_52_method_91_code (2 : Nat) (Option.none : Option Jvm.ClassFile.FieldType)).before args0 about1 = true := code_word (m := ⟨8, 13⟩) (meth := k8m13) (c := k8c13) (by decide +kernel) rfl rfl rfl (by decide +kernel)
set_option maxRecDepth 65536 in
theorem w_c63 : (Jvm.Cond.code ({ cls := "java/lang/StringUTF16", name := "getChar", desc := "([BI)C" } : Jvm.MethodName) jdk_52_method_5_code (2 : Nat) (Option.some Jvm.ClassFile.FieldType.char)).before args0 about1 = true := code_word (m := ⟨8, 4⟩) (meth := k8m4) (c := k8c4) (by decide +kernel) rfl rfl rfl (by decide +kernel)
set_option maxRecDepth 65536 in
theorem w_c64 : (Jvm.Cond.code ({ cls := "java/lang/StringLatin1", name := "toBytes", desc := "(C)[B" } : Jvm.MethodName) jdk_43_method_46_code (1 : Nat) (Option.some (Jvm.ClassFile.FieldType.array Jvm.ClassFile.FieldType.byte))).before args0 about1 = true := code_word (m := ⟨21, 3⟩) (meth := k21m3) (c := k21c3) (by decide +kernel) rfl rfl rfl (by decide +kernel)
set_option maxRecDepth 65536 in
theorem w_c65 : (Jvm.Cond.code ({ cls := "java/lang/StringUTF16", name := "toBytes", desc := "([CII)[B" } : Jvm.MethodName) jdk_52_method_14_code (5 : Nat) (Option.some (Jvm.ClassFile.FieldType.array Jvm.ClassFile.FieldType.byte))).before args0 about1 = true := code_word (m := ⟨8, 6⟩) (meth := k8m6) (c := k8c6) (by decide +kernel) rfl rfl rfl (by decide +kernel)
def codes1 : List Jvm.Cond := [Jvm.Cond.code x code maxLocals ret, Jvm.Cond.code ({ cls := "com/example/tannoy/tannoy/internal/HandlerRefusedFunctionPinLaw", name := "str", desc := "(II)Ljava/lang/String;" } : Jvm.MethodName) method_2_code (4 : Nat) (Option.some (Jvm.ClassFile.FieldType.object "java/lang/String")), Jvm.Cond.code ({ cls := "java/lang/String", name := "<init>", desc := "([C)V" } : Jvm.MethodName) jdk_42_method_3_code (2 : Nat) (Option.none : Option Jvm.ClassFile.FieldType), Jvm.Cond.code ({ cls := "java/lang/String", name := "<init>", desc := "([CIILjava/lang/Void;)V" } : Jvm.MethodName) jdk_42_method_149_code (6 : Nat) (Option.none : Option Jvm.ClassFile.FieldType), Jvm.Cond.code ({ cls := "java/lang/Object", name := "<init>", desc := "()V" } : Jvm.MethodName) object_method_1_code (1 : Nat) (Option.none : Option Jvm.ClassFile.FieldType), Jvm.Cond.code ({ cls := "java/lang/StringUTF16", name := "compress", desc := "([CII)[B" } : Jvm.MethodName) jdk_52_method_16_code (6 : Nat) (Option.some (Jvm.ClassFile.FieldType.array Jvm.ClassFile.FieldType.byte)), Jvm.Cond.code ({ cls := "java/lang/StringUTF16", name := "compress", desc := "([CI[BII)I" } : Jvm.MethodName) jdk_52_method_21_code (7 : Nat) (Option.some Jvm.ClassFile.FieldType.int), Jvm.Cond.code ({ cls := "java/lang/StringUTF16", name := "coderFromArrayLen", desc := "([BI)B" } : Jvm.MethodName) jdk_52_method_15_code (2 : Nat) (Option.some Jvm.ClassFile.FieldType.byte), Jvm.Cond.code ({ cls := "com/example/tannoy/tannoy/internal/Handler", name := "refusedFunction", desc := "(Ljava/lang/String;Ljava/lang/String;)Ljava/lang/IllegalArgumentException;" } : Jvm.MethodName) prog_16_method_3_code (2 : Nat) (Option.some (Jvm.ClassFile.FieldType.object "java/lang/IllegalArgumentException")), Jvm.Cond.code ({ cls := "java/lang/StringBuilder", name := "<init>", desc := "()V" } : Jvm.MethodName) jdk_67_method_1_code (1 : Nat) (Option.none : Option Jvm.ClassFile.FieldType), Jvm.Cond.code ({ cls := "java/lang/AbstractStringBuilder", name := "<init>", desc := "(I)V" } : Jvm.MethodName) jdk_68_method_2_code (2 : Nat) (Option.none : Option Jvm.ClassFile.FieldType), Jvm.Cond.code ({ cls := "java/lang/StringBuilder", name := "append", desc := "(Ljava/lang/String;)Ljava/lang/StringBuilder;" } : Jvm.MethodName) jdk_67_method_7_code (2 : Nat) (Option.some (Jvm.ClassFile.FieldType.object "java/lang/StringBuilder")), Jvm.Cond.code ({ cls := "java/lang/AbstractStringBuilder", name := "append", desc := "(Ljava/lang/String;)Ljava/lang/AbstractStringBuilder;" } : Jvm.MethodName) jdk_68_method_22_code (3 : Nat) (Option.some (Jvm.ClassFile.FieldType.object "java/lang/AbstractStringBuilder")), Jvm.Cond.code ({ cls := "java/lang/String", name := "length", desc := "()I" } : Jvm.MethodName) jdk_42_method_54_code (1 : Nat) (Option.some Jvm.ClassFile.FieldType.int), Jvm.Cond.code ({ cls := "java/lang/String", name := "coder", desc := "()B" } : Jvm.MethodName) jdk_42_method_152_code (1 : Nat) (Option.some Jvm.ClassFile.FieldType.byte), Jvm.Cond.code ({ cls := "java/lang/AbstractStringBuilder", name := "ensureCapacityInternal", desc := "(I)V" } : Jvm.MethodName) jdk_68_method_9_code (3 : Nat) (Option.none : Option Jvm.ClassFile.FieldType), Jvm.Cond.code ({ cls := "java/lang/AbstractStringBuilder", name := "newCapacity", desc := "(I)I" } : Jvm.MethodName) jdk_68_method_10_code (6 : Nat) (Option.some Jvm.ClassFile.FieldType.int), Jvm.Cond.code ({ cls := "jdk/internal/util/ArraysSupport", name := "newLength", desc := "(III)I" } : Jvm.MethodName) jdk_48_method_27_code (4 : Nat) (Option.some Jvm.ClassFile.FieldType.int), Jvm.Cond.code ({ cls := "java/lang/Math", name := "max", desc := "(II)I" } : Jvm.MethodName) jdk_29_method_65_code (2 : Nat) (Option.some Jvm.ClassFile.FieldType.int), Jvm.Cond.code ({ cls := "java/util/Arrays", name := "copyOf", desc := "([BI)[B" } : Jvm.MethodName) jdk_65_method_121_code (3 : Nat) (Option.some (Jvm.ClassFile.FieldType.array Jvm.ClassFile.FieldType.byte)), Jvm.Cond.code ({ cls := "java/lang/Math", name := "min", desc := "(II)I" } : Jvm.MethodName) jdk_29_method_69_code (2 : Nat) (Option.some Jvm.ClassFile.FieldType.int), Jvm.Cond.code ({ cls := "java/lang/AbstractStringBuilder", name := "putStringAt", desc := "(ILjava/lang/String;)V" } : Jvm.MethodName) jdk_68_method_73_code (3 : Nat) (Option.none : Option Jvm.ClassFile.FieldType), Jvm.Cond.code ({ cls := "java/lang/AbstractStringBuilder", name := "inflateIfNeededFor", desc := "(Ljava/lang/String;)V" } : Jvm.MethodName) jdk_68_method_71_code (2 : Nat) (Option.none : Option Jvm.ClassFile.FieldType), Jvm.Cond.code ({ cls := "java/lang/String", name := "getBytes", desc := "([BIB)V" } : Jvm.MethodName) jdk_42_method_147_code (4 : Nat) (Option.none : Option Jvm.ClassFile.FieldType), Jvm.Cond.code ({ cls := "java/lang/StringBuilder", name := "toString", desc := "()Ljava/lang/String;" } : Jvm.MethodName) jdk_67_method_42_code (1 : Nat) (Option.some (Jvm.ClassFile.FieldType.object "java/lang/String")), Jvm.Cond.code ({ cls := "java/lang/String", name := "<init>", desc := "(Ljava/lang/StringBuilder;)V" } : Jvm.MethodName) jdk_42_method_53_code (2 : Nat) (Option.none : Option Jvm.ClassFile.FieldType), Jvm.Cond.code ({ cls := "java/lang/String", name := "<init>", desc := "(Ljava/lang/AbstractStringBuilder;Ljava/lang/Void;)V" } : Jvm.MethodName) jdk_42_method_150_code (5 : Nat) (Option.none : Option Jvm.ClassFile.FieldType), Jvm.Cond.code ({ cls := "java/lang/AbstractStringBuilder", name := "getValue", desc := "()[B" } : Jvm.MethodName) jdk_68_method_64_code (1 : Nat) (Option.some (Jvm.ClassFile.FieldType.array Jvm.ClassFile.FieldType.byte)), Jvm.Cond.code ({ cls := "java/lang/StringBuilder", name := "length", desc := "()I" } : Jvm.MethodName) jdk_67_method_93_code (1 : Nat) (Option.some Jvm.ClassFile.FieldType.int), Jvm.Cond.code ({ cls := "java/lang/AbstractStringBuilder", name := "length", desc := "()I" } : Jvm.MethodName) jdk_68_method_6_code (1 : Nat) (Option.some Jvm.ClassFile.FieldType.int), Jvm.Cond.code ({ cls := "java/lang/AbstractStringBuilder", name := "isLatin1", desc := "()Z" } : Jvm.MethodName) jdk_68_method_68_code (1 : Nat) (Option.some Jvm.ClassFile.FieldType.boolean), Jvm.Cond.code ({ cls := "java/util/Arrays", name := "copyOfRange", desc := "([BII)[B" } : Jvm.MethodName) jdk_65_method_132_code (3 : Nat) (Option.some (Jvm.ClassFile.FieldType.array Jvm.ClassFile.FieldType.byte)), Jvm.Cond.code ({ cls := "java/util/Arrays", name := "copyOfRangeByte", desc := "([BII)[B" } : Jvm.MethodName) jdk_65_method_133_code (5 : Nat) (Option.some (Jvm.ClassFile.FieldType.array Jvm.ClassFile.FieldType.byte)), Jvm.Cond.code ({ cls := "java/util/Arrays", name := "checkLength", desc := "(II)V" } : Jvm.MethodName) jdk_65_method_131_code (2 : Nat) (Option.none : Option Jvm.ClassFile.FieldType), Jvm.Cond.code ({ cls := "java/lang/IllegalArgumentException", name := "<init>", desc := "(Ljava/lang/String;)V" } : Jvm.MethodName) jdk_57_method_2_code (2 : Nat) (Option.none : Option Jvm.ClassFile.FieldType), Jvm.Cond.code ({ cls := "java/lang/RuntimeException", name := "<init>", desc := "(Ljava/lang/String;)V" } : Jvm.MethodName) jdk_58_method_2_code (2 : Nat) (Option.none : Option Jvm.ClassFile.FieldType), Jvm.Cond.code ({ cls := "java/lang/Exception", name := "<init>", desc := "(Ljava/lang/String;)V" } : Jvm.MethodName) jdk_59_method_2_code (2 : Nat) (Option.none : Option Jvm.ClassFile.FieldType), Jvm.Cond.code ({ cls := "java/lang/Throwable", name := "<init>", desc := "(Ljava/lang/String;)V" } : Jvm.MethodName) jdk_78_method_2_code (2 : Nat) (Option.none : Option Jvm.ClassFile.FieldType), Jvm.Cond.code ({ cls := "java/lang/Throwable", name := "<init>", desc := "()V" } : Jvm.MethodName) jdk_78_method_1_code (1 : Nat) (Option.none : Option Jvm.ClassFile.FieldType), Jvm.Cond.code ({ cls := "java/lang/Throwable", name := "getMessage", desc := "()Ljava/lang/String;" } : Jvm.MethodName) jdk_78_method_6_code (1 : Nat) (Option.some (Jvm.ClassFile.FieldType.object "java/lang/String")), Jvm.Cond.code ({ cls := "com/example/tannoy/tannoy/internal/HandlerRefusedFunctionPinLaw", name := "prefixOk", desc := "(Ljava/lang/String;)Z" } : Jvm.MethodName) method_4_code (1 : Nat) (Option.some Jvm.ClassFile.FieldType.boolean), Jvm.Cond.code ({ cls := "java/lang/String", name := "charAt", desc := "(I)C" } : Jvm.MethodName) jdk_42_method_56_code (2 : Nat) (Option.some Jvm.ClassFile.FieldType.char), Jvm.Cond.code ({ cls := "java/lang/String", name := "isLatin1", desc := "()Z" } : Jvm.MethodName) jdk_42_method_154_code (1 : Nat) (Option.some Jvm.ClassFile.FieldType.boolean), Jvm.Cond.code ({ cls := "java/lang/StringLatin1", name := "charAt", desc := "([BI)C" } : Jvm.MethodName) jdk_43_method_2_code (2 : Nat) (Option.some Jvm.ClassFile.FieldType.char), Jvm.Cond.code ({ cls := "java/lang/String", name := "checkIndex", desc := "(II)V" } : Jvm.MethodName) jdk_42_method_155_code (2 : Nat) (Option.none : Option Jvm.ClassFile.FieldType), Jvm.Cond.code ({ cls := "jdk/internal/util/Preconditions", name := "checkIndex", desc := "(IILjava/util/function/BiFunction;)I" } : Jvm.MethodName) jdk_41_method_11_code (3 : Nat) (Option.some Jvm.ClassFile.FieldType.int), Jvm.Cond.code ({ cls := "com/example/tannoy/tannoy/internal/HandlerRefusedFunctionPinLaw", name := "partAt", desc := "(Ljava/lang/String;ILjava/lang/String;)Z" } : Jvm.MethodName) method_3_code (4 : Nat) (Option.some Jvm.ClassFile.FieldType.boolean), Jvm.Cond.code ({ cls := "java/lang/String", name := "valueOf", desc := "(C)Ljava/lang/String;" } : Jvm.MethodName) jdk_42_method_139_code (1 : Nat) (Option.some (Jvm.ClassFile.FieldType.object "java/lang/String")), Jvm.Cond.code ({ cls := "java/lang/StringLatin1", name := "canEncode", desc := "(C)Z" } : Jvm.MethodName) jdk_43_method_3_code (1 : Nat) (Option.some Jvm.ClassFile.FieldType.boolean), Jvm.Cond.code ({ cls := "java/lang/StringUTF16", name := "toBytes", desc := "(C)[B" } : Jvm.MethodName) jdk_52_method_24_code (2 : Nat) (Option.some (Jvm.ClassFile.FieldType.array Jvm.ClassFile.FieldType.byte)), Jvm.Cond.code ({ cls := "java/lang/StringUTF16", name := "putChar", desc := "([BII)V" } : Jvm.MethodName) jdk_52_method_4_code (3 : Nat) (Option.none : Option Jvm.ClassFile.FieldType), Jvm.Cond.code ({ cls := "java/lang/String", name := "<init>", desc := "([BB)V" } : Jvm.MethodName) jdk_42_method_151_code (3 : Nat) (Option.none : Option Jvm.ClassFile.FieldType), Jvm.Cond.code ({ cls := "java/lang/AbstractStringBuilder", name := "inflate", desc := "()V" } : Jvm.MethodName) jdk_68_method_11_code (2 : Nat) (Option.none : Option Jvm.ClassFile.FieldType), Jvm.Cond.code ({ cls := "java/lang/StringUTF16", name := "newBytesFor", desc := "(I)[B" } : Jvm.MethodName) jdk_52_method_2_code (1 : Nat) (Option.some (Jvm.ClassFile.FieldType.array Jvm.ClassFile.FieldType.byte)), Jvm.Cond.code ({ cls := "java/lang/StringUTF16", name := "newBytesLength", desc := "(I)I" } : Jvm.MethodName) jdk_52_method_3_code (1 : Nat) (Option.some Jvm.ClassFile.FieldType.int), Jvm.Cond.code ({ cls := "java/lang/StringLatin1", name := "inflate", desc := "([BI[BII)V" } : Jvm.MethodName) jdk_43_method_50_code (5 : Nat) (Option.none : Option Jvm.ClassFile.FieldType), Jvm.Cond.code ({ cls := "java/lang/StringUTF16", name := "inflate", desc := "([BI[BII)V" } : Jvm.MethodName) jdk_52_method_86_code (6 : Nat) (Option.none : Option Jvm.ClassFile.FieldType), Jvm.Cond.code ({ cls := "java/lang/StringUTF16", name := "checkBoundsOffCount", desc := "(II[B)V" } : Jvm.MethodName) jdk_52_method_94_code (3 : Nat) (Option.none : Option Jvm.ClassFile.FieldType), Jvm.Cond.code ({ cls := "java/lang/StringUTF16", name := "length", desc := "([B)I" } : Jvm.MethodName) jdk_52_method_6_code (1 : Nat) (Option.some Jvm.ClassFile.FieldType.int), Jvm.Cond.code ({ cls := "java/lang/String", name := "checkBoundsOffCount", desc := "(III)I" } : Jvm.MethodName) jdk_42_method_157_code (3 : Nat) (Option.some Jvm.ClassFile.FieldType.int), Jvm.Cond.code ({ cls := "jdk/internal/util/Preconditions", name := "checkFromIndexSize", desc := "(IIILjava/util/function/BiFunction;)I" } : Jvm.MethodName) jdk_41_method_13_code (4 : Nat) (Option.some Jvm.ClassFile.FieldType.int), Jvm.Cond.code ({ cls := "java/lang/StringUTF16", name := "charAt", desc := "([BI)C" } : Jvm.MethodName) jdk_52_method_83_code (2 : Nat) (Option.some Jvm.ClassFile.FieldType.char), Jvm.Cond.code ({ cls := "java/lang/StringUTF16", name := "checkIndex", desc := "(I[B)V" } : Jvm.MethodName) jdk_52_method_91_code (2 : Nat) (Option.none : Option Jvm.ClassFile.FieldType), Jvm.Cond.code ({ cls := "java/lang/StringUTF16", name := "getChar", desc := "([BI)C" } : Jvm.MethodName) jdk_52_method_5_code (2 : Nat) (Option.some Jvm.ClassFile.FieldType.char), Jvm.Cond.code ({ cls := "java/lang/StringLatin1", name := "toBytes", desc := "(C)[B" } : Jvm.MethodName) jdk_43_method_46_code (1 : Nat) (Option.some (Jvm.ClassFile.FieldType.array Jvm.ClassFile.FieldType.byte)), Jvm.Cond.code ({ cls := "java/lang/StringUTF16", name := "toBytes", desc := "([CII)[B" } : Jvm.MethodName) jdk_52_method_14_code (5 : Nat) (Option.some (Jvm.ClassFile.FieldType.array Jvm.ClassFile.FieldType.byte))]
set_option maxRecDepth 65536 in
theorem codes_eq : words1.filter isCode = codes1 := rfl
theorem w_codes : ∀ c ∈ words1.filter isCode, c.before args0 about1 = true := by
  rw [codes_eq]
  intro c hc
  simp only [codes1, List.mem_cons, List.not_mem_nil, or_false] at hc
  rcases hc with rfl | rfl | rfl | rfl | rfl | rfl | rfl | rfl | rfl | rfl | rfl | rfl | rfl | rfl | rfl | rfl | rfl | rfl | rfl | rfl | rfl | rfl | rfl | rfl | rfl | rfl | rfl | rfl | rfl | rfl | rfl | rfl | rfl | rfl | rfl | rfl | rfl | rfl | rfl | rfl | rfl | rfl | rfl | rfl | rfl | rfl | rfl | rfl | rfl | rfl | rfl | rfl | rfl | rfl | rfl | rfl | rfl | rfl | rfl | rfl | rfl | rfl | rfl | rfl | rfl | rfl
  · exact w_c0
  · exact w_c1
  · exact w_c2
  · exact w_c3
  · exact w_c4
  · exact w_c5
  · exact w_c6
  · exact w_c7
  · exact w_c8
  · exact w_c9
  · exact w_c10
  · exact w_c11
  · exact w_c12
  · exact w_c13
  · exact w_c14
  · exact w_c15
  · exact w_c16
  · exact w_c17
  · exact w_c18
  · exact w_c19
  · exact w_c20
  · exact w_c21
  · exact w_c22
  · exact w_c23
  · exact w_c24
  · exact w_c25
  · exact w_c26
  · exact w_c27
  · exact w_c28
  · exact w_c29
  · exact w_c30
  · exact w_c31
  · exact w_c32
  · exact w_c33
  · exact w_c34
  · exact w_c35
  · exact w_c36
  · exact w_c37
  · exact w_c38
  · exact w_c39
  · exact w_c40
  · exact w_c41
  · exact w_c42
  · exact w_c43
  · exact w_c44
  · exact w_c45
  · exact w_c46
  · exact w_c47
  · exact w_c48
  · exact w_c49
  · exact w_c50
  · exact w_c51
  · exact w_c52
  · exact w_c53
  · exact w_c54
  · exact w_c55
  · exact w_c56
  · exact w_c57
  · exact w_c58
  · exact w_c59
  · exact w_c60
  · exact w_c61
  · exact w_c62
  · exact w_c63
  · exact w_c64
  · exact w_c65
set_option maxRecDepth 65536 in
theorem w_t1 : (words1.take 24).all (fun c => isCode c || c.before args0 about1) = true := by decide +kernel
set_option maxRecDepth 65536 in
theorem w_t2 : ((words1.drop 24).take 24).all (fun c => isCode c || c.before args0 about1) = true := by decide +kernel
set_option maxRecDepth 65536 in
theorem w_t3 : (((words1.drop 24).drop 24).take 24).all (fun c => isCode c || c.before args0 about1) = true := by decide +kernel
set_option maxRecDepth 65536 in
theorem w_t4 : ((((words1.drop 24).drop 24).drop 24).take 24).all (fun c => isCode c || c.before args0 about1) = true := by decide +kernel
set_option maxRecDepth 65536 in
theorem w_t5 : (((((words1.drop 24).drop 24).drop 24).drop 24).take 24).all (fun c => isCode c || c.before args0 about1) = true := by decide +kernel
set_option maxRecDepth 65536 in
theorem w_t6 : ((((((words1.drop 24).drop 24).drop 24).drop 24).drop 24).take 24).all (fun c => isCode c || c.before args0 about1) = true := by decide +kernel
set_option maxRecDepth 65536 in
theorem w_t7 : (((((((words1.drop 24).drop 24).drop 24).drop 24).drop 24).drop 24).take 24).all (fun c => isCode c || c.before args0 about1) = true := by decide +kernel
set_option maxRecDepth 65536 in
theorem w_t8 : ((((((((words1.drop 24).drop 24).drop 24).drop 24).drop 24).drop 24).drop 24).take 24).all (fun c => isCode c || c.before args0 about1) = true := by decide +kernel
set_option maxRecDepth 65536 in
theorem w_t9 : (((((((((words1.drop 24).drop 24).drop 24).drop 24).drop 24).drop 24).drop 24).drop 24).take 24).all (fun c => isCode c || c.before args0 about1) = true := by decide +kernel
set_option maxRecDepth 65536 in
theorem w_t10 : ((((((((((words1.drop 24).drop 24).drop 24).drop 24).drop 24).drop 24).drop 24).drop 24).drop 24).take 24).all (fun c => isCode c || c.before args0 about1) = true := by decide +kernel
set_option maxRecDepth 65536 in
theorem w_t11 : (((((((((((words1.drop 24).drop 24).drop 24).drop 24).drop 24).drop 24).drop 24).drop 24).drop 24).drop 24).take 24).all (fun c => isCode c || c.before args0 about1) = true := by decide +kernel
set_option maxRecDepth 65536 in
theorem w_t12 : ((((((((((((words1.drop 24).drop 24).drop 24).drop 24).drop 24).drop 24).drop 24).drop 24).drop 24).drop 24).drop 24).take 24).all (fun c => isCode c || c.before args0 about1) = true := by decide +kernel
set_option maxRecDepth 65536 in
theorem w_t13 : (((((((((((((words1.drop 24).drop 24).drop 24).drop 24).drop 24).drop 24).drop 24).drop 24).drop 24).drop 24).drop 24).drop 24).take 24).all (fun c => isCode c || c.before args0 about1) = true := by decide +kernel
set_option maxRecDepth 65536 in
theorem w_t14 : ((((((((((((((words1.drop 24).drop 24).drop 24).drop 24).drop 24).drop 24).drop 24).drop 24).drop 24).drop 24).drop 24).drop 24).drop 24).take 24).all (fun c => isCode c || c.before args0 about1) = true := by decide +kernel
set_option maxRecDepth 65536 in
theorem w_t15 : ((((((((((((((words1.drop 24).drop 24).drop 24).drop 24).drop 24).drop 24).drop 24).drop 24).drop 24).drop 24).drop 24).drop 24).drop 24).drop 24).all (fun c => isCode c || c.before args0 about1) = true := by decide +kernel
theorem w_tables : (allAtoms (Jvm.Cond.code x code maxLocals ret :: tables_1)).before args0 about1 = true := by
  rw [allAtoms_all]
  show words1.all (fun c => c.before args0 about1) = true
  refine all_split ?_ w_codes
  rw [← List.take_append_drop 24 words1, List.all_append, w_t1, ← List.take_append_drop 24 (words1.drop 24), List.all_append, w_t2, ← List.take_append_drop 24 ((words1.drop 24).drop 24), List.all_append, w_t3, ← List.take_append_drop 24 (((words1.drop 24).drop 24).drop 24), List.all_append, w_t4, ← List.take_append_drop 24 ((((words1.drop 24).drop 24).drop 24).drop 24), List.all_append, w_t5, ← List.take_append_drop 24 (((((words1.drop 24).drop 24).drop 24).drop 24).drop 24), List.all_append, w_t6, ← List.take_append_drop 24 ((((((words1.drop 24).drop 24).drop 24).drop 24).drop 24).drop 24), List.all_append, w_t7, ← List.take_append_drop 24 (((((((words1.drop 24).drop 24).drop 24).drop 24).drop 24).drop 24).drop 24), List.all_append, w_t8, ← List.take_append_drop 24 ((((((((words1.drop 24).drop 24).drop 24).drop 24).drop 24).drop 24).drop 24).drop 24), List.all_append, w_t9, ← List.take_append_drop 24 (((((((((words1.drop 24).drop 24).drop 24).drop 24).drop 24).drop 24).drop 24).drop 24).drop 24), List.all_append, w_t10, ← List.take_append_drop 24 ((((((((((words1.drop 24).drop 24).drop 24).drop 24).drop 24).drop 24).drop 24).drop 24).drop 24).drop 24), List.all_append, w_t11, ← List.take_append_drop 24 (((((((((((words1.drop 24).drop 24).drop 24).drop 24).drop 24).drop 24).drop 24).drop 24).drop 24).drop 24).drop 24), List.all_append, w_t12, ← List.take_append_drop 24 ((((((((((((words1.drop 24).drop 24).drop 24).drop 24).drop 24).drop 24).drop 24).drop 24).drop 24).drop 24).drop 24).drop 24), List.all_append, w_t13, ← List.take_append_drop 24 (((((((((((((words1.drop 24).drop 24).drop 24).drop 24).drop 24).drop 24).drop 24).drop 24).drop 24).drop 24).drop 24).drop 24).drop 24), List.all_append, w_t14, w_t15]
  rfl
set_option maxRecDepth 65536 in
theorem w_rest : rest_1_c.before args0 about1 = true := by decide +kernel
set_option maxRecDepth 65536 in
theorem w_case : (Jvm.Cond.and given_1 narrow_1).before args0 about1 = true := by decide +kernel
set_option maxRecDepth 65536 in
theorem w_consts : constsHeld consts_1 about1 := Jvm.Lit.constsHeldB_iff.mp (by decide +kernel)
theorem w_applies : (headSpec (Jvm.Cond.code x code maxLocals ret :: tables_1) room_1).applies x e0.platform about1 = true :=
  (Spec.applies_iff w_frames).mpr ⟨w_running, w_runnable, w_alone, w_named, w_hears, w_ripe, w_room, w_tables⟩
theorem atStart : AtStart classFile x code maxLocals ret World_1 tables_1 room_1 Calls_1 rest_1 Pre_1 launch0 p0 e0 about1 theMethod args0 below0 :=
  ⟨lists_1, trivial, launch0.admits_env _ _ _, launch0.least_env, fairChoices_fair.cas, fairChoices_fair.clock, w_frames, w_args, w_heap, w_applies, ⟨(by decide +kernel : framesKnown about1 = true), ⟨(by decide +kernel : tablesKnown about1 = true), ⟨w_consts, trivial⟩⟩⟩, w_rest, w_case⟩
end start1
theorem witness_1 : WitnessClaimed_1 := ⟨start1.p0, start1.e0, start1.about1, start1.theMethod, start1.args0, start1.below0, start1.atStart⟩
end Jvm.Pilot.@@N@@
