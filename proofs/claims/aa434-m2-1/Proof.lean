import JvmDerived
import JvmDerived.Pilot.@@N@@Statement
import JvmDerived.Pilot.@@N@@Code
set_option linter.unusedVariables false
set_option linter.unusedSimpArgs false
namespace Jvm.OwnKit
/-! numbers -/
section Nums
theorem n_int {i : Nat} (hi : i < 2147483648) : (Int32.ofNat i).toInt = i := Int32.toInt_ofNat_small (by simpa using hi)
theorem n_lt {i n : Nat} (hi : i < 2147483648) (hn : n < 2147483648) : Int32.ofNat i < Int32.ofNat n ↔ i < n := by
  rw [Int32.lt_iff_toInt_lt, n_int hi, n_int hn]; omega
theorem n_nn {i : Nat} (hi : i < 2147483648) : ¬ Int32.ofNat i < 0 := by
  rw [Int32.lt_iff_toInt_lt, n_int hi, show (0 : Int32).toInt = 0 from by decide]; omega
theorem n_nat {i : Nat} (hi : i < 2147483648) : (Int32.ofNat i).toNatClampNeg = i := by
  rw [Int32.toNatClampNeg, n_int hi]; simp
theorem n_add (i j : Nat) : Int32.ofNat i + Int32.ofNat j = Int32.ofNat (i + j) := (Int32.ofNat_add i j).symm
theorem n_succ (i : Nat) : Int32.ofNat i + 1 = Int32.ofNat (i + 1) := n_add i 1
theorem n_inj {i n : Nat} (hi : i < 2147483648) (hn : n < 2147483648) : Int32.ofNat i = Int32.ofNat n ↔ i = n := by
  rw [← Int32.toInt_inj, n_int hi, n_int hn]; omega
theorem i_eq {x y : Int32} (h : x.toInt = y.toInt) : x = y := Int32.toInt_inj.mp h
theorem i_lt {x y : Int32} : x < y ↔ x.toInt < y.toInt := Int32.lt_iff_toInt_lt
/-- lists by their places -/
def tab (n : Nat) (f : Nat → Value) : List Value := (List.range n).map f
theorem tab_len (n : Nat) (f : Nat → Value) : (tab n f).length = n := by simp [tab]
theorem tab_get {n i : Nat} {f : Nat → Value} (hi : i < n) : (tab n f)[i]? = some (f i) := by simp [tab, hi]
theorem tab_set (n i : Nat) (f : Nat → Value) (v : Value) : (tab n f).set i v = tab n (fun j => if j = i then v else f j) := by
  refine List.ext_getElem? fun j => ?_
  by_cases hj : j < n
  · rw [tab_get hj, List.getElem?_set]
    by_cases e : i = j
    · subst e; simp [tab_len, hj]
    · rw [if_neg e, tab_get hj, if_neg (fun q => e q.symm)]
  · rw [List.getElem?_eq_none (by simpa [tab] using hj), List.getElem?_eq_none (by simpa [tab] using hj)]
theorem tab_congr {n : Nat} {f g : Nat → Value} (h : ∀ j, j < n → f j = g j) : tab n f = tab n g := by
  refine List.ext_getElem? fun j => ?_
  by_cases hj : j < n
  · rw [tab_get hj, tab_get hj, h j hj]
  · rw [List.getElem?_eq_none (by simpa [tab] using hj), List.getElem?_eq_none (by simpa [tab] using hj)]
theorem tab_rep (n : Nat) (v : Value) : List.replicate n v = tab n (fun _ => v) := by
  refine List.ext_getElem? fun j => ?_
  by_cases hj : j < n
  · rw [tab_get hj, List.getElem?_replicate, if_pos hj]
  · rw [List.getElem?_eq_none (by simpa using hj), List.getElem?_eq_none (by simpa [tab] using hj)]
theorem tab_list (vs : List Value) (d : Value) : vs = tab vs.length (fun j => vs.getD j d) := by
  refine List.ext_getElem? fun j => ?_
  by_cases hj : j < vs.length
  · rw [tab_get hj, List.getD_eq_getElem?_getD, List.getElem?_eq_getElem hj]; rfl
  · rw [List.getElem?_eq_none (by omega), List.getElem?_eq_none (by simpa [tab] using hj)]
theorem map_tab (cs : List Int32) (f : Int32 → Value) : cs.map f = tab cs.length (fun j => f (cs.getD j 0)) := by
  refine List.ext_getElem? fun j => ?_
  by_cases hj : j < cs.length
  · rw [tab_get hj, List.getElem?_map, List.getElem?_eq_getElem hj, List.getD_eq_getElem?_getD, List.getElem?_eq_getElem hj]; rfl
  · rw [List.getElem?_eq_none (by simpa using hj), List.getElem?_eq_none (by simpa [tab] using hj)]
end Nums
end Jvm.OwnKit
namespace Jvm.OwnKit
open Jvm Jvm.ClassFile Sem Op Lib Jvm.Free Jvm.Stand Jvm.LawKit Jvm.RoadKit Bundle
/-! 1. WHAT A WALK KNOWS OF THE HEAP: cells by address: M (made here, writable), N (frozen here), P (handed in, frozen) -/
abbrev Mem : Type := List (Addr × Cell)
abbrev dom (M : Mem) : List Addr := M.map Prod.fst
def OKp (h h' : Heap) (ws : List Addr) : Prop := h.size ≤ h'.size ∧ ∀ (x : Addr) (c : Cell), h[x]? = some c → x ∉ ws → h'[x]? = some c
def OInv (Z : State) (EL : List (String × Nat)) (vmS : Vm) (h0 : Heap) (ws : List Addr) (vm : Vm) (h : Heap) (M N P : Mem) : Prop :=
  CHr Z EL vmS h0 vm h ∧ Ext Z.heap h ∧
  (∀ q ∈ M, h[q.1]? = some q.2 ∧ Safe Z EL vm h q.1 ∧ Z.heap.size ≤ q.1 ∧ (h0.size ≤ q.1 ∨ q.1 ∈ ws)) ∧ (dom M).Nodup ∧
  (∀ q ∈ N, h[q.1]? = some q.2 ∧ q.1 ∉ dom M ∧ (h0.size ≤ q.1 ∨ q.1 ∈ ws ∨ Bk Z EL vmS h0 q.1)) ∧
  (∀ q ∈ P, h[q.1]? = some q.2 ∧ q.1 ∉ dom M)
section Inv
variable {Z : State} {EL : List (String × Nat)} {vmS vm vm1 vm2 : Vm} {h0 h h' h2 : Heap} {ws : List Addr} {M N P M' N' : Mem} {a x : Addr} {c c' cl : Cell} {i sl : Nat} {v : Value}
theorem lt_of (q : h[x]? = some c) : x < h.size := (Array.getElem?_eq_some_iff.mp q).1
theorem ext_trans (E : Ext h h') (E' : Ext h' h2) : Ext h h2 := ⟨Nat.le_trans E.1 E'.1, fun a c q => E'.2 a c (E.2 a c q)⟩
theorem ext_refl (h : Heap) : Ext h h := ⟨Nat.le_refl _, fun _ _ q => q⟩
theorem dom_set (hi : M[i]? = some (a, c)) : dom (M.set i (a, c')) = dom M := by
  induction M generalizing i with
  | nil => simp
  | cons q M ih =>
    cases i with
    | zero => simp at hi; subst hi; rfl
    | succ i => simp only [List.set_cons_succ, dom, List.map_cons]; exact congrArg _ (ih (by simpa using hi))
theorem mem_set (hn : (dom M).Nodup) (hi : M[i]? = some (a, c)) : ∀ q ∈ M.set i (a, c'), q = (a, c') ∨ (q ∈ M ∧ q.1 ≠ a) := by
  induction M generalizing i with
  | nil => simp at hi
  | cons r M ih =>
    have hn' := List.nodup_cons.mp (show (r.1 :: dom M).Nodup from hn)
    cases i with
    | zero =>
      simp at hi; subst hi
      intro q hq
      rcases List.mem_cons.mp (show q ∈ (a, c') :: M from hq) with rfl | hq
      · exact Or.inl rfl
      · exact Or.inr ⟨List.mem_cons_of_mem _ hq, fun e => hn'.1 (List.mem_map.mpr ⟨q, hq, e⟩)⟩
    | succ i =>
      have hi' : M[i]? = some (a, c) := by simpa using hi
      intro q hq
      rcases List.mem_cons.mp (show q ∈ r :: M.set i (a, c') from hq) with rfl | hq
      · exact Or.inr ⟨List.mem_cons_self .., fun e => hn'.1 (List.mem_map.mpr ⟨(a, c), List.mem_of_getElem? hi', e.symm⟩)⟩
      · rcases ih hn'.2 hi' q hq with e | ⟨e1, e2⟩
        · exact Or.inl e
        · exact Or.inr ⟨List.mem_cons_of_mem _ e1, e2⟩
theorem OInv.alloc (I : OInv Z EL vmS h0 ws vm h M N P) (E : Ext h h') (hc : h'[h.size]? = some c) : OInv Z EL vmS h0 ws vm h' ((h.size, c) :: M) N P := by
  obtain ⟨C, EZ, hM, hn, hN, hP⟩ := I
  have nin : ∀ q : Addr × Cell, h[q.1]? = some q.2 → q.1 ≠ h.size := fun q e z => absurd z (Nat.ne_of_lt (lt_of e))
  refine ⟨C.trans (CHr.ext E C.1), ext_trans EZ E, fun q hq => ?_, ?_, fun q hq => ?_, fun q hq => ?_⟩
  · rcases List.mem_cons.mp hq with rfl | hq
    · exact ⟨hc, Safe.ext E C.1 (Safe.new (Nat.le_refl _)), EZ.1, Or.inl C.2.1⟩
    · obtain ⟨a1, a2, a3, a4⟩ := hM q hq
      exact ⟨E.2 _ _ a1, a2.ext E C.1, a3, a4⟩
  · refine List.nodup_cons.mpr ⟨fun z => ?_, hn⟩
    obtain ⟨q, hq, e⟩ := List.mem_map.mp z
    exact nin q (hM q hq).1 e
  · obtain ⟨a1, a2, a3⟩ := hN q hq
    exact ⟨E.2 _ _ a1, fun z => (List.mem_cons.mp z).elim (nin q a1) a2, a3⟩
  · obtain ⟨a1, a2⟩ := hP q hq
    exact ⟨E.2 _ _ a1, fun z => (List.mem_cons.mp z).elim (nin q a1) a2⟩
theorem OInv.write (I : OInv Z EL vmS h0 ws vm h M N P) (hi : M[i]? = some (a, c)) (W : Wr h h' a sl v) : OInv Z EL vmS h0 ws vm h' (M.set i (a, c.setSlot sl v)) N P := by
  obtain ⟨C, EZ, hM, hn, hN, hP⟩ := I
  obtain ⟨b1, b2, b3, b4⟩ := hM _ (List.mem_of_getElem? hi)
  have W0 := W
  obtain ⟨cell, w1, w2, w3, rfl⟩ := W
  have e : cell = c := Option.some.inj (w1.symm.trans b1)
  subst e
  have ne : ∀ {y : Addr}, y ≠ a → (h.setIfInBounds a (cell.setSlot sl v))[y]? = h[y]? := fun {y} q => Array.getElem?_setIfInBounds_ne (Ne.symm q)
  have dm := dom_set (c' := cell.setSlot sl v) hi
  refine ⟨C.trans (CHr.wr W0 b2 C.1), ⟨by simpa using EZ.1, fun y cy q => ?_⟩, fun q hq => ?_, by rw [dm]; exact hn, fun q hq => ?_, fun q hq => ?_⟩
  · exact (ne (Nat.ne_of_lt (Nat.lt_of_lt_of_le (lt_of q) b3))).trans (EZ.2 _ _ q)
  · rcases mem_set hn hi q hq with rfl | ⟨hq, e⟩
    · exact ⟨by have := lt_of w1; simp [this], b2.wr W0 C.1 b2, b3, b4⟩
    · obtain ⟨a1, a2, a3, a4⟩ := hM q hq
      exact ⟨by rw [ne e]; exact a1, b2.wr W0 C.1 a2, a3, a4⟩
  · obtain ⟨a1, a2, a3⟩ := hN q hq
    exact ⟨(ne fun z => a2 (by rw [z]; exact List.mem_map.mpr ⟨_, List.mem_of_getElem? hi, rfl⟩)).trans a1, by rw [dm]; exact a2, a3⟩
  · obtain ⟨a1, a2⟩ := hP q hq
    exact ⟨(ne fun z => a2 (by rw [z]; exact List.mem_map.mpr ⟨_, List.mem_of_getElem? hi, rfl⟩)).trans a1, by rw [dm]; exact a2⟩
theorem OInv.later (I : OInv Z EL vmS h0 ws vm h M N P) (D : CHr Z EL vm h vm1 h') (E : Ext h h') : OInv Z EL vmS h0 ws vm1 h' M N P := by
  obtain ⟨C, EZ, hM, hn, hN, hP⟩ := I
  refine ⟨C.trans D, ext_trans EZ E, fun q hq => ?_, hn, fun q hq => ?_, fun q hq => ?_⟩
  · obtain ⟨a1, a2, a3⟩ := hM q hq
    exact ⟨E.2 _ _ a1, D.safe (lt_of a1) a2, a3⟩
  · obtain ⟨a1, a2⟩ := hN q hq
    exact ⟨E.2 _ _ a1, a2⟩
  · obtain ⟨a1, a2⟩ := hP q hq
    exact ⟨E.2 _ _ a1, a2⟩
/-- what is booked may be frozen knowledge too -/
theorem OInv.learn (I : OInv Z EL vmS h0 ws vm h M N P) (q1 : h[a]? = some c) (q2 : a ∉ dom M) (q3 : h0.size ≤ a ∨ a ∈ ws ∨ Bk Z EL vmS h0 a) : OInv Z EL vmS h0 ws vm h M ((a, c) :: N) P := by
  obtain ⟨C, EZ, hM, hn, hN, hP⟩ := I
  refine ⟨C, EZ, hM, hn, fun q hq => ?_, hP⟩
  rcases List.mem_cons.mp hq with rfl | hq
  · exact ⟨q1, q2, q3⟩
  · exact hN q hq
theorem OInv.sub (I : OInv Z EL vmS h0 ws vm h M N P) (hm : M'.Sublist M) (hn' : ∀ q ∈ N', q ∈ N) : OInv Z EL vmS h0 ws vm h M' N' [] := by
  obtain ⟨C, EZ, hM, hn, hN, hP⟩ := I
  exact ⟨C, EZ, fun q hq => hM q (hm.subset hq), (hm.map Prod.fst).nodup hn, fun q hq => ⟨(hN q (hn' q hq)).1, fun z => (hN q (hn' q hq)).2.1 ((hm.map Prod.fst).subset z), (hN q (hn' q hq)).2.2⟩, fun q hq => nomatch hq⟩
/-- one cell of M is written no more -/
theorem OInv.freeze (I : OInv Z EL vmS h0 ws vm h ((a, c) :: M) N P) : OInv Z EL vmS h0 ws vm h M ((a, c) :: N) P := by
  obtain ⟨C, EZ, hM, hn, hN, hP⟩ := I
  have hn' := List.nodup_cons.mp (show (a :: dom M).Nodup from hn)
  obtain ⟨b1, b2, b3, b4⟩ := hM _ (List.mem_cons_self ..)
  refine ⟨C, EZ, fun q hq => hM q (List.mem_cons_of_mem _ hq), hn'.2, fun q hq => ?_, fun q hq => ⟨(hP q hq).1, fun z => (hP q hq).2 (List.mem_cons_of_mem _ z)⟩⟩
  rcases List.mem_cons.mp hq with rfl | hq
  · exact ⟨b1, hn'.1, b4.imp id Or.inl⟩
  · exact ⟨(hN q hq).1, fun z => (hN q hq).2.1 (List.mem_cons_of_mem _ z), (hN q hq).2.2⟩
/-- the cells of M in another order -/
theorem OInv.perm (I : OInv Z EL vmS h0 ws vm h M N P) (hp : M'.Perm M) : OInv Z EL vmS h0 ws vm h M' N P := by
  obtain ⟨C, EZ, hM, hn, hN, hP⟩ := I
  have hd : (dom M').Perm (dom M) := hp.map _
  exact ⟨C, EZ, fun q hq => hM q (hp.subset hq), hd.nodup_iff.mpr hn, fun q hq => ⟨(hN q hq).1, fun z => (hN q hq).2.1 (hd.subset z), (hN q hq).2.2⟩, fun q hq => ⟨(hP q hq).1, fun z => (hP q hq).2 (hd.subset z)⟩⟩
theorem OInv.at (I : OInv Z EL vmS h0 ws vm h M N P) {q : Addr × Cell} (hq : q ∈ M ++ (N ++ P)) : h[q.1]? = some q.2 := by
  rcases List.mem_append.mp hq with hq | hq
  · exact (I.2.2.1 q hq).1
  · rcases List.mem_append.mp hq with hq | hq
    · exact (I.2.2.2.2.1 q hq).1
    · exact (I.2.2.2.2.2 q hq).1
variable {Mi Mr Mo No Pc : Mem}
/-- what a callee may ask -/
theorem OInv.hand (I : OInv Z EL vmS h0 ws vm h (Mi ++ Mr) N P) (D : CHr Z EL vm h vm1 h) (hp : ∀ q ∈ Pc, q ∈ Mr ++ (N ++ P)) : OInv Z EL vm1 h (dom Mi) vm1 h Mi [] Pc := by
  obtain ⟨C, EZ, hM, hn, hN, hP⟩ := I.later D (ext_refl h)
  rw [dom, List.map_append] at hn
  obtain ⟨n1, n2, n3⟩ := List.nodup_append.mp hn
  refine ⟨CHr.refl D.1, EZ, fun q hq => ?_, n1, fun q hq => (nomatch hq), fun q hq => ?_⟩
  · obtain ⟨a1, a2, a3, -⟩ := hM q (List.mem_append_left _ hq)
    exact ⟨a1, a2, a3, Or.inr (List.mem_map.mpr ⟨q, hq, rfl⟩)⟩
  · rcases List.mem_append.mp (hp q hq) with hq | hq
    · exact ⟨(hM q (List.mem_append_right _ hq)).1, fun z => n3 _ z _ (List.mem_map.mpr ⟨q, hq, rfl⟩) rfl⟩
    · have sub : q.1 ∈ dom Mi → q.1 ∈ dom (Mi ++ Mr) := fun z => by rw [dom, List.map_append]; exact List.mem_append_left _ z
      rcases List.mem_append.mp hq with hq | hq
      · exact ⟨(hN q hq).1, fun z => (hN q hq).2.1 (sub z)⟩
      · exact ⟨(hP q hq).1, fun z => (hP q hq).2 (sub z)⟩
/-- what stands behind a call -/
theorem OInv.call (I : OInv Z EL vmS h0 ws vm h (Mi ++ Mr) N P) (D : CHr Z EL vm h vm1 h) (J : OInv Z EL vm1 h (dom Mi) vm2 h2 Mo No []) (K : OKp h h2 (dom Mi)) : OInv Z EL vmS h0 ws vm2 h2 (Mo ++ Mr) (No ++ N) P := by
  obtain ⟨C, EZ, hM, hn, hN, hP⟩ := I.later D (ext_refl h)
  obtain ⟨C', EZ', hM', hn', hN', -⟩ := J
  rw [dom, List.map_append] at hn
  obtain ⟨n1, n2, n3⟩ := List.nodup_append.mp hn
  have sub : ∀ {y : Addr}, y ∈ dom Mi → y ∈ dom (Mi ++ Mr) := fun {y} z => by rw [dom, List.map_append]; exact List.mem_append_left _ z
  have subr : ∀ {y : Addr}, y ∈ dom Mr → y ∈ dom (Mi ++ Mr) := fun {y} z => by rw [dom, List.map_append]; exact List.mem_append_right _ z
  have up : ∀ {y : Addr}, h.size ≤ y ∨ y ∈ dom Mi → h0.size ≤ y ∨ y ∈ ws := fun {y} z => by
    rcases z with z | z
    · exact Or.inl (Nat.le_trans C.2.1 z)
    · obtain ⟨q, hq, rfl⟩ := List.mem_map.mp z
      exact (hM q (List.mem_append_left _ hq)).2.2.2
  have far : ∀ {y : Addr} {q : Addr × Cell}, h.size ≤ y ∨ y ∈ dom Mi → q ∈ Mr → q.1 ≠ y := fun {y q} z hq e => by
    rcases z with z | z
    · rw [← e] at z; exact Nat.not_lt.mpr z (lt_of (hM q (List.mem_append_right _ hq)).1)
    · exact n3 _ z _ (List.mem_map.mpr ⟨q, hq, rfl⟩) e.symm
  refine ⟨C.trans C', EZ', fun q hq => ?_, ?_, fun q hq => ?_, fun q hq => ?_⟩
  · rcases List.mem_append.mp hq with hq | hq
    · obtain ⟨a1, a2, a3, a4⟩ := hM' q hq
      exact ⟨a1, a2, a3, up a4⟩
    · obtain ⟨a1, a2, a3, a4⟩ := hM q (List.mem_append_right _ hq)
      exact ⟨K.2 _ _ a1 fun z => n3 _ z _ (List.mem_map.mpr ⟨q, hq, rfl⟩) rfl, C'.safe (lt_of a1) a2, a3, a4⟩
  · rw [dom, List.map_append]
    refine List.nodup_append.mpr ⟨hn', n2, fun y hy z hz e => ?_⟩
    obtain ⟨q, hq, rfl⟩ := List.mem_map.mp hy
    obtain ⟨r, hr, rfl⟩ := List.mem_map.mp hz
    exact far (hM' q hq).2.2.2 hr e.symm
  · rcases List.mem_append.mp hq with hq | hq
    · obtain ⟨a1, a2, a3⟩ := hN' q hq
      refine ⟨a1, fun z => ?_, ?_⟩
      · rw [dom, List.map_append] at z
        rcases List.mem_append.mp z with z | z
        · exact a2 z
        · obtain ⟨r, hr, e⟩ := List.mem_map.mp z
          rcases a3 with a3 | a3 | a3
          · exact far (Or.inl a3) hr e
          · exact far (Or.inr a3) hr e
          · exact (hM r (List.mem_append_right _ hr)).2.1 (e ▸ a3)
      · rcases a3 with a3 | a3 | a3
        · exact (up (Or.inl a3)).imp id Or.inl
        · exact (up (Or.inr a3)).imp id Or.inl
        · exact (C.2.2 _ a3).elim (fun z => Or.inr (Or.inr z)) Or.inl
    · obtain ⟨a1, a2, a3⟩ := hN q hq
      refine ⟨K.2 _ _ a1 fun z => a2 (sub z), fun z => ?_, a3⟩
      rw [dom, List.map_append] at z
      rcases List.mem_append.mp z with z | z
      · obtain ⟨r, hr, e⟩ := List.mem_map.mp z
        rcases (hM' r hr).2.2.2 with b | b
        · rw [e] at b; exact Nat.not_lt.mpr b (lt_of a1)
        · rw [e] at b; exact a2 (sub b)
      · exact a2 (subr z)
  · obtain ⟨a1, a2⟩ := hP q hq
    refine ⟨K.2 _ _ a1 fun z => a2 (sub z), fun z => ?_⟩
    rw [dom, List.map_append] at z
    rcases List.mem_append.mp z with z | z
    · obtain ⟨r, hr, e⟩ := List.mem_map.mp z
      rcases (hM' r hr).2.2.2 with b | b
      · rw [e] at b; exact Nat.not_lt.mpr b (lt_of a1)
      · rw [e] at b; exact a2 (sub b)
    · exact a2 (subr z)
end Inv
/-! 2. A WALK: OSt (where it stands), OWp (it comes to the end that Q says), OCon (a method's contract) -/
def OSt (p : Program) (l : Launch) (e : Env) (R : Room) (s : State) (m : MethodId) (args : Array Value) (below : List Frame) (meth : Method) (c : Code) (own : String) (Z : State) (EL : List (String × Nat)) (ws : List Addr) (P : Mem)
    (T : State) (M N : Mem) (cells slots : Nat) : Prop :=
  ∃ (vm0 : Vm) (k0 : Nat) (locs : List Loc), Stand p l e R (s.setVm vm0) m args below meth c T locs cells slots ∧ s.Since vm0 k0 ∧ k0 ≤ T.heap.size ∧ Z.Warmed39 vm0 ∧ vm0.findClass own = some m.cls ∧
    (∀ y ∈ locs, s.heap.size ≤ y.base ∨ y.base ∈ ws) ∧ OInv Z EL s.vm s.heap ws vm0 T.heap M N P
def OEnd (e : Env) (R : Room) (s : State) (below : List Frame) (Z : State) (EL : List (String × Nat)) (ws : List Addr) (Q : Option Value → Mem → Mem → Prop) (U : State) : Prop :=
  ∃ (v : Option Value) (L : List Loc), U.status = .running ∧ Ended U below (.returned v) ∧ (∃ M N, Q v M N ∧ OInv Z EL s.vm s.heap ws U.vm U.heap M N []) ∧ OKp s.heap U.heap ws ∧ (∀ y ∈ L, s.heap.size ≤ y.base ∨ y.base ∈ ws) ∧ ReturnedEndW s (.returned v) U L R.cells R.slots
def OWp (p : Program) (l : Launch) (e : Env) (R : Room) (s : State) (m : MethodId) (args : Array Value) (below : List Frame) (meth : Method) (c : Code) (own : String) (Z : State) (EL : List (String × Nat)) (ws : List Addr) (P : Mem)
    (Q : Option Value → Mem → Mem → Prop) (M N : Mem) (cells slots pc : Nat) (L : List Slot) (S : List Value) : Prop :=
  ∀ T, OSt p l e R s m args below meth c own Z EL ws P T M N cells slots → ∃ U, Steps p.tables e below (T.setTop (mkF m pc L.toArray S)) U ∧ OEnd e R s below Z EL ws Q U
def OOk (p : Program) (bytes : ByteArray) (maxL : Nat) (ret : Option FieldType) (nm : String) (meth : Method) (c : Code) (Z : State) (a0 : Array Value) (EL : List (String × Nat)) : Prop :=
  p.tables.exec = Jvm.exec ∧ c.code = bytes ∧ c.maxLocals = maxL ∧ meth.sig.returnType = ret ∧ meth.locks = false ∧ meth.name = nm ∧ EW Z a0 EL
def OCon (l : Launch) (Z : State) (EL : List (String × Nat)) (y : MethodName) (bytes : ByteArray) (maxL : Nat) (ret : Option FieldType) (xs : List Jvm.Cond) (rm : Room) (as' : Array Value) (Mi P : Mem) (Q : Option Value → Mem → Mem → Prop) : Prop :=
  MetFree l y (head1 (Jvm.Cond.code y bytes maxL ret :: xs) rm) (fun a U => a = as' ∧ Z.Warmed39 U.vm ∧ OInv Z EL U.vm U.heap (dom Mi) U.vm U.heap Mi [] P) (fun _ _ _ _ _ => True)
    (fun _ U o U' => ∃ v L, o = .returned v ∧ (∃ M N, Q v M N ∧ OInv Z EL U.vm U.heap (dom Mi) U'.vm U'.heap M N []) ∧ OKp U.heap U'.heap (dom Mi) ∧ (∀ y ∈ L, U.heap.size ≤ y.base ∨ y.base ∈ dom Mi) ∧ ReturnedEndW U o U' L rm.cells rm.slots)
section Walk
variable {p : Program} {l : Launch} {e : Env} {R : Room} {s : State} {m : MethodId} {args : Array Value} {below : List Frame} {meth : Method} {c : Code} {own : String} {Z : State} {a0 : Array Value} {EL : List (String × Nat)} {ws : List Addr} {P : Mem} {Q : Option Value → Mem → Mem → Prop} {M N : Mem} {cells slots pc pc' : Nat} {L L' : List Slot} {S S' rest : List Value} {bytes : ByteArray} {maxL : Nat} {ret : Option FieldType} {nm : String}
theorem okp_of {vm0 : Vm} {T : State} {locs : List Loc} (X : Stand p l e R (s.setVm vm0) m args below meth c T locs cells slots) (hL : ∀ y ∈ locs, s.heap.size ≤ y.base ∨ y.base ∈ ws) : OKp s.heap T.heap ws := by
  obtain ⟨-, q1, -, -, -, q2⟩ := X.same
  refine ⟨q1, fun x cx hx hnx => ?_⟩
  obtain ⟨c', r1, r2, r3, r4⟩ := q2 x cx hx
  have r1 : T.heap[x]? = some c' := r1
  have e : c'.slots = cx.slots := Array.ext_getElem? fun i => r4 i fun z => by
    rcases hL _ z with y | y
    · have := lt_of hx; exact absurd y (Nat.not_le.mpr this)
    · exact hnx y
  rw [r1, r2, e]
theorem chat {vm0 vm1 : Vm} {h : Heap} (hW : (s.setVm vm0).WarmedH vm1) (hZ : Z.Warmed39 vm0) (w : EW Z a0 EL) (H : CHv Z EL vm0 h) : CHr Z EL vm0 h vm1 h := by
  have q := CHv.later (h' := h) hZ (hW := (show (Wst Z vm0 h).Warmed39 vm1 from hW.wide)) w ⟨Nat.le_refl _, fun _ _ q => q⟩ (Or.inl hW.interned_eq) H
  exact ⟨q.1, Nat.le_refl _, q.2⟩
/-- a contract by its walk -/
theorem OCon.of_wp {y : MethodName} {xs : List Jvm.Cond} {rm : Room} {as' : Array Value} {Mi : Mem} {L0 : List Slot} (hpl : plainFor y = true) (hEL : EW Z a0 EL) (hent : ∀ m, entryFrame m as' maxL = mkF m 0 L0.toArray [])
    (H : ∀ p e s m below meth c, OOk p bytes maxL ret y.name meth c Z a0 EL → OWp p l e rm s m as' below meth c y.cls Z EL (dom Mi) P Q Mi [] 0 0 0 L0 []) : OCon l Z EL y bytes maxL ret xs rm as' Mi P Q := by
  refine MetFree.of_bodySF hpl hisR ?_
  intro p e s m args below meth c s₁ Bd hml0 hP hK
  obtain ⟨rfl, hZ, I⟩ := hP
  have X0 : Stand p l e rm s m args below meth c s₁ [] 0 0 := Stand.of_body Bd
  have hown : s.vm.findClass y.cls = some m.cls := findClass_of_methodNamed Bd.named
  have hnm := (name_of_methodNamed Bd.named Bd.method).1
  have hh : s₁.heap = s.heap := by rw [Bd.state]; rfl
  obtain ⟨U, st, v, L, h1, h2, h3, h4, h5, h6⟩ := H p e s m below meth c ⟨Bd.exec, Bd.bytes, hml0, Bd.returns, Bd.notSynchronized, hnm, hEL⟩ s₁
    ⟨s.vm, 0, [], X0, (State.WarmedH.refl s).since 0, Nat.zero_le _, hZ, hown, fun _ q => (nomatch q), by rw [hh]; exact I⟩
  refine ⟨U, .returned v, ?_, h1, h2, v, L, rfl, h3, h4, h5, h6⟩
  rw [hent m]; exact st
/-- a step that leaves all but the frame -/
theorem OWp.pure (H : ∀ T target, At T m c below → Steps p.tables e below (T.setTop (mkF m pc' L'.toArray S')) target → Steps p.tables e below (T.setTop (mkF m pc L.toArray S)) target)
    (k : OWp p l e R s m args below meth c own Z EL ws P Q M N cells slots pc' L' S') : OWp p l e R s m args below meth c own Z EL ws P Q M N cells slots pc L S := fun T hT => by
  obtain ⟨U, st, r⟩ := k T hT
  obtain ⟨vm0, k0, locs, X, -⟩ := hT
  exact ⟨U, H T U X.here st, r⟩
/-- one word lies in the slot, or none -/
def o1 : Slot → Bool
  | .unset => true
  | .val w => w.category == 1
  | .second => false
theorem store_l {L : List Slot} {k : Nat} {v : Value} (ho : (L[k]?).any o1 = true) (hv : v.category = 1) : storeLocals L.toArray k v = some (L.set k (.val v)).toArray := by
  cases hk : L[k]? with
  | none => rw [hk] at ho; cases ho
  | some o =>
    rw [hk] at ho
    have ho' : o1 o = true := ho
    rw [Jvm.Free.XS.store1 (l := L.toArray) (i := k) (o := o) (by simpa using hk) (by cases o <;> simp [o1] at ho' ⊢; exact ho') hv]
    simp
section Pure
variable (hk : OOk p bytes maxL ret nm meth c Z a0 EL)
theorem OWp.aload_n {k : Fin 4} {v : Value} (hk : OOk p bytes maxL ret nm meth c Z a0 EL) (hd : decode bytes pc = .ok (.aload_n k, 1)) (hp : pc' = pc + 1) (hl : L[k.val]? = some (.val v)) (hv : v.isRef = true)
    (kk : OWp p l e R s m args below meth c own Z EL ws P Q M N cells slots pc' L (v :: S)) : OWp p l e R s m args below meth c own Z EL ws P Q M N cells slots pc L S := by
  subst hp; exact OWp.pure (fun T t h k => XS.aloadN h hk.1 rfl (hb hk.2.1 hd) (by simpa using hl) hv k) kk
theorem OWp.aload {k : Nat} {v : Value} (hk : OOk p bytes maxL ret nm meth c Z a0 EL) (hd : decode bytes pc = .ok (.aload k, 2)) (hp : pc' = pc + 2) (hl : L[k]? = some (.val v)) (hv : v.isRef = true)
    (kk : OWp p l e R s m args below meth c own Z EL ws P Q M N cells slots pc' L (v :: S)) : OWp p l e R s m args below meth c own Z EL ws P Q M N cells slots pc L S := by
  subst hp; exact OWp.pure (fun T t h k => XS.aload h hk.1 rfl (hb hk.2.1 hd) (by simpa using hl) hv k) kk
theorem OWp.iload_n {k : Fin 4} {v : Int32} (hk : OOk p bytes maxL ret nm meth c Z a0 EL) (hd : decode bytes pc = .ok (.iload_n k, 1)) (hp : pc' = pc + 1) (hl : L[k.val]? = some (.val (.int v)))
    (kk : OWp p l e R s m args below meth c own Z EL ws P Q M N cells slots pc' L (.int v :: S)) : OWp p l e R s m args below meth c own Z EL ws P Q M N cells slots pc L S := by
  subst hp; exact OWp.pure (fun T t h k => XS.iloadN h hk.1 rfl (hb hk.2.1 hd) (by simpa using hl) k) kk
theorem OWp.iload {k : Nat} {v : Int32} (hk : OOk p bytes maxL ret nm meth c Z a0 EL) (hd : decode bytes pc = .ok (.iload k, 2)) (hp : pc' = pc + 2) (hl : L[k]? = some (.val (.int v)))
    (kk : OWp p l e R s m args below meth c own Z EL ws P Q M N cells slots pc' L (.int v :: S)) : OWp p l e R s m args below meth c own Z EL ws P Q M N cells slots pc L S := by
  subst hp; exact OWp.pure (fun T t h k => XS.iload h hk.1 rfl (hb hk.2.1 hd) (by simpa using hl) k) kk
theorem OWp.lload_n {k : Fin 4} {v : Int64} (hk : OOk p bytes maxL ret nm meth c Z a0 EL) (hd : decode bytes pc = .ok (.lload_n k, 1)) (hp : pc' = pc + 1) (hl : L[k.val]? = some (.val (.long v)))
    (kk : OWp p l e R s m args below meth c own Z EL ws P Q M N cells slots pc' L (.long v :: S)) : OWp p l e R s m args below meth c own Z EL ws P Q M N cells slots pc L S := by
  subst hp; exact OWp.pure (fun T t h k => XS.lloadN h hk.1 rfl (hb hk.2.1 hd) (by simpa using hl) k) kk
theorem OWp.lload {k : Nat} {v : Int64} (hk : OOk p bytes maxL ret nm meth c Z a0 EL) (hd : decode bytes pc = .ok (.lload k, 2)) (hp : pc' = pc + 2) (hl : L[k]? = some (.val (.long v)))
    (kk : OWp p l e R s m args below meth c own Z EL ws P Q M N cells slots pc' L (.long v :: S)) : OWp p l e R s m args below meth c own Z EL ws P Q M N cells slots pc L S := by
  subst hp; exact OWp.pure (fun T t h k => XS.lload h hk.1 rfl (hb hk.2.1 hd) (by simpa using hl) k) kk
theorem OWp.iconst {i : Int} {z : Int32} (hk : OOk p bytes maxL ret nm meth c Z a0 EL) (hd : decode bytes pc = .ok (.iconst i, 1)) (hp : pc' = pc + 1) (hz : Int32.ofInt i = z)
    (kk : OWp p l e R s m args below meth c own Z EL ws P Q M N cells slots pc' L (.int z :: S)) : OWp p l e R s m args below meth c own Z EL ws P Q M N cells slots pc L S := by
  subst hp hz; exact OWp.pure (fun T t h k => XS.iconst h hk.1 rfl (hb hk.2.1 hd) k) kk
theorem OWp.bipush {i : Int} {z : Int32} (hk : OOk p bytes maxL ret nm meth c Z a0 EL) (hd : decode bytes pc = .ok (.bipush i, 2)) (hp : pc' = pc + 2) (hz : (Int8.ofInt i).toInt32 = z)
    (kk : OWp p l e R s m args below meth c own Z EL ws P Q M N cells slots pc' L (.int z :: S)) : OWp p l e R s m args below meth c own Z EL ws P Q M N cells slots pc L S := by
  subst hp hz; exact OWp.pure (fun T t h k => XS.bipush h hk.1 rfl (hb hk.2.1 hd) k) kk
theorem OWp.sipush {i : Int} {z : Int32} (hk : OOk p bytes maxL ret nm meth c Z a0 EL) (hd : decode bytes pc = .ok (.sipush i, 3)) (hp : pc' = pc + 3) (hz : (Int16.ofInt i).toInt32 = z)
    (kk : OWp p l e R s m args below meth c own Z EL ws P Q M N cells slots pc' L (.int z :: S)) : OWp p l e R s m args below meth c own Z EL ws P Q M N cells slots pc L S := by
  subst hp hz; exact OWp.pure (fun T t h k => XS.sipush h hk.1 rfl (hb hk.2.1 hd) k) kk
theorem OWp.lconst {i : Fin 2} {z : Int64} (hk : OOk p bytes maxL ret nm meth c Z a0 EL) (hd : decode bytes pc = .ok (.lconst i, 1)) (hp : pc' = pc + 1) (hz : Int64.ofNat i = z)
    (kk : OWp p l e R s m args below meth c own Z EL ws P Q M N cells slots pc' L (.long z :: S)) : OWp p l e R s m args below meth c own Z EL ws P Q M N cells slots pc L S := by
  subst hp hz; exact OWp.pure (fun T t h k => XS.lconst h hk.1 rfl (hb hk.2.1 hd) k) kk
theorem OWp.aconst_null (hk : OOk p bytes maxL ret nm meth c Z a0 EL) (hd : decode bytes pc = .ok (.aconst_null, 1)) (hp : pc' = pc + 1)
    (kk : OWp p l e R s m args below meth c own Z EL ws P Q M N cells slots pc' L (.null :: S)) : OWp p l e R s m args below meth c own Z EL ws P Q M N cells slots pc L S := by
  subst hp; exact OWp.pure (fun T t h k => XS.aconstNull h hk.1 rfl (hb hk.2.1 hd) k) kk
theorem OWp.iadd {x : Int32} {y : Int32} (hk : OOk p bytes maxL ret nm meth c Z a0 EL) (hd : decode bytes pc = .ok (.iadd, 1)) (hp : pc' = pc + 1) 
    (kk : OWp p l e R s m args below meth c own Z EL ws P Q M N cells slots pc' L (.int (x + y) :: rest)) : OWp p l e R s m args below meth c own Z EL ws P Q M N cells slots pc L (.int y :: .int x :: rest) := by
  subst hp; exact OWp.pure (fun T t h k => XS.iadd h hk.1 rfl (hb hk.2.1 hd) rfl k) kk
theorem OWp.isub {x : Int32} {y : Int32} (hk : OOk p bytes maxL ret nm meth c Z a0 EL) (hd : decode bytes pc = .ok (.isub, 1)) (hp : pc' = pc + 1) 
    (kk : OWp p l e R s m args below meth c own Z EL ws P Q M N cells slots pc' L (.int (x - y) :: rest)) : OWp p l e R s m args below meth c own Z EL ws P Q M N cells slots pc L (.int y :: .int x :: rest) := by
  subst hp; exact OWp.pure (fun T t h k => XS.isub h hk.1 rfl (hb hk.2.1 hd) rfl k) kk
theorem OWp.imul {x : Int32} {y : Int32} (hk : OOk p bytes maxL ret nm meth c Z a0 EL) (hd : decode bytes pc = .ok (.imul, 1)) (hp : pc' = pc + 1) 
    (kk : OWp p l e R s m args below meth c own Z EL ws P Q M N cells slots pc' L (.int (x * y) :: rest)) : OWp p l e R s m args below meth c own Z EL ws P Q M N cells slots pc L (.int y :: .int x :: rest) := by
  subst hp; exact OWp.pure (fun T t h k => XS.imul h hk.1 rfl (hb hk.2.1 hd) rfl k) kk
theorem OWp.iand {x : Int32} {y : Int32} (hk : OOk p bytes maxL ret nm meth c Z a0 EL) (hd : decode bytes pc = .ok (.iand, 1)) (hp : pc' = pc + 1) 
    (kk : OWp p l e R s m args below meth c own Z EL ws P Q M N cells slots pc' L (.int (x &&& y) :: rest)) : OWp p l e R s m args below meth c own Z EL ws P Q M N cells slots pc L (.int y :: .int x :: rest) := by
  subst hp; exact OWp.pure (fun T t h k => XS.iand h hk.1 rfl (hb hk.2.1 hd) rfl k) kk
theorem OWp.ior {x : Int32} {y : Int32} (hk : OOk p bytes maxL ret nm meth c Z a0 EL) (hd : decode bytes pc = .ok (.ior, 1)) (hp : pc' = pc + 1) 
    (kk : OWp p l e R s m args below meth c own Z EL ws P Q M N cells slots pc' L (.int (x ||| y) :: rest)) : OWp p l e R s m args below meth c own Z EL ws P Q M N cells slots pc L (.int y :: .int x :: rest) := by
  subst hp; exact OWp.pure (fun T t h k => XS.ior h hk.1 rfl (hb hk.2.1 hd) rfl k) kk
theorem OWp.ixor {x : Int32} {y : Int32} (hk : OOk p bytes maxL ret nm meth c Z a0 EL) (hd : decode bytes pc = .ok (.ixor, 1)) (hp : pc' = pc + 1) 
    (kk : OWp p l e R s m args below meth c own Z EL ws P Q M N cells slots pc' L (.int (x ^^^ y) :: rest)) : OWp p l e R s m args below meth c own Z EL ws P Q M N cells slots pc L (.int y :: .int x :: rest) := by
  subst hp; exact OWp.pure (fun T t h k => XS.ixor h hk.1 rfl (hb hk.2.1 hd) rfl k) kk
theorem OWp.ishl {x : Int32} {y : Int32} (hk : OOk p bytes maxL ret nm meth c Z a0 EL) (hd : decode bytes pc = .ok (.ishl, 1)) (hp : pc' = pc + 1) 
    (kk : OWp p l e R s m args below meth c own Z EL ws P Q M N cells slots pc' L (.int (x <<< (y &&& 31)) :: rest)) : OWp p l e R s m args below meth c own Z EL ws P Q M N cells slots pc L (.int y :: .int x :: rest) := by
  subst hp; exact OWp.pure (fun T t h k => XS.ishl h hk.1 rfl (hb hk.2.1 hd) rfl k) kk
theorem OWp.ishr {x : Int32} {y : Int32} (hk : OOk p bytes maxL ret nm meth c Z a0 EL) (hd : decode bytes pc = .ok (.ishr, 1)) (hp : pc' = pc + 1) 
    (kk : OWp p l e R s m args below meth c own Z EL ws P Q M N cells slots pc' L (.int (x >>> (y &&& 31)) :: rest)) : OWp p l e R s m args below meth c own Z EL ws P Q M N cells slots pc L (.int y :: .int x :: rest) := by
  subst hp; exact OWp.pure (fun T t h k => XS.ishr h hk.1 rfl (hb hk.2.1 hd) rfl k) kk
theorem OWp.iushr {x : Int32} {y : Int32} (hk : OOk p bytes maxL ret nm meth c Z a0 EL) (hd : decode bytes pc = .ok (.iushr, 1)) (hp : pc' = pc + 1) 
    (kk : OWp p l e R s m args below meth c own Z EL ws P Q M N cells slots pc' L (.int (XT.ushr x y) :: rest)) : OWp p l e R s m args below meth c own Z EL ws P Q M N cells slots pc L (.int y :: .int x :: rest) := by
  subst hp; exact OWp.pure (fun T t h k => XS.iushr h hk.1 rfl (hb hk.2.1 hd) rfl k) kk
theorem OWp.idiv {x : Int32} {y : Int32} (hk : OOk p bytes maxL ret nm meth c Z a0 EL) (hd : decode bytes pc = .ok (.idiv, 1)) (hp : pc' = pc + 1) (hy : y ≠ 0)
    (kk : OWp p l e R s m args below meth c own Z EL ws P Q M N cells slots pc' L (.int (x / y) :: rest)) : OWp p l e R s m args below meth c own Z EL ws P Q M N cells slots pc L (.int y :: .int x :: rest) := by
  subst hp; exact OWp.pure (fun T t h k => XS.idiv h hk.1 rfl (hb hk.2.1 hd) rfl hy k) kk
theorem OWp.ladd {x : Int64} {y : Int64} (hk : OOk p bytes maxL ret nm meth c Z a0 EL) (hd : decode bytes pc = .ok (.ladd, 1)) (hp : pc' = pc + 1) 
    (kk : OWp p l e R s m args below meth c own Z EL ws P Q M N cells slots pc' L (.long (x + y) :: rest)) : OWp p l e R s m args below meth c own Z EL ws P Q M N cells slots pc L (.long y :: .long x :: rest) := by
  subst hp; exact OWp.pure (fun T t h k => XS.ladd h hk.1 rfl (hb hk.2.1 hd) rfl k) kk
theorem OWp.lsub {x : Int64} {y : Int64} (hk : OOk p bytes maxL ret nm meth c Z a0 EL) (hd : decode bytes pc = .ok (.lsub, 1)) (hp : pc' = pc + 1) 
    (kk : OWp p l e R s m args below meth c own Z EL ws P Q M N cells slots pc' L (.long (x - y) :: rest)) : OWp p l e R s m args below meth c own Z EL ws P Q M N cells slots pc L (.long y :: .long x :: rest) := by
  subst hp; exact OWp.pure (fun T t h k => XS.lsub h hk.1 rfl (hb hk.2.1 hd) rfl k) kk
theorem OWp.lmul {x : Int64} {y : Int64} (hk : OOk p bytes maxL ret nm meth c Z a0 EL) (hd : decode bytes pc = .ok (.lmul, 1)) (hp : pc' = pc + 1) 
    (kk : OWp p l e R s m args below meth c own Z EL ws P Q M N cells slots pc' L (.long (x * y) :: rest)) : OWp p l e R s m args below meth c own Z EL ws P Q M N cells slots pc L (.long y :: .long x :: rest) := by
  subst hp; exact OWp.pure (fun T t h k => XS.lmul h hk.1 rfl (hb hk.2.1 hd) rfl k) kk
theorem OWp.land {x : Int64} {y : Int64} (hk : OOk p bytes maxL ret nm meth c Z a0 EL) (hd : decode bytes pc = .ok (.land, 1)) (hp : pc' = pc + 1) 
    (kk : OWp p l e R s m args below meth c own Z EL ws P Q M N cells slots pc' L (.long (x &&& y) :: rest)) : OWp p l e R s m args below meth c own Z EL ws P Q M N cells slots pc L (.long y :: .long x :: rest) := by
  subst hp; exact OWp.pure (fun T t h k => XS.land h hk.1 rfl (hb hk.2.1 hd) rfl k) kk
theorem OWp.lor {x : Int64} {y : Int64} (hk : OOk p bytes maxL ret nm meth c Z a0 EL) (hd : decode bytes pc = .ok (.lor, 1)) (hp : pc' = pc + 1) 
    (kk : OWp p l e R s m args below meth c own Z EL ws P Q M N cells slots pc' L (.long (x ||| y) :: rest)) : OWp p l e R s m args below meth c own Z EL ws P Q M N cells slots pc L (.long y :: .long x :: rest) := by
  subst hp; exact OWp.pure (fun T t h k => XS.lor h hk.1 rfl (hb hk.2.1 hd) rfl k) kk
theorem OWp.lshl {x : Int64} {y : Int32} (hk : OOk p bytes maxL ret nm meth c Z a0 EL) (hd : decode bytes pc = .ok (.lshl, 1)) (hp : pc' = pc + 1) 
    (kk : OWp p l e R s m args below meth c own Z EL ws P Q M N cells slots pc' L (.long (x <<< (y &&& 63).toInt64) :: rest)) : OWp p l e R s m args below meth c own Z EL ws P Q M N cells slots pc L (.int y :: .long x :: rest) := by
  subst hp; exact OWp.pure (fun T t h k => XS.lshl h hk.1 rfl (hb hk.2.1 hd) rfl k) kk
theorem OWp.lushr {x : Int64} {y : Int32} (hk : OOk p bytes maxL ret nm meth c Z a0 EL) (hd : decode bytes pc = .ok (.lushr, 1)) (hp : pc' = pc + 1) 
    (kk : OWp p l e R s m args below meth c own Z EL ws P Q M N cells slots pc' L (.long (x.toUInt64 >>> (y &&& 63).toInt64.toUInt64).toInt64 :: rest)) : OWp p l e R s m args below meth c own Z EL ws P Q M N cells slots pc L (.int y :: .long x :: rest) := by
  subst hp; exact OWp.pure (fun T t h k => XS.lushr h hk.1 rfl (hb hk.2.1 hd) rfl k) kk
theorem OWp.lshr {x : Int64} {y : Int32} (hk : OOk p bytes maxL ret nm meth c Z a0 EL) (hd : decode bytes pc = .ok (.lshr, 1)) (hp : pc' = pc + 1) 
    (kk : OWp p l e R s m args below meth c own Z EL ws P Q M N cells slots pc' L (.long (x >>> (y &&& 63).toInt64) :: rest)) : OWp p l e R s m args below meth c own Z EL ws P Q M N cells slots pc L (.int y :: .long x :: rest) := by
  subst hp; exact OWp.pure (fun T t h k => XS.lshr h hk.1 rfl (hb hk.2.1 hd) rfl k) kk
theorem OWp.i2b {x : Int32} (hk : OOk p bytes maxL ret nm meth c Z a0 EL) (hd : decode bytes pc = .ok (.i2b, 1)) (hp : pc' = pc + 1)
    (kk : OWp p l e R s m args below meth c own Z EL ws P Q M N cells slots pc' L (.int x.toInt8.toInt32 :: rest)) : OWp p l e R s m args below meth c own Z EL ws P Q M N cells slots pc L (.int x :: rest) := by
  subst hp; exact OWp.pure (fun T t h k => XS.i2b h hk.1 rfl (hb hk.2.1 hd) rfl k) kk
theorem OWp.i2c {x : Int32} (hk : OOk p bytes maxL ret nm meth c Z a0 EL) (hd : decode bytes pc = .ok (.i2c, 1)) (hp : pc' = pc + 1)
    (kk : OWp p l e R s m args below meth c own Z EL ws P Q M N cells slots pc' L (.int x.toUInt32.toUInt16.toUInt32.toInt32 :: rest)) : OWp p l e R s m args below meth c own Z EL ws P Q M N cells slots pc L (.int x :: rest) := by
  subst hp; exact OWp.pure (fun T t h k => XS.i2c h hk.1 rfl (hb hk.2.1 hd) rfl k) kk
theorem OWp.i2s {x : Int32} (hk : OOk p bytes maxL ret nm meth c Z a0 EL) (hd : decode bytes pc = .ok (.i2s, 1)) (hp : pc' = pc + 1)
    (kk : OWp p l e R s m args below meth c own Z EL ws P Q M N cells slots pc' L (.int x.toInt16.toInt32 :: rest)) : OWp p l e R s m args below meth c own Z EL ws P Q M N cells slots pc L (.int x :: rest) := by
  subst hp; exact OWp.pure (fun T t h k => XS.i2s h hk.1 rfl (hb hk.2.1 hd) rfl k) kk
theorem OWp.i2l {x : Int32} (hk : OOk p bytes maxL ret nm meth c Z a0 EL) (hd : decode bytes pc = .ok (.i2l, 1)) (hp : pc' = pc + 1)
    (kk : OWp p l e R s m args below meth c own Z EL ws P Q M N cells slots pc' L (.long x.toInt64 :: rest)) : OWp p l e R s m args below meth c own Z EL ws P Q M N cells slots pc L (.int x :: rest) := by
  subst hp; exact OWp.pure (fun T t h k => XS.i2l h hk.1 rfl (hb hk.2.1 hd) rfl k) kk
theorem OWp.l2i {x : Int64} (hk : OOk p bytes maxL ret nm meth c Z a0 EL) (hd : decode bytes pc = .ok (.l2i, 1)) (hp : pc' = pc + 1)
    (kk : OWp p l e R s m args below meth c own Z EL ws P Q M N cells slots pc' L (.int x.toInt32 :: rest)) : OWp p l e R s m args below meth c own Z EL ws P Q M N cells slots pc L (.long x :: rest) := by
  subst hp; exact OWp.pure (fun T t h k => XS.l2i h hk.1 rfl (hb hk.2.1 hd) rfl k) kk
theorem OWp.ineg {x : Int32} (hk : OOk p bytes maxL ret nm meth c Z a0 EL) (hd : decode bytes pc = .ok (.ineg, 1)) (hp : pc' = pc + 1)
    (kk : OWp p l e R s m args below meth c own Z EL ws P Q M N cells slots pc' L (.int (-x) :: rest)) : OWp p l e R s m args below meth c own Z EL ws P Q M N cells slots pc L (.int x :: rest) := by
  subst hp; exact OWp.pure (fun T t h k => XS.ineg h hk.1 rfl (hb hk.2.1 hd) rfl k) kk
theorem OWp.istore {k : Nat} {x : Int32} (hk : OOk p bytes maxL ret nm meth c Z a0 EL) (hd : decode bytes pc = .ok (.istore k, 2)) (hp : pc' = pc + 2) (ho : (L[k]?).any o1 = true) (hl : L.set k (.val (.int x)) = L')
    (kk : OWp p l e R s m args below meth c own Z EL ws P Q M N cells slots pc' L' rest) : OWp p l e R s m args below meth c own Z EL ws P Q M N cells slots pc L (.int x :: rest) := by
  subst hp hl; exact OWp.pure (fun T t h k => XS.istore h hk.1 rfl (hb hk.2.1 hd) rfl (store_l ho rfl) k) kk
theorem OWp.istore_n {k : Fin 4} {kn : Nat} {x : Int32} (hk : OOk p bytes maxL ret nm meth c Z a0 EL) (hd : decode bytes pc = .ok (.istore_n k, 1)) (hp : pc' = pc + 1) (hkn : k.val = kn) (ho : (L[kn]?).any o1 = true) (hl : L.set kn (.val (.int x)) = L')
    (kk : OWp p l e R s m args below meth c own Z EL ws P Q M N cells slots pc' L' rest) : OWp p l e R s m args below meth c own Z EL ws P Q M N cells slots pc L (.int x :: rest) := by
  subst hp hl hkn; exact OWp.pure (fun T t h k => XS.istoreN h hk.1 rfl (hb hk.2.1 hd) rfl (store_l ho rfl) k) kk
theorem OWp.astore {k : Nat} {x : Value} (hk : OOk p bytes maxL ret nm meth c Z a0 EL) (hd : decode bytes pc = .ok (.astore k, 2)) (hp : pc' = pc + 2) (hv : x.isRef = true) (ho : (L[k]?).any o1 = true) (hl : L.set k (.val x) = L')
    (kk : OWp p l e R s m args below meth c own Z EL ws P Q M N cells slots pc' L' rest) : OWp p l e R s m args below meth c own Z EL ws P Q M N cells slots pc L (x :: rest) := by
  subst hp hl; exact OWp.pure (fun T t h k => XS.astore h hk.1 rfl (hb hk.2.1 hd) rfl hv (store_l ho (XT.cat1 hv)) k) kk
theorem OWp.astore_n {k : Fin 4} {kn : Nat} {x : Value} (hk : OOk p bytes maxL ret nm meth c Z a0 EL) (hd : decode bytes pc = .ok (.astore_n k, 1)) (hp : pc' = pc + 1) (hkn : k.val = kn) (hv : x.isRef = true) (ho : (L[kn]?).any o1 = true) (hl : L.set kn (.val x) = L')
    (kk : OWp p l e R s m args below meth c own Z EL ws P Q M N cells slots pc' L' rest) : OWp p l e R s m args below meth c own Z EL ws P Q M N cells slots pc L (x :: rest) := by
  subst hp hl hkn; exact OWp.pure (fun T t h k => XS.astoreN h hk.1 rfl (hb hk.2.1 hd) rfl hv (store_l ho (XT.cat1 hv)) k) kk
theorem OWp.lstore {k : Nat} {x : Int64} (hk : OOk p bytes maxL ret nm meth c Z a0 EL) (hd : decode bytes pc = .ok (.lstore k, 2)) (hp : pc' = pc + 2) (hl : storeLocals L.toArray k (.long x) = some L'.toArray)
    (kk : OWp p l e R s m args below meth c own Z EL ws P Q M N cells slots pc' L' rest) : OWp p l e R s m args below meth c own Z EL ws P Q M N cells slots pc L (.long x :: rest) := by
  subst hp; exact OWp.pure (fun T t h k => XS.lstore h hk.1 rfl (hb hk.2.1 hd) rfl hl k) kk
theorem OWp.lstore_n {k : Fin 4} {kn : Nat} {x : Int64} (hk : OOk p bytes maxL ret nm meth c Z a0 EL) (hd : decode bytes pc = .ok (.lstore_n k, 1)) (hp : pc' = pc + 1) (hkn : k.val = kn) (hl : storeLocals L.toArray kn (.long x) = some L'.toArray)
    (kk : OWp p l e R s m args below meth c own Z EL ws P Q M N cells slots pc' L' rest) : OWp p l e R s m args below meth c own Z EL ws P Q M N cells slots pc L (.long x :: rest) := by
  subst hp hkn; exact OWp.pure (fun T t h k => XS.lstoreN h hk.1 rfl (hb hk.2.1 hd) rfl hl k) kk
theorem OWp.iinc {k : Nat} {cst : Int} {x z : Int32} (hk : OOk p bytes maxL ret nm meth c Z a0 EL) (hd : decode bytes pc = .ok (.iinc k cst, 3)) (hp : pc' = pc + 3) (hx : L[k]? = some (.val (.int x))) (hz : Int32.ofInt cst = z) (hl : L.set k (.val (.int (x + z))) = L')
    (kk : OWp p l e R s m args below meth c own Z EL ws P Q M N cells slots pc' L' S) : OWp p l e R s m args below meth c own Z EL ws P Q M N cells slots pc L S := by
  subst hp hl hz; exact OWp.pure (fun T t h k => XS.iinc h hk.1 rfl (hb hk.2.1 hd) (by simpa using hx) (store_l (by rw [hx]; rfl) rfl) k) kk
theorem OWp.dup {x : Value} (hk : OOk p bytes maxL ret nm meth c Z a0 EL) (hd : decode bytes pc = .ok (.dup, 1)) (hp : pc' = pc + 1) (hc : x.category = 1)
    (kk : OWp p l e R s m args below meth c own Z EL ws P Q M N cells slots pc' L (x :: x :: rest)) : OWp p l e R s m args below meth c own Z EL ws P Q M N cells slots pc L (x :: rest) := by
  subst hp; exact OWp.pure (fun T t h k => XS.dup h hk.1 rfl (hb hk.2.1 hd) rfl hc k) kk
theorem OWp.dup_x1 {x y : Value} (hk : OOk p bytes maxL ret nm meth c Z a0 EL) (hd : decode bytes pc = .ok (.dup_x1, 1)) (hp : pc' = pc + 1) (hc : x.category = 1) (hc' : y.category = 1)
    (kk : OWp p l e R s m args below meth c own Z EL ws P Q M N cells slots pc' L (x :: y :: x :: rest)) : OWp p l e R s m args below meth c own Z EL ws P Q M N cells slots pc L (x :: y :: rest) := by
  subst hp; exact OWp.pure (fun T t h k => XS.dupX1 h hk.1 rfl (hb hk.2.1 hd) rfl hc hc' k) kk
theorem OWp.dup2 {x y : Value} (hk : OOk p bytes maxL ret nm meth c Z a0 EL) (hd : decode bytes pc = .ok (.dup2, 1)) (hp : pc' = pc + 1) (hc : x.category = 1) (hc' : y.category = 1)
    (kk : OWp p l e R s m args below meth c own Z EL ws P Q M N cells slots pc' L (x :: y :: x :: y :: rest)) : OWp p l e R s m args below meth c own Z EL ws P Q M N cells slots pc L (x :: y :: rest) := by
  subst hp; exact OWp.pure (fun T t h k => XT.dup2 h hk.1 rfl (hb hk.2.1 hd) rfl hc hc' k) kk
theorem OWp.pop {x : Value} (hk : OOk p bytes maxL ret nm meth c Z a0 EL) (hd : decode bytes pc = .ok (.pop, 1)) (hp : pc' = pc + 1) (hc : x.category = 1)
    (kk : OWp p l e R s m args below meth c own Z EL ws P Q M N cells slots pc' L rest) : OWp p l e R s m args below meth c own Z EL ws P Q M N cells slots pc L (x :: rest) := by
  subst hp; exact OWp.pure (fun T t h k => XS.pop h hk.1 rfl (hb hk.2.1 hd) rfl hc k) kk
theorem OWp.goto {o : Int} (hk : OOk p bytes maxL ret nm meth c Z a0 EL) (hd : decode bytes pc = .ok (.goto o, 3)) (ho : 0 ≤ (pc : Int) + o) (hp : ((pc : Int) + o).toNat = pc')
    (kk : OWp p l e R s m args below meth c own Z EL ws P Q M N cells slots pc' L S) : OWp p l e R s m args below meth c own Z EL ws P Q M N cells slots pc L S := by
  exact OWp.pure (fun T t h k => XS.goto h hk.1 rfl (pc0 := pc) rfl (hb hk.2.1 hd) ho hp k) kk
theorem OWp.ifYes {cd : ClassFile.Cond} {x : Int32} {o : Int} (hk : OOk p bytes maxL ret nm meth c Z a0 EL) (hd : decode bytes pc = .ok (.ifCond cd o, 3)) (hc : ifCond.holds cd x = true) (ho : 0 ≤ (pc : Int) + o) (hp : ((pc : Int) + o).toNat = pc')
    (kk : OWp p l e R s m args below meth c own Z EL ws P Q M N cells slots pc' L rest) : OWp p l e R s m args below meth c own Z EL ws P Q M N cells slots pc L (.int x :: rest) := by
  exact OWp.pure (fun T t h k => XS.ifYes h hk.1 rfl (pc0 := pc) rfl (hb hk.2.1 hd) rfl hc ho hp k) kk
theorem OWp.ifNo {cd : ClassFile.Cond} {x : Int32} {o : Int} (hk : OOk p bytes maxL ret nm meth c Z a0 EL) (hd : decode bytes pc = .ok (.ifCond cd o, 3)) (hc : ifCond.holds cd x = false) (hp : pc' = pc + 3)
    (kk : OWp p l e R s m args below meth c own Z EL ws P Q M N cells slots pc' L rest) : OWp p l e R s m args below meth c own Z EL ws P Q M N cells slots pc L (.int x :: rest) := by
  subst hp; exact OWp.pure (fun T t h k => XS.ifNo h hk.1 rfl (hb hk.2.1 hd) rfl hc k) kk
theorem OWp.icmpYes {cd : ClassFile.Cond} {x y : Int32} {o : Int} (hk : OOk p bytes maxL ret nm meth c Z a0 EL) (hd : decode bytes pc = .ok (.if_icmp cd o, 3)) (hc : if_icmp.holds cd x y = true) (ho : 0 ≤ (pc : Int) + o) (hp : ((pc : Int) + o).toNat = pc')
    (kk : OWp p l e R s m args below meth c own Z EL ws P Q M N cells slots pc' L rest) : OWp p l e R s m args below meth c own Z EL ws P Q M N cells slots pc L (.int y :: .int x :: rest) := by
  exact OWp.pure (fun T t h k => XS.icmpYes h hk.1 rfl (pc0 := pc) rfl (hb hk.2.1 hd) rfl hc ho hp k) kk
theorem OWp.icmpNo {cd : ClassFile.Cond} {x y : Int32} {o : Int} (hk : OOk p bytes maxL ret nm meth c Z a0 EL) (hd : decode bytes pc = .ok (.if_icmp cd o, 3)) (hc : if_icmp.holds cd x y = false) (hp : pc' = pc + 3)
    (kk : OWp p l e R s m args below meth c own Z EL ws P Q M N cells slots pc' L rest) : OWp p l e R s m args below meth c own Z EL ws P Q M N cells slots pc L (.int y :: .int x :: rest) := by
  subst hp; exact OWp.pure (fun T t h k => XS.icmpNo h hk.1 rfl (hb hk.2.1 hd) rfl hc k) kk
theorem OWp.nullYes {o : Int} (hk : OOk p bytes maxL ret nm meth c Z a0 EL) (hd : decode bytes pc = .ok (.ifnull o, 3)) (ho : 0 ≤ (pc : Int) + o) (hp : ((pc : Int) + o).toNat = pc')
    (kk : OWp p l e R s m args below meth c own Z EL ws P Q M N cells slots pc' L rest) : OWp p l e R s m args below meth c own Z EL ws P Q M N cells slots pc L (.null :: rest) := by
  exact OWp.pure (fun T t h k => XS.ifnullYes h hk.1 rfl (pc0 := pc) rfl (hb hk.2.1 hd) rfl ho hp k) kk
theorem OWp.nullNo {o : Int} {b : Addr} (hk : OOk p bytes maxL ret nm meth c Z a0 EL) (hd : decode bytes pc = .ok (.ifnull o, 3)) (hp : pc' = pc + 3)
    (kk : OWp p l e R s m args below meth c own Z EL ws P Q M N cells slots pc' L rest) : OWp p l e R s m args below meth c own Z EL ws P Q M N cells slots pc L (.ref b :: rest) := by
  subst hp; exact OWp.pure (fun T t h k => XS.ifnullNo h hk.1 rfl (hb hk.2.1 hd) rfl k) kk
theorem OWp.nonnullYes {o : Int} {b : Addr} (hk : OOk p bytes maxL ret nm meth c Z a0 EL) (hd : decode bytes pc = .ok (.ifnonnull o, 3)) (ho : 0 ≤ (pc : Int) + o) (hp : ((pc : Int) + o).toNat = pc')
    (kk : OWp p l e R s m args below meth c own Z EL ws P Q M N cells slots pc' L rest) : OWp p l e R s m args below meth c own Z EL ws P Q M N cells slots pc L (.ref b :: rest) := by
  exact OWp.pure (fun T t h k => XS.ifnonnullYes h hk.1 rfl (pc0 := pc) rfl (hb hk.2.1 hd) rfl ho hp k) kk
theorem OWp.nonnullNo {o : Int} (hk : OOk p bytes maxL ret nm meth c Z a0 EL) (hd : decode bytes pc = .ok (.ifnonnull o, 3)) (hp : pc' = pc + 3)
    (kk : OWp p l e R s m args below meth c own Z EL ws P Q M N cells slots pc' L rest) : OWp p l e R s m args below meth c own Z EL ws P Q M N cells slots pc L (.null :: rest) := by
  subst hp; exact OWp.pure (fun T t h k => XS.ifnonnullNo h hk.1 rfl (hb hk.2.1 hd) rfl k) kk
theorem OWp.acmpYes {cd : ClassFile.ACond} {x y : Value} {o : Int} (hk : OOk p bytes maxL ret nm meth c Z a0 EL) (hd : decode bytes pc = .ok (.if_acmp cd o, 3)) (h1 : x.isRef = true) (h2 : y.isRef = true) (hc : XT.acmp cd x y = true) (ho : 0 ≤ (pc : Int) + o) (hp : ((pc : Int) + o).toNat = pc')
    (kk : OWp p l e R s m args below meth c own Z EL ws P Q M N cells slots pc' L rest) : OWp p l e R s m args below meth c own Z EL ws P Q M N cells slots pc L (y :: x :: rest) := by
  exact OWp.pure (fun T t h k => XT.acmpYes h hk.1 rfl (pc0 := pc) rfl (hb hk.2.1 hd) rfl h1 h2 hc ho hp k) kk
theorem OWp.acmpNo {cd : ClassFile.ACond} {x y : Value} {o : Int} (hk : OOk p bytes maxL ret nm meth c Z a0 EL) (hd : decode bytes pc = .ok (.if_acmp cd o, 3)) (h1 : x.isRef = true) (h2 : y.isRef = true) (hc : XT.acmp cd x y = false) (hp : pc' = pc + 3)
    (kk : OWp p l e R s m args below meth c own Z EL ws P Q M N cells slots pc' L rest) : OWp p l e R s m args below meth c own Z EL ws P Q M N cells slots pc L (y :: x :: rest) := by
  subst hp; exact OWp.pure (fun T t h k => XT.acmpNo h hk.1 rfl (hb hk.2.1 hd) rfl h1 h2 hc k) kk
theorem OWp.lcmp {x y : Int64} (hk : OOk p bytes maxL ret nm meth c Z a0 EL) (hd : decode bytes pc = .ok (.lcmp, 1)) (hp : pc' = pc + 1)
    (kk : OWp p l e R s m args below meth c own Z EL ws P Q M N cells slots pc' L (.int (XT.cmpL x y) :: rest)) : OWp p l e R s m args below meth c own Z EL ws P Q M N cells slots pc L (.long y :: .long x :: rest) := by
  subst hp; exact OWp.pure (fun T t h k => XS.lcmp h hk.1 rfl (hb hk.2.1 hd) rfl k) kk
end Pure
/-! 3. steps that read the heap or the tables, and leave both as they were -/
theorem OWp.pureX (H : ∀ (T target : State) (vm0 : Vm) (locs : List Loc), Stand p l e R (s.setVm vm0) m args below meth c T locs cells slots → Z.Warmed39 vm0 → vm0.findClass own = some m.cls → (∀ q ∈ M ++ (N ++ P), T.heap[q.1]? = some q.2) →
      Steps p.tables e below (T.setTop (mkF m pc' L'.toArray S')) target → Steps p.tables e below (T.setTop (mkF m pc L.toArray S)) target)
    (k : OWp p l e R s m args below meth c own Z EL ws P Q M N cells slots pc' L' S') : OWp p l e R s m args below meth c own Z EL ws P Q M N cells slots pc L S := fun T hT => by
  obtain ⟨U, st, r⟩ := k T hT
  obtain ⟨vm0, k0, locs, X, -, -, hZ, ho, -, I⟩ := hT
  exact ⟨U, H T U vm0 locs X hZ ho (fun q hq => I.at hq) st, r⟩
/-- .. the tables may be warmer behind it -/
theorem OWp.pureT (H : ∀ (T : State) (vm0 : Vm) (locs : List Loc), Stand p l e R (s.setVm vm0) m args below meth c T locs cells slots → Z.Warmed39 vm0 → vm0.findClass own = some m.cls → Ext Z.heap T.heap → (∀ q ∈ M ++ (N ++ P), T.heap[q.1]? = some q.2) →
      ∃ T', Stand p l e R (s.setVm vm0) m args below meth c T' locs cells slots ∧ T'.heap = T.heap ∧ ∀ target, Steps p.tables e below (T'.setTop (mkF m pc' L'.toArray S')) target → Steps p.tables e below (T.setTop (mkF m pc L.toArray S)) target)
    (k : OWp p l e R s m args below meth c own Z EL ws P Q M N cells slots pc' L' S') : OWp p l e R s m args below meth c own Z EL ws P Q M N cells slots pc L S := fun T hT => by
  obtain ⟨vm0, k0, locs, X, hS, hk0, hZ, ho, hL, I⟩ := hT
  obtain ⟨T', X', eh, st⟩ := H T vm0 locs X hZ ho I.2.1 (fun q hq => I.at hq)
  obtain ⟨U, st', r⟩ := k T' ⟨vm0, k0, locs, X', hS, by rw [eh]; exact hk0, hZ, ho, hL, by rw [eh]; exact I⟩
  exact ⟨U, st _ st', r⟩
theorem OWp.irem {x y : Int32} (hk : OOk p bytes maxL ret nm meth c Z a0 EL) (hd : decode bytes pc = .ok (.irem, 1)) (hp : pc' = pc + 1) (hy : y ≠ 0)
    (kk : OWp p l e R s m args below meth c own Z EL ws P Q M N cells slots pc' L (.int (x % y) :: rest)) : OWp p l e R s m args below meth c own Z EL ws P Q M N cells slots pc L (.int y :: .int x :: rest) := by
  subst hp; exact OWp.pureX (fun T t vm0 locs X _ _ _ k => iremM X hk.1 rfl (hb hk.2.1 hd) rfl hy k) kk
theorem OWp.ldcI {index : Nat} {v : Int32} (hk : OOk p bytes maxL ret nm meth c Z a0 EL) (hd : decode bytes pc = .ok (.ldc index, 2)) (hp : pc' = pc + 2) (w : (Jvm.Cond.constant own index v).before a0 Z = true)
    (kk : OWp p l e R s m args below meth c own Z EL ws P Q M N cells slots pc' L (.int v :: S)) : OWp p l e R s m args below meth c own Z EL ws P Q M N cells slots pc L S := by
  subst hp; exact OWp.pureX (fun T t vm0 locs X hZ ho _ k => X.ldcI hk.1 (own := own) ho (mvT (s := s.setVm vm0) hZ w) (g := mkF m pc L.toArray S) rfl (hb hk.2.1 hd) k) kk
theorem OWp.ldc2J {index : Nat} {v : Int64} (hk : OOk p bytes maxL ret nm meth c Z a0 EL) (hd : decode bytes pc = .ok (.ldc2_w index, 3)) (hp : pc' = pc + 3) (w : (Jvm.Cond.constantLong own index v).before a0 Z = true)
    (kk : OWp p l e R s m args below meth c own Z EL ws P Q M N cells slots pc' L (.long v :: S)) : OWp p l e R s m args below meth c own Z EL ws P Q M N cells slots pc L S := by
  subst hp; exact OWp.pureX (fun T t vm0 locs X hZ ho _ k => X.ldc2J hk.1 (own := own) ho (mvT (s := s.setVm vm0) hZ w) (g := mkF m pc L.toArray S) rfl (hb hk.2.1 hd) k) kk
/-- a field of a cell, read through the tables of the start -/
def FC (Z : State) (cl : Cell) (C n d : String) (v : Value) : Prop := ∃ (cf : ClassId) (k : Class) (i : Nat) (f : Field), Z.fieldFound? C n d = some (cf, k, i, f) ∧ f.isStatic = false ∧ cl.vm ≠ .unknown ∧ cl.vm.isStatics = false ∧ Z.vm.assignable cl.cls cf = true ∧ cl.slots[f.slot]? = some v
/-- a cell that is exactly of class C -/
def EC (Z : State) (cl : Cell) (C : String) : Prop := ∃ k : Class, Z.vm.findClass C = some cl.cls ∧ Z.vm.classes[cl.cls]? = some k ∧ cl.vm.isStatics = false ∧ (k.kind = .ordinary → cl.slots.size = k.instanceTypes.size)
/-- an array's cell: its kind and its whole list -/
def AC (Z : State) (cl : Cell) (ty : FieldType) (vs : List Value) : Prop := Z.isArrayOf cl ty ∧ cl.vm ≠ .unknown ∧ cl.slots.toList = vs ∧ vs.length < 2147483648 ∧ ∀ v ∈ vs, fits ty v = true
section Cells
variable {h h' : Heap} {a : Addr} {cl : Cell} {C C' n d O : String} {v w : Value} {ty : FieldType} {vs : List Value}
theorem FC.fld (F : FC Z cl C n d v) (hh : h[a]? = some cl) : Fld Z h a C n d v := by obtain ⟨cf, k, i, f, r⟩ := F; exact ⟨cl, cf, k, i, f, hh, r⟩
theorem FC.of (F : Fld Z h a C n d v) (hh : h[a]? = some cl) : FC Z cl C n d v := by
  obtain ⟨cl', cf, k, i, f, q, r⟩ := F; cases hh.symm.trans q; exact ⟨cf, k, i, f, r⟩
theorem FC.inj {Z : State} (F : FC Z cl C n d v) (G : FC Z cl C n d w) : v = w := by
  obtain ⟨cf, k, i, f, q1, q⟩ := F
  obtain ⟨cf', k', i', f', r1, r⟩ := G
  cases q1.symm.trans r1
  have q2 := q.2.2
  have r2 := r.2.2
  simp_all
theorem EC.exa (F : EC Z cl C) (hh : h[a]? = some cl) : Exa Z h a C := by obtain ⟨k, r1, r2⟩ := F; exact ⟨cl, k, hh, r1, r2⟩
theorem EC.of (F : Exa Z h a C) (hh : h[a]? = some cl) : EC Z cl C := by
  obtain ⟨cl', k, q, r⟩ := F; cases hh.symm.trans q; exact ⟨k, r⟩
theorem AC.arr (F : AC Z cl ty vs) (hh : h[a]? = some cl) : RoadKit.Arr Z h a cl ty := ⟨hh, F.1, F.2.1⟩
theorem AC.size (F : AC Z cl ty vs) : cl.slots.size = vs.length := by rw [← F.2.2.1]; simp
theorem AC.get (F : AC Z cl ty vs) (i : Nat) : cl.slots[i]? = vs[i]? := by rw [← F.2.2.1]; simp
theorem toNat_lt {j : Int32} {n : Nat} (h0 : ¬ j < 0) (hj : j.toNatClampNeg = n) : j.toInt = n := by rw [nat_of h0, hj]
theorem AC.inb (F : AC Z cl ty vs) {j : Int32} (h0 : ¬ j < 0) (hi : j.toNatClampNeg < vs.length) : ¬ (j < 0 ∨ cl.slots.size ≤ j.toNatClampNeg) := by
  rw [F.size]; intro q; rcases q with q | q
  · exact h0 q
  · omega
theorem AC.set (F : AC Z cl ty vs) {i : Nat} (hv : fits ty v = true) (hi : i < vs.length) : AC Z (cl.setSlot i v) ty (vs.set i v) := by
  obtain ⟨h1, h2, h3, h4, h5⟩ := F
  refine ⟨h1, h2, ?_, by simpa using h4, fun u hu => ?_⟩
  · subst h3; simp [Cell.setSlot]
  · rcases List.mem_or_eq_of_mem_set hu with hu | rfl
    · exact h5 u hu
    · exact hv
theorem AC.congr {n : Nat} {f g : Nat → Value} (F : AC Z cl ty (tab n f)) (h : ∀ j, j < n → f j = g j) : AC Z cl ty (tab n g) := by rw [← tab_congr h]; exact F
theorem AC.new {cA : ClassId} {z : Int32} (A : RoadKit.Arr Z h a (newA cA ty z) ty) (hz : ¬ z < 0) (hd : fits ty (defaultValue ty) = true) : AC Z (newA cA ty z) ty (List.replicate z.toNatClampNeg (defaultValue ty)) :=
  ⟨A.2.1, A.2.2, by simp [newA], by simp only [List.length_replicate]; exact (back32 hz).2, fun u hu => by rw [List.eq_of_mem_replicate hu]; exact hd⟩
/-- as the library's laws ask an array -/
theorem AC.arv (F : AC Z cl ty vs) (hh : h[a]? = some cl) {d : Value} : Arv Z h a cl.cls ty (Int32.ofNat vs.length) vs d := by
  have hl := F.2.2.2.1
  have hn : (Int32.ofNat vs.length).toNatClampNeg = vs.length := by
    rw [Int32.toNatClampNeg, Int32.toInt_ofNat_small (by simpa using hl)]; simp
  have h0 : ¬ Int32.ofNat vs.length < 0 := Int32.ofNat_not_neg (by simpa using hl)
  refine ⟨cl, F.arr hh, rfl, by rw [hn, F.size], h0, fun k hk => ?_, fun k hk => ?_⟩
  · rw [F.size] at hk
    rw [F.get k, List.getD_eq_getElem?_getD, List.getElem?_eq_getElem hk]; rfl
  · rw [F.size] at hk
    rw [List.getD_eq_getElem?_getD, List.getElem?_eq_getElem hk]
    exact F.2.2.2.2 _ (List.getElem_mem hk)
theorem FC.set (F : FC Z cl C n d w) : FC Z (cl.setSlot (RoadKit.slotOf Z C n d) v) C n d v := by
  obtain ⟨cf, k, i, f, h1, h2, h3, h4, h5, h6⟩ := F
  have e : RoadKit.slotOf Z C n d = f.slot := by simp [RoadKit.slotOf, h1]
  refine ⟨cf, k, i, f, h1, h2, h3, h4, h5, ?_⟩
  rw [e]; have := (Array.getElem?_eq_some_iff.mp h6).1; simp [Cell.setSlot, this]
theorem FC.other {sl : Nat} (F : FC Z cl C n d w) (hne : RoadKit.slotOf Z C n d ≠ sl) : FC Z (cl.setSlot sl v) C n d w := by
  obtain ⟨cf, k, i, f, h1, h2, h3, h4, h5, h6⟩ := F
  have e : RoadKit.slotOf Z C n d = f.slot := by simp [RoadKit.slotOf, h1]
  refine ⟨cf, k, i, f, h1, h2, h3, h4, h5, ?_⟩
  rw [e] at hne
  simp only [Cell.setSlot]; rw [Array.getElem?_setIfInBounds_ne (Ne.symm hne)]; exact h6
theorem EC.set {sl : Nat} (F : EC Z cl C) : EC Z (cl.setSlot sl v) C := by
  obtain ⟨k, h1, h2, h3, h4⟩ := F
  exact ⟨k, h1, h2, h3, fun q => by rw [sz_set]; exact h4 q⟩
end Cells
section Reads
variable {a : Addr} {cl : Cell} {ty : FieldType} {vs : List Value} {v : Value} {j : Int32} {index : Nat} {O n d R0 : String}
theorem OWp.getfield (hk : OOk p bytes maxL ret nm meth c Z a0 EL) (hd : decode bytes pc = .ok (.getfield index, 3)) (hp : pc' = pc + 3) (w : (Jvm.Cond.fieldLink own index O n d).before a0 Z = true) (hm : (a, cl) ∈ M ++ (N ++ P)) (F : FC Z cl O n d v)
    (kk : OWp p l e R s m args below meth c own Z EL ws P Q M N cells slots pc' L (v :: rest)) : OWp p l e R s m args below meth c own Z EL ws P Q M N cells slots pc L (.ref a :: rest) := by
  subst hp
  exact OWp.pureT (fun T vm0 locs X hZ ho _ hH => getF (s := s.setVm vm0) (own := own) X hk.1 hZ ho (host := "") (Or.inl w) Via.refl rfl (F.fld (hH _ hm)) (g := mkF m pc L.toArray (.ref a :: rest)) rfl rfl (hb hk.2.1 hd)) kk
theorem OWp.getfieldVia (hk : OOk p bytes maxL ret nm meth c Z a0 EL) (hd : decode bytes pc = .ok (.getfield index, 3)) (hp : pc' = pc + 3) (w : (Jvm.Cond.fieldLink own index R0 n d).before a0 Z = true) (w2 : (Jvm.Cond.sameField R0 O n d).before a0 Z = true) (hm : (a, cl) ∈ M ++ (N ++ P)) (F : FC Z cl O n d v)
    (kk : OWp p l e R s m args below meth c own Z EL ws P Q M N cells slots pc' L (v :: rest)) : OWp p l e R s m args below meth c own Z EL ws P Q M N cells slots pc L (.ref a :: rest) := by
  subst hp
  exact OWp.pureT (fun T vm0 locs X hZ ho _ hH => getF (s := s.setVm vm0) (own := own) X hk.1 hZ ho (host := "") (Or.inl w) (Via.of w2) rfl (F.fld (hH _ hm)) (g := mkF m pc L.toArray (.ref a :: rest)) rfl rfl (hb hk.2.1 hd)) kk
theorem OWp.getstatic (hk : OOk p bytes maxL ret nm meth c Z a0 EL) (hd : decode bytes pc = .ok (.getstatic index, 3)) (hp : pc' = pc + 3) (w : (Jvm.Cond.fieldLink own index O n d).before a0 Z = true) (F : Sta Z Z.heap O n d v)
    (kk : OWp p l e R s m args below meth c own Z EL ws P Q M N cells slots pc' L (v :: S)) : OWp p l e R s m args below meth c own Z EL ws P Q M N cells slots pc L S := by
  subst hp
  exact OWp.pureT (fun T vm0 locs X hZ ho hE hH => getS (s := s.setVm vm0) (own := own) X hk.1 hZ ho (host := "") w Via.refl rfl (Sta.ext hE F) (g := mkF m pc L.toArray S) rfl (hb hk.2.1 hd)) kk
theorem OWp.instY {K : String} (hk : OOk p bytes maxL ret nm meth c Z a0 EL) (hd : decode bytes pc = .ok (.instanceof index, 3)) (hp : pc' = pc + 3) (w : (Jvm.Cond.classLink own index K).before a0 Z = true) (hm : (a, cl) ∈ M ++ (N ++ P)) (F : EC Z cl K)
    (kk : OWp p l e R s m args below meth c own Z EL ws P Q M N cells slots pc' L (.int 1 :: rest)) : OWp p l e R s m args below meth c own Z EL ws P Q M N cells slots pc L (.ref a :: rest) := by
  subst hp
  exact OWp.pureT (fun T vm0 locs X hZ ho hE hH => RoadKit.instY (s := s.setVm vm0) (own := own) X hk.1 hZ ho w rfl (Ins.self (F.exa (hH _ hm))) (g := mkF m pc L.toArray (.ref a :: rest)) rfl rfl (hb hk.2.1 hd)) kk
theorem OWp.castY {K : String} (hk : OOk p bytes maxL ret nm meth c Z a0 EL) (hd : decode bytes pc = .ok (.checkcast index, 3)) (hp : pc' = pc + 3) (w : (Jvm.Cond.classLink own index K).before a0 Z = true) (hm : (a, cl) ∈ M ++ (N ++ P)) (F : EC Z cl K)
    (kk : OWp p l e R s m args below meth c own Z EL ws P Q M N cells slots pc' L (.ref a :: rest)) : OWp p l e R s m args below meth c own Z EL ws P Q M N cells slots pc L (.ref a :: rest) := by
  subst hp
  exact OWp.pureT (fun T vm0 locs X hZ ho hE hH => RoadKit.castY (s := s.setVm vm0) (own := own) X hk.1 hZ ho w rfl (Ins.self (F.exa (hH _ hm))) (g := mkF m pc L.toArray (.ref a :: rest)) rfl rfl (hb hk.2.1 hd)) kk
theorem ofNat_size (n : Nat) : n.toInt32 = Int32.ofNat n := rfl
theorem OWp.arraylength (hk : OOk p bytes maxL ret nm meth c Z a0 EL) (hd : decode bytes pc = .ok (.arraylength, 1)) (hp : pc' = pc + 1) (hm : (a, cl) ∈ M ++ (N ++ P)) (F : AC Z cl ty vs) {z : Int32} (hz : Int32.ofNat vs.length = z)
    (kk : OWp p l e R s m args below meth c own Z EL ws P Q M N cells slots pc' L (.int z :: rest)) : OWp p l e R s m args below meth c own Z EL ws P Q M N cells slots pc L (.ref a :: rest) := by
  subst hp hz
  exact OWp.pureX (fun T t vm0 locs X hZ ho hH k => X.arraylength hk.1 (hH _ hm) (State.isArrayOf_alike hZ.alike F.1) (g := mkF m pc L.toArray (.ref a :: rest)) rfl rfl (hb hk.2.1 hd) t (by rw [F.size]; exact k)) kk
theorem OWp.caload (hk : OOk p bytes maxL ret nm meth c Z a0 EL) (hd : decode bytes pc = .ok (.caload, 1)) (hp : pc' = pc + 1) (hm : (a, cl) ∈ M ++ (N ++ P)) (F : AC Z cl .char vs) (h0 : ¬ j < 0) (hv : vs[j.toNatClampNeg]? = some v)
    (kk : OWp p l e R s m args below meth c own Z EL ws P Q M N cells slots pc' L (v :: rest)) : OWp p l e R s m args below meth c own Z EL ws P Q M N cells slots pc L (.int j :: .ref a :: rest) := by
  subst hp
  exact OWp.pureX (fun T t vm0 locs X hZ ho hH k => X.caload hk.1 (hH _ hm) (State.isArrayOf_alike hZ.alike F.1) F.2.1 (F.inb h0 (List.getElem?_eq_some_iff.mp hv).1) (by rw [F.get]; exact hv) (g := mkF m pc L.toArray (.int j :: .ref a :: rest)) rfl rfl (hb hk.2.1 hd) t k) kk
theorem OWp.baload (hk : OOk p bytes maxL ret nm meth c Z a0 EL) (hd : decode bytes pc = .ok (.baload, 1)) (hp : pc' = pc + 1) (hm : (a, cl) ∈ M ++ (N ++ P)) (F : AC Z cl .byte vs) (h0 : ¬ j < 0) (hv : vs[j.toNatClampNeg]? = some v)
    (kk : OWp p l e R s m args below meth c own Z EL ws P Q M N cells slots pc' L (v :: rest)) : OWp p l e R s m args below meth c own Z EL ws P Q M N cells slots pc L (.int j :: .ref a :: rest) := by
  subst hp
  exact OWp.pureX (fun T t vm0 locs X hZ ho hH k => X.baloadBytes hk.1 (hH _ hm) (State.isArrayOf_alike hZ.alike F.1) F.2.1 (F.inb h0 (List.getElem?_eq_some_iff.mp hv).1) (by rw [F.get]; exact hv) (g := mkF m pc L.toArray (.int j :: .ref a :: rest)) rfl rfl (hb hk.2.1 hd) t k) kk
theorem OWp.aaload {k : Int32} (hk : OOk p bytes maxL ret nm meth c Z a0 EL) (hd : decode bytes pc = .ok (.aaload, 1)) (hp : pc' = pc + 1) (hm : (a, cl) ∈ M ++ (N ++ P)) (F : AC Z cl ty vs) (hty : ty.isReference = true) (h0 : ¬ k < 0) (hv : vs[k.toNatClampNeg]? = some v)
    (kk : OWp p l e R s m args below meth c own Z EL ws P Q M N cells slots pc' L (v :: rest)) : OWp p l e R s m args below meth c own Z EL ws P Q M N cells slots pc L (.int k :: .ref a :: rest) := by
  subst hp
  exact OWp.pureX (fun T t vm0 locs X hZ ho hH kk' => X.aaload hk.1 (hH _ hm) (State.isArrayOf_alike hZ.alike F.1) hty F.2.1 (F.inb h0 (List.getElem?_eq_some_iff.mp hv).1) (by rw [F.get]; exact hv) (g := mkF m pc L.toArray (.int k :: .ref a :: rest)) rfl rfl (hb hk.2.1 hd) t kk') kk
theorem OWp.initO (hk : OOk p bytes maxL ret nm meth c Z a0 EL) (hd : decode bytes pc = .ok (.invokespecial index, 3)) (hp : pc' = pc + 3) (w1 : (Jvm.Cond.methodLink own index Lib.objectInit).before a0 Z = true) (w2 : (Jvm.Cond.instanceMethod Lib.objectInit).before a0 Z = true)
    (w3 : (Jvm.Cond.code Lib.objectInit ⟨#[0xb1]⟩ 1 none).before a0 Z = true) (hsz : L.length = maxL) (hf : 1 ≤ R.frames) {W : Nat} (hW : (rest.map fun v => v.category).sum = W) (hl : W + 12 ≤ R.locals)
    (kk : OWp p l e R s m args below meth c own Z EL ws P Q M N cells slots pc' L rest) : OWp p l e R s m args below meth c own Z EL ws P Q M N cells slots pc L (.ref a :: rest) := by
  subst hp
  exact OWp.pureT (fun T vm0 locs X hZ ho hE hH => RoadKit.initO (s := s.setVm vm0) (own := own) X hk.1 hZ ho w1 w2 w3 rfl (g := mkF m pc L.toArray (.ref a :: rest)) rfl (by rw [hk.2.2.1]; simpa using hsz) rfl (hb hk.2.1 hd) hf (W := W) (by show 2 * 0 + _ ≤ _; omega) hl) kk
end Reads
/-! 4. steps that make or write cells -/
section Writes
variable {a : Addr} {cl : Cell} {ty : FieldType} {vs : List Value} {v : Value} {j x : Int32} {index i : Nat} {O n d C : String}
theorem OWp.newarray {aty : ArrayType} {z : Int32} {cap : Nat} (hk : OOk p bytes maxL ret nm meth c Z a0 EL) (hd : decode bytes pc = .ok (.newarray aty, 2)) (hp : pc' = pc + 2) (w : (Jvm.Cond.arrayClass (newarray.typeOf aty)).before a0 Z = true)
    (hz : ¬ z < 0) (hcap : z.toNatClampNeg ≤ cap) (hb8 : cap * 8 ≤ 536870912) (hc : cells + 1 ≤ R.cells) (hs : slots + cap ≤ R.slots) (hvs : List.replicate z.toNatClampNeg (defaultValue (newarray.typeOf aty)) = vs)
    (kk : ∀ a cl, AC Z cl (newarray.typeOf aty) vs → OWp p l e R s m args below meth c own Z EL ws P Q ((a, cl) :: M) N (cells + 1) (slots + cap) pc' L (.ref a :: rest)) :
    OWp p l e R s m args below meth c own Z EL ws P Q M N cells slots pc L (.int z :: rest) := fun T hT => by
  subst hp hvs
  obtain ⟨vm0, k0, locs, X, hS, hk0, hZ, ho, hL, I⟩ := hT
  obtain ⟨T', h', cA, X', e', E, A, st⟩ := newP (s := s.setVm vm0) X hk.1 hZ w rfl (g := mkF m pc L.toArray (.int z :: rest)) rfl (hb hk.2.1 hd) rfl hz hcap hb8 hc hs
  subst e'
  obtain ⟨U, st', r⟩ := kk _ _ (AC.new A hz (by cases aty <;> decide)) T' ⟨vm0, k0, locs, X', hS, Nat.le_trans hk0 E.1, hZ, ho, hL, I.alloc E A.1⟩
  exact ⟨U, st _ st', r⟩
theorem OWp.new {nf : Nat} (hk : OOk p bytes maxL ret nm meth c Z a0 EL) (hd : decode bytes pc = .ok (.new index, 3)) (hp : pc' = pc + 3) (w : (Jvm.Cond.classLink own index C).before a0 Z = true) (wi : (Jvm.Cond.instantiable C nf).before a0 Z = true) (wz : (Jvm.Cond.initialized C).before a0 Z = true)
    (hc : cells + 1 ≤ R.cells) (hs : slots + nf ≤ R.slots)
    (kk : ∀ a cl, EC Z cl C → (∀ {O nm d : String} {ty : FieldType}, Laid Z a0 C O nm d → parseFieldDescriptor d = some ty → FC Z cl O nm d (defaultValue ty)) → OWp p l e R s m args below meth c own Z EL ws P Q ((a, cl) :: M) N (cells + 1) (slots + nf) pc' L (.ref a :: S)) :
    OWp p l e R s m args below meth c own Z EL ws P Q M N cells slots pc L S := fun T hT => by
  subst hp
  obtain ⟨vm0, k0, locs, X, hS, hk0, hZ, ho, hL, I⟩ := hT
  obtain ⟨T', h', X', e', E, A, D, ⟨cell, hcell, -, -⟩, st⟩ := newO (s := s.setVm vm0) (own := own) X hk.1 hZ ho w wi wz rfl (g := mkF m pc L.toArray S) rfl (hb hk.2.1 hd) hc hs
  subst e'
  obtain ⟨U, st', r⟩ := kk _ cell (EC.of A hcell) (fun La ht => FC.of (D La ht) hcell) T' ⟨vm0, k0, locs, X', hS, Nat.le_trans hk0 E.1, hZ, ho, hL, I.alloc E hcell⟩
  exact ⟨U, st _ st', r⟩
theorem OWp.wrote {sl : Nat} (hi : M[i]? = some (a, cl)) (H : ∀ (T : State) (vm0 : Vm) (locs : List Loc), Stand p l e R (s.setVm vm0) m args below meth c T locs cells slots → Z.Warmed39 vm0 → vm0.findClass own = some m.cls → T.heap[a]? = some cl →
      ∃ T', Stand p l e R (s.setVm vm0) m args below meth c T' (locs ++ [⟨a, sl⟩]) cells slots ∧ Wr T.heap T'.heap a sl v ∧ ∀ target, Steps p.tables e below (T'.setTop (mkF m pc' L'.toArray S')) target → Steps p.tables e below (T.setTop (mkF m pc L.toArray S)) target)
    (kk : OWp p l e R s m args below meth c own Z EL ws P Q (M.set i (a, cl.setSlot sl v)) N cells slots pc' L' S') : OWp p l e R s m args below meth c own Z EL ws P Q M N cells slots pc L S := fun T hT => by
  obtain ⟨vm0, k0, locs, X, hS, hk0, hZ, ho, hL, I⟩ := hT
  obtain ⟨b1, -, -, b4⟩ := I.2.2.1 _ (List.mem_of_getElem? hi)
  obtain ⟨T', X', W, st⟩ := H T vm0 locs X hZ ho b1
  obtain ⟨U, st', r⟩ := kk T' ⟨vm0, k0, _, X', hS, by rw [W.size]; exact hk0, hZ, ho, fun y hy => by
    rcases List.mem_append.mp hy with hy | hy
    · exact hL y hy
    · cases List.mem_singleton.mp hy; exact b4, I.write hi W⟩
  exact ⟨U, st _ st', r⟩
theorem OWp.castore (hk : OOk p bytes maxL ret nm meth c Z a0 EL) (hd : decode bytes pc = .ok (.castore, 1)) (hp : pc' = pc + 1) (hi : M[i]? = some (a, cl)) (F : AC Z cl .char vs) (h0 : ¬ j < 0) {t : Nat} (ht : j.toNatClampNeg = t) (hlt : t < vs.length)
    (kk : ∀ cl', AC Z cl' .char (vs.set t (.int (nar .char x))) → OWp p l e R s m args below meth c own Z EL ws P Q (M.set i (a, cl')) N cells slots pc' L rest) :
    OWp p l e R s m args below meth c own Z EL ws P Q M N cells slots pc L (.int x :: .int j :: .ref a :: rest) := by
  subst hp ht
  refine OWp.wrote hi (fun T vm0 locs X hZ ho hh => ?_) (kk _ (F.set (fits_nar_char x) hlt))
  obtain ⟨T', h', X', e', W, st⟩ := stC (s := s.setVm vm0) X hk.1 hZ rfl (F.arr hh) (F.inb h0 hlt) (g := mkF m pc L.toArray (.int x :: .int j :: .ref a :: rest)) rfl rfl (hb hk.2.1 hd)
  subst e'
  exact ⟨T', X', W, st⟩
theorem OWp.bastore (hk : OOk p bytes maxL ret nm meth c Z a0 EL) (hd : decode bytes pc = .ok (.bastore, 1)) (hp : pc' = pc + 1) (hi : M[i]? = some (a, cl)) (F : AC Z cl .byte vs) (h0 : ¬ j < 0) {t : Nat} (ht : j.toNatClampNeg = t) (hlt : t < vs.length)
    (kk : ∀ cl', AC Z cl' .byte (vs.set t (.int x.toInt8.toInt32)) → OWp p l e R s m args below meth c own Z EL ws P Q (M.set i (a, cl')) N cells slots pc' L rest) :
    OWp p l e R s m args below meth c own Z EL ws P Q M N cells slots pc L (.int x :: .int j :: .ref a :: rest) := by
  subst hp ht
  refine OWp.wrote hi (fun T vm0 locs X hZ ho hh => ?_) (kk _ (F.set (fits_nar_byte x) hlt))
  obtain ⟨T', h', X', e', W, st⟩ := stB (s := s.setVm vm0) X hk.1 hZ rfl (F.arr hh) (F.inb h0 hlt) (g := mkF m pc L.toArray (.int x :: .int j :: .ref a :: rest)) rfl rfl (hb hk.2.1 hd)
  subst e'
  exact ⟨T', X', W, st⟩
theorem OWp.putfield {old : Value} {nf : Nat} (hk : OOk p bytes maxL ret nm meth c Z a0 EL) (hd : decode bytes pc = .ok (.putfield index, 3)) (hp : pc' = pc + 3) (w : (Jvm.Cond.fieldLink own index O n d).before a0 Z = true) (hi : M[i]? = some (a, cl)) (F : FC Z cl O n d old) (E : EC Z cl C)
    (La : (Jvm.Cond.lays C O n d).before a0 Z = true ∨ ((Jvm.Cond.laysFinal C O n d).before a0 Z = true ∧ own = O ∧ nm = "<init>")) (wi : (Jvm.Cond.instantiable C nf).before a0 Z = true) (hty : parseFieldDescriptor d = some ty) (hn : narrow ty v = v) (hf : fits ty v = true)
    (kk : ∀ cl', EC Z cl' C → FC Z cl' O n d v → (∀ {O' n' d' : String} {w' : Value}, FC Z cl O' n' d' w' → RoadKit.slotOf Z O' n' d' ≠ RoadKit.slotOf Z O n d → FC Z cl' O' n' d' w') → OWp p l e R s m args below meth c own Z EL ws P Q (M.set i (a, cl')) N cells slots pc' L rest) :
    OWp p l e R s m args below meth c own Z EL ws P Q M N cells slots pc L (v :: .ref a :: rest) := by
  subst hp
  refine OWp.wrote hi (fun T vm0 locs X hZ ho hh => ?_) (kk _ E.set F.set (fun G q => G.other q))
  obtain ⟨T', h', X', e', W, st⟩ := putF (s := s.setVm vm0) (own := own) X hk.1 hZ ho (host := "") (Or.inl w) Via.refl rfl (F.fld hh) (E.exa hh) (La.imp id fun q => ⟨q.1, q.2.1, hk.2.2.2.2.2.1.trans q.2.2⟩) wi hty hn hf (g := mkF m pc L.toArray (v :: .ref a :: rest)) rfl rfl (hb hk.2.1 hd)
  subst e'
  exact ⟨T', X', W, st⟩
theorem OWp.freeze (kk : OWp p l e R s m args below meth c own Z EL ws P Q M ((a, cl) :: N) cells slots pc L S) : OWp p l e R s m args below meth c own Z EL ws P Q ((a, cl) :: M) N cells slots pc L S := fun T hT => by
  obtain ⟨vm0, k0, locs, X, hS, hk0, hZ, ho, hL, I⟩ := hT
  exact kk T ⟨vm0, k0, locs, X, hS, hk0, hZ, ho, hL, I.freeze⟩
theorem OWp.perm {M' : Mem} (hp : M'.Perm M) (kk : OWp p l e R s m args below meth c own Z EL ws P Q M' N cells slots pc L S) : OWp p l e R s m args below meth c own Z EL ws P Q M N cells slots pc L S := fun T hT => by
  obtain ⟨vm0, k0, locs, X, hS, hk0, hZ, ho, hL, I⟩ := hT
  exact kk T ⟨vm0, k0, locs, X, hS, hk0, hZ, ho, hL, I.perm hp⟩
/-- one address, one cell -/
theorem OWp.same {a : Addr} {c1 c2 : Cell} (h1 : (a, c1) ∈ M ++ (N ++ P)) (h2 : (a, c2) ∈ M ++ (N ++ P)) (kk : c1 = c2 → OWp p l e R s m args below meth c own Z EL ws P Q M N cells slots pc L S) : OWp p l e R s m args below meth c own Z EL ws P Q M N cells slots pc L S := fun T hT => by
  have hT' := hT
  obtain ⟨vm0, k0, locs, X, hS, hk0, hZ, ho, hL, I⟩ := hT
  exact kk (Option.some.inj ((I.at h1).symm.trans (I.at h2))) T hT'
/-- frozen cells forgotten -/
theorem OWp.less {N' : Mem} (hn : ∀ q ∈ N', q ∈ N) (kk : OWp p l e R s m args below meth c own Z EL ws P Q M N' cells slots pc L S) : OWp p l e R s m args below meth c own Z EL ws P Q M N cells slots pc L S := fun T hT => by
  obtain ⟨vm0, k0, locs, X, hS, hk0, hZ, ho, hL, C, EZ, hM, hn', hN, hP⟩ := hT
  exact kk T ⟨vm0, k0, locs, X, hS, hk0, hZ, ho, hL, C, EZ, hM, hn', fun q hq => hN q (hn q hq), hP⟩
/-- more room booked than used -/
theorem OWp.more {cells' slots' : Nat} (hc : cells ≤ cells') (hs : slots ≤ slots') (kk : OWp p l e R s m args below meth c own Z EL ws P Q M N cells' slots' pc L S) : OWp p l e R s m args below meth c own Z EL ws P Q M N cells slots pc L S := fun T hT => by
  obtain ⟨vm0, k0, locs, X, r⟩ := hT
  exact kk T ⟨vm0, k0, locs, X.more hc hs, r⟩
end Writes
/-! 5. String constants -/
section Lits
variable {a : Addr} {index n : Nat} {text : String} {vs : List Value}
theorem OWp.ldcO (hk : OOk p bytes maxL ret nm meth c Z a0 EL) (hd : decode bytes pc = .ok (.ldc index, 2)) (hp : pc' = pc + 2) (w : (Jvm.Cond.stringLink own index text).before a0 Z = true) (wS : ∀ a ∈ Bundle.stringAtoms, a.before a0 Z = true)
    (hn : 4 * text.toList.length ≤ n) (hbig : n ≤ 536870912) (hc : cells + 2 ≤ R.cells) (hs : slots + (n + 4) ≤ R.slots)
    (kk : ∀ a, OWp p l e R s m args below meth c own Z EL ws P Q M N (cells + 2) (slots + (n + 4)) pc' L (.ref a :: S)) : OWp p l e R s m args below meth c own Z EL ws P Q M N cells slots pc L S := fun T hT => by
  subst hp
  obtain ⟨vm0, k0, locs, X, hS, hk0, hZ, ho, hL, I⟩ := hT
  obtain ⟨a, T', h', k1, X', e', E, hS', hk1, hZ', ho', C, -, st⟩ := ldcOH X hk.1 hZ ho w wS rfl hS hk0 hk.2.2.2.2.2.2 I.1.1 (g := mkF m pc L.toArray S) rfl (hb hk.2.1 hd) hn hbig hc hs
  subst e'
  obtain ⟨U, st', r⟩ := kk a T' ⟨T'.vm, k1, locs, X', hS', hk1, hZ', ho', hL, I.later C E⟩
  exact ⟨U, st _ st', r⟩
theorem AC.of_arv {h : Heap} {b : Addr} {k : ClassId} {ty : FieldType} {z : Int32} {d : Value} (F : Arv Z h b k ty z vs d) (hl : z.toNatClampNeg = vs.length) : ∃ ct, h[b]? = some ct ∧ AC Z ct ty vs := by
  obtain ⟨ct, A, -, hsz, hz, H, G⟩ := F
  have hlen : ct.slots.size = vs.length := hsz.trans hl
  refine ⟨ct, A.1, A.2.1, A.2.2, ?_, ?_, fun v hv => ?_⟩
  · refine List.ext_getElem? fun i => ?_
    by_cases hi : i < vs.length
    · have q := H i (by omega)
      rw [Array.getElem?_toList, q, List.getD_eq_getElem?_getD, List.getElem?_eq_getElem hi]; rfl
    · rw [List.getElem?_eq_none (by simpa [hlen] using hi), List.getElem?_eq_none (by omega)]
  · rw [← hl]; exact (back32 hz).2
  · obtain ⟨i, hi, rfl⟩ := List.getElem_of_mem hv
    have q := G i (by omega)
    rwa [List.getD_eq_getElem?_getD, List.getElem?_eq_getElem hi] at q
theorem OWp.ldcS (hk : OOk p bytes maxL ret nm meth c Z a0 EL) (hd : decode bytes pc = .ok (.ldc index, 2)) (hp : pc' = pc + 2) (w : (Jvm.Cond.stringLink own index text).before a0 Z = true) (wS : ∀ a ∈ Bundle.stringAtoms, a.before a0 Z = true) (hmem : (own, index) ∈ EL)
    (ht : (∀ c ∈ text.toList, c.toNat < 256) ∧ text.toList.map (fun c => Value.int (Jvm.Lit.byteI c.toNat.toUInt16)) = vs) (hlen : vs.length < 2147483648)
    (hn : 4 * text.toList.length ≤ n) (hbig : n ≤ 536870912) (hc : cells + 2 ≤ R.cells) (hs : slots + (n + 4) ≤ R.slots)
    (kk : ∀ a t cx ct, EC Z cx "java/lang/String" → FC Z cx "java/lang/String" "coder" "B" (.int 0) → FC Z cx "java/lang/String" "value" "[B" (.ref t) → AC Z ct .byte vs →
      OWp p l e R s m args below meth c own Z EL ws P Q M ((a, cx) :: (t, ct) :: N) (cells + 2) (slots + (n + 4)) pc' L (.ref a :: S)) : OWp p l e R s m args below meth c own Z EL ws P Q M N cells slots pc L S := fun T hT => by
  subst hp
  obtain ⟨vm0, k0, locs, X, hS, hk0, hZ, ho, hL, I⟩ := hT
  have hz : (Int32.ofNat vs.length).toNatClampNeg = vs.length := by
    rw [Int32.toNatClampNeg, Int32.toInt_ofNat_small (by simpa using hlen)]; simp
  obtain ⟨a, T', h', k1, b, k, X', e', E, hS', hk1, hZ', ho', q1, q2, q3, q4, q5, q6, C, -, hne, st⟩ := ldcCH X hk.1 hZ ho w wS rfl hS hk0 hk.2.2.2.2.2.2 hmem I.1.1 ht (z := Int32.ofNat vs.length) (Int32.ofNat_not_neg (by simpa using hlen)) hz (g := mkF m pc L.toArray S) rfl (hb hk.2.1 hd) hn hbig hc hs
  subst e'
  have J := I.later C E
  obtain ⟨cx, hcx, -⟩ : ∃ cx : Cell, T'.heap[a]? = some cx ∧ True := by obtain ⟨cx, -, h1, -⟩ := q1; exact ⟨cx, h1, trivial⟩
  obtain ⟨ct, hct, At⟩ := AC.of_arv q4 hz
  have book : ∀ y, (∀ x, Safe Z EL T'.vm T'.heap x → x ≠ y) → s.heap.size ≤ y ∨ y ∈ ws ∨ Bk Z EL s.vm s.heap y := fun y hy => by
    have hB : Bk Z EL T'.vm T'.heap y := Classical.byContradiction fun z => hy y z rfl
    exact (J.1.2.2 y hB).elim (fun z => Or.inr (Or.inr z)) Or.inl
  have nin : ∀ y, (∀ x, Safe Z EL T'.vm T'.heap x → x ≠ y) → y ∉ dom M := fun y hy z => by
    obtain ⟨q, hq, e⟩ := List.mem_map.mp z
    exact hy q.1 (J.2.2.1 q hq).2.1 e
  have J1 := J.learn hct (nin b fun x S => (hne x S).2) (book b fun x S => (hne x S).2)
  have J2 := J1.learn hcx (nin a fun x S => (hne x S).1) (book a fun x S => (hne x S).1)
  obtain ⟨U, st', r⟩ := kk a b cx ct (EC.of q1 hcx) (FC.of q2 hcx) (FC.of q3 hcx) At T' ⟨T'.vm, k1, locs, X', hS', hk1, hZ', ho', hL, J2⟩
  exact ⟨U, st _ st', r⟩
end Lits
/-! 6. calls by contract -/
section Calls
variable {y z : MethodName} {bytes' : ByteArray} {maxL' W : Nat} {ret' : Option FieldType} {rm : Room} {argsL : List Value} {Mi Mr Pc : Mem} {Qc : Option Value → Mem → Mem → Prop} {index : Nat} {a : Addr} {cl : Cell} {C : String} {as' : Array Value}
def OPost (Z : State) (EL : List (String × Nat)) (Mi : Mem) (Qc : Option Value → Mem → Mem → Prop) (rm : Room) (A : Pt) (_ : Array Value) (v : Option Value) (B : Pt) : Prop :=
  ∃ Lc, (∃ M N, Qc v M N ∧ OInv Z EL A.U.vm A.U.heap (dom Mi) B.U.vm B.U.heap M N []) ∧ OKp A.U.heap B.U.heap (dom Mi) ∧ (∀ y ∈ Lc, A.U.heap.size ≤ y.base ∨ y.base ∈ dom Mi) ∧ B.locs = A.locs ++ Lc ∧ B.cells = A.cells + rm.cells ∧ B.slots = A.slots + rm.slots
/-- who pays: a contract -/
theorem oback {vm0 : Vm} {len : Nat} {h : Heap} (hC : OCon l Z EL y bytes' maxL' ret' [] rm as' Mi Pc Qc) (hZ : Z.Warmed39 vm0) (wc : (Jvm.Cond.code y bytes' maxL' ret').before a0 Z = true) (wz : (Jvm.Cond.initialized y.cls).before a0 Z = true)
    (hf : rm.frames + 1 ≤ R.frames) (hl : W + (maxL' + 11) + rm.locals ≤ R.locals) (hEL : EW Z a0 EL) (I : OInv Z EL s.vm s.heap ws vm0 h (Mi ++ Mr) N P) (hp : ∀ q ∈ Pc, q ∈ Mr ++ (N ++ P)) :
    BackS l R p e below (s.setVm vm0) args y len W (fun A a => a = as' ∧ A.U.heap = h ∧ A.cells + rm.cells ≤ R.cells ∧ A.slots + rm.slots ≤ R.slots) (OPost Z EL Mi Qc rm) :=
  BackS.of_freeW (bytes := bytes') (maxL := maxL') (ret := ret') (E := fun _ first o t L k n => k = rm.cells ∧ n = rm.slots ∧ ∃ v, o = .returned v ∧ (∃ M N, Qc v M N ∧ OInv Z EL first.vm first.heap (dom Mi) t.vm t.heap M N []) ∧ OKp first.heap t.heap (dom Mi) ∧ (∀ y ∈ L, first.heap.size ≤ y.base ∨ y.base ∈ dom Mi)) hC hf hl
    (fun m meth c A a Y hp => have hU : Z.Warmed39 A.U.vm := wtrans (s := s.setVm vm0) hZ Y.warmed
      ⟨by show (Jvm.Cond.and _ .tt).before a A.U = true; rw [Cond.before_and, mv hU wc]; rfl, mv hU wc, mv hU wz, hp.2.2.1, hp.2.2.2⟩)
    (fun m meth c A a g mk Y hq => ⟨hq.1, wtrans (s := s.setVm vm0) hZ Y.warmed, by
      have J := I.hand (chat Y.warmed hZ hEL I.1.1) hp
      rw [← hq.2.1] at J
      exact J⟩) (fun _ _ _ _ _ _ _ _ _ => trivial)
    (fun _ _ _ _ ⟨v, L, h1, h2, h3, h4, h5⟩ => ⟨L, _, _, h5, rfl, rfl, v, h1, h2, h3, h4⟩)
    (fun m meth c A a g mk v t L k n Y hp _ _ ⟨e1, e2, v', e3, e4, e5, e6⟩ => by
      cases e3; subst e1 e2
      exact ⟨L, e4, e5, e6, rfl, rfl, rfl⟩)
/-- behind the call -/
theorem OWp.behind {T : State} {vm0 vm1 : Vm} {k0 : Nat} {locs : List Loc} {B : Pt} {v : Option Value} (hEL : EW Z a0 EL) (hS : s.Since vm0 k0) (hk0 : k0 ≤ T.heap.size) (hZ : Z.Warmed39 vm0) (ho : vm0.findClass own = some m.cls) (hL : ∀ y ∈ locs, s.heap.size ≤ y.base ∨ y.base ∈ ws) (I : OInv Z EL s.vm s.heap ws vm0 T.heap (Mi ++ Mr) N P)
    (hW1 : (s.setVm vm0).WarmedH vm1) (X' : Stand p l e R ((s.setVm vm0).setVm B.U.vm) m args below meth c B.U B.locs B.cells B.slots) (hS' : (s.setVm vm0).Since B.U.vm B.U.heap.size) (hgr : T.heap.size ≤ B.U.heap.size) (hpost : OPost Z EL Mi Qc rm ⟨T.setVm vm1, locs, cells, slots⟩ as' v B) :
    ∃ Mo No, Qc v Mo No ∧ OSt p l e R s m args below meth c own Z EL ws P B.U (Mo ++ Mr) (No ++ N) (cells + rm.cells) (slots + rm.slots) := by
  obtain ⟨X2, h2, hZ2, ho2⟩ := rebS hS hk0 X' hS' hgr hZ ho
  obtain ⟨Lc, ⟨Mo, No, hq, J⟩, K, hLc, l1, l2, l3⟩ := hpost
  refine ⟨Mo, No, hq, B.U.vm, _, B.locs, ?_, h2, Nat.le_refl _, hZ2, ho2, fun y hy => ?_, I.call (chat hW1 hZ hEL I.1.1) J K⟩
  · rw [← l2, ← l3]; exact X2
  · rw [l1] at hy
    rcases List.mem_append.mp hy with hy | hy
    · exact hL y hy
    · rcases hLc y hy with q | q
      · exact Or.inl (Nat.le_trans I.1.2.1 q)
      · obtain ⟨r, hr, e⟩ := List.mem_map.mp q
        have := (I.2.2.1 r (List.mem_append_left _ hr)).2.2.2
        rwa [e] at this
theorem OWp.callS (hk : OOk p bytes maxL ret nm meth c Z a0 EL) (hd : decode bytes pc = .ok (.invokestatic index, 3)) (hp : pc' = pc + 3) (w1 : (Jvm.Cond.methodLink own index y).before a0 Z = true) (w2 : (Jvm.Cond.static y).before a0 Z = true) (w3 : (Jvm.Cond.initialized y.cls).before a0 Z = true) (w4 : (Jvm.Cond.code y bytes' maxL' ret').before a0 Z = true)
    (hy : y.cls ≠ "java/lang/invoke/MethodHandle" ∧ y.cls ≠ "java/lang/invoke/VarHandle") (hC : OCon l Z EL y bytes' maxL' ret' [] rm argsL.toArray Mi Pc Qc) (hM : Mi ++ Mr = M) (hPc : ∀ q ∈ Pc, q ∈ Mr ++ (N ++ P)) (hsz : L.length = maxL) (hlen : ∀ sig, parseMethodDescriptor y.desc = some sig → argsL.length = sig.parameters.length) (hst : S = argsL.reverse ++ rest)
    (hW : (rest.map fun v => v.category).sum = W) (hf : rm.frames + 1 ≤ R.frames) (hl : W + (maxL' + 11) + rm.locals ≤ R.locals) (hc : cells + rm.cells ≤ R.cells) (hs : slots + rm.slots ≤ R.slots)
    (kk : ∀ v Mo No, Qc v Mo No → OWp p l e R s m args below meth c own Z EL ws P Q (Mo ++ Mr) (No ++ N) (cells + rm.cells) (slots + rm.slots) pc' L (v.toList ++ rest)) :
    OWp p l e R s m args below meth c own Z EL ws P Q M N cells slots pc L S := fun T hT => by
  subst hp hM
  obtain ⟨vm0, k0, locs, X, hS, hk0, hZ, ho, hL, I⟩ := hT
  obtain ⟨v, vm1, B, hW1, X', hS', hgr, hpost, st⟩ := callSS X hk.1 (own := own) ho (mvT (s := s.setVm vm0) hZ w1) (mvT (s := s.setVm vm0) hZ w2) (mvT (s := s.setVm vm0) hZ w3) (mvT (s := s.setVm vm0) hZ w4) hy (oback (W := W) (as' := argsL.toArray) hC hZ w4 w3 hf hl hk.2.2.2.2.2.2 I hPc)
    (g := mkF m pc L.toArray S) rfl (by rw [hk.2.2.1]; simpa using hsz) hlen hst (by show 2 * 0 + _ ≤ _; omega) (hb hk.2.1 hd) (fun _ _ => ⟨rfl, rfl, hc, hs⟩)
  obtain ⟨Mo, No, hq, hB⟩ := OWp.behind hk.2.2.2.2.2.2 hS hk0 hZ ho hL I hW1 X' hS' hgr hpost
  obtain ⟨U, st', r⟩ := kk v Mo No hq B.U hB
  exact ⟨U, st.trans st', r⟩
theorem OWp.callI (hk : OOk p bytes maxL ret nm meth c Z a0 EL) (hd : decode bytes pc = .ok (.invokespecial index, 3)) (hp : pc' = pc + 3) (hy1 : y.name = "<init>") (w1 : (Jvm.Cond.methodLink own index y).before a0 Z = true) (w2 : (Jvm.Cond.instanceMethod y).before a0 Z = true) (w3 : (Jvm.Cond.initialized y.cls).before a0 Z = true) (w4 : (Jvm.Cond.code y bytes' maxL' none).before a0 Z = true)
    (hy : y.cls ≠ "java/lang/invoke/MethodHandle" ∧ y.cls ≠ "java/lang/invoke/VarHandle") (hC : OCon l Z EL y bytes' maxL' none [] rm (.ref a :: argsL).toArray Mi Pc Qc) (hM : Mi ++ Mr = M) (hPc : ∀ q ∈ Pc, q ∈ Mr ++ (N ++ P)) (hsz : L.length = maxL) (hlen : ∀ sig, parseMethodDescriptor y.desc = some sig → argsL.length = sig.parameters.length) (hst : S = argsL.reverse ++ .ref a :: rest)
    (hW : (rest.map fun v => v.category).sum = W) (hf : rm.frames + 1 ≤ R.frames) (hl : W + (maxL' + 11) + rm.locals ≤ R.locals) (hc : cells + rm.cells ≤ R.cells) (hs : slots + rm.slots ≤ R.slots)
    (kk : ∀ v Mo No, Qc v Mo No → OWp p l e R s m args below meth c own Z EL ws P Q (Mo ++ Mr) (No ++ N) (cells + rm.cells) (slots + rm.slots) pc' L (v.toList ++ rest)) :
    OWp p l e R s m args below meth c own Z EL ws P Q M N cells slots pc L S := fun T hT => by
  subst hp hM
  obtain ⟨vm0, k0, locs, X, hS, hk0, hZ, ho, hL, I⟩ := hT
  obtain ⟨v, vm1, B, hW1, X', hS', hgr, hpost, st⟩ := X.specialBackS hk.1 (own := own) hy1 ho (mvT (s := s.setVm vm0) hZ w1) (mvT (s := s.setVm vm0) hZ w2) (mvT (s := s.setVm vm0) hZ w4) hy (oback (W := W) (as' := (.ref a :: argsL).toArray) hC hZ w4 w3 hf hl hk.2.2.2.2.2.2 I hPc)
    (g := mkF m pc L.toArray S) rfl (by rw [hk.2.2.1]; simpa using hsz) (Steps.refl _) (a := a) hlen hst (by show 2 * 0 + _ ≤ _; omega) (hb hk.2.1 hd) (fun _ _ => ⟨rfl, rfl, hc, hs⟩)
  obtain ⟨Mo, No, hq, hB⟩ := OWp.behind hk.2.2.2.2.2.2 hS hk0 hZ ho hL I hW1 X' hS' hgr hpost
  obtain ⟨U, st', r⟩ := kk v Mo No hq B.U hB
  exact ⟨U, st.trans st', r⟩
theorem OWp.callV (hk : OOk p bytes maxL ret nm meth c Z a0 EL) (hd : decode bytes pc = .ok (.invokevirtual index, 3)) (hp : pc' = pc + 3) (w1 : (Jvm.Cond.methodLink own index y).before a0 Z = true) (w2 : (Jvm.Cond.declares y).before a0 Z = true) (nf : ∀ vm0, Z.Warmed39 vm0 → NotFace (s.setVm vm0) y) (w5 : (Jvm.Cond.selects C y z).before a0 Z = true) (w6 : (Jvm.Cond.instanceMethod z).before a0 Z = true)
    (w3 : (Jvm.Cond.initialized z.cls).before a0 Z = true) (w4 : (Jvm.Cond.code z bytes' maxL' ret').before a0 Z = true) (hy : y.cls ≠ "java/lang/invoke/MethodHandle" ∧ y.cls ≠ "java/lang/invoke/VarHandle")
    (hm : (a, cl) ∈ M ++ (N ++ P)) (E : EC Z cl C)
    (hC : OCon l Z EL z bytes' maxL' ret' [] rm (.ref a :: argsL).toArray Mi Pc Qc) (hM : Mi ++ Mr = M) (hPc : ∀ q ∈ Pc, q ∈ Mr ++ (N ++ P)) (hsz : L.length = maxL) (hlen : ∀ sig, parseMethodDescriptor y.desc = some sig → argsL.length = sig.parameters.length) (hst : S = argsL.reverse ++ .ref a :: rest)
    (hW : (rest.map fun v => v.category).sum = W) (hf : rm.frames + 1 ≤ R.frames) (hl : W + (maxL' + 11) + rm.locals ≤ R.locals) (hc : cells + rm.cells ≤ R.cells) (hs : slots + rm.slots ≤ R.slots)
    (kk : ∀ v Mo No, Qc v Mo No → OWp p l e R s m args below meth c own Z EL ws P Q (Mo ++ Mr) (No ++ N) (cells + rm.cells) (slots + rm.slots) pc' L (v.toList ++ rest)) :
    OWp p l e R s m args below meth c own Z EL ws P Q M N cells slots pc L S := fun T hT => by
  subst hp hM
  obtain ⟨vm0, k0, locs, X, hS, hk0, hZ, ho, hL, I⟩ := hT
  obtain ⟨cB, kB, qa, qb, qc⟩ := isOf (s := s.setVm vm0) (T := T) hZ rfl (E.exa (I.at hm))
  obtain ⟨v, vm1, B, hW1, X', hS', hgr, hpost, st⟩ := X.virtualBackS hk.1 (own := own) ho (mvT (s := s.setVm vm0) hZ w1) (mvT (s := s.setVm vm0) hZ w2) (nf vm0 hZ) (mvT (s := s.setVm vm0) hZ w5) (mvT (s := s.setVm vm0) hZ w6) hy (oback (W := W) (as' := (.ref a :: argsL).toArray) hC hZ w4 w3 hf hl hk.2.2.2.2.2.2 I hPc) qa qc
    (g := mkF m pc L.toArray S) rfl (by rw [hk.2.2.1]; simpa using hsz) (Steps.refl _) hlen hst (by show 2 * 0 + _ ≤ _; omega) (hb hk.2.1 hd) (fun _ _ => ⟨rfl, rfl, hc, hs⟩)
  obtain ⟨Mo, No, hq, hB⟩ := OWp.behind hk.2.2.2.2.2.2 hS hk0 hZ ho hL I hW1 X' hS' hgr hpost
  obtain ⟨U, st', r⟩ := kk v Mo No hq B.U hB
  exact ⟨U, st.trans st', r⟩
theorem nfs {y : MethodName} (w : (Jvm.Cond.selects C y y).before a0 Z = true) : ∀ vm0, Z.Warmed39 vm0 → NotFace (s.setVm vm0) y := fun vm0 hZ => notFace_of_selects (args := #[]) (mvT (s := s.setVm vm0) hZ w)
/-- the class of a method that is selected is no interface -/
theorem nfs2 {y y' : MethodName} (w : (Jvm.Cond.selects C y' y').before a0 Z = true) (ec : y.cls = y'.cls) : ∀ vm0, Z.Warmed39 vm0 → NotFace (s.setVm vm0) y := fun vm0 hZ r0 h0 => by
  obtain ⟨c2, r2, m2, -, -, q3, -, kP, hkP, hkPi⟩ := Cond.selects_spec (args := #[]) (mvT (s := s.setVm vm0) hZ w)
  refine ⟨kP, ?_, hkPi⟩
  have e1 := findClass_of_methodNamed h0
  have e2 := findClass_of_methodNamed q3
  rw [ec] at e1
  rw [Option.some.inj (e1.symm.trans e2)]; exact hkP
theorem sameM {y y' : MethodName} {ret' : Option FieldType} (w : (Jvm.Cond.selects C y' y').before a0 Z = true) (ec : y.cls = y'.cls) (wi : (Jvm.Cond.instanceMethod y).before a0 Z = true) (hy : y.cls ≠ "java/lang/invoke/MethodHandle" ∧ y.cls ≠ "java/lang/invoke/VarHandle") : (Jvm.Cond.sameMethod y.cls y.cls y.name y.desc).before a0 Z = true := by
  obtain ⟨mk, methM, hnamed, hmethM, -, -⟩ := Cond.instanceMethod_spec wi
  obtain ⟨c2, r2, m2, -, -, q3, -, kP, hkP, hkPi⟩ := Cond.selects_spec w
  have e1 := findClass_of_methodNamed hnamed
  have e2 := findClass_of_methodNamed q3
  have e3 := State.methodFound?_of_named hnamed hy
  have e4 : Z.vm.classes[mk.cls]? = some kP := by rw [ec] at e1; rw [Option.some.inj (e1.symm.trans e2)]; exact hkP
  have e5 : Z.methodNamed? ⟨y.cls, y.name, y.desc⟩ = some mk := hnamed
  simp [Cond.before, Cond.holds, Cond.value, e1, e3, e5, e4, hkPi]
/-- invokevirtual of a private method -/
theorem OWp.callP (hk : OOk p bytes maxL ret nm meth c Z a0 EL) (hd : decode bytes pc = .ok (.invokevirtual index, 3)) (hp : pc' = pc + 3) (w1 : (Jvm.Cond.methodLink own index y).before a0 Z = true) (w2 : (Jvm.Cond.privateMethod y).before a0 Z = true) (w5 : (Jvm.Cond.selects C y y).before a0 Z = true) (w6 : (Jvm.Cond.instanceMethod y).before a0 Z = true)
    (w3 : (Jvm.Cond.initialized y.cls).before a0 Z = true) (w4 : (Jvm.Cond.code y bytes' maxL' ret').before a0 Z = true) (hy : y.cls ≠ "java/lang/invoke/MethodHandle" ∧ y.cls ≠ "java/lang/invoke/VarHandle")
    (hm : (a, cl) ∈ M ++ (N ++ P)) (E : EC Z cl C)
    (hC : OCon l Z EL y bytes' maxL' ret' [] rm (.ref a :: argsL).toArray Mi Pc Qc) (hM : Mi ++ Mr = M) (hPc : ∀ q ∈ Pc, q ∈ Mr ++ (N ++ P)) (hsz : L.length = maxL) (hlen : ∀ sig, parseMethodDescriptor y.desc = some sig → argsL.length = sig.parameters.length) (hst : S = argsL.reverse ++ .ref a :: rest)
    (hW : (rest.map fun v => v.category).sum = W) (hf : rm.frames + 1 ≤ R.frames) (hl : W + (maxL' + 11) + rm.locals ≤ R.locals) (hc : cells + rm.cells ≤ R.cells) (hs : slots + rm.slots ≤ R.slots)
    (kk : ∀ v Mo No, Qc v Mo No → OWp p l e R s m args below meth c own Z EL ws P Q (Mo ++ Mr) (No ++ N) (cells + rm.cells) (slots + rm.slots) pc' L (v.toList ++ rest)) :
    OWp p l e R s m args below meth c own Z EL ws P Q M N cells slots pc L S := fun T hT => by
  subst hp hM
  obtain ⟨vm0, k0, locs, X, hS, hk0, hZ, ho, hL, I⟩ := hT
  obtain ⟨cB, kB, qa, qb, qc⟩ := isOf (s := s.setVm vm0) (T := T) hZ rfl (E.exa (I.at hm))
  obtain ⟨cellB, hcellT, hclsB, hstatB⟩ := qc
  obtain ⟨mk, methM, hnamed, hmethM, hstM, habM⟩ := Cond.instanceMethod_spec (args := args) (mvT (s := s.setVm vm0) hZ w6)
  obtain ⟨methM', cM, hmethM', -, -, -, -, -, -, hsigM⟩ := Cond.code_spec (args := args) hnamed (mvT (s := s.setVm vm0) hZ w4)
  cases hmethM.symm.trans hmethM'
  obtain ⟨c2, r2, m2, -, -, q3, -, kP, hkP, hkPi⟩ := Cond.selects_spec (args := args) (mvT (s := s.setVm vm0) hZ w5)
  cases hnamed.symm.trans q3
  have hselP : selectMethod e.platform (s.setVm vm0).vm cellB.cls mk = .method mk := selectMethod_private hmethM (Cond.privateMethod_at (args := args) (mvT (s := s.setVm vm0) hZ w2) mk methM hnamed hmethM)
  obtain ⟨vm1, X1, hstep1⟩ := X.invokevirtual hk.1 (own := own) ho (mvT (s := s.setVm vm0) hZ w1) hnamed hmethM hstM hkP hkPi hy (a := a) (cell := cellB) hcellT (fun z h => by rw [h] at hstatB; cases hstatB) hselP hmethM habM hkP hkPi (g := mkF m pc L.toArray S) rfl (argsL := argsL) (rest := rest) (hlen _ hsigM) hst (hb hk.2.1 hd)
  obtain ⟨v, B, X', hS', hgr, hpost, hsteps⟩ := oback (len := 3) (W := W) (as' := (.ref a :: argsL).toArray) hC hZ w4 w3 hf hl hk.2.2.2.2.2.2 I hPc m meth c ⟨T.setVm vm1, locs, cells, slots⟩ { mkF m pc L.toArray S with stack := rest } (.invokevirtual index) mk (.ref a :: argsL).toArray X1 rfl (by rw [hk.2.2.1]; simpa using hsz) (hb hk.2.1 hd) (show 2 * 0 + (rest.map fun v => v.category).sum ≤ W by omega) (X1.named hnamed) ⟨rfl, rfl, hc, hs⟩
  have st := (Steps.refl _).trans ((hstep1 _ fun acts => by rw [doInvoke_state]; exact Steps.refl _).trans hsteps)
  obtain ⟨Mo, No, hq, hB⟩ := OWp.behind hk.2.2.2.2.2.2 hS hk0 hZ ho hL I X1.warmed X' hS' hgr hpost
  obtain ⟨U, st', r⟩ := kk v Mo No hq B.U hB
  exact ⟨U, st.trans st', r⟩
/-- invokespecial of the superclass's method -/
theorem OWp.callU (hk : OOk p bytes maxL ret nm meth c Z a0 EL) (hd : decode bytes pc = .ok (.invokespecial index, 3)) (hp : pc' = pc + 3) (w1 : (Jvm.Cond.methodLink own index y).before a0 Z = true) (w2 : (Jvm.Cond.sameMethod y.cls y.cls y.name y.desc).before a0 Z = true) (w5 : (Jvm.Cond.superclass own y.cls).before a0 Z = true) (w6 : (Jvm.Cond.instanceMethod y).before a0 Z = true) (hn : y.name ≠ "<init>")
    (w3 : (Jvm.Cond.initialized y.cls).before a0 Z = true) (w4 : (Jvm.Cond.code y bytes' maxL' ret').before a0 Z = true)
    (hm : (a, cl) ∈ M ++ (N ++ P)) (E : EC Z cl C)
    (hC : OCon l Z EL y bytes' maxL' ret' [] rm (.ref a :: argsL).toArray Mi Pc Qc) (hM : Mi ++ Mr = M) (hPc : ∀ q ∈ Pc, q ∈ Mr ++ (N ++ P)) (hsz : L.length = maxL) (hlen : ∀ sig, parseMethodDescriptor y.desc = some sig → argsL.length = sig.parameters.length) (hst : S = argsL.reverse ++ .ref a :: rest)
    (hW : (rest.map fun v => v.category).sum = W) (hf : rm.frames + 1 ≤ R.frames) (hl : W + (maxL' + 11) + rm.locals ≤ R.locals) (hc : cells + rm.cells ≤ R.cells) (hs : slots + rm.slots ≤ R.slots)
    (kk : ∀ v Mo No, Qc v Mo No → OWp p l e R s m args below meth c own Z EL ws P Q (Mo ++ Mr) (No ++ N) (cells + rm.cells) (slots + rm.slots) pc' L (v.toList ++ rest)) :
    OWp p l e R s m args below meth c own Z EL ws P Q M N cells slots pc L S := fun T hT => by
  subst hp hM
  obtain ⟨vm0, k0, locs, X, hS, hk0, hZ, ho, hL, I⟩ := hT
  obtain ⟨v, vm1, B, hW1, X', hS', hgr, hpost, st⟩ := superBackS (s := s.setVm vm0) X hk.1 hZ ho w1 w2 w6 w5 hn (oback (W := W) (as' := (.ref a :: argsL).toArray) hC hZ w4 w3 hf hl hk.2.2.2.2.2.2 I hPc) rfl (Ins.self (E.exa (I.at hm)))
    (g := mkF m pc L.toArray S) rfl (by rw [hk.2.2.1]; simpa using hsz) w4 hlen hst (by show 2 * 0 + _ ≤ _; omega) (hb hk.2.1 hd) (fun _ _ => ⟨rfl, rfl, hc, hs⟩)
  obtain ⟨Mo, No, hq, hB⟩ := OWp.behind hk.2.2.2.2.2.2 hS hk0 hZ ho hL I hW1 X' hS' hgr hpost
  obtain ⟨U, st', r⟩ := kk v Mo No hq B.U hB
  exact ⟨U, st.trans st', r⟩
end Calls
/-! 7. the end -/
section Ends
variable {v : Option Value} {M' N' : Mem} {w : Value} {x : Int32} {t : FieldType}
theorem OWp.leave (hk : OOk p bytes maxL ret nm meth c Z a0 EL) (hv : ret = none → v = none) (hQ : Q v M' N') (hm : M'.Sublist M) (hn : ∀ q ∈ N', q ∈ N) (hc : cells ≤ R.cells) (hs : slots ≤ R.slots)
    (H : ∀ (T : State) (vm0 : Vm) (locs : List Loc) (fs : List Frame), Stand p l e R (s.setVm vm0) m args below meth c T locs cells slots → (∀ (f : JFrame) (acts : List Action), f.method = m → f.locked = none → f.entered = [] → (doReturn e (T.setTop f) acts v).1 = T.setFrames fs) → Steps p.tables e below (T.setTop (mkF m pc L.toArray S)) (T.setFrames fs)) :
    OWp p l e R s m args below meth c own Z EL ws P Q M N cells slots pc L S := fun T hT => by
  obtain ⟨vm0, k0, locs, X, hS, hk0, hZ, ho, hL, I⟩ := hT
  obtain ⟨fs, h1, h2, h3, h4⟩ := X.leaveW hS hk0 (v := v) (fun q => hv (hk.2.2.2.1.symm.trans q)) hk.2.2.2.2.1
  refine ⟨T.setFrames fs, H T vm0 locs fs X h1, v, locs, h2, h3, ⟨M', N', hQ, ?_⟩, (show OKp s.heap T.heap ws from okp_of X hL), hL, h4.1, h4.2.1, h4.2.2.1, h4.2.2.2.mono hc hs⟩
  exact (I.later (chat X.warmed hZ hk.2.2.2.2.2.2 I.1.1) (ext_refl _)).sub hm hn
theorem OWp.ret0 (hk : OOk p bytes maxL none nm meth c Z a0 EL) (hd : decode bytes pc = .ok (.return_, 1)) (hQ : Q none M' N') (hm : M'.Sublist M) (hn : ∀ q ∈ N', q ∈ N) (hc : cells ≤ R.cells) (hs : slots ≤ R.slots) :
    OWp p l e R s m args below meth c own Z EL ws P Q M N cells slots pc L [] :=
  OWp.leave hk (fun _ => rfl) hQ hm hn hc hs fun T vm0 locs fs X h1 => X.returnOut hk.1 hk.2.2.2.1 (hb hk.2.1 hd) h1
theorem OWp.retI (hk : OOk p bytes maxL (some .int) nm meth c Z a0 EL) (hd : decode bytes pc = .ok (.ireturn, 1)) (hQ : Q (some (.int x)) M' N') (hm : M'.Sublist M) (hn : ∀ q ∈ N', q ∈ N) (hc : cells ≤ R.cells) (hs : slots ≤ R.slots) :
    OWp p l e R s m args below meth c own Z EL ws P Q M N cells slots pc L (.int x :: rest) :=
  OWp.leave hk (fun q => by cases q) hQ hm hn hc hs fun T vm0 locs fs X h1 => retOut X hk.1 hk.2.2.2.1 rfl (Or.inl ⟨rfl, Or.inl rfl, x, rfl⟩) (hb hk.2.1 hd) h1
theorem OWp.retN (hk : OOk p bytes maxL (some t) nm meth c Z a0 EL) (ht : t = .boolean ∨ t = .byte ∨ t = .char ∨ t = .short) (hd : decode bytes pc = .ok (.ireturn, 1)) (hQ : Q (some (.int (nar t x))) M' N') (hm : M'.Sublist M) (hn : ∀ q ∈ N', q ∈ N) (hc : cells ≤ R.cells) (hs : slots ≤ R.slots) :
    OWp p l e R s m args below meth c own Z EL ws P Q M N cells slots pc L (.int x :: rest) :=
  OWp.leave hk (fun q => by cases q) hQ hm hn hc hs fun T vm0 locs fs X h1 => RoadKit.retN X hk.1 hk.2.2.2.1 ht (hb hk.2.1 hd) h1
theorem OWp.retA (hk : OOk p bytes maxL (some t) nm meth c Z a0 EL) (ht : t.isReference = true) (hw : w.isRef = true) (hnw : narrow t w = w) (hd : decode bytes pc = .ok (.areturn, 1)) (hQ : Q (some w) M' N') (hm : M'.Sublist M) (hn : ∀ q ∈ N', q ∈ N) (hc : cells ≤ R.cells) (hs : slots ≤ R.slots) :
    OWp p l e R s m args below meth c own Z EL ws P Q M N cells slots pc L (w :: rest) :=
  OWp.leave hk (fun q => by cases q) hQ hm hn hc hs fun T vm0 locs fs X h1 => retOut X hk.1 hk.2.2.2.1 hnw (Or.inr (Or.inr (Or.inr (Or.inr ⟨rfl, ht, hw⟩)))) (hb hk.2.1 hd) h1
end Ends
/-! 8. System.arraycopy -/
section Copy
/-- an array's clone -/
theorem OWp.clone {index : Nat} {a : Addr} {cl : Cell} {ty : FieldType} {vs : List Value} {ad : String} {W cap : Nat} (hk : OOk p bytes maxL ret nm meth c Z a0 EL) (hd : decode bytes pc = .ok (.invokevirtual index, 3)) (hp : pc' = pc + 3)
    (w1 : (Jvm.Cond.methodLink own index ⟨ad, "clone", "()Ljava/lang/Object;"⟩).before a0 Z = true) (w2 : (Jvm.Cond.sameMethod ad "java/lang/Object" "clone" "()Ljava/lang/Object;").before a0 Z = true) (w3 : (Jvm.Cond.native ⟨"java/lang/Object", "clone", "()Ljava/lang/Object;"⟩).before a0 Z = true)
    (w4 : (Jvm.Cond.instanceMethod ⟨"java/lang/Object", "clone", "()Ljava/lang/Object;"⟩).before a0 Z = true) (w5 : (Jvm.Cond.selects ad ⟨ad, "clone", "()Ljava/lang/Object;"⟩ ⟨"java/lang/Object", "clone", "()Ljava/lang/Object;"⟩).before a0 Z = true) (w6 : (Jvm.Cond.castable ad "java/lang/Cloneable").before a0 Z = true)
    (hm : (a, cl) ∈ M ++ (N ++ P)) (F : AC Z cl ty vs) (E : EC Z cl ad) (hsz : L.length = maxL) (hf : 1 ≤ R.frames) (hW : (rest.map fun v => v.category).sum = W) (hl : W + 14 ≤ R.locals) (hcap : vs.length ≤ cap) (hc : cells + 1 ≤ R.cells) (hs : slots + cap ≤ R.slots)
    (kk : ∀ a' cl', AC Z cl' ty vs → EC Z cl' ad → OWp p l e R s m args below meth c own Z EL ws P Q ((a', cl') :: M) N (cells + 1) (slots + cap) pc' L (.ref a' :: rest)) :
    OWp p l e R s m args below meth c own Z EL ws P Q M N cells slots pc L (.ref a :: rest) := fun T hT => by
  subst hp
  obtain ⟨vm0, k0, locs, X, hS, hk0, hZ, ho, hL, I⟩ := hT
  have hh := I.at hm
  obtain ⟨T', h', X', e', E', A', EX, st⟩ := cloneA (s := s.setVm vm0) X hk.1 hZ ho w1 w2 w3 w4 w5 w6 rfl (F.arr hh) (E.exa hh) (fitC_of (F.arr hh) fun i hi v hv => F.2.2.2.2 v (by
      rw [← F.2.2.1]; exact Array.mem_toList_iff.mpr (Array.mem_of_getElem? hv)))
    (g := mkF m pc L.toArray (.ref a :: rest)) rfl (by rw [hk.2.2.1]; simpa using hsz) (rest := rest) rfl (hb hk.2.1 hd) hf (W := W) (by show 2 * 0 + _ ≤ _; omega) hl (cap := cap) (by rw [F.size]; exact hcap) hc hs
  subst e'
  obtain ⟨U, st', r⟩ := kk _ _ ⟨A'.2.1, A'.2.2, F.2.2.1, F.2.2.2⟩ (EC.of EX A'.1) T' ⟨vm0, k0, locs, X', hS, Nat.le_trans hk0 E'.1, hZ, ho, hL, I.alloc E' A'.1⟩
  exact ⟨U, st _ st', r⟩
/-- checkcast of null -/
theorem OWp.castN {index : Nat} {K : String} (hk : OOk p bytes maxL ret nm meth c Z a0 EL) (hd : decode bytes pc = .ok (.checkcast index, 3)) (hp : pc' = pc + 3)
    (kk : OWp p l e R s m args below meth c own Z EL ws P Q M N cells slots pc' L (.null :: rest)) : OWp p l e R s m args below meth c own Z EL ws P Q M N cells slots pc L (.null :: rest) := by
  subst hp
  exact OWp.pureX (fun T t vm0 locs X hZ ho hH k => X.checkcastNull hk.1 (g := mkF m pc L.toArray (.null :: rest)) rfl rfl (hb hk.2.1 hd) t k) kk
theorem OInv.put {vmS vm : Vm} {h0 h h' : Heap} {i : Nat} {a : Addr} {cl cl' : Cell} (I : OInv Z EL vmS h0 ws vm h M N P) (hi : M[i]? = some (a, cl)) (K : Keep h h' [a]) (hc : h'[a]? = some cl') : OInv Z EL vmS h0 ws vm h' (M.set i (a, cl')) N P := by
  obtain ⟨C, EZ, hM, hn, hN, hP⟩ := I
  obtain ⟨b1, b2, b3, b4⟩ := hM _ (List.mem_of_getElem? hi)
  have ne : ∀ {y : Addr} {cy : Cell}, y ≠ a → h[y]? = some cy → h'[y]? = some cy := fun {y cy} q r => K.2.1 y cy r fun z => q (List.mem_singleton.mp z)
  have hs : ∀ x ∈ [a], Safe Z EL vm h x := fun x hx => by cases List.mem_singleton.mp hx; exact b2
  have dm := dom_set (c' := cl') hi
  refine ⟨C.trans (CHr.keep K hs C.1), ⟨Nat.le_trans EZ.1 K.1, fun y cy q => ?_⟩, fun q hq => ?_, by rw [dm]; exact hn, fun q hq => ?_, fun q hq => ?_⟩
  · exact ne (Nat.ne_of_lt (Nat.lt_of_lt_of_le (lt_of q) b3)) (EZ.2 _ _ q)
  · rcases mem_set hn hi q hq with rfl | ⟨hq, e⟩
    · exact ⟨hc, Safe.keep K hs C.1 b2, b3, b4⟩
    · obtain ⟨a1, a2, a3, a4⟩ := hM q hq
      exact ⟨ne e a1, Safe.keep K hs C.1 a2, a3, a4⟩
  · obtain ⟨a1, a2, a3⟩ := hN q hq
    exact ⟨ne (fun z => a2 (by rw [z]; exact List.mem_map.mpr ⟨_, List.mem_of_getElem? hi, rfl⟩)) a1, by rw [dm]; exact a2, a3⟩
  · obtain ⟨a1, a2⟩ := hP q hq
    exact ⟨ne (fun z => a2 (by rw [z]; exact List.mem_map.mpr ⟨_, List.mem_of_getElem? hi, rfl⟩)) a1, by rw [dm]; exact a2⟩
/-- the places written, said by the cells' addresses alone -/
theorem restand {s' T : State} {locs : List Loc} (X : Stand p l e R s' m args below meth c T locs cells slots) (hK : OKp s'.heap T.heap ws) : ∃ L2, Stand p l e R s' m args below meth c T L2 cells slots ∧ ∀ y ∈ L2, y.base ∈ ws := by
  refine ⟨ws.flatMap fun a => (List.range ((T.heap[a]?.map fun q => q.slots.size).getD 0)).map fun i => (⟨a, i⟩ : Loc), { X with same := ?_ }, fun y hy => ?_⟩
  · obtain ⟨q1, q2, q3, q4, q5, q6⟩ := X.same
    refine ⟨q1, q2, q3, q4, q5, fun a ca ha => ?_⟩
    obtain ⟨c', r1, r2, r3, r4⟩ := q6 a ca ha
    refine ⟨c', r1, r2, r3, fun i hi => ?_⟩
    by_cases hw : a ∈ ws
    · have hlt : ¬ i < c'.slots.size := fun z => hi (List.mem_flatMap.mpr ⟨a, hw, List.mem_map.mpr ⟨i, List.mem_range.mpr (by
        have r1' : T.heap[a]? = some c' := r1
        rw [r1']; exact z), rfl⟩⟩)
      rw [Array.getElem?_eq_none (Nat.not_lt.mp hlt), Array.getElem?_eq_none (by rw [← r3]; exact Nat.not_lt.mp hlt)]
    · have e := hK.2 a ca ha hw
      have r1' : T.heap[a]? = some c' := r1
      rw [show c' = ca from Option.some.inj (r1'.symm.trans e)]
  · obtain ⟨a, ha, hb⟩ := List.mem_flatMap.mp hy
    obtain ⟨i, -, rfl⟩ := List.mem_map.mp hb
    exact ha
theorem OWp.arraycopy {index i : Nat} {a b : Addr} {ca cb : Cell} {ty : FieldType} {n1 n2 sp dp nn : Nat} {f g : Nat → Value} {W : Nat} (hk : OOk p bytes maxL ret nm meth c Z a0 EL) (hd : decode bytes pc = .ok (.invokestatic index, 3)) (hp : pc' = pc + 3)
    (w1 : (Jvm.Cond.methodLink own index Jvm.Stand.acN).before a0 Z = true) (w2 : (Jvm.Cond.native Jvm.Stand.acN).before a0 Z = true) (w3 : (Jvm.Cond.static Jvm.Stand.acN).before a0 Z = true) (w4 : (Jvm.Cond.initialized "java/lang/System").before a0 Z = true)
    (hm : (a, ca) ∈ M ++ (N ++ P)) (A : AC Z ca ty (tab n1 f)) (hi : M[i]? = some (b, cb)) (B : AC Z cb ty (tab n2 g)) (hty : refKind ty = false) (h1 : sp + nn ≤ n1) (h2 : dp + nn ≤ n2) (hsz : L.length = maxL) (hf : 1 ≤ R.frames) (hW : (rest.map fun v => v.category).sum = W) (hlo : W + (nativeFrameWords "java/lang/System" "arraycopy" 5 + 11) ≤ R.locals)
    (kk : ∀ cb', AC Z cb' ty (tab n2 fun j => if dp ≤ j ∧ j < dp + nn then f (sp + (j - dp)) else g j) → OWp p l e R s m args below meth c own Z EL ws P Q (M.set i (b, cb')) N cells slots pc' L rest) :
    OWp p l e R s m args below meth c own Z EL ws P Q M N cells slots pc L (.int (Int32.ofNat nn) :: .int (Int32.ofNat dp) :: .ref b :: .int (Int32.ofNat sp) :: .ref a :: rest) := fun T hT => by
  subst hp
  obtain ⟨vm0, k0, locs, X, hS, hk0, hZ, ho, hL, I⟩ := hT
  obtain ⟨b1, b2, b3, b4⟩ := I.2.2.1 _ (List.mem_of_getElem? hi)
  have l1 : n1 < 2147483648 := by have := A.2.2.2.1; rwa [tab_len] at this
  have l2 : n2 < 2147483648 := by have := B.2.2.2.1; rwa [tab_len] at this
  have A' : Arv Z T.heap a ca.cls ty (Int32.ofNat n1) (tab n1 f) (.int 0) := by have := A.arv (d := .int 0) (I.at hm); rwa [tab_len] at this
  have B' : Arv Z T.heap b cb.cls ty (Int32.ofNat n2) (tab n2 g) (.int 0) := by have := B.arv (d := .int 0) b1; rwa [tab_len] at this
  obtain ⟨T', h', L', X', e', -, K, B2, st⟩ := cpA (s := s.setVm vm0) (own := own) X hk.1 hZ ho w1 w2 w3 w4 rfl A' B' (Or.inl ⟨rfl, hty⟩) (sp := Int32.ofNat sp) (dp := Int32.ofNat dp) (nn := Int32.ofNat nn) (n_nn (by omega)) (n_nn (by omega)) (n_nn (by omega))
    (by rw [n_nat (by omega), n_nat (by omega), n_nat (by omega)]; exact h1) (by rw [n_nat (by omega), n_nat (by omega), n_nat (by omega)]; exact h2) rfl (by rw [n_nat (by omega), n_nat (by omega), tab_len]; exact h2) (n0 := 0) (fun _ _ => Nat.zero_le _) (Nat.zero_le _)
    (g := mkF m pc L.toArray (.int (Int32.ofNat nn) :: .int (Int32.ofNat dp) :: .ref b :: .int (Int32.ofNat sp) :: .ref a :: rest)) (rest := rest) rfl (by rw [hk.2.2.1]; simpa using hsz) rfl (hb hk.2.1 hd) hf (W := W) (by show 2 * 0 + _ ≤ _; omega) hlo
  subst e'
  rw [n_nat (show nn < 2147483648 by omega), n_nat (show dp < 2147483648 by omega), n_nat (show sp < 2147483648 by omega)] at B2
  have el : (tab n2 g).take dp ++ (List.range nn).map (fun i => (tab n1 f).getD (sp + i) (.int 0)) ++ (tab n2 g).drop (dp + nn) = tab n2 fun j => if dp ≤ j ∧ j < dp + nn then f (sp + (j - dp)) else g j := by
    refine List.ext_getElem? fun j => ?_
    by_cases hj : j < n2
    · rw [tab_get hj]
      by_cases c1 : j < dp
      · rw [List.getElem?_append_left (by simp [tab_len]; omega), List.getElem?_append_left (by simp [tab_len]; omega), List.getElem?_take, if_pos c1, tab_get hj, if_neg (by omega)]
      · by_cases c2 : j < dp + nn
        · rw [List.getElem?_append_left (by simp [tab_len]; omega), List.getElem?_append_right (by simp [tab_len]; omega)]
          have e1 : ((tab n2 g).take dp).length = dp := by simp [tab_len]; omega
          rw [e1, List.getElem?_map, List.getElem?_range (by omega), if_pos ⟨by omega, c2⟩]
          simp only [Option.map_some]
          rw [List.getD_eq_getElem?_getD, tab_get (by omega)]; rfl
        · have e1 : ((tab n2 g).take dp ++ (List.range nn).map (fun i => (tab n1 f).getD (sp + i) (.int 0))).length = dp + nn := by simp [tab_len]; omega
          rw [List.getElem?_append_right (by rw [e1]; omega), e1, List.getElem?_drop, show dp + nn + (j - (dp + nn)) = j by omega, tab_get hj, if_neg (by omega)]
    · rw [List.getElem?_eq_none (by simp [tab_len]; omega), List.getElem?_eq_none (by simp [tab_len]; omega)]
  rw [el] at B2
  obtain ⟨cb', hcb, AB⟩ := AC.of_arv B2 (by rw [n_nat l2, tab_len])
  have hK0 := okp_of X hL
  have hK1 : OKp s.heap T'.heap (b :: ws) := ⟨Nat.le_trans hK0.1 K.1, fun x cx q1 q2 => K.2.1 x cx (hK0.2 x cx q1 fun z => q2 (List.mem_cons_of_mem _ z)) fun z => q2 (by rw [List.mem_singleton.mp z]; exact List.mem_cons_self ..)⟩
  obtain ⟨L2, X2, hL2⟩ := restand (s' := s.setVm vm0) X' hK1
  obtain ⟨U, st', r⟩ := kk cb' AB T' ⟨vm0, k0, L2, X2, hS, Nat.le_trans hk0 K.1, hZ, ho, fun y hy => by
    rcases List.mem_cons.mp (hL2 y hy) with q | q
    · rw [q]; exact b4
    · exact Or.inr q, I.put hi K hcb⟩
  exact ⟨U, st _ st', r⟩
end Copy
end Walk
end Jvm.OwnKit
namespace Jvm.OwnKit
open Jvm Jvm.ClassFile Sem Op Lib Jvm.Free Jvm.Stand Jvm.LawKit Jvm.RoadKit Bundle
/-! what is known of a String: its chars -/
section StrDefs
def lo8 (c : Int32) : Int32 := c.toInt8.toInt32
def hi8 (c : Int32) : Int32 := (c >>> ((8 : Int32) &&& 31)).toInt8.toInt32
def lw8 (c : Int32) : Int32 := (c >>> ((0 : Int32) &&& 31)).toInt8.toInt32
def lat (cs : List Int32) : Bool := cs.all fun c => !decide (255 < c)
def cdOf (cs : List Int32) : Int32 := if lat cs then 0 else 1
def oWide (cs : List Int32) : List Value := tab (2 * cs.length) fun j => .int (if j % 2 = 0 then lw8 (cs.getD (j / 2) 0) else hi8 (cs.getD (j / 2) 0))
def oBytes (cs : List Int32) : List Value := if lat cs then tab cs.length (fun j => .int (lo8 (cs.getD j 0))) else oWide cs
def Chars (cs : List Int32) : Prop := (∀ c ∈ cs, ¬ c < 0 ∧ ¬ (65535 : Int32) < c) ∧ cs.length ≤ 4000
def SC (Z : State) (t : Addr) (cx ct : Cell) (cs : List Int32) : Prop :=
  EC Z cx "java/lang/String" ∧ FC Z cx "java/lang/String" "value" "[B" (.ref t) ∧ FC Z cx "java/lang/String" "coder" "B" (.int (cdOf cs)) ∧ AC Z ct .byte (oBytes cs) ∧ Chars cs
theorem lat_iff {cs : List Int32} : lat cs = true ↔ ∀ c ∈ cs, ¬ (255 : Int32) < c := by simp [lat]
theorem cd_cases (cs : List Int32) : (lat cs = true ∧ cdOf cs = 0) ∨ (lat cs = false ∧ cdOf cs = 1) := by
  cases h : lat cs
  · exact Or.inr ⟨rfl, by simp [cdOf, h]⟩
  · exact Or.inl ⟨rfl, by simp [cdOf, h]⟩
theorem nar_cd (cs : List Int32) : nar .byte (cdOf cs) = cdOf cs := by rcases cd_cases cs with ⟨-, h⟩ | ⟨-, h⟩ <;> rw [h] <;> decide
theorem bytes_len (cs : List Int32) : (oBytes cs).length = if lat cs then cs.length else 2 * cs.length := by
  unfold oBytes; split <;> simp [oWide, tab_len]
theorem bytes_lat {cs : List Int32} (h : lat cs = true) : oBytes cs = tab cs.length (fun j => .int (lo8 (cs.getD j 0))) := by simp [oBytes, h]
theorem bytes_wide {cs : List Int32} (h : lat cs = false) : oBytes cs = oWide cs := by simp [oBytes, h]
theorem getD_mem {cs : List Int32} {i : Nat} (hi : i < cs.length) : cs.getD i 0 ∈ cs := by
  rw [List.getD_eq_getElem?_getD, List.getElem?_eq_getElem hi]; exact List.getElem_mem hi
/-- length()'s shift -/
theorem shr_len (cs : List Int32) (h : cs.length ≤ 4000) : Int32.ofNat (oBytes cs).length >>> (cdOf cs &&& 31) = Int32.ofNat cs.length := by
  rw [bytes_len]
  rcases cd_cases cs with ⟨h1, h2⟩ | ⟨h1, h2⟩
  · rw [h2, h1, if_pos rfl]
    apply i_eq
    rw [c_ishr _ 0 0 (by decide)]; simp
  · rw [h2, h1, if_neg (by decide)]
    apply i_eq
    rw [c_ishr _ 1 1 (by decide), n_int (by omega), n_int (by omega)]; omega
theorem lo8_back {c : Int32} (h0 : ¬ c < 0) (h1 : ¬ (255 : Int32) < c) : (lo8 c &&& 255).toUInt32.toUInt16.toUInt32.toInt32 = c := by
  rw [i2c_mask]
  apply i_eq
  rw [c_mask _ 255 8 (by decide) (by decide)]
  have q := c_i2b c
  rw [i_lt] at h0 h1
  have e0 : (0 : Int32).toInt = 0 := by decide
  have e1 : (255 : Int32).toInt = 255 := by decide
  rw [e0] at h0; rw [e1] at h1
  have : (lo8 c).toInt = c.toInt8.toInt32.toInt := rfl
  rw [this]; omega
theorem nar_char_id {c : Int32} (h0 : ¬ c < 0) (h1 : ¬ (65535 : Int32) < c) : nar .char c = c := by
  apply i_eq
  have q := c_i2c c
  rw [i_lt] at h0 h1
  have e0 : (0 : Int32).toInt = 0 := by decide
  have e1 : (65535 : Int32).toInt = 65535 := by decide
  rw [e0] at h0; rw [e1] at h1
  show c.toUInt32.toUInt16.toUInt32.toInt32.toInt = _
  omega
theorem nar_bool01 {x : Int32} (h : x = 0 ∨ x = 1) : nar .boolean x = x := by rcases h with rfl | rfl <;> decide
theorem fits_cd (cs : List Int32) : fits .byte (.int (cdOf cs)) = true := by rcases cd_cases cs with ⟨-, h⟩ | ⟨-, h⟩ <;> rw [h] <;> decide
/-- coderFromArrayLen's answer -/
theorem cfl_val {cs : List Int32} {n : Nat} (hn : cs.length = n) (h4 : cs.length ≤ 4000) (h0 : 0 < n) : (XT.ushr (Int32.ofNat n - Int32.ofNat (oBytes cs).length) 31).toInt8.toInt32 = cdOf cs := by
  rw [bytes_len]
  rcases cd_cases cs with ⟨h1, h2⟩ | ⟨h1, h2⟩
  · rw [h2, h1, if_pos rfl, hn, Int32.sub_self]; decide
  · rw [h2, h1, if_neg (by decide)]
    have e : XT.ushr (Int32.ofNat n - Int32.ofNat (2 * cs.length)) 31 = 1 := by
      apply i_eq
      have q := c_isub (Int32.ofNat n) (Int32.ofNat (2 * cs.length))
      have r := rng32 (Int32.ofNat n - Int32.ofNat (2 * cs.length))
      rw [n_int (by omega), n_int (by omega)] at q
      have u := c_iushr (Int32.ofNat n - Int32.ofNat (2 * cs.length)) 31 31 (by decide) (by decide)
      have e1 : (1 : Int32).toInt = 1 := by decide
      show ((Int32.ofNat n - Int32.ofNat (2 * cs.length)).toUInt32 >>> ((31 : Int32) &&& 31).toUInt32).toInt32.toInt = _
      rw [u, e1]
      omega
    rw [e]; decide
theorem shl_1 (n : Nat) (h : n ≤ 100000) : Int32.ofNat n <<< ((1 : Int32) &&& 31) = Int32.ofNat (2 * n) := by
  apply i_eq
  have q := c_ishl (Int32.ofNat n) 1 1 (by decide)
  have r := rng32 (Int32.ofNat n <<< ((1 : Int32) &&& 31))
  rw [n_int (by omega)] at q
  rw [n_int (by omega)]
  omega
theorem wide_lo {cs : List Int32} {i : Nat} (hi : i < cs.length) : (oWide cs)[2 * i]? = some (.int (lw8 (cs.getD i 0))) := by
  unfold oWide; rw [tab_get (by omega), if_pos (by omega), show 2 * i / 2 = i by omega]
theorem wide_hi {cs : List Int32} {i : Nat} (hi : i < cs.length) : (oWide cs)[2 * i + 1]? = some (.int (hi8 (cs.getD i 0))) := by
  unfold oWide; rw [tab_get (by omega), if_neg (by omega), show (2 * i + 1) / 2 = i by omega]
theorem wide_back {c : Int32} (h0 : ¬ c < 0) (h1 : ¬ (65535 : Int32) < c) : (((lw8 c &&& 255) <<< ((0 : Int32) &&& 31)) ||| ((hi8 c &&& 255) <<< ((8 : Int32) &&& 31))).toUInt32.toUInt16.toUInt32.toInt32 = c := by
  have a1 := c_ishr c 0 0 (by decide)
  have a2 := c_i2b (c >>> ((0 : Int32) &&& 31))
  have a3 := c_mask (lw8 c) 255 8 (by decide) (by decide)
  have a4 := c_ishl (lw8 c &&& 255) 0 0 (by decide)
  have b1 := c_ishr c 8 8 (by decide)
  have b2 := c_i2b (c >>> ((8 : Int32) &&& 31))
  have b3 := c_mask (hi8 c) 255 8 (by decide) (by decide)
  have b4 := c_ishl (hi8 c &&& 255) 8 8 (by decide)
  have r1 := rng32 ((lw8 c &&& 255) <<< ((0 : Int32) &&& 31))
  have r2 := rng32 ((hi8 c &&& 255) <<< ((8 : Int32) &&& 31))
  have e1 : (lw8 c).toInt = (c >>> ((0 : Int32) &&& 31)).toInt8.toInt32.toInt := rfl
  have e2 : (hi8 c).toInt = (c >>> ((8 : Int32) &&& 31)).toInt8.toInt32.toInt := rfl
  have z0 : (0 : Int32).toInt = 0 := by decide
  have z1 : (65535 : Int32).toInt = 65535 := by decide
  rw [i_lt, z0] at h0
  rw [i_lt, z1] at h1
  have p8 : ((2 ^ 8 : Nat) : Int) = 256 := by decide
  have p0 : ((2 ^ 0 : Nat) : Int) = 1 := by decide
  rw [p0] at a1 a4
  rw [p8] at a3 b1 b3 b4
  have o := c_or' ((lw8 c &&& 255) <<< ((0 : Int32) &&& 31)) ((hi8 c &&& 255) <<< ((8 : Int32) &&& 31)) 8 (by decide) 256 (by decide) (by omega) (by omega) (by omega)
  have u := c_i2c (((lw8 c &&& 255) <<< ((0 : Int32) &&& 31)) ||| ((hi8 c &&& 255) <<< ((8 : Int32) &&& 31)))
  apply i_eq
  omega
theorem ch_nil : Chars [] := ⟨fun _ h => (nomatch h), by decide⟩
theorem ch_cons {cs : List Int32} (v : Int32) (h : Chars cs) (hl : cs.length < 4000) : Chars (nar .char v :: cs) := ⟨fun c hc => by
  rcases List.mem_cons.mp hc with rfl | hc
  · exact rng_char (fits_nar_char v)
  · exact h.1 c hc, hl⟩
theorem lt_65535 {c : Int32} (h : ¬ (255 : Int32) < c) : ¬ (65535 : Int32) < c := by
  rw [i_lt] at h ⊢
  have e1 : (255 : Int32).toInt = 255 := by decide
  have e2 : (65535 : Int32).toInt = 65535 := by decide
  omega
theorem msk_lat (v : Int32) : ¬ (v &&& 255).toUInt32.toUInt16.toUInt32.toInt32 < 0 ∧ ¬ (255 : Int32) < (v &&& 255).toUInt32.toUInt16.toUInt32.toInt32 := by
  rw [i2c_mask]
  have h := c_and v 255 (by decide)
  have e1 : (255 : Int32).toInt = 255 := by decide
  have e2 : (0 : Int32).toInt = 0 := by decide
  rw [i_lt, i_lt]; omega
theorem msk_nar (v : Int32) : ¬ (255 : Int32) < nar .char (v &&& 255).toUInt32.toUInt16.toUInt32.toInt32 := by
  rw [nar_char_id (msk_lat v).1 (lt_65535 (msk_lat v).2)]; exact (msk_lat v).2
theorem lo8_inj {x y : Int32} (h0 : ¬ x < 0) (h1 : ¬ (255 : Int32) < x) (k0 : ¬ y < 0) (k1 : ¬ (255 : Int32) < y) (h : lo8 x = lo8 y) : x = y := by
  rw [← lo8_back h0 h1, ← lo8_back k0 k1, h]
/-- r: where ch lies first among cs, or -1 -/
def IdxR (cs : List Int32) (ch r : Int32) : Prop := (r = -1 ∧ ∀ j, j < cs.length → ¬ cs.getD j 0 = ch) ∨ ∃ i, i < cs.length ∧ r = Int32.ofNat i ∧ cs.getD i 0 = ch ∧ ∀ j, j < i → ¬ cs.getD j 0 = ch
theorem shr_1 (n : Nat) (h : n ≤ 100000) : Int32.ofNat (2 * n) >>> ((1 : Int32) &&& 31) = Int32.ofNat n := by
  apply i_eq
  rw [c_ishr _ 1 1 (by decide), n_int (by omega), n_int (by omega)]; omega
theorem lt_65536 {c : Int32} (h : ¬ (65535 : Int32) < c) : c < 65536 := by
  rw [i_lt] at h ⊢
  have e1 : (65536 : Int32).toInt = 65536 := by decide
  have e2 : (65535 : Int32).toInt = 65535 := by decide
  omega
theorem lat_cons {c : Int32} {cs : List Int32} (h : ¬ (255 : Int32) < c) (hl : lat cs = true) : lat (c :: cs) = true := lat_iff.mpr fun q hq => by
  rcases List.mem_cons.mp hq with rfl | hq
  · exact h
  · exact lat_iff.mp hl q hq
theorem nar_nar (x : Int32) : nar .char (nar .char x) = nar .char x := nar_char_id (rng_char (fits_nar_char x)).1 (rng_char (fits_nar_char x)).2
theorem n_sub {a b : Nat} (h : a ≤ b) (hb : b < 2147483648) : Int32.ofNat b - Int32.ofNat a = Int32.ofNat (b - a) := by
  rw [← Int32.toInt_inj, n_int (by omega)]
  have q := c_isub (Int32.ofNat b) (Int32.ofNat a)
  rw [n_int hb, n_int (by omega)] at q
  have r := rng32 (Int32.ofNat b - Int32.ofNat a)
  omega
def subL (cs : List Int32) (a b : Nat) : List Int32 := (cs.drop a).take (b - a)
theorem subL_len {cs : List Int32} {a b : Nat} (hb : b ≤ cs.length) : (subL cs a b).length = b - a := by simp [subL]; omega
theorem subL_get {cs : List Int32} {a b j : Nat} (hj : j < b - a) : (subL cs a b).getD j 0 = cs.getD (a + j) 0 := by
  rw [List.getD_eq_getElem?_getD, List.getD_eq_getElem?_getD, subL, List.getElem?_take, if_pos hj, List.getElem?_drop]
theorem subL_mem {cs : List Int32} {a b : Nat} {c : Int32} (h : c ∈ subL cs a b) : c ∈ cs := List.mem_of_mem_drop (List.mem_of_mem_take h)
theorem subL_lat {cs : List Int32} {a b : Nat} (h : lat cs = true) : lat (subL cs a b) = true := lat_iff.mpr fun c hc => lat_iff.mp h c (subL_mem hc)
theorem subL_ch {cs : List Int32} {a b : Nat} (h : Chars cs) : Chars (subL cs a b) := ⟨fun c hc => h.1 c (subL_mem hc), by have := h.2; simp [subL]; omega⟩
theorem subL_all (cs : List Int32) : subL cs 0 cs.length = cs := by simp [subL]
end StrDefs
end Jvm.OwnKit
namespace Jvm.OwnKit
open Jvm Jvm.ClassFile Sem Op Lib Jvm.Free Jvm.Stand Jvm.LawKit Jvm.RoadKit Bundle
/-! what is known of a StringBuilder -/
section SbDefs
/-- a coder and its width -/
def CW (cd : Int32) (w : Nat) : Prop := (cd = 0 ∧ w = 1) ∨ (cd = 1 ∧ w = 2)
theorem shl_0 (x : Int32) : x <<< ((0 : Int32) &&& 31) = x := by
  apply i_eq
  have q := c_ishl x 0 0 (by decide)
  have r := rng32 (x <<< ((0 : Int32) &&& 31))
  have r' := rng32 x
  have p0 : ((2 ^ 0 : Nat) : Int) = 1 := by decide
  rw [p0] at q
  omega
theorem shr_0 (x : Int32) : x >>> ((0 : Int32) &&& 31) = x := by
  apply i_eq
  rw [c_ishr _ 0 0 (by decide)]
  have p0 : ((2 ^ 0 : Nat) : Int) = 1 := by decide
  rw [p0]; omega
theorem CW.shl {cd : Int32} {w k : Nat} (h : CW cd w) (hk : k ≤ 100000) : Int32.ofNat k <<< (cd &&& 31) = Int32.ofNat (w * k) := by
  rcases h with ⟨rfl, rfl⟩ | ⟨rfl, rfl⟩
  · rw [shl_0, Nat.one_mul]
  · exact shl_1 k hk
theorem CW.shr {cd : Int32} {w k : Nat} (h : CW cd w) (hk : k ≤ 100000) : Int32.ofNat (w * k) >>> (cd &&& 31) = Int32.ofNat k := by
  rcases h with ⟨rfl, rfl⟩ | ⟨rfl, rfl⟩
  · rw [shr_0, Nat.one_mul]
  · exact shr_1 k hk
theorem CW.w12 {cd : Int32} {w : Nat} (h : CW cd w) : w = 1 ∨ w = 2 := by
  rcases h with ⟨-, rfl⟩ | ⟨-, rfl⟩
  · exact Or.inl rfl
  · exact Or.inr rfl
theorem sub_pos {a b : Nat} (ha : a < 1000000000) (hb : b < 1000000000) : (0 : Int32) < Int32.ofNat a - Int32.ofNat b ↔ b < a := by
  rw [i_lt]
  have q := c_isub (Int32.ofNat a) (Int32.ofNat b)
  have r := rng32 (Int32.ofNat a - Int32.ofNat b)
  rw [n_int (by omega), n_int (by omega)] at q
  have e0 : (0 : Int32).toInt = 0 := by decide
  omega
/-- a builder's capacity behind ensureCapacityInternal -/
def grow (cap mn : Nat) : Nat := if mn ≤ cap then cap else cap + if mn - cap < cap + 2 then cap + 2 else mn - cap
theorem grow_ge (cap mn : Nat) : mn ≤ grow cap mn := by unfold grow; split <;> (try split) <;> omega
theorem grow_ge' (cap mn : Nat) : cap ≤ grow cap mn := by unfold grow; split <;> (try split) <;> omega
theorem max_n {b c : Nat} (hb : b < 2147483648) (hc : c < 2147483648) : (if Int32.ofNat b < Int32.ofNat c then Int32.ofNat c else Int32.ofNat b) = Int32.ofNat (if b < c then c else b) := by
  by_cases h : b < c
  · rw [if_pos h, if_pos ((n_lt hb hc).mpr h)]
  · rw [if_neg h, if_neg (fun q => h ((n_lt hb hc).mp q))]
def BC (Z : State) (csb : Cell) (t : Addr) (cd : Int32) (cnt : Nat) : Prop :=
  EC Z csb "java/lang/StringBuilder" ∧ FC Z csb "java/lang/AbstractStringBuilder" "value" "[B" (.ref t) ∧ FC Z csb "java/lang/AbstractStringBuilder" "coder" "B" (.int cd) ∧ FC Z csb "java/lang/AbstractStringBuilder" "count" "I" (.int (Int32.ofNat cnt))
def wOf (cs : List Int32) : Nat := if lat cs then 1 else 2
def oAt (cs : List Int32) (j : Nat) : Value := (oBytes cs).getD j (.int 0)
theorem cw_of (cs : List Int32) : CW (cdOf cs) (wOf cs) := by
  rcases cd_cases cs with ⟨h1, h2⟩ | ⟨h1, h2⟩
  · exact Or.inl ⟨h2, by simp [wOf, h1]⟩
  · exact Or.inr ⟨h2, by simp [wOf, h1]⟩
theorem oB_len (cs : List Int32) : (oBytes cs).length = wOf cs * cs.length := by
  rw [bytes_len, wOf]; split <;> omega
theorem oB_tab (cs : List Int32) : oBytes cs = tab (wOf cs * cs.length) (oAt cs) := by rw [← oB_len]; exact tab_list _ _
theorem oAt_lat {cs : List Int32} (h : lat cs = true) {j : Nat} (hj : j < cs.length) : oAt cs j = .int (lo8 (cs.getD j 0)) := by
  rw [oAt, bytes_lat h, List.getD_eq_getElem?_getD, tab_get hj]; rfl
theorem getD_app {cs ds : List Int32} {j : Nat} : (cs ++ ds).getD j 0 = if j < cs.length then cs.getD j 0 else ds.getD (j - cs.length) 0 := by
  by_cases h : j < cs.length
  · rw [if_pos h, List.getD_eq_getElem?_getD, List.getD_eq_getElem?_getD, List.getElem?_append_left h]
  · rw [if_neg h, List.getD_eq_getElem?_getD, List.getD_eq_getElem?_getD, List.getElem?_append_right (by omega)]
theorem lat_app {cs ds : List Int32} (h : lat cs = true) (h' : lat ds = true) : lat (cs ++ ds) = true := lat_iff.mpr fun c hc => by
  rcases List.mem_append.mp hc with q | q
  · exact lat_iff.mp h c q
  · exact lat_iff.mp h' c q
theorem ch_app {cs ds : List Int32} (h : Chars cs) (h' : Chars ds) (hl : cs.length + ds.length ≤ 4000) : Chars (cs ++ ds) := ⟨fun c hc => by
  rcases List.mem_append.mp hc with q | q
  · exact h.1 c q
  · exact h'.1 c q, by rw [List.length_append]; exact hl⟩
theorem oAt_app {cs ds : List Int32} (h : lat cs = true) (h' : lat ds = true) {j : Nat} (hj : j < cs.length + ds.length) : oAt (cs ++ ds) j = if j < cs.length then oAt cs j else oAt ds (j - cs.length) := by
  rw [oAt_lat (lat_app h h') (by rw [List.length_append]; exact hj), getD_app]
  by_cases q : j < cs.length
  · rw [if_pos q, if_pos q, oAt_lat h q]
  · rw [if_neg q, if_neg q, oAt_lat h' (by omega)]
/-- a builder of the chars cs, room for cap chars -/
def SBF (Z : State) (t : Addr) (csb ct : Cell) (cs : List Int32) (cap : Nat) : Prop :=
  BC Z csb t (cdOf cs) cs.length ∧ (∃ f, AC Z ct .byte (tab (wOf cs * cap) f) ∧ ∀ j, j < wOf cs * cs.length → f j = oAt cs j) ∧ cs.length ≤ cap ∧ cap ≤ 2000 ∧ Chars cs
theorem cd_lat {cs : List Int32} (h : lat cs = true) : cdOf cs = 0 := by simp [cdOf, h]
theorem w_lat {cs : List Int32} (h : lat cs = true) : wOf cs = 1 := by simp [wOf, h]
theorem byte2 (x : Int32) : x.toInt8.toInt32.toInt8.toInt32 = x.toInt8.toInt32 := by
  apply i_eq
  have a := c_i2b x
  have b := c_i2b x.toInt8.toInt32
  omega
end SbDefs
end Jvm.OwnKit
namespace Jvm.OwnKit
open Jvm Jvm.ClassFile Sem Op Lib Jvm.Free Jvm.Stand Jvm.LawKit Jvm.RoadKit Bundle
theorem ba_start {a : Array Value} {s : State} {t : Term} {d : Addr} {n : Nat} (hev : t.eval a s none [] s = some (.ref d)) (harr : (Jvm.Cond.arrayClass .byte).before a s = true) (hx : (Jvm.Cond.exactly t "[B").before a s = true) (hl : (Jvm.Cond.eq (.length t) (.int (Int32.ofNat n))).before a s = true) (hn : n < 2147483648) :
    ∃ D, s.heap[d]? = some D ∧ s.arrayAt? d = some D ∧ s.isArrayOf D .byte ∧ D.vm ≠ .unknown ∧ D.slots.size = n := by
  obtain ⟨d1, cB, D, kB, hev1, hfcB, hcellD, hkB, hstatD, hclsD, -⟩ := Cond.exactly_spec hx
  cases hev.symm.trans hev1
  have hl := Cond.eq_int hl rfl
  obtain ⟨d', D', hev', harrAt, hlen⟩ := Term.length_spec hl
  cases hev.symm.trans hev'
  obtain ⟨hcellD', hknD, -, -⟩ := State.arrayAt?_spec harrAt
  cases hcellD.symm.trans hcellD'
  have hsz : D.slots.size = n := by
    by_cases h31 : D.slots.size < 2 ^ 31
    · have e : (Term.length t).eval a s none [] s = some (.int (Int32.ofNat D.slots.size)) := by simp [Term.eval, hev, harrAt, h31]
      have := Option.some.inj (e.symm.trans hl)
      have h2 : Int32.ofNat D.slots.size = Int32.ofNat n := by simpa using this
      exact (n_inj (by omega) hn).mp h2
    · have e : (Term.length t).eval a s none [] s = none := by simp [Term.eval, hev, harrAt, h31]
      rw [e] at hl; cases hl
  obtain ⟨cB', kB', comp, hnameB, hkB', hkindB⟩ := Cond.arrayClass_spec harr
  have eBA : ("[" ++ FieldType.toString .byte) = "[B" := by decide
  rw [eBA] at hnameB
  cases hfcB.symm.trans hnameB
  cases hkB.symm.trans hkB'
  exact ⟨D, hcellD, harrAt, ⟨(fun q h => by rw [h] at hstatD; cases hstatD), kB, (by rw [hclsD]; exact hkB), comp, hkindB⟩, hknD, hsz⟩
/-- a byte[] of the start, its bytes by a formula -/
theorem ba_all {a : Array Value} {s : State} {t E : Term} {d : Addr} {n : Nat} {g : Nat → Int32} (hev : ∀ idx, t.eval a s none idx s = some (.ref d)) (harr : (Jvm.Cond.arrayClass .byte).before a s = true) (hx : (Jvm.Cond.exactly t "[B").before a s = true) (hl : (Jvm.Cond.eq (.length t) (.int (Int32.ofNat n))).before a s = true) (hn : n < 2147483648)
    (hall : (Jvm.Cond.all t (.eq (.elem t (.index 0)) E)).before a s = true) (hE : ∀ i, i < n → E.eval a s none [i] s = some (.int (g i))) (hg : ∀ i, i < n → fits .byte (.int (g i)) = true) : ∃ D, s.heap[d]? = some D ∧ AC s D .byte (tab n fun j => .int (g j)) := by
  obtain ⟨D, h1, h2, h3, h4, h5⟩ := ba_start (hev []) harr hx hl hn
  refine ⟨D, h1, h3, h4, ?_, by rw [tab_len]; exact hn, fun v hv => ?_⟩
  · refine List.ext_getElem? fun j => ?_
    by_cases hj : j < n
    · rw [tab_get hj]
      have q := Cond.all_elim (hev []) h2 (Cond.before_iff.mp hall) j (by omega)
      obtain ⟨a', j', cell, r1, r2, r3, r4, r5⟩ := Term.elem_spec (eqv_i (hE j hj) q)
      cases (hev [j]).symm.trans r1
      cases h2.symm.trans r3
      have : j' = Int32.ofNat j := by simpa [Term.eval] using r2.symm
      subst this
      rw [n_nat (by omega)] at r5
      simpa using r5
    · rw [List.getElem?_eq_none (by simp; omega), List.getElem?_eq_none (by rw [tab_len]; omega)]
  · obtain ⟨j, hj, rfl⟩ := List.getElem_of_mem hv
    rw [tab_len] at hj
    have := tab_get (f := fun j => Value.int (g j)) hj
    rw [List.getElem?_eq_getElem (by rw [tab_len]; exact hj)] at this
    rw [Option.some.inj this]; exact hg j hj
theorem eqv_ref {Z : State} {args : Array Value} {X F : Term} {y : Addr} (hF : F.eval args Z none [] Z = some (.ref y)) (h : (Jvm.Cond.eq X F).value args Z none Z [] = some true) : X.eval args Z none [] Z = some (.ref y) := by
  simp only [Cond.value, hF] at h
  cases hX : X.eval args Z none [] Z with
  | none => rw [hX] at h; simp at h
  | some v =>
    rw [hX] at h
    cases v <;> simp at h
    rw [h]
theorem eqv_null {Z : State} {args : Array Value} {X : Term} (h : (Jvm.Cond.eq X .null).value args Z none Z [] = some true) : X.eval args Z none [] Z = some .null := by
  simp only [Cond.value, Term.eval] at h
  cases hX : X.eval args Z none [] Z with
  | none => rw [hX] at h; simp at h
  | some v =>
    rw [hX] at h
    cases v <;> simp at h
    rfl
theorem fld_start {Z : State} {args : Array Value} {t : Term} {a : Addr} {C n d : String} {v : Value} (e : t.eval args Z none [] Z = some (.ref a)) (h : (Term.field t C n d).eval args Z none [] Z = some v) : Fld Z Z.heap a C n d v := by
  refine Fld.start ?_
  simp only [Term.eval, e] at h
  exact h
theorem exa_cell {Z : State} {h : Heap} {a : Addr} {C : String} (E : Exa Z h a C) : ∃ c, h[a]? = some c ∧ EC Z c C := by
  obtain ⟨cl, k, hh, r⟩ := E
  exact ⟨cl, hh, k, r⟩
/-- an array of the start, its length and its elements said one by one -/
theorem arr_start {Z : State} {args : Array Value} {t : Term} {a : Addr} {ty : FieldType} {n : Nat} {f : Nat → Value} (e : t.eval args Z none [] Z = some (.ref a)) (h : (Jvm.Cond.arrayOf t ty).value args Z none Z [] = some true) (hl : (Jvm.Cond.eq (.length t) (.int (Int32.ofNat n))).value args Z none Z [] = some true) (hn : n < 2147483648)
    (hel : ∀ j, j < n → (Term.elem t (.int (Int32.ofNat j))).eval args Z none [] Z = some (f j)) (hf : ∀ j, j < n → fits ty (f j) = true) : ∃ c, Z.heap[a]? = some c ∧ AC Z c ty (tab n f) := by
  obtain ⟨c, A⟩ := Arr.start e h
  have hl := Cond.eq_int (Cond.before_iff.mpr hl) rfl
  obtain ⟨d', D', hev', harrAt, hlen⟩ := Term.length_spec hl
  cases e.symm.trans hev'
  obtain ⟨hcellD', hknD, -, -⟩ := State.arrayAt?_spec harrAt
  cases A.1.symm.trans hcellD'
  have hsz : c.slots.size = n := by
    by_cases h31 : c.slots.size < 2 ^ 31
    · have e1 : (Term.length t).eval args Z none [] Z = some (.int (Int32.ofNat c.slots.size)) := by simp [Term.eval, e, harrAt, h31]
      have := Option.some.inj (e1.symm.trans hl)
      have h2 : Int32.ofNat c.slots.size = Int32.ofNat n := by simpa using this
      exact (n_inj (by omega) hn).mp h2
    · have e1 : (Term.length t).eval args Z none [] Z = none := by simp [Term.eval, e, harrAt, h31]
      rw [e1] at hl; cases hl
  refine ⟨c, A.1, A.2.1, A.2.2, ?_, by rw [tab_len]; exact hn, fun v hv => ?_⟩
  · refine List.ext_getElem? fun j => ?_
    by_cases hj : j < n
    · rw [tab_get hj]
      obtain ⟨a', j', cell, r1, r2, r3, r4, r5⟩ := Term.elem_spec (hel j hj)
      cases e.symm.trans r1
      cases harrAt.symm.trans r3
      have : j' = Int32.ofNat j := by simpa [Term.eval] using r2.symm
      subst this
      rw [n_nat (by omega)] at r5
      simpa using r5
    · rw [List.getElem?_eq_none (by simp; omega), List.getElem?_eq_none (by rw [tab_len]; omega)]
  · obtain ⟨j, hj, rfl⟩ := List.getElem_of_mem hv
    rw [tab_len] at hj
    have := tab_get (f := f) hj
    rw [List.getElem?_eq_getElem (by rw [tab_len]; exact hj)] at this
    rw [Option.some.inj this]; exact hf j hj
/-- a String of the start, by its chars -/
theorem str_start {Z : State} {args : Array Value} {t : Term} {a : Addr} {lit : List Int32} {n : Nat} (e : t.eval args Z none [] Z = some (.ref a)) (hx : (Jvm.Cond.exactly t "java/lang/String").value args Z none Z [] = some true) (ha : (Jvm.Cond.arrayOf (.field t "java/lang/String" "value" "[B") .byte).value args Z none Z [] = some true)
    (hl : (Jvm.Cond.eq (.length (.field t "java/lang/String" "value" "[B")) (.int (Int32.ofNat n))).value args Z none Z [] = some true) (hc : (Jvm.Cond.eq (.field t "java/lang/String" "coder" "B") (.int 0)).value args Z none Z [] = some true)
    (hel : ∀ j, j < n → (Term.elem (.field t "java/lang/String" "value" "[B") (.int (Int32.ofNat j))).eval args Z none [] Z = some (.int (lo8 (lit.getD j 0)))) (hn : lit.length = n) (hlat : lat lit = true) (hch : Chars lit) :
    ∃ u cx cu, Z.heap[a]? = some cx ∧ Z.heap[u]? = some cu ∧ SC Z u cx cu lit := by
  obtain ⟨cx, hcx, E⟩ := exa_cell (Exa.start e hx)
  have hl0 := Cond.eq_int (Cond.before_iff.mpr hl) rfl
  obtain ⟨u, D', hev', harrAt, hlen⟩ := Term.length_spec hl0
  have h4 := hch.2
  obtain ⟨cu, hcu, A⟩ := arr_start (f := fun j => .int (lo8 (lit.getD j 0))) hev' ha hl (by omega) hel (fun j hj => fits_nar_byte _)
  refine ⟨u, cx, cu, hcx, hcu, E, FC.of (fld_start e hev') hcx, ?_, ?_, hch⟩
  · rw [show cdOf lit = 0 from by simp [cdOf, hlat]]
    exact FC.of (fld_start e (eqv_i rfl hc)) hcx
  · rw [bytes_lat hlat, hn]; exact A
end Jvm.OwnKit
namespace Jvm.OwnKit
open Jvm Jvm.ClassFile Sem Op Lib Jvm.Free Jvm.Stand Jvm.LawKit Jvm.RoadKit Bundle
/-! decimal digits -/
theorem n_negI {a : Nat} (ha : a < 2147483648) : (-(Int32.ofNat a)).toInt = -(a : Int) := by
  have q := c_ineg (Int32.ofNat a)
  have r := rng32 (-(Int32.ofNat a))
  rw [n_int ha] at q
  omega
theorem neg_lt {a b : Nat} (ha : a < 2147483648) (hb : b < 2147483648) : -(Int32.ofNat a) < -(Int32.ofNat b) ↔ b < a := by
  rw [i_lt, n_negI ha, n_negI hb]; omega
theorem mul10 {q : Nat} (hq : q ≤ 200000000) : (10 : Int32) * -(Int32.ofNat q) = -(Int32.ofNat (10 * q)) := by
  apply i_eq
  have a := c_imul 10 (-(Int32.ofNat q))
  have r := rng32 ((10 : Int32) * -(Int32.ofNat q))
  have e : (10 : Int32).toInt = 10 := by decide
  rw [n_negI (by omega), e] at a
  rw [n_negI (by omega)]
  omega
theorem div100 {m : Nat} (hm : m < 2147483648) : -(Int32.ofNat m) / 100 = -(Int32.ofNat (m / 100)) := by
  apply i_eq
  have e : (100 : Int32).toInt = 100 := by decide
  have q := c_idiv (-(Int32.ofNat m)) 100 100 e (by decide)
  rw [n_negI hm] at q
  rw [n_negI (by omega)]
  rcases Nat.eq_zero_or_pos m with h | h
  · subst h; have := q.1 (by omega); rw [this]; rfl
  · have := q.2 (by omega); rw [this]; omega
theorem rem100 {m : Nat} (hm : m < 2147483648) : -(Int32.ofNat (m / 100)) * 100 - -(Int32.ofNat m) = Int32.ofNat (m % 100) := by
  apply i_eq
  have e : (100 : Int32).toInt = 100 := by decide
  have a := c_imul (-(Int32.ofNat (m / 100))) 100
  have r := rng32 (-(Int32.ofNat (m / 100)) * 100)
  rw [n_negI (by omega), e] at a
  have b := c_isub (-(Int32.ofNat (m / 100)) * 100) (-(Int32.ofNat m))
  have r2 := rng32 (-(Int32.ofNat (m / 100)) * 100 - -(Int32.ofNat m))
  rw [n_negI hm] at b
  rw [n_int (by omega)]
  omega
theorem b_small {v : Nat} (hv : v < 128) : (Int32.ofNat v).toInt8.toInt32 = Int32.ofNat v := by
  apply i_eq
  have q := c_i2b (Int32.ofNat v)
  rw [n_int (by omega)] at q ⊢
  omega
theorem n_mul (a b : Nat) : Int32.ofNat a * Int32.ofNat b = Int32.ofNat (a * b) := (Int32.ofNat_mul a b).symm
theorem n_mod {a b : Nat} (ha : a < 2147483648) (hb : b < 2147483648) : Int32.ofNat a % Int32.ofNat b = Int32.ofNat (a % b) := by
  apply i_eq
  have q := (c_irem (Int32.ofNat a) (Int32.ofNat b) b (n_int hb)).1 (by rw [n_int ha]; omega)
  have : a % b ≤ a := Nat.mod_le _ _
  rw [q, n_int ha, n_int (by omega)]; rfl
theorem n_div {a b : Nat} (ha : a < 2147483648) (hb : b < 2147483648) : Int32.ofNat a / Int32.ofNat b = Int32.ofNat (a / b) := by
  apply i_eq
  have hne : Int32.ofNat b ≠ -1 := fun z => by
    have := congrArg Int32.toInt z
    rw [n_int hb] at this
    have e : (-1 : Int32).toInt = -1 := by decide
    omega
  have q := (c_idiv (Int32.ofNat a) (Int32.ofNat b) b (n_int hb) hne).1 (by rw [n_int ha]; omega)
  have : a / b ≤ a := Nat.div_le_self _ _
  rw [q, n_int ha, n_int (by omega)]; rfl
/-- m has e digits -/
def DL (m e : Nat) : Prop := 1 ≤ e ∧ m < 10 ^ e ∧ (e = 1 ∨ 10 ^ (e - 1) ≤ m)
theorem DL.uniq {m e e' : Nat} (h : DL m e) (h' : DL m e') : e = e' := by
  have key : ∀ {e e' : Nat}, DL m e → DL m e' → ¬ e < e' := fun {e e'} h h' q => by
    rcases h'.2.2 with z | z
    · have := h.1; omega
    · have p : 10 ^ e ≤ 10 ^ (e' - 1) := Nat.pow_le_pow_right (by decide) (by omega)
      have := h.2.1; omega
  have a := key h h'
  have b := key h' h
  omega
theorem DL.step {m e : Nat} (h : DL m e) (hm : 100 ≤ m) : 3 ≤ e ∧ DL (m / 100) (e - 2) := by
  have h1 := h.1
  have h3 : 3 ≤ e := by
    by_cases q : e ≤ 2
    · have : 10 ^ e ≤ 10 ^ 2 := Nat.pow_le_pow_right (by decide) q
      have := h.2.1; omega
    · omega
  refine ⟨h3, by omega, ?_, ?_⟩
  · rw [Nat.div_lt_iff_lt_mul (by decide)]
    have : 10 ^ (e - 2) * 100 = 10 ^ e := by rw [show (100 : Nat) = 10 ^ 2 from rfl, ← Nat.pow_add]; congr 1; omega
    rw [this]; exact h.2.1
  · rcases h.2.2 with z | z
    · omega
    · refine Or.inr ((Nat.le_div_iff_mul_le (by decide)).mpr ?_)
      have : 10 ^ (e - 2 - 1) * 100 = 10 ^ (e - 1) := by rw [show (100 : Nat) = 10 ^ 2 from rfl, ← Nat.pow_add]; congr 1; omega
      rw [this]; exact z
theorem DL.last {m e : Nat} (h : DL m e) (hm : m < 100) : (e = 1 ∧ m < 10) ∨ (e = 2 ∧ 10 ≤ m) := by
  rcases h.2.2 with z | z
  · subst z; exact Or.inl ⟨rfl, h.2.1⟩
  · have h1 := h.1
    by_cases q : e = 1
    · subst q; exact Or.inl ⟨rfl, h.2.1⟩
    · by_cases q2 : e = 2
      · subst q2; exact Or.inr ⟨rfl, z⟩
      · have : 10 ^ 2 ≤ 10 ^ (e - 1) := Nat.pow_le_pow_right (by decide) (by omega)
        omega
theorem DL.le {m e b : Nat} (h : DL m e) (hm : m < 10 ^ b) (hb : 1 ≤ b) : e ≤ b := by
  rcases h.2.2 with z | z
  · omega
  · by_cases q : e ≤ b
    · exact q
    · have : 10 ^ b ≤ 10 ^ (e - 1) := Nat.pow_le_pow_right (by decide) (by omega)
      omega
/-- the decimal digits of n, d of them -/
def decL (n d : Nat) : List Int32 := (List.range d).map fun i => Int32.ofNat (48 + n / 10 ^ (d - 1 - i) % 10)
theorem decL_len (n d : Nat) : (decL n d).length = d := by simp [decL]
theorem decL_get {n d i : Nat} (hi : i < d) : (decL n d).getD i 0 = Int32.ofNat (48 + n / 10 ^ (d - 1 - i) % 10) := by
  rw [List.getD_eq_getElem?_getD, decL, List.getElem?_map, List.getElem?_range hi]; rfl
theorem decL_lat (n d : Nat) : lat (decL n d) = true := lat_iff.mpr fun c hc => by
  obtain ⟨i, -, rfl⟩ := List.mem_map.mp hc
  rw [show (255 : Int32) = Int32.ofNat 255 from rfl, n_lt (by omega) (by omega)]; omega
theorem decL_ch (n d : Nat) (hd : d ≤ 4000) : Chars (decL n d) := ⟨fun c hc => by
  obtain ⟨i, -, rfl⟩ := List.mem_map.mp hc
  exact ⟨n_nn (by omega), by rw [show (65535 : Int32) = Int32.ofNat 65535 from rfl, n_lt (by omega) (by omega)]; omega⟩, by rw [decL_len]; exact hd⟩
theorem st_idx {a : Array Value} {s : State} {C n d : String} {v : Value} (e : (Term.static C n d).eval a s none [] s = some v) : ∀ idx, (Term.static C n d).eval a s none idx s = some v := fun idx => by
  have h := e
  simp only [Term.eval] at h ⊢
  exact h
theorem dig_rem {a : Array Value} {s : State} {C n d : String} {ad : Addr} (e : (Term.static C n d).eval a s none [] s = some (.ref ad)) (harr : (Jvm.Cond.arrayClass .byte).before a s = true) (hx : (Jvm.Cond.exactly (.static C n d) "[B").before a s = true) (hl : (Jvm.Cond.eq (.length (.static C n d)) (.int 100)).before a s = true)
    (hall : (Jvm.Cond.all (.static C n d) (.eq (.elem (.static C n d) (.index 0)) (.add (.int 48) (.rem (.index 0) (.int 10))))).before a s = true) : ∃ D, s.heap[ad]? = some D ∧ AC s D .byte (tab 100 fun j => .int (Int32.ofNat (48 + j % 10))) :=
  ba_all (n := 100) (g := fun j => Int32.ofNat (48 + j % 10)) (st_idx e) harr hx hl (by decide) hall (fun i hi => by
    have e3 : (Term.add (.int 48) (.rem (.index 0) (.int 10))).eval a s none [i] s = some (Value.int (48 + Int32.ofNat i % 10)) := by simp [Term.eval]
    have e1 : Int32.ofNat i % 10 = Int32.ofNat (i % 10) := n_mod (b := 10) (by omega) (by decide)
    have e2 : (48 : Int32) + Int32.ofNat (i % 10) = Int32.ofNat (48 + i % 10) := n_add 48 _
    rw [e3, e1, e2]) fun i hi => by rw [← b_small (v := 48 + i % 10) (by omega)]; exact fits_nar_byte _
theorem dig_div {a : Array Value} {s : State} {C n d : String} {ad : Addr} (e : (Term.static C n d).eval a s none [] s = some (.ref ad)) (harr : (Jvm.Cond.arrayClass .byte).before a s = true) (hx : (Jvm.Cond.exactly (.static C n d) "[B").before a s = true) (hl : (Jvm.Cond.eq (.length (.static C n d)) (.int 100)).before a s = true)
    (hall : (Jvm.Cond.all (.static C n d) (.eq (.elem (.static C n d) (.index 0)) (.add (.int 48) (.div (.index 0) (.int 10))))).before a s = true) : ∃ D, s.heap[ad]? = some D ∧ AC s D .byte (tab 100 fun j => .int (Int32.ofNat (48 + j / 10))) :=
  ba_all (n := 100) (g := fun j => Int32.ofNat (48 + j / 10)) (st_idx e) harr hx hl (by decide) hall (fun i hi => by
    have e3 : (Term.add (.int 48) (.div (.index 0) (.int 10))).eval a s none [i] s = some (Value.int (48 + Int32.ofNat i / 10)) := by simp [Term.eval]
    have e1 : Int32.ofNat i / 10 = Int32.ofNat (i / 10) := n_div (b := 10) (by omega) (by decide)
    have e2 : (48 : Int32) + Int32.ofNat (i / 10) = Int32.ofNat (48 + i / 10) := n_add 48 _
    rw [e3, e1, e2]) fun i hi => by rw [← b_small (v := 48 + i / 10) (by omega)]; exact fits_nar_byte _
end Jvm.OwnKit
namespace Jvm.Pilot.@@N@@
open Jvm Jvm.ClassFile Sem Op Lib Jvm.Free Jvm.Stand Jvm.LawKit Jvm.RoadKit Bundle Jvm.OwnKit Jvm.Pilot.@@N@@.Jvm.D
abbrev kCap : Nat := 16
theorem pd_0 : parseMethodDescriptor "()B" = some ⟨[], some .byte⟩ := by decide +kernel
theorem pd_1 : parseMethodDescriptor "([CI[BII)I" = some ⟨[(.array .char), .int, (.array .byte), .int, .int], some .int⟩ := by decide +kernel
theorem pd_2 : parseMethodDescriptor "([CII)[B" = some ⟨[(.array .char), .int, .int], some (.array .byte)⟩ := by decide +kernel
theorem pd_3 : parseMethodDescriptor "([BI)B" = some ⟨[(.array .byte), .int], some .byte⟩ := by decide +kernel
theorem pd_4 : parseMethodDescriptor "([CIILjava/lang/Void;)V" = some ⟨[(.array .char), .int, .int, (.object "java/lang/Void")], none⟩ := by decide +kernel
theorem pd_5 : parseMethodDescriptor "(IILjava/util/function/BiFunction;)I" = some ⟨[.int, .int, (.object "java/util/function/BiFunction")], some .int⟩ := by decide +kernel
theorem pd_6 : parseMethodDescriptor "(II)V" = some ⟨[.int, .int], none⟩ := by decide +kernel
theorem pd_7 : parseMethodDescriptor "()Z" = some ⟨[], some .boolean⟩ := by decide +kernel
theorem pd_8 : parseMethodDescriptor "([BI)C" = some ⟨[(.array .byte), .int], some .char⟩ := by decide +kernel
theorem pd_9 : parseMethodDescriptor "(BB)Z" = some ⟨[.byte, .byte], some .boolean⟩ := by decide +kernel
theorem pd_10 : parseMethodDescriptor "()I" = some ⟨[], some .int⟩ := by decide +kernel
theorem pd_11 : parseMethodDescriptor "([BI[BII)Z" = some ⟨[(.array .byte), .int, (.array .byte), .int, .int], some .boolean⟩ := by decide +kernel
theorem pd_12 : parseMethodDescriptor "(ZILjava/lang/String;II)Z" = some ⟨[.boolean, .int, (.object "java/lang/String"), .int, .int], some .boolean⟩ := by decide +kernel
theorem pd_13 : parseMethodDescriptor "(Ljava/lang/Object;)Ljava/lang/Object;" = some ⟨[(.object "java/lang/Object")], some (.object "java/lang/Object")⟩ := by decide +kernel
theorem pd_14 : parseMethodDescriptor "(Ljava/lang/Object;)V" = some ⟨[(.object "java/lang/Object")], none⟩ := by decide +kernel
theorem pd_15 : parseMethodDescriptor "()[Lcom/example/cardea/cardea/request/TrustedProxies$Header;" = some ⟨[], some (.array (.object "com/example/cardea/cardea/request/TrustedProxies$Header"))⟩ := by decide +kernel
theorem pd_16 : parseMethodDescriptor "(Ljava/lang/String;)Z" = some ⟨[(.object "java/lang/String")], some .boolean⟩ := by decide +kernel
theorem pd_17 : parseMethodDescriptor "(Ljava/lang/Object;)Ljava/util/Optional;" = some ⟨[(.object "java/lang/Object")], some (.object "java/util/Optional")⟩ := by decide +kernel
theorem pd_18 : parseMethodDescriptor "()Ljava/util/Optional;" = some ⟨[], some (.object "java/util/Optional")⟩ := by decide +kernel
theorem pd_19 : parseMethodDescriptor "(I)C" = some ⟨[.int], some .char⟩ := by decide +kernel
theorem pd_20 : parseMethodDescriptor "(CII)C" = some ⟨[.char, .int, .int], some .char⟩ := by decide +kernel
theorem pd_21 : parseMethodDescriptor "([C[CI)V" = some ⟨[(.array .char), (.array .char), .int], none⟩ := by decide +kernel
theorem pd_22 : parseMethodDescriptor "(Ljava/lang/String;ICI)C" = some ⟨[(.object "java/lang/String"), .int, .char, .int], some .char⟩ := by decide +kernel
theorem pd_23 : parseMethodDescriptor "([CI)[C" = some ⟨[(.array .char), .int], some (.array .char)⟩ := by decide +kernel
theorem pd_24 : parseMethodDescriptor "([C)V" = some ⟨[(.array .char)], none⟩ := by decide +kernel
theorem pd_25 : parseMethodDescriptor "(Ljava/lang/String;)Ljava/util/Optional;" = some ⟨[(.object "java/lang/String")], some (.object "java/util/Optional")⟩ := by decide +kernel
theorem pd_26 : parseMethodDescriptor "(CC)Z" = some ⟨[.char, .char], some .boolean⟩ := by decide +kernel
theorem str_atoms {Z : State} {a0 : Array Value} (hw : ∀ d ∈ tables_1, d.before a0 Z = true) : ∀ a ∈ Bundle.stringAtoms, a.before a0 Z = true := fun d hd => by
  simp only [Bundle.stringAtoms, List.mem_cons, List.not_mem_nil, or_false] at hd
  rcases hd with rfl | rfl | rfl | rfl | rfl | rfl | rfl
  · exact (hw _ (List.mem_of_getElem? (i := 1) rfl))
  · exact (hw _ (List.mem_of_getElem? (i := 2) rfl))
  · exact (hw _ (List.mem_of_getElem? (i := 3) rfl))
  · exact (hw _ (List.mem_of_getElem? (i := 4) rfl))
  · exact (hw _ (List.mem_of_getElem? (i := 5) rfl))
  · exact (hw _ (List.mem_of_getElem? (i := 6) rfl))
  · exact (hw _ (List.mem_of_getElem? (i := 7) rfl))
theorem d_COD_0 : decode jdk_42_method_152_code 0 = .ok (.getstatic 38, 3) := by decide +kernel
theorem d_COD_3 : decode jdk_42_method_152_code 3 = .ok (.ifCond .eq 10, 3) := by decide +kernel
theorem d_COD_6 : decode jdk_42_method_152_code 6 = .ok (.aload_n 0, 1) := by decide +kernel
theorem d_COD_7 : decode jdk_42_method_152_code 7 = .ok (.getfield 15, 3) := by decide +kernel
theorem d_COD_10 : decode jdk_42_method_152_code 10 = .ok (.goto 4, 3) := by decide +kernel
theorem d_COD_13 : decode jdk_42_method_152_code 13 = .ok (.iconst 1, 1) := by decide +kernel
theorem d_COD_14 : decode jdk_42_method_152_code 14 = .ok (.ireturn, 1) := by decide +kernel
theorem pn_COD : plainFor (⟨"java/lang/String", "coder", "()B"⟩ : MethodName) = true := by first | exact plainFor_of_name (by first | (simp [plainName, overriddenIn]; done) | decide +kernel) | decide +kernel
theorem d_LEN_0 : decode jdk_42_method_54_code 0 = .ok (.aload_n 0, 1) := by decide +kernel
theorem d_LEN_1 : decode jdk_42_method_54_code 1 = .ok (.getfield 9, 3) := by decide +kernel
theorem d_LEN_4 : decode jdk_42_method_54_code 4 = .ok (.arraylength, 1) := by decide +kernel
theorem d_LEN_5 : decode jdk_42_method_54_code 5 = .ok (.aload_n 0, 1) := by decide +kernel
theorem d_LEN_6 : decode jdk_42_method_54_code 6 = .ok (.invokevirtual 335, 3) := by decide +kernel
theorem d_LEN_9 : decode jdk_42_method_54_code 9 = .ok (.ishr, 1) := by decide +kernel
theorem d_LEN_10 : decode jdk_42_method_54_code 10 = .ok (.ireturn, 1) := by decide +kernel
theorem pn_LEN : plainFor (⟨"java/lang/String", "length", "()I"⟩ : MethodName) = true := by first | exact plainFor_of_name (by first | (simp [plainName, overriddenIn]; done) | decide +kernel) | decide +kernel
section StrA
variable {l : Launch} {Z : State} {a0 : Array Value} {EL : List (String × Nat)} {zc : Int32} {x t : Addr} {cx ct : Cell} {cs : List Int32}
theorem c_COD (hw : ∀ d ∈ tables_1, d.before a0 Z = true) (hEL : EW Z a0 EL) (O2 : Sta Z Z.heap "java/lang/String" "COMPACT_STRINGS" "Z" (.int zc)) (hzc : ¬ zc = 0) (hs : SC Z t cx ct cs) :
    OCon l Z EL (⟨"java/lang/String", "coder", "()B"⟩ : MethodName) jdk_42_method_152_code 1 (some .byte) [] ({ frames := 0, cells := 0, slots := 0, locals := 0 } : Room) #[.ref x] [] [(x, cx), (t, ct)] (fun v M N => v = some (.int (cdOf cs)) ∧ M = [] ∧ N = []) := by
  refine OCon.of_wp (L0 := [.val (.ref x)]) pn_COD hEL (fun m => by first | (simp [entryFrame, mkF, argsToLocals, Value.category]; done) | rfl) ?_
  intro p e s m below meth c hk
  refine OWp.getstatic hk d_COD_0 (pc' := 3) rfl (hw _ (List.mem_of_getElem? (i := 19) rfl)) O2 ?_
  refine OWp.ifNo hk d_COD_3 (XT.i0_eq_f hzc) (pc' := 6) rfl ?_
  refine OWp.aload_n hk d_COD_6 (pc' := 7) rfl rfl rfl ?_
  refine OWp.getfield hk d_COD_7 (pc' := 10) rfl (hw _ (List.mem_of_getElem? (i := 20) rfl)) (by simp) hs.2.2.1 ?_
  refine OWp.goto hk d_COD_10 (by decide) (pc' := 14) rfl ?_
  exact OWp.retN hk (Or.inr (Or.inl rfl)) d_COD_14 ⟨by rw [nar_cd], rfl, rfl⟩ (List.Sublist.refl _) (fun _ h => h) (by decide) (by decide)
theorem c_LEN (hw : ∀ d ∈ tables_1, d.before a0 Z = true) (hEL : EW Z a0 EL) (O2 : Sta Z Z.heap "java/lang/String" "COMPACT_STRINGS" "Z" (.int zc)) (hzc : ¬ zc = 0) (hs : SC Z t cx ct cs) :
    OCon l Z EL (⟨"java/lang/String", "length", "()I"⟩ : MethodName) jdk_42_method_54_code 1 (some .int) [] ({ frames := 1, cells := 0, slots := 0, locals := 13 } : Room) #[.ref x] [] [(x, cx), (t, ct)] (fun v M N => v = some (.int (Int32.ofNat cs.length)) ∧ M = [] ∧ N = []) := by
  refine OCon.of_wp (L0 := [.val (.ref x)]) pn_LEN hEL (fun m => by first | (simp [entryFrame, mkF, argsToLocals, Value.category]; done) | rfl) ?_
  intro p e s m below meth c hk
  refine OWp.aload_n hk d_LEN_0 (pc' := 1) rfl rfl rfl ?_
  refine OWp.getfield hk d_LEN_1 (pc' := 4) rfl (hw _ (List.mem_of_getElem? (i := 13) rfl)) (by simp) hs.2.1 ?_
  refine OWp.arraylength hk d_LEN_4 (pc' := 5) rfl (by simp) hs.2.2.2.1 rfl ?_
  refine OWp.aload_n hk d_LEN_5 (pc' := 6) rfl rfl rfl ?_
  refine OWp.callV hk d_LEN_6 (pc' := 9) rfl (hw _ (List.mem_of_getElem? (i := 14) rfl)) (hw _ (List.mem_of_getElem? (i := 15) rfl)) (nfs (hw _ (List.mem_of_getElem? (i := 17) rfl))) (hw _ (List.mem_of_getElem? (i := 17) rfl)) (hw _ (List.mem_of_getElem? (i := 16) rfl)) (hw _ (List.mem_of_getElem? (i := 1) rfl)) (hw _ (List.mem_of_getElem? (i := 18) rfl)) (by decide) (by simp) hs.1 (c_COD hw hEL O2 hzc hs) rfl (by simp) rfl (lenOf pd_0 rfl) rfl (W := 1) rfl (by first | decide | (dsimp only; omega)) (by first | decide | (dsimp only; omega)) (by first | decide | (dsimp only; omega)) (by first | decide | (dsimp only; omega)) ?_
  rintro _ _ _ ⟨rfl, rfl, rfl⟩
  refine OWp.ishr hk d_LEN_9 (pc' := 10) rfl ?_
  exact OWp.retI hk d_LEN_10 ⟨by rw [shr_len _ hs.2.2.2.2.2], rfl, rfl⟩ (List.Sublist.refl _) (fun _ h => h) (by decide) (by decide)
end StrA
theorem d_CM5_0 : decode jdk_52_method_21_code 0 = .ok (.iconst 0, 1) := by decide +kernel
theorem d_CM5_1 : decode jdk_52_method_21_code 1 = .ok (.istore 5, 2) := by decide +kernel
theorem d_CM5_3 : decode jdk_52_method_21_code 3 = .ok (.iload 5, 2) := by decide +kernel
theorem d_CM5_5 : decode jdk_52_method_21_code 5 = .ok (.iload 4, 2) := by decide +kernel
theorem d_CM5_7 : decode jdk_52_method_21_code 7 = .ok (.if_icmp .ge 37, 3) := by decide +kernel
theorem d_CM5_10 : decode jdk_52_method_21_code 10 = .ok (.aload_n 0, 1) := by decide +kernel
theorem d_CM5_11 : decode jdk_52_method_21_code 11 = .ok (.iload_n 1, 1) := by decide +kernel
theorem d_CM5_12 : decode jdk_52_method_21_code 12 = .ok (.caload, 1) := by decide +kernel
theorem d_CM5_13 : decode jdk_52_method_21_code 13 = .ok (.istore 6, 2) := by decide +kernel
theorem d_CM5_15 : decode jdk_52_method_21_code 15 = .ok (.iload 6, 2) := by decide +kernel
theorem d_CM5_17 : decode jdk_52_method_21_code 17 = .ok (.sipush 255, 3) := by decide +kernel
theorem d_CM5_20 : decode jdk_52_method_21_code 20 = .ok (.if_icmp .le 6, 3) := by decide +kernel
theorem d_CM5_23 : decode jdk_52_method_21_code 23 = .ok (.iload 5, 2) := by decide +kernel
theorem d_CM5_25 : decode jdk_52_method_21_code 25 = .ok (.ireturn, 1) := by decide +kernel
theorem d_CM5_26 : decode jdk_52_method_21_code 26 = .ok (.aload_n 2, 1) := by decide +kernel
theorem d_CM5_27 : decode jdk_52_method_21_code 27 = .ok (.iload_n 3, 1) := by decide +kernel
theorem d_CM5_28 : decode jdk_52_method_21_code 28 = .ok (.iload 6, 2) := by decide +kernel
theorem d_CM5_30 : decode jdk_52_method_21_code 30 = .ok (.i2b, 1) := by decide +kernel
theorem d_CM5_31 : decode jdk_52_method_21_code 31 = .ok (.bastore, 1) := by decide +kernel
theorem d_CM5_32 : decode jdk_52_method_21_code 32 = .ok (.iinc 1 1, 3) := by decide +kernel
theorem d_CM5_35 : decode jdk_52_method_21_code 35 = .ok (.iinc 3 1, 3) := by decide +kernel
theorem d_CM5_38 : decode jdk_52_method_21_code 38 = .ok (.iinc 5 1, 3) := by decide +kernel
theorem d_CM5_41 : decode jdk_52_method_21_code 41 = .ok (.goto (-38), 3) := by decide +kernel
theorem d_CM5_44 : decode jdk_52_method_21_code 44 = .ok (.iload 4, 2) := by decide +kernel
theorem d_CM5_46 : decode jdk_52_method_21_code 46 = .ok (.ireturn, 1) := by decide +kernel
theorem pn_CM5 : plainFor (⟨"java/lang/StringUTF16", "compress", "([CI[BII)I"⟩ : MethodName) = true := by first | exact plainFor_of_name (by first | (simp [plainName, overriddenIn]; done) | decide +kernel) | decide +kernel
theorem d_CFL_0 : decode jdk_52_method_15_code 0 = .ok (.iload_n 1, 1) := by decide +kernel
theorem d_CFL_1 : decode jdk_52_method_15_code 1 = .ok (.aload_n 0, 1) := by decide +kernel
theorem d_CFL_2 : decode jdk_52_method_15_code 2 = .ok (.arraylength, 1) := by decide +kernel
theorem d_CFL_3 : decode jdk_52_method_15_code 3 = .ok (.isub, 1) := by decide +kernel
theorem d_CFL_4 : decode jdk_52_method_15_code 4 = .ok (.bipush 31, 2) := by decide +kernel
theorem d_CFL_6 : decode jdk_52_method_15_code 6 = .ok (.iushr, 1) := by decide +kernel
theorem d_CFL_7 : decode jdk_52_method_15_code 7 = .ok (.i2b, 1) := by decide +kernel
theorem d_CFL_8 : decode jdk_52_method_15_code 8 = .ok (.ireturn, 1) := by decide +kernel
theorem pn_CFL : plainFor (⟨"java/lang/StringUTF16", "coderFromArrayLen", "([BI)B"⟩ : MethodName) = true := by first | exact plainFor_of_name (by first | (simp [plainName, overriddenIn]; done) | decide +kernel) | decide +kernel
section StrCM5
variable {l : Launch} {Z : State} {a0 : Array Value} {EL : List (String × Nat)} {b d : Addr} {cb cd : Cell} {cs : List Int32} {n : Nat}
theorem c_CM5 (hw : ∀ d ∈ tables_1, d.before a0 Z = true) (hEL : EW Z a0 EL) (hA : AC Z cb .char (tab n fun j => .int (cs.getD j 0))) (hn : cs.length = n) (hcs : Chars cs) (hD : AC Z cd .byte (tab n fun _ => .int 0)) :
    OCon l Z EL (⟨"java/lang/StringUTF16", "compress", "([CI[BII)I"⟩ : MethodName) jdk_52_method_21_code 7 (some .int) [] ({ frames := 0, cells := 0, slots := 0, locals := 0 } : Room) #[.ref b, .int 0, .ref d, .int 0, .int (Int32.ofNat n)] [(d, cd)] [(b, cb)]
      (fun v M N => N = [] ∧ ∃ k cd', k ≤ n ∧ v = some (.int (Int32.ofNat k)) ∧ M = [(d, cd')] ∧ (k = n → lat cs = true ∧ AC Z cd' .byte (tab n fun j => .int (lo8 (cs.getD j 0)))) ∧ (k < n → (255 : Int32) < cs.getD k 0)) := by
  refine OCon.of_wp (L0 := [.val (.ref b), .val (.int 0), .val (.ref d), .val (.int 0), .val (.int (Int32.ofNat n)), .unset, .unset]) pn_CM5 hEL (fun m => by first | (simp [entryFrame, mkF, argsToLocals, Value.category]; done) | rfl) ?_
  intro p e s m below meth c hk
  have hn4 := hcs.2
  have loop : ∀ (k i : Nat) (cd' : Cell) (o6 : Slot), i + k = n → (∀ j, j < i → ¬ (255 : Int32) < cs.getD j 0) → AC Z cd' .byte (tab n fun j => if j < i then .int (lo8 (cs.getD j 0)) else .int 0) → o1 o6 = true →
      OWp p l e ({ frames := 0, cells := 0, slots := 0, locals := 0 } : Room) s m #[.ref b, .int 0, .ref d, .int 0, .int (Int32.ofNat n)] below meth c "java/lang/StringUTF16" Z EL (dom [(d, cd)]) [(b, cb)]
        (fun v M N => N = [] ∧ ∃ k cd', k ≤ n ∧ v = some (.int (Int32.ofNat k)) ∧ M = [(d, cd')] ∧ (k = n → lat cs = true ∧ AC Z cd' .byte (tab n fun j => .int (lo8 (cs.getD j 0)))) ∧ (k < n → (255 : Int32) < cs.getD k 0))
        [(d, cd')] [] 0 0 3 [.val (.ref b), .val (.int (Int32.ofNat i)), .val (.ref d), .val (.int (Int32.ofNat i)), .val (.int (Int32.ofNat n)), .val (.int (Int32.ofNat i)), o6] [] := by
    intro k
    induction k with
    | zero =>
      intro i cd' o6 hik hlo hD' ho6
      refine OWp.iload hk d_CM5_3 (pc' := 5) rfl rfl ?_
      refine OWp.iload hk d_CM5_5 (pc' := 7) rfl rfl ?_
      refine OWp.icmpYes hk d_CM5_7 (XT.ii_ge_t (by rw [n_lt (by omega) (by omega)]; omega)) (by decide) (pc' := 44) rfl ?_
      refine OWp.iload hk d_CM5_44 (pc' := 46) rfl rfl ?_
      have hlat : lat cs = true := lat_iff.mpr fun c hc => by
        obtain ⟨j, hj, rfl⟩ := List.getElem_of_mem hc
        have := hlo j (by omega)
        rwa [List.getD_eq_getElem?_getD, List.getElem?_eq_getElem hj] at this
      have hfin : AC Z cd' .byte (tab n fun j => .int (lo8 (cs.getD j 0))) := hD'.congr fun j hj => by rw [if_pos (by omega)]
      exact OWp.retI hk d_CM5_46 ⟨rfl, n, cd', Nat.le_refl _, rfl, rfl, fun _ => ⟨hlat, hfin⟩, fun q => absurd q (Nat.lt_irrefl _)⟩ (List.Sublist.refl _) (fun _ h => h) (by decide) (by decide)
    | succ k ih =>
      intro i cd' o6 hik hlo hD' ho6
      have hi : i < n := by omega
      have hc := hcs.1 _ (getD_mem (i := i) (by omega))
      refine OWp.iload hk d_CM5_3 (pc' := 5) rfl rfl ?_
      refine OWp.iload hk d_CM5_5 (pc' := 7) rfl rfl ?_
      refine OWp.icmpNo hk d_CM5_7 (XT.ii_ge_f (by rw [n_lt (by omega) (by omega)]; omega)) (pc' := 10) rfl ?_
      refine OWp.aload_n hk d_CM5_10 (pc' := 11) rfl rfl rfl ?_
      refine OWp.iload_n hk d_CM5_11 (pc' := 12) rfl rfl ?_
      refine OWp.caload hk d_CM5_12 (pc' := 13) rfl (by simp) hA (n_nn (by omega)) (by rw [n_nat (by omega)]; exact tab_get hi) ?_
      refine OWp.istore hk d_CM5_13 (pc' := 15) rfl ho6 (by simp only [List.set_cons_zero, List.set_cons_succ]; rfl) ?_
      refine OWp.iload hk d_CM5_15 (pc' := 17) rfl rfl ?_
      refine OWp.sipush hk d_CM5_17 (pc' := 20) rfl (z := 255) rfl ?_
      by_cases h255 : (255 : Int32) < cs.getD i 0
      · refine OWp.icmpNo hk d_CM5_20 (XT.ii_le_f h255) (pc' := 23) rfl ?_
        refine OWp.iload hk d_CM5_23 (pc' := 25) rfl rfl ?_
        exact OWp.retI hk d_CM5_25 ⟨rfl, i, cd', Nat.le_of_lt hi, rfl, rfl, fun q => absurd q (Nat.ne_of_lt hi), fun _ => h255⟩ (List.Sublist.refl _) (fun _ h => h) (by decide) (by decide)
      · refine OWp.icmpYes hk d_CM5_20 (XT.ii_le_t h255) (by decide) (pc' := 26) rfl ?_
        refine OWp.aload_n hk d_CM5_26 (pc' := 27) rfl rfl rfl ?_
        refine OWp.iload_n hk d_CM5_27 (pc' := 28) rfl rfl ?_
        refine OWp.iload hk d_CM5_28 (pc' := 30) rfl rfl ?_
        refine OWp.i2b hk d_CM5_30 (pc' := 31) rfl ?_
        refine OWp.bastore hk d_CM5_31 (pc' := 32) rfl (i := 0) rfl hD' (n_nn (by omega)) (n_nat (by omega)) (by rw [tab_len]; exact hi) ?_
        intro cd2 hD2
        simp only [List.nil_append, List.cons_append, List.set_cons_zero]
        refine OWp.iinc hk d_CM5_32 (pc' := 35) rfl rfl (z := 1) rfl (by simp only [List.set_cons_zero, List.set_cons_succ]; rfl) ?_
        refine OWp.iinc hk d_CM5_35 (pc' := 38) rfl rfl (z := 1) rfl (by simp only [List.set_cons_zero, List.set_cons_succ]; rfl) ?_
        refine OWp.iinc hk d_CM5_38 (pc' := 41) rfl rfl (z := 1) rfl (by simp only [List.set_cons_zero, List.set_cons_succ]; rfl) ?_
        refine OWp.goto hk d_CM5_41 (by decide) (pc' := 3) rfl ?_
        rw [n_succ]
        refine ih (i + 1) cd2 (.val (.int (cs.getD i 0))) (by omega) (fun j hj => ?_) ?_ rfl
        · by_cases e : j = i
          · subst e; exact h255
          · exact hlo j (by omega)
        · rw [tab_set] at hD2
          refine hD2.congr fun j hj => ?_
          by_cases e : j = i
          · subst e; simp [lo8]
          · simp only [e, if_false]
            by_cases q : j < i
            · rw [if_pos q, if_pos (by omega)]
            · rw [if_neg q, if_neg (by omega)]
  refine OWp.iconst hk d_CM5_0 (pc' := 1) rfl (z := 0) rfl ?_
  refine OWp.istore hk d_CM5_1 (pc' := 3) rfl rfl (by simp only [List.set_cons_zero, List.set_cons_succ]; rfl) ?_
  exact loop n 0 cd .unset (by omega) (fun j hj => absurd hj (Nat.not_lt_zero _)) (hD.congr fun j hj => by rw [if_neg (Nat.not_lt_zero _)]) rfl
theorem c_CFL (hw : ∀ d ∈ tables_1, d.before a0 Z = true) (hEL : EW Z a0 EL) {vs : List Value} {z : Int32} (hD : AC Z cd .byte vs) (hz : (XT.ushr (Int32.ofNat n - Int32.ofNat vs.length) 31).toInt8.toInt32 = z) (hz2 : nar .byte z = z) :
    OCon l Z EL (⟨"java/lang/StringUTF16", "coderFromArrayLen", "([BI)B"⟩ : MethodName) jdk_52_method_15_code 2 (some .byte) [] ({ frames := 0, cells := 0, slots := 0, locals := 0 } : Room) #[.ref d, .int (Int32.ofNat n)] [] [(d, cd)] (fun v M N => v = some (.int z) ∧ M = [] ∧ N = []) := by
  refine OCon.of_wp (L0 := [.val (.ref d), .val (.int (Int32.ofNat n))]) pn_CFL hEL (fun m => by first | (simp [entryFrame, mkF, argsToLocals, Value.category]; done) | rfl) ?_
  intro p e s m below meth c hk
  refine OWp.iload_n hk d_CFL_0 (pc' := 1) rfl rfl ?_
  refine OWp.aload_n hk d_CFL_1 (pc' := 2) rfl rfl rfl ?_
  refine OWp.arraylength hk d_CFL_2 (pc' := 3) rfl (by simp) hD rfl ?_
  refine OWp.isub hk d_CFL_3 (pc' := 4) rfl ?_
  refine OWp.bipush hk d_CFL_4 (pc' := 6) rfl (z := 31) rfl ?_
  refine OWp.iushr hk d_CFL_6 (pc' := 7) rfl ?_
  refine OWp.i2b hk d_CFL_7 (pc' := 8) rfl ?_
  exact OWp.retN hk (Or.inr (Or.inl rfl)) d_CFL_8 ⟨by rw [hz, hz2], rfl, rfl⟩ (List.Sublist.refl _) (fun _ h => h) (by decide) (by decide)
end StrCM5
theorem d_CM3_0 : decode jdk_52_method_16_code 0 = .ok (.iload_n 2, 1) := by decide +kernel
theorem d_CM3_1 : decode jdk_52_method_16_code 1 = .ok (.newarray .byte, 2) := by decide +kernel
theorem d_CM3_3 : decode jdk_52_method_16_code 3 = .ok (.astore_n 3, 1) := by decide +kernel
theorem d_CM3_4 : decode jdk_52_method_16_code 4 = .ok (.aload_n 0, 1) := by decide +kernel
theorem d_CM3_5 : decode jdk_52_method_16_code 5 = .ok (.iload_n 1, 1) := by decide +kernel
theorem d_CM3_6 : decode jdk_52_method_16_code 6 = .ok (.aload_n 3, 1) := by decide +kernel
theorem d_CM3_7 : decode jdk_52_method_16_code 7 = .ok (.iconst 0, 1) := by decide +kernel
theorem d_CM3_8 : decode jdk_52_method_16_code 8 = .ok (.iload_n 2, 1) := by decide +kernel
theorem d_CM3_9 : decode jdk_52_method_16_code 9 = .ok (.invokestatic 115, 3) := by decide +kernel
theorem d_CM3_12 : decode jdk_52_method_16_code 12 = .ok (.istore 4, 2) := by decide +kernel
theorem d_CM3_14 : decode jdk_52_method_16_code 14 = .ok (.iload 4, 2) := by decide +kernel
theorem d_CM3_16 : decode jdk_52_method_16_code 16 = .ok (.iload_n 2, 1) := by decide +kernel
theorem d_CM3_17 : decode jdk_52_method_16_code 17 = .ok (.if_icmp .eq 40, 3) := by decide +kernel
theorem d_CM3_20 : decode jdk_52_method_16_code 20 = .ok (.aload_n 0, 1) := by decide +kernel
theorem d_CM3_21 : decode jdk_52_method_16_code 21 = .ok (.iload_n 1, 1) := by decide +kernel
theorem d_CM3_22 : decode jdk_52_method_16_code 22 = .ok (.iload_n 2, 1) := by decide +kernel
theorem d_CM3_23 : decode jdk_52_method_16_code 23 = .ok (.invokestatic 119, 3) := by decide +kernel
theorem d_CM3_26 : decode jdk_52_method_16_code 26 = .ok (.astore 5, 2) := by decide +kernel
theorem d_CM3_28 : decode jdk_52_method_16_code 28 = .ok (.aload 5, 2) := by decide +kernel
theorem d_CM3_30 : decode jdk_52_method_16_code 30 = .ok (.iload 4, 2) := by decide +kernel
theorem d_CM3_32 : decode jdk_52_method_16_code 32 = .ok (.invokestatic 71, 3) := by decide +kernel
theorem d_CM3_35 : decode jdk_52_method_16_code 35 = .ok (.sipush 255, 3) := by decide +kernel
theorem d_CM3_38 : decode jdk_52_method_16_code 38 = .ok (.if_icmp .gt 16, 3) := by decide +kernel
theorem d_CM3_41 : decode jdk_52_method_16_code 41 = .ok (.aload 5, 2) := by decide +kernel
theorem d_CM3_43 : decode jdk_52_method_16_code 43 = .ok (.iconst 0, 1) := by decide +kernel
theorem d_CM3_44 : decode jdk_52_method_16_code 44 = .ok (.aload_n 3, 1) := by decide +kernel
theorem d_CM3_45 : decode jdk_52_method_16_code 45 = .ok (.iconst 0, 1) := by decide +kernel
theorem d_CM3_46 : decode jdk_52_method_16_code 46 = .ok (.iload_n 2, 1) := by decide +kernel
theorem d_CM3_47 : decode jdk_52_method_16_code 47 = .ok (.invokestatic 123, 3) := by decide +kernel
theorem d_CM3_50 : decode jdk_52_method_16_code 50 = .ok (.iload_n 2, 1) := by decide +kernel
theorem d_CM3_51 : decode jdk_52_method_16_code 51 = .ok (.if_icmp .eq 6, 3) := by decide +kernel
theorem d_CM3_54 : decode jdk_52_method_16_code 54 = .ok (.aload 5, 2) := by decide +kernel
theorem d_CM3_56 : decode jdk_52_method_16_code 56 = .ok (.areturn, 1) := by decide +kernel
theorem d_CM3_57 : decode jdk_52_method_16_code 57 = .ok (.aload_n 3, 1) := by decide +kernel
theorem d_CM3_58 : decode jdk_52_method_16_code 58 = .ok (.areturn, 1) := by decide +kernel
theorem pn_CM3 : plainFor (⟨"java/lang/StringUTF16", "compress", "([CII)[B"⟩ : MethodName) = true := by first | exact plainFor_of_name (by first | (simp [plainName, overriddenIn]; done) | decide +kernel) | decide +kernel
section StrCM3L
variable {l : Launch} {Z : State} {a0 : Array Value} {EL : List (String × Nat)} {zc : Int32} {b x : Addr} {cb cx : Cell} {cs : List Int32} {n : Nat}
theorem c_CM3L (hw : ∀ d ∈ tables_1, d.before a0 Z = true) (hEL : EW Z a0 EL) (hA : AC Z cb .char (tab n fun j => .int (cs.getD j 0))) (hn : cs.length = n) (hcs : Chars cs) (hl : lat cs = true) (hcap : n ≤ kCap) :
    OCon l Z EL (⟨"java/lang/StringUTF16", "compress", "([CII)[B"⟩ : MethodName) jdk_52_method_16_code 6 (some (.array .byte)) [] ({ frames := 1, cells := 1, slots := kCap, locals := 18 } : Room) #[.ref b, .int 0, .int (Int32.ofNat n)] [] [(b, cb)]
      (fun v M N => M = [] ∧ ∃ t ct, v = some (.ref t) ∧ N = [(t, ct)] ∧ AC Z ct .byte (oBytes cs)) := by
  refine OCon.of_wp (L0 := [.val (.ref b), .val (.int 0), .val (.int (Int32.ofNat n)), .unset, .unset, .unset]) pn_CM3 hEL (fun m => by first | (simp [entryFrame, mkF, argsToLocals, Value.category]; done) | rfl) ?_
  intro p e s m below meth c hk
  have hn4 := hcs.2
  refine OWp.iload_n hk d_CM3_0 (pc' := 1) rfl rfl ?_
  refine OWp.newarray hk d_CM3_1 (pc' := 3) rfl (hw _ (List.mem_of_getElem? (i := 3) rfl)) (n_nn (by omega)) (cap := kCap) (by rw [n_nat (by omega)]; exact hcap) (by decide) (by decide) (by decide) (vs := tab n fun _ => .int 0) (by rw [n_nat (by omega)]; exact tab_rep _ _) ?_
  intro d cd hD
  refine OWp.astore_n hk d_CM3_3 (pc' := 4) rfl (kn := 3) rfl rfl rfl (by simp only [List.set_cons_zero, List.set_cons_succ]; rfl) ?_
  refine OWp.aload_n hk d_CM3_4 (pc' := 5) rfl rfl rfl ?_
  refine OWp.iload_n hk d_CM3_5 (pc' := 6) rfl rfl ?_
  refine OWp.aload_n hk d_CM3_6 (pc' := 7) rfl rfl rfl ?_
  refine OWp.iconst hk d_CM3_7 (pc' := 8) rfl (z := 0) rfl ?_
  refine OWp.iload_n hk d_CM3_8 (pc' := 9) rfl rfl ?_
  refine OWp.callS hk d_CM3_9 (pc' := 12) rfl (hw _ (List.mem_of_getElem? (i := 73) rfl)) (hw _ (List.mem_of_getElem? (i := 74) rfl)) (hw _ (List.mem_of_getElem? (i := 71) rfl)) (hw _ (List.mem_of_getElem? (i := 75) rfl)) (by decide) (c_CM5 (cs := cs) hw hEL hA hn hcs hD) rfl (by simp) rfl (lenOf pd_1 rfl) rfl (W := 0) rfl (by first | decide | (dsimp only; omega)) (by first | decide | (dsimp only; omega)) (by first | decide | (dsimp only; omega)) (by first | decide | (dsimp only; omega)) ?_
  rintro _ _ _ ⟨rfl, k, cd2, hk1, rfl, rfl, hfull, hpart⟩
  have hkn : k = n := by
    rcases Nat.lt_or_eq_of_le hk1 with q | q
    · exact absurd (hpart q) (lat_iff.mp hl _ (getD_mem (by omega)))
    · exact q
  subst hkn
  refine OWp.istore hk d_CM3_12 (pc' := 14) rfl rfl (by simp only [List.set_cons_zero, List.set_cons_succ]; rfl) ?_
  refine OWp.iload hk d_CM3_14 (pc' := 16) rfl rfl ?_
  refine OWp.iload_n hk d_CM3_16 (pc' := 17) rfl rfl ?_
  refine OWp.icmpYes hk d_CM3_17 (XT.ii_eq_t rfl) (by decide) (pc' := 57) rfl ?_
  refine OWp.aload_n hk d_CM3_57 (pc' := 58) rfl rfl rfl ?_
  refine OWp.freeze ?_
  exact OWp.retA hk rfl rfl rfl d_CM3_58 ⟨rfl, d, cd2, rfl, rfl, by rw [bytes_lat hl, hn]; exact (hfull rfl).2⟩ (List.Sublist.refl _) (fun _ h => h) (by decide) (by decide)
end StrCM3L
theorem d_S4_0 : decode jdk_42_method_149_code 0 = .ok (.aload_n 0, 1) := by decide +kernel
theorem d_S4_1 : decode jdk_42_method_149_code 1 = .ok (.invokespecial 1, 3) := by decide +kernel
theorem d_S4_4 : decode jdk_42_method_149_code 4 = .ok (.iload_n 3, 1) := by decide +kernel
theorem d_S4_5 : decode jdk_42_method_149_code 5 = .ok (.ifCond .ne 22, 3) := by decide +kernel
theorem d_S4_8 : decode jdk_42_method_149_code 8 = .ok (.aload_n 0, 1) := by decide +kernel
theorem d_S4_9 : decode jdk_42_method_149_code 9 = .ok (.ldc 7, 2) := by decide +kernel
theorem d_S4_11 : decode jdk_42_method_149_code 11 = .ok (.getfield 9, 3) := by decide +kernel
theorem d_S4_14 : decode jdk_42_method_149_code 14 = .ok (.putfield 9, 3) := by decide +kernel
theorem d_S4_17 : decode jdk_42_method_149_code 17 = .ok (.aload_n 0, 1) := by decide +kernel
theorem d_S4_18 : decode jdk_42_method_149_code 18 = .ok (.ldc 7, 2) := by decide +kernel
theorem d_S4_20 : decode jdk_42_method_149_code 20 = .ok (.getfield 15, 3) := by decide +kernel
theorem d_S4_23 : decode jdk_42_method_149_code 23 = .ok (.putfield 15, 3) := by decide +kernel
theorem d_S4_26 : decode jdk_42_method_149_code 26 = .ok (.return_, 1) := by decide +kernel
theorem d_S4_27 : decode jdk_42_method_149_code 27 = .ok (.getstatic 38, 3) := by decide +kernel
theorem d_S4_30 : decode jdk_42_method_149_code 30 = .ok (.ifCond .eq 28, 3) := by decide +kernel
theorem d_S4_33 : decode jdk_42_method_149_code 33 = .ok (.aload_n 1, 1) := by decide +kernel
theorem d_S4_34 : decode jdk_42_method_149_code 34 = .ok (.iload_n 2, 1) := by decide +kernel
theorem d_S4_35 : decode jdk_42_method_149_code 35 = .ok (.iload_n 3, 1) := by decide +kernel
theorem d_S4_36 : decode jdk_42_method_149_code 36 = .ok (.invokestatic 177, 3) := by decide +kernel
theorem d_S4_39 : decode jdk_42_method_149_code 39 = .ok (.astore 5, 2) := by decide +kernel
theorem d_S4_41 : decode jdk_42_method_149_code 41 = .ok (.aload_n 0, 1) := by decide +kernel
theorem d_S4_42 : decode jdk_42_method_149_code 42 = .ok (.aload 5, 2) := by decide +kernel
theorem d_S4_44 : decode jdk_42_method_149_code 44 = .ok (.iload_n 3, 1) := by decide +kernel
theorem d_S4_45 : decode jdk_42_method_149_code 45 = .ok (.invokestatic 47, 3) := by decide +kernel
theorem d_S4_48 : decode jdk_42_method_149_code 48 = .ok (.putfield 15, 3) := by decide +kernel
theorem d_S4_51 : decode jdk_42_method_149_code 51 = .ok (.aload_n 0, 1) := by decide +kernel
theorem d_S4_52 : decode jdk_42_method_149_code 52 = .ok (.aload 5, 2) := by decide +kernel
theorem d_S4_54 : decode jdk_42_method_149_code 54 = .ok (.putfield 9, 3) := by decide +kernel
theorem d_S4_57 : decode jdk_42_method_149_code 57 = .ok (.return_, 1) := by decide +kernel
theorem d_S4_58 : decode jdk_42_method_149_code 58 = .ok (.aload_n 0, 1) := by decide +kernel
theorem d_S4_59 : decode jdk_42_method_149_code 59 = .ok (.iconst 1, 1) := by decide +kernel
theorem d_S4_60 : decode jdk_42_method_149_code 60 = .ok (.putfield 15, 3) := by decide +kernel
theorem d_S4_63 : decode jdk_42_method_149_code 63 = .ok (.aload_n 0, 1) := by decide +kernel
theorem d_S4_64 : decode jdk_42_method_149_code 64 = .ok (.aload_n 1, 1) := by decide +kernel
theorem d_S4_65 : decode jdk_42_method_149_code 65 = .ok (.iload_n 2, 1) := by decide +kernel
theorem d_S4_66 : decode jdk_42_method_149_code 66 = .ok (.iload_n 3, 1) := by decide +kernel
theorem d_S4_67 : decode jdk_42_method_149_code 67 = .ok (.invokestatic 180, 3) := by decide +kernel
theorem d_S4_70 : decode jdk_42_method_149_code 70 = .ok (.putfield 9, 3) := by decide +kernel
theorem d_S4_73 : decode jdk_42_method_149_code 73 = .ok (.return_, 1) := by decide +kernel
theorem pn_S4 : plainFor (⟨"java/lang/String", "<init>", "([CIILjava/lang/Void;)V"⟩ : MethodName) = true := by first | exact plainFor_of_name (by first | (simp [plainName, overriddenIn]; done) | decide +kernel) | decide +kernel
section StrS4
variable {l : Launch} {Z : State} {a0 : Array Value} {EL : List (String × Nat)} {zc : Int32} {b x : Addr} {cb cx : Cell} {cs : List Int32} {n : Nat} {rm3 : Room}
theorem c_S4 (hw : ∀ d ∈ tables_1, d.before a0 Z = true) (hEL : EW Z a0 EL) (O2 : Sta Z Z.heap "java/lang/String" "COMPACT_STRINGS" "Z" (.int zc)) (hzc : ¬ zc = 0) (hE : EC Z cx "java/lang/String") {v0 v1 : Value} (hV : FC Z cx "java/lang/String" "value" "[B" v0) (hC : FC Z cx "java/lang/String" "coder" "B" v1)
    (hA : AC Z cb .char (tab n fun j => .int (cs.getD j 0))) (hn : cs.length = n) (hcs : Chars cs) (h0 : 0 < n)
    (h3 : 0 < n → OCon l Z EL (⟨"java/lang/StringUTF16", "compress", "([CII)[B"⟩ : MethodName) jdk_52_method_16_code 6 (some (.array .byte)) [] rm3 #[.ref b, .int 0, .int (Int32.ofNat n)] [] [(b, cb)] (fun v M N => M = [] ∧ ∃ t ct, v = some (.ref t) ∧ N = [(t, ct)] ∧ AC Z ct .byte (oBytes cs))) :
    OCon l Z EL (⟨"java/lang/String", "<init>", "([CIILjava/lang/Void;)V"⟩ : MethodName) jdk_42_method_149_code 6 none [] ({ frames := rm3.frames + 1, cells := rm3.cells, slots := rm3.slots, locals := 17 + rm3.locals } : Room) #[.ref x, .ref b, .int 0, .int (Int32.ofNat n), .null] [(x, cx)] [(b, cb)]
      (fun v M N => v = none ∧ M = [] ∧ ∃ t cx' ct, N = [(x, cx'), (t, ct)] ∧ SC Z t cx' ct cs) := by
  refine OCon.of_wp (L0 := [.val (.ref x), .val (.ref b), .val (.int 0), .val (.int (Int32.ofNat n)), .val .null, .unset]) pn_S4 hEL (fun m => by first | (simp [entryFrame, mkF, argsToLocals, Value.category]; done) | rfl) ?_
  intro p e s m below meth c hk
  have hn4 := hcs.2
  refine OWp.aload_n hk d_S4_0 (pc' := 1) rfl rfl rfl ?_
  refine OWp.initO hk d_S4_1 (pc' := 4) rfl (hw _ (List.mem_of_getElem? (i := 66) rfl)) (hw _ (List.mem_of_getElem? (i := 67) rfl)) (hw _ (List.mem_of_getElem? (i := 68) rfl)) rfl (by first | decide | (dsimp only; omega)) (W := 0) rfl (by first | decide | (dsimp only; omega)) ?_
  refine OWp.iload_n hk d_S4_4 (pc' := 5) rfl rfl ?_
  refine OWp.ifYes hk d_S4_5 (XT.i0_ne_t (by rw [show (0 : Int32) = Int32.ofNat 0 from rfl, n_inj (by omega) (by omega)]; omega)) (by decide) (pc' := 27) rfl ?_
  refine OWp.getstatic hk d_S4_27 (pc' := 30) rfl (hw _ (List.mem_of_getElem? (i := 19) rfl)) O2 ?_
  refine OWp.ifNo hk d_S4_30 (XT.i0_eq_f hzc) (pc' := 33) rfl ?_
  refine OWp.aload_n hk d_S4_33 (pc' := 34) rfl rfl rfl ?_
  refine OWp.iload_n hk d_S4_34 (pc' := 35) rfl rfl ?_
  refine OWp.iload_n hk d_S4_35 (pc' := 36) rfl rfl ?_
  refine OWp.callS hk d_S4_36 (pc' := 39) rfl (hw _ (List.mem_of_getElem? (i := 69) rfl)) (hw _ (List.mem_of_getElem? (i := 70) rfl)) (hw _ (List.mem_of_getElem? (i := 71) rfl)) (hw _ (List.mem_of_getElem? (i := 72) rfl)) (by decide) (h3 h0) rfl (by simp) rfl (lenOf pd_2 rfl) rfl (W := 0) rfl (by first | decide | (dsimp only; omega)) (by first | decide | (dsimp only; omega)) (by first | decide | (dsimp only; omega)) (by first | decide | (dsimp only; omega)) ?_
  rintro _ _ _ ⟨rfl, t, ct, rfl, rfl, hT⟩
  refine OWp.astore hk d_S4_39 (pc' := 41) rfl rfl rfl (by simp only [List.set_cons_zero, List.set_cons_succ]; rfl) ?_
  refine OWp.aload_n hk d_S4_41 (pc' := 42) rfl rfl rfl ?_
  refine OWp.aload hk d_S4_42 (pc' := 44) rfl rfl rfl ?_
  refine OWp.iload_n hk d_S4_44 (pc' := 45) rfl rfl ?_
  refine OWp.callS hk d_S4_45 (pc' := 48) rfl (hw _ (List.mem_of_getElem? (i := 76) rfl)) (hw _ (List.mem_of_getElem? (i := 77) rfl)) (hw _ (List.mem_of_getElem? (i := 71) rfl)) (hw _ (List.mem_of_getElem? (i := 78) rfl)) (by decide) (c_CFL (n := n) hw hEL hT (z := cdOf cs) (cfl_val hn hcs.2 h0) (nar_cd cs)) rfl (by simp) rfl (lenOf pd_3 rfl) rfl (W := 1) rfl (by first | decide | (dsimp only; omega)) (by first | decide | (dsimp only; omega)) (by first | decide | (dsimp only; omega)) (by first | decide | (dsimp only; omega)) ?_
  rintro _ _ _ ⟨rfl, rfl, rfl⟩
  refine OWp.putfield hk d_S4_48 (pc' := 51) rfl (hw _ (List.mem_of_getElem? (i := 20) rfl)) (i := 0) rfl hC hE (Or.inr ⟨(hw _ (List.mem_of_getElem? (i := 5) rfl)), rfl, rfl⟩) (hw _ (List.mem_of_getElem? (i := 2) rfl)) (ty := .byte) (by decide) (congrArg Value.int (nar_cd cs)) (fits_cd cs) ?_
  intro cx2 hE2 hC2 hK2
  have hV2 := hK2 hV (slot_ne (Or.inr (hw _ (List.mem_of_getElem? (i := 4) rfl))) (Or.inr (hw _ (List.mem_of_getElem? (i := 5) rfl))) (by decide) (t := .array .byte) (by decide) (t' := .byte) (by decide))
  simp only [List.nil_append, List.cons_append, List.set_cons_zero]
  refine OWp.aload_n hk d_S4_51 (pc' := 52) rfl rfl rfl ?_
  refine OWp.aload hk d_S4_52 (pc' := 54) rfl rfl rfl ?_
  refine OWp.putfield hk d_S4_54 (pc' := 57) rfl (hw _ (List.mem_of_getElem? (i := 13) rfl)) (i := 0) rfl hV2 hE2 (Or.inr ⟨(hw _ (List.mem_of_getElem? (i := 4) rfl)), rfl, rfl⟩) (hw _ (List.mem_of_getElem? (i := 2) rfl)) (ty := .array .byte) (by decide) rfl rfl ?_
  intro cx3 hE3 hV3 hK3
  have hC3 := hK3 hC2 (slot_ne (Or.inr (hw _ (List.mem_of_getElem? (i := 5) rfl))) (Or.inr (hw _ (List.mem_of_getElem? (i := 4) rfl))) (by decide) (t := .byte) (by decide) (t' := .array .byte) (by decide))
  simp only [List.nil_append, List.cons_append, List.set_cons_zero]
  refine OWp.freeze ?_
  exact OWp.ret0 hk d_S4_57 ⟨rfl, rfl, t, cx3, ct, rfl, hE3, hV3, hC3, hT, hcs⟩ (List.Sublist.refl _) (fun _ h => h) (by dsimp only; omega) (by dsimp only; omega)
end StrS4
theorem d_S1_0 : decode jdk_42_method_3_code 0 = .ok (.aload_n 0, 1) := by decide +kernel
theorem d_S1_1 : decode jdk_42_method_3_code 1 = .ok (.aload_n 1, 1) := by decide +kernel
theorem d_S1_2 : decode jdk_42_method_3_code 2 = .ok (.iconst 0, 1) := by decide +kernel
theorem d_S1_3 : decode jdk_42_method_3_code 3 = .ok (.aload_n 1, 1) := by decide +kernel
theorem d_S1_4 : decode jdk_42_method_3_code 4 = .ok (.arraylength, 1) := by decide +kernel
theorem d_S1_5 : decode jdk_42_method_3_code 5 = .ok (.aconst_null, 1) := by decide +kernel
theorem d_S1_6 : decode jdk_42_method_3_code 6 = .ok (.invokespecial 27, 3) := by decide +kernel
theorem d_S1_9 : decode jdk_42_method_3_code 9 = .ok (.return_, 1) := by decide +kernel
theorem pn_S1 : plainFor (⟨"java/lang/String", "<init>", "([C)V"⟩ : MethodName) = true := by first | exact plainFor_of_name (by first | (simp [plainName, overriddenIn]; done) | decide +kernel) | decide +kernel
section StrS1
variable {l : Launch} {Z : State} {a0 : Array Value} {EL : List (String × Nat)} {b x : Addr} {cb cx : Cell} {n : Nat}
/-- the constructor of one argument hands on -/
theorem c_S1 (hw : ∀ d ∈ tables_1, d.before a0 Z = true) (hEL : EW Z a0 EL) {rm : Room} {vs : List Value} {Q : Option Value → Mem → Mem → Prop} (hA : AC Z cb .char vs) (hn : vs.length = n) (hQ : ∀ v M N, Q v M N → v = none ∧ M = [])
    (h4 : OCon l Z EL (⟨"java/lang/String", "<init>", "([CIILjava/lang/Void;)V"⟩ : MethodName) jdk_42_method_149_code 6 none [] rm #[.ref x, .ref b, .int 0, .int (Int32.ofNat n), .null] [(x, cx)] [(b, cb)] Q) :
    OCon l Z EL (⟨"java/lang/String", "<init>", "([C)V"⟩ : MethodName) jdk_42_method_3_code 2 none [] ({ frames := rm.frames + 1, cells := rm.cells, slots := rm.slots, locals := 17 + rm.locals } : Room) #[.ref x, .ref b] [(x, cx)] [(b, cb)] Q := by
  refine OCon.of_wp (L0 := [.val (.ref x), .val (.ref b)]) pn_S1 hEL (fun m => by first | (simp [entryFrame, mkF, argsToLocals, Value.category]; done) | rfl) ?_
  intro p e s m below meth c hk
  refine OWp.aload_n hk d_S1_0 (pc' := 1) rfl rfl rfl ?_
  refine OWp.aload_n hk d_S1_1 (pc' := 2) rfl rfl rfl ?_
  refine OWp.iconst hk d_S1_2 (pc' := 3) rfl (z := 0) rfl ?_
  refine OWp.aload_n hk d_S1_3 (pc' := 4) rfl rfl rfl ?_
  refine OWp.arraylength hk d_S1_4 (pc' := 5) rfl (by simp) hA (by rw [hn]) ?_
  refine OWp.aconst_null hk d_S1_5 (pc' := 6) rfl ?_
  refine OWp.callI hk d_S1_6 (pc' := 9) rfl rfl (hw _ (List.mem_of_getElem? (i := 62) rfl)) (hw _ (List.mem_of_getElem? (i := 63) rfl)) (hw _ (List.mem_of_getElem? (i := 1) rfl)) (hw _ (List.mem_of_getElem? (i := 65) rfl)) (by decide) h4 rfl (by simp) rfl (lenOf pd_4 rfl) rfl (W := 0) rfl (by first | decide | (dsimp only; omega)) (by first | decide | (dsimp only; omega)) (by first | decide | (dsimp only; omega)) (by first | decide | (dsimp only; omega)) ?_
  intro v M N q
  obtain ⟨rfl, rfl⟩ := hQ v M N q
  exact OWp.ret0 hk d_S1_9 q (List.Sublist.refl _) (fun _ h => by simpa using h) (by dsimp only; omega) (by dsimp only; omega)
end StrS1
section StrNewLN
variable {l : Launch} {Z : State} {a0 : Array Value} {EL : List (String × Nat)} {zc : Int32} {b x : Addr} {cb cx : Cell} {cs : List Int32}
set_option maxRecDepth 65536 in
theorem c_NEW (hw : ∀ d ∈ tables_1, d.before a0 Z = true) (hEL : EW Z a0 EL) (O2 : Sta Z Z.heap "java/lang/String" "COMPACT_STRINGS" "Z" (.int zc)) (hzc : ¬ zc = 0)
    (hE : EC Z cx "java/lang/String") {v0 v1 : Value} (hV : FC Z cx "java/lang/String" "value" "[B" v0) (hC : FC Z cx "java/lang/String" "coder" "B" v1) (hA : AC Z cb .char (cs.map Value.int)) (hcs : Chars cs) (hl : lat cs = true) (hcap : cs.length ≤ kCap) (h0 : 0 < cs.length) :
    OCon l Z EL (⟨"java/lang/String", "<init>", "([C)V"⟩ : MethodName) jdk_42_method_3_code 2 none [] ({ frames := 3, cells := 1, slots := kCap, locals := 52 } : Room) #[.ref x, .ref b] [(x, cx)] [(b, cb)]
      (fun v M N => v = none ∧ M = [] ∧ ∃ t cx' ct, N = [(x, cx'), (t, ct)] ∧ SC Z t cx' ct cs) := by
  have hA2 : AC Z cb .char (tab cs.length fun j => .int (cs.getD j 0)) := by rw [← map_tab]; exact hA
  exact c_S1 (rm := ({ frames := 2, cells := 1, slots := kCap, locals := 35 } : Room)) hw hEL hA2 (tab_len _ _) (fun _ _ _ q => ⟨q.1, q.2.1⟩) (c_S4 (rm3 := ({ frames := 1, cells := 1, slots := kCap, locals := 18 } : Room)) (cs := cs) hw hEL O2 hzc hE hV hC hA2 rfl hcs h0 (fun _ => c_CM3L (cs := cs) hw hEL hA2 rfl hcs hl hcap))
end StrNewLN
theorem d_ISL_0 : decode jdk_42_method_154_code 0 = .ok (.getstatic 38, 3) := by decide +kernel
theorem d_ISL_3 : decode jdk_42_method_154_code 3 = .ok (.ifCond .eq 14, 3) := by decide +kernel
theorem d_ISL_6 : decode jdk_42_method_154_code 6 = .ok (.aload_n 0, 1) := by decide +kernel
theorem d_ISL_7 : decode jdk_42_method_154_code 7 = .ok (.getfield 15, 3) := by decide +kernel
theorem d_ISL_10 : decode jdk_42_method_154_code 10 = .ok (.ifCond .ne 7, 3) := by decide +kernel
theorem d_ISL_13 : decode jdk_42_method_154_code 13 = .ok (.iconst 1, 1) := by decide +kernel
theorem d_ISL_14 : decode jdk_42_method_154_code 14 = .ok (.goto 4, 3) := by decide +kernel
theorem d_ISL_17 : decode jdk_42_method_154_code 17 = .ok (.iconst 0, 1) := by decide +kernel
theorem d_ISL_18 : decode jdk_42_method_154_code 18 = .ok (.ireturn, 1) := by decide +kernel
theorem pn_ISL : plainFor (⟨"java/lang/String", "isLatin1", "()Z"⟩ : MethodName) = true := by first | exact plainFor_of_name (by first | (simp [plainName, overriddenIn]; done) | decide +kernel) | decide +kernel
section StrISL
variable {l : Launch} {Z : State} {a0 : Array Value} {EL : List (String × Nat)} {zc : Int32} {x t : Addr} {cx ct : Cell} {cs : List Int32}
theorem c_ISL (hw : ∀ d ∈ tables_1, d.before a0 Z = true) (hEL : EW Z a0 EL) (O2 : Sta Z Z.heap "java/lang/String" "COMPACT_STRINGS" "Z" (.int zc)) (hzc : ¬ zc = 0) (hs : SC Z t cx ct cs) :
    OCon l Z EL (⟨"java/lang/String", "isLatin1", "()Z"⟩ : MethodName) jdk_42_method_154_code 1 (some .boolean) [] ({ frames := 0, cells := 0, slots := 0, locals := 0 } : Room) #[.ref x] [] [(x, cx), (t, ct)] (fun v M N => v = some (.int (if lat cs then 1 else 0)) ∧ M = [] ∧ N = []) := by
  refine OCon.of_wp (L0 := [.val (.ref x)]) pn_ISL hEL (fun m => by first | (simp [entryFrame, mkF, argsToLocals, Value.category]; done) | rfl) ?_
  intro p e s m below meth c hk
  refine OWp.getstatic hk d_ISL_0 (pc' := 3) rfl (hw _ (List.mem_of_getElem? (i := 19) rfl)) O2 ?_
  refine OWp.ifNo hk d_ISL_3 (XT.i0_eq_f hzc) (pc' := 6) rfl ?_
  refine OWp.aload_n hk d_ISL_6 (pc' := 7) rfl rfl rfl ?_
  refine OWp.getfield hk d_ISL_7 (pc' := 10) rfl (hw _ (List.mem_of_getElem? (i := 20) rfl)) (by simp) hs.2.2.1 ?_
  rcases cd_cases cs with ⟨h1, h2⟩ | ⟨h1, h2⟩
  · refine OWp.ifNo hk d_ISL_10 (XT.i0_ne_f h2) (pc' := 13) rfl ?_
    refine OWp.iconst hk d_ISL_13 (pc' := 14) rfl (z := 1) rfl ?_
    refine OWp.goto hk d_ISL_14 (by decide) (pc' := 18) rfl ?_
    exact OWp.retN hk (Or.inl rfl) d_ISL_18 ⟨by rw [h1]; rfl, rfl, rfl⟩ (List.Sublist.refl _) (fun _ h => h) (by decide) (by decide)
  · refine OWp.ifYes hk d_ISL_10 (XT.i0_ne_t (by rw [h2]; decide)) (by decide) (pc' := 17) rfl ?_
    refine OWp.iconst hk d_ISL_17 (pc' := 18) rfl (z := 0) rfl ?_
    exact OWp.retN hk (Or.inl rfl) d_ISL_18 ⟨by rw [h1]; rfl, rfl, rfl⟩ (List.Sublist.refl _) (fun _ h => h) (by decide) (by decide)
end StrISL
theorem d_PCI_0 : decode jdk_41_method_11_code 0 = .ok (.iload_n 0, 1) := by decide +kernel
theorem d_PCI_1 : decode jdk_41_method_11_code 1 = .ok (.ifCond .lt 8, 3) := by decide +kernel
theorem d_PCI_4 : decode jdk_41_method_11_code 4 = .ok (.iload_n 0, 1) := by decide +kernel
theorem d_PCI_5 : decode jdk_41_method_11_code 5 = .ok (.iload_n 1, 1) := by decide +kernel
theorem d_PCI_6 : decode jdk_41_method_11_code 6 = .ok (.if_icmp .lt 10, 3) := by decide +kernel
theorem d_PCI_9 : decode jdk_41_method_11_code 9 = .ok (.aload_n 2, 1) := by decide +kernel
theorem d_PCI_10 : decode jdk_41_method_11_code 10 = .ok (.iload_n 0, 1) := by decide +kernel
theorem d_PCI_11 : decode jdk_41_method_11_code 11 = .ok (.iload_n 1, 1) := by decide +kernel
theorem d_PCI_12 : decode jdk_41_method_11_code 12 = .ok (.invokestatic 95, 3) := by decide +kernel
theorem d_PCI_15 : decode jdk_41_method_11_code 15 = .ok (.athrow, 1) := by decide +kernel
theorem d_PCI_16 : decode jdk_41_method_11_code 16 = .ok (.iload_n 0, 1) := by decide +kernel
theorem d_PCI_17 : decode jdk_41_method_11_code 17 = .ok (.ireturn, 1) := by decide +kernel
theorem pn_PCI : plainFor (⟨"jdk/internal/util/Preconditions", "checkIndex", "(IILjava/util/function/BiFunction;)I"⟩ : MethodName) = true := by first | exact plainFor_of_name (by first | (simp [plainName, overriddenIn]; done) | decide +kernel) | decide +kernel
theorem d_CKI_0 : decode jdk_42_method_155_code 0 = .ok (.iload_n 0, 1) := by decide +kernel
theorem d_CKI_1 : decode jdk_42_method_155_code 1 = .ok (.iload_n 1, 1) := by decide +kernel
theorem d_CKI_2 : decode jdk_42_method_155_code 2 = .ok (.getstatic 1053, 3) := by decide +kernel
theorem d_CKI_5 : decode jdk_42_method_155_code 5 = .ok (.invokestatic 1059, 3) := by decide +kernel
theorem d_CKI_8 : decode jdk_42_method_155_code 8 = .ok (.pop, 1) := by decide +kernel
theorem d_CKI_9 : decode jdk_42_method_155_code 9 = .ok (.return_, 1) := by decide +kernel
theorem pn_CKI : plainFor (⟨"java/lang/String", "checkIndex", "(II)V"⟩ : MethodName) = true := by first | exact plainFor_of_name (by first | (simp [plainName, overriddenIn]; done) | decide +kernel) | decide +kernel
theorem d_LCA_0 : decode jdk_43_method_2_code 0 = .ok (.iload_n 1, 1) := by decide +kernel
theorem d_LCA_1 : decode jdk_43_method_2_code 1 = .ok (.aload_n 0, 1) := by decide +kernel
theorem d_LCA_2 : decode jdk_43_method_2_code 2 = .ok (.arraylength, 1) := by decide +kernel
theorem d_LCA_3 : decode jdk_43_method_2_code 3 = .ok (.invokestatic 9, 3) := by decide +kernel
theorem d_LCA_6 : decode jdk_43_method_2_code 6 = .ok (.aload_n 0, 1) := by decide +kernel
theorem d_LCA_7 : decode jdk_43_method_2_code 7 = .ok (.iload_n 1, 1) := by decide +kernel
theorem d_LCA_8 : decode jdk_43_method_2_code 8 = .ok (.baload, 1) := by decide +kernel
theorem d_LCA_9 : decode jdk_43_method_2_code 9 = .ok (.sipush 255, 3) := by decide +kernel
theorem d_LCA_12 : decode jdk_43_method_2_code 12 = .ok (.iand, 1) := by decide +kernel
theorem d_LCA_13 : decode jdk_43_method_2_code 13 = .ok (.i2c, 1) := by decide +kernel
theorem d_LCA_14 : decode jdk_43_method_2_code 14 = .ok (.ireturn, 1) := by decide +kernel
theorem pn_LCA : plainFor (⟨"java/lang/StringLatin1", "charAt", "([BI)C"⟩ : MethodName) = true := by first | exact plainFor_of_name (by first | (simp [plainName, overriddenIn]; done) | decide +kernel) | decide +kernel
theorem d_CHA_0 : decode jdk_42_method_56_code 0 = .ok (.aload_n 0, 1) := by decide +kernel
theorem d_CHA_1 : decode jdk_42_method_56_code 1 = .ok (.invokevirtual 492, 3) := by decide +kernel
theorem d_CHA_4 : decode jdk_42_method_56_code 4 = .ok (.ifCond .eq 12, 3) := by decide +kernel
theorem d_CHA_7 : decode jdk_42_method_56_code 7 = .ok (.aload_n 0, 1) := by decide +kernel
theorem d_CHA_8 : decode jdk_42_method_56_code 8 = .ok (.getfield 9, 3) := by decide +kernel
theorem d_CHA_11 : decode jdk_42_method_56_code 11 = .ok (.iload_n 1, 1) := by decide +kernel
theorem d_CHA_12 : decode jdk_42_method_56_code 12 = .ok (.invokestatic 495, 3) := by decide +kernel
theorem d_CHA_15 : decode jdk_42_method_56_code 15 = .ok (.ireturn, 1) := by decide +kernel
theorem d_CHA_16 : decode jdk_42_method_56_code 16 = .ok (.aload_n 0, 1) := by decide +kernel
theorem d_CHA_17 : decode jdk_42_method_56_code 17 = .ok (.getfield 9, 3) := by decide +kernel
theorem d_CHA_20 : decode jdk_42_method_56_code 20 = .ok (.iload_n 1, 1) := by decide +kernel
theorem d_CHA_21 : decode jdk_42_method_56_code 21 = .ok (.invokestatic 498, 3) := by decide +kernel
theorem d_CHA_24 : decode jdk_42_method_56_code 24 = .ok (.ireturn, 1) := by decide +kernel
theorem pn_CHA : plainFor (⟨"java/lang/String", "charAt", "(I)C"⟩ : MethodName) = true := by first | exact plainFor_of_name (by first | (simp [plainName, overriddenIn]; done) | decide +kernel) | decide +kernel
section StrCh
variable {l : Launch} {Z : State} {a0 : Array Value} {EL : List (String × Nat)} {zc : Int32} {x t : Addr} {cx ct : Cell} {cs : List Int32} {fm : Value} {i n : Nat}
theorem c_PCI (hw : ∀ d ∈ tables_1, d.before a0 Z = true) (hEL : EW Z a0 EL) (hf : fm.isRef = true) (hi : i < n) (hn : n < 2147483648) :
    OCon l Z EL (⟨"jdk/internal/util/Preconditions", "checkIndex", "(IILjava/util/function/BiFunction;)I"⟩ : MethodName) jdk_41_method_11_code 3 (some .int) [] ({ frames := 0, cells := 0, slots := 0, locals := 0 } : Room) #[.int (Int32.ofNat i), .int (Int32.ofNat n), fm] [] [] (fun v M N => v = some (.int (Int32.ofNat i)) ∧ M = [] ∧ N = []) := by
  refine OCon.of_wp (L0 := [.val (.int (Int32.ofNat i)), .val (.int (Int32.ofNat n)), .val fm]) pn_PCI hEL (fun m => by rcases ref_cases hf with rfl | ⟨_, rfl⟩ <;> first | (simp [entryFrame, mkF, argsToLocals, Value.category]; done) | rfl) ?_
  intro p e s m below meth c hk
  refine OWp.iload_n hk d_PCI_0 (pc' := 1) rfl rfl ?_
  refine OWp.ifNo hk d_PCI_1 (XT.i0_lt_f (n_nn (by omega))) (pc' := 4) rfl ?_
  refine OWp.iload_n hk d_PCI_4 (pc' := 5) rfl rfl ?_
  refine OWp.iload_n hk d_PCI_5 (pc' := 6) rfl rfl ?_
  refine OWp.icmpYes hk d_PCI_6 (XT.ii_lt_t ((n_lt (by omega) hn).mpr hi)) (by decide) (pc' := 16) rfl ?_
  refine OWp.iload_n hk d_PCI_16 (pc' := 17) rfl rfl ?_
  exact OWp.retI hk d_PCI_17 ⟨rfl, rfl, rfl⟩ (List.Sublist.refl _) (fun _ h => h) (by decide) (by decide)
theorem c_CKI (hw : ∀ d ∈ tables_1, d.before a0 Z = true) (hEL : EW Z a0 EL) (O4 : Sta Z Z.heap "jdk/internal/util/Preconditions" "SIOOBE_FORMATTER" "Ljava/util/function/BiFunction;" fm) (hf : fm.isRef = true) (hi : i < n) (hn : n < 2147483648) :
    OCon l Z EL (⟨"java/lang/String", "checkIndex", "(II)V"⟩ : MethodName) jdk_42_method_155_code 2 none [] ({ frames := 1, cells := 0, slots := 0, locals := 14 } : Room) #[.int (Int32.ofNat i), .int (Int32.ofNat n)] [] [] (fun v M N => v = none ∧ M = [] ∧ N = []) := by
  refine OCon.of_wp (L0 := [.val (.int (Int32.ofNat i)), .val (.int (Int32.ofNat n))]) pn_CKI hEL (fun m => by first | (simp [entryFrame, mkF, argsToLocals, Value.category]; done) | rfl) ?_
  intro p e s m below meth c hk
  refine OWp.iload_n hk d_CKI_0 (pc' := 1) rfl rfl ?_
  refine OWp.iload_n hk d_CKI_1 (pc' := 2) rfl rfl ?_
  refine OWp.getstatic hk d_CKI_2 (pc' := 5) rfl (hw _ (List.mem_of_getElem? (i := 44) rfl)) O4 ?_
  refine OWp.callS hk d_CKI_5 (pc' := 8) rfl (hw _ (List.mem_of_getElem? (i := 46) rfl)) (hw _ (List.mem_of_getElem? (i := 47) rfl)) (hw _ (List.mem_of_getElem? (i := 45) rfl)) (hw _ (List.mem_of_getElem? (i := 48) rfl)) (by decide) (c_PCI hw hEL hf hi hn) rfl (by simp) rfl (lenOf pd_5 rfl) rfl (W := 0) rfl (by first | decide | (dsimp only; omega)) (by first | decide | (dsimp only; omega)) (by first | decide | (dsimp only; omega)) (by first | decide | (dsimp only; omega)) ?_
  rintro _ _ _ ⟨rfl, rfl, rfl⟩
  refine OWp.pop hk d_CKI_8 (pc' := 9) rfl rfl ?_
  exact OWp.ret0 hk d_CKI_9 ⟨rfl, rfl, rfl⟩ (List.Sublist.refl _) (fun _ h => h) (by decide) (by decide)
theorem c_LCA (hw : ∀ d ∈ tables_1, d.before a0 Z = true) (hEL : EW Z a0 EL) (O4 : Sta Z Z.heap "jdk/internal/util/Preconditions" "SIOOBE_FORMATTER" "Ljava/util/function/BiFunction;" fm) (hf : fm.isRef = true) (hs : SC Z t cx ct cs) (hl : lat cs = true) (hi : i < cs.length) :
    OCon l Z EL (⟨"java/lang/StringLatin1", "charAt", "([BI)C"⟩ : MethodName) jdk_43_method_2_code 2 (some .char) [] ({ frames := 2, cells := 0, slots := 0, locals := 27 } : Room) #[.ref t, .int (Int32.ofNat i)] [] [(x, cx), (t, ct)] (fun v M N => v = some (.int (cs.getD i 0)) ∧ M = [] ∧ N = []) := by
  refine OCon.of_wp (L0 := [.val (.ref t), .val (.int (Int32.ofNat i))]) pn_LCA hEL (fun m => by first | (simp [entryFrame, mkF, argsToLocals, Value.category]; done) | rfl) ?_
  intro p e s m below meth c hk
  have hA := hs.2.2.2.1
  have hc4 := hs.2.2.2.2.2
  rw [bytes_lat hl] at hA
  have hc := hs.2.2.2.2.1 _ (getD_mem hi)
  have h255 := lat_iff.mp hl _ (getD_mem hi)
  refine OWp.iload_n hk d_LCA_0 (pc' := 1) rfl rfl ?_
  refine OWp.aload_n hk d_LCA_1 (pc' := 2) rfl rfl rfl ?_
  refine OWp.arraylength hk d_LCA_2 (pc' := 3) rfl (by simp) hA (z := Int32.ofNat cs.length) (by rw [tab_len]) ?_
  refine OWp.callS hk d_LCA_3 (pc' := 6) rfl (hw _ (List.mem_of_getElem? (i := 41) rfl)) (hw _ (List.mem_of_getElem? (i := 42) rfl)) (hw _ (List.mem_of_getElem? (i := 1) rfl)) (hw _ (List.mem_of_getElem? (i := 43) rfl)) (by decide) (c_CKI hw hEL O4 hf hi (by omega)) rfl (by simp) rfl (lenOf pd_6 rfl) rfl (W := 0) rfl (by first | decide | (dsimp only; omega)) (by first | decide | (dsimp only; omega)) (by first | decide | (dsimp only; omega)) (by first | decide | (dsimp only; omega)) ?_
  rintro _ _ _ ⟨rfl, rfl, rfl⟩
  refine OWp.aload_n hk d_LCA_6 (pc' := 7) rfl rfl rfl ?_
  refine OWp.iload_n hk d_LCA_7 (pc' := 8) rfl rfl ?_
  refine OWp.baload hk d_LCA_8 (pc' := 9) rfl (by simp) hA (n_nn (by omega)) (by rw [n_nat (by omega)]; exact tab_get hi) ?_
  refine OWp.sipush hk d_LCA_9 (pc' := 12) rfl (z := 255) rfl ?_
  refine OWp.iand hk d_LCA_12 (pc' := 13) rfl ?_
  refine OWp.i2c hk d_LCA_13 (pc' := 14) rfl ?_
  exact OWp.retN hk (Or.inr (Or.inr (Or.inl rfl))) d_LCA_14 ⟨by rw [lo8_back hc.1 h255, nar_char_id hc.1 hc.2], rfl, rfl⟩ (List.Sublist.refl _) (fun _ h => h) (by decide) (by decide)
theorem c_CHA (hw : ∀ d ∈ tables_1, d.before a0 Z = true) (hEL : EW Z a0 EL) (O2 : Sta Z Z.heap "java/lang/String" "COMPACT_STRINGS" "Z" (.int zc)) (hzc : ¬ zc = 0) (O4 : Sta Z Z.heap "jdk/internal/util/Preconditions" "SIOOBE_FORMATTER" "Ljava/util/function/BiFunction;" fm) (hf : fm.isRef = true) (hs : SC Z t cx ct cs) (hl : lat cs = true) (hi : i < cs.length) :
    OCon l Z EL (⟨"java/lang/String", "charAt", "(I)C"⟩ : MethodName) jdk_42_method_56_code 2 (some .char) [] ({ frames := 3, cells := 0, slots := 0, locals := 40 } : Room) #[.ref x, .int (Int32.ofNat i)] [] [(x, cx), (t, ct)] (fun v M N => v = some (.int (cs.getD i 0)) ∧ M = [] ∧ N = []) := by
  refine OCon.of_wp (L0 := [.val (.ref x), .val (.int (Int32.ofNat i))]) pn_CHA hEL (fun m => by first | (simp [entryFrame, mkF, argsToLocals, Value.category]; done) | rfl) ?_
  intro p e s m below meth c hk
  have hc := hs.2.2.2.2.1 _ (getD_mem hi)
  refine OWp.aload_n hk d_CHA_0 (pc' := 1) rfl rfl rfl ?_
  refine OWp.callV hk d_CHA_1 (pc' := 4) rfl (hw _ (List.mem_of_getElem? (i := 32) rfl)) (hw _ (List.mem_of_getElem? (i := 33) rfl)) (nfs (hw _ (List.mem_of_getElem? (i := 35) rfl))) (hw _ (List.mem_of_getElem? (i := 35) rfl)) (hw _ (List.mem_of_getElem? (i := 34) rfl)) (hw _ (List.mem_of_getElem? (i := 1) rfl)) (hw _ (List.mem_of_getElem? (i := 36) rfl)) (by decide) (by simp) hs.1 (c_ISL hw hEL O2 hzc hs) rfl (by simp) rfl (lenOf pd_7 rfl) rfl (W := 0) rfl (by first | decide | (dsimp only; omega)) (by first | decide | (dsimp only; omega)) (by first | decide | (dsimp only; omega)) (by first | decide | (dsimp only; omega)) ?_
  rintro _ _ _ ⟨rfl, rfl, rfl⟩
  refine OWp.ifNo hk d_CHA_4 (XT.i0_eq_f (by rw [hl]; decide)) (pc' := 7) rfl ?_
  refine OWp.aload_n hk d_CHA_7 (pc' := 8) rfl rfl rfl ?_
  refine OWp.getfield hk d_CHA_8 (pc' := 11) rfl (hw _ (List.mem_of_getElem? (i := 13) rfl)) (by simp) hs.2.1 ?_
  refine OWp.iload_n hk d_CHA_11 (pc' := 12) rfl rfl ?_
  refine OWp.callS hk d_CHA_12 (pc' := 15) rfl (hw _ (List.mem_of_getElem? (i := 37) rfl)) (hw _ (List.mem_of_getElem? (i := 38) rfl)) (hw _ (List.mem_of_getElem? (i := 39) rfl)) (hw _ (List.mem_of_getElem? (i := 40) rfl)) (by decide) (c_LCA (x := x) hw hEL O4 hf hs hl hi) rfl (by simp) rfl (lenOf pd_8 rfl) rfl (W := 0) rfl (by first | decide | (dsimp only; omega)) (by first | decide | (dsimp only; omega)) (by first | decide | (dsimp only; omega)) (by first | decide | (dsimp only; omega)) ?_
  rintro _ _ _ ⟨rfl, rfl, rfl⟩
  exact OWp.retN hk (Or.inr (Or.inr (Or.inl rfl))) d_CHA_15 ⟨by rw [nar_char_id hc.1 hc.2], rfl, rfl⟩ (List.Sublist.refl _) (fun _ h => h) (by decide) (by decide)
end StrCh
--CUT
theorem d_CIE_0 : decode jdk_116_method_22_code 0 = .ok (.iload_n 0, 1) := by decide +kernel
theorem d_CIE_1 : decode jdk_116_method_22_code 1 = .ok (.iload_n 1, 1) := by decide +kernel
theorem d_CIE_2 : decode jdk_116_method_22_code 2 = .ok (.if_icmp .ne 5, 3) := by decide +kernel
theorem d_CIE_5 : decode jdk_116_method_22_code 5 = .ok (.iconst 1, 1) := by decide +kernel
theorem d_CIE_6 : decode jdk_116_method_22_code 6 = .ok (.ireturn, 1) := by decide +kernel
theorem d_CIE_7 : decode jdk_116_method_22_code 7 = .ok (.iload_n 0, 1) := by decide +kernel
theorem d_CIE_8 : decode jdk_116_method_22_code 8 = .ok (.sipush 223, 3) := by decide +kernel
theorem d_CIE_11 : decode jdk_116_method_22_code 11 = .ok (.iand, 1) := by decide +kernel
theorem d_CIE_12 : decode jdk_116_method_22_code 12 = .ok (.istore_n 2, 1) := by decide +kernel
theorem d_CIE_13 : decode jdk_116_method_22_code 13 = .ok (.iload_n 2, 1) := by decide +kernel
theorem d_CIE_14 : decode jdk_116_method_22_code 14 = .ok (.bipush 65, 2) := by decide +kernel
theorem d_CIE_16 : decode jdk_116_method_22_code 16 = .ok (.if_icmp .ge 5, 3) := by decide +kernel
theorem d_CIE_19 : decode jdk_116_method_22_code 19 = .ok (.iconst 0, 1) := by decide +kernel
theorem d_CIE_20 : decode jdk_116_method_22_code 20 = .ok (.ireturn, 1) := by decide +kernel
theorem d_CIE_21 : decode jdk_116_method_22_code 21 = .ok (.iload_n 2, 1) := by decide +kernel
theorem d_CIE_22 : decode jdk_116_method_22_code 22 = .ok (.bipush 90, 2) := by decide +kernel
theorem d_CIE_24 : decode jdk_116_method_22_code 24 = .ok (.if_icmp .le 24, 3) := by decide +kernel
theorem d_CIE_27 : decode jdk_116_method_22_code 27 = .ok (.iload_n 2, 1) := by decide +kernel
theorem d_CIE_28 : decode jdk_116_method_22_code 28 = .ok (.sipush 192, 3) := by decide +kernel
theorem d_CIE_31 : decode jdk_116_method_22_code 31 = .ok (.if_icmp .lt 30, 3) := by decide +kernel
theorem d_CIE_34 : decode jdk_116_method_22_code 34 = .ok (.iload_n 2, 1) := by decide +kernel
theorem d_CIE_35 : decode jdk_116_method_22_code 35 = .ok (.sipush 222, 3) := by decide +kernel
theorem d_CIE_38 : decode jdk_116_method_22_code 38 = .ok (.if_icmp .gt 23, 3) := by decide +kernel
theorem d_CIE_41 : decode jdk_116_method_22_code 41 = .ok (.iload_n 2, 1) := by decide +kernel
theorem d_CIE_42 : decode jdk_116_method_22_code 42 = .ok (.sipush 215, 3) := by decide +kernel
theorem d_CIE_45 : decode jdk_116_method_22_code 45 = .ok (.if_icmp .eq 16, 3) := by decide +kernel
theorem d_CIE_48 : decode jdk_116_method_22_code 48 = .ok (.iload_n 2, 1) := by decide +kernel
theorem d_CIE_49 : decode jdk_116_method_22_code 49 = .ok (.iload_n 1, 1) := by decide +kernel
theorem d_CIE_50 : decode jdk_116_method_22_code 50 = .ok (.sipush 223, 3) := by decide +kernel
theorem d_CIE_53 : decode jdk_116_method_22_code 53 = .ok (.iand, 1) := by decide +kernel
theorem d_CIE_54 : decode jdk_116_method_22_code 54 = .ok (.if_icmp .ne 7, 3) := by decide +kernel
theorem d_CIE_57 : decode jdk_116_method_22_code 57 = .ok (.iconst 1, 1) := by decide +kernel
theorem d_CIE_58 : decode jdk_116_method_22_code 58 = .ok (.goto 4, 3) := by decide +kernel
theorem d_CIE_61 : decode jdk_116_method_22_code 61 = .ok (.iconst 0, 1) := by decide +kernel
theorem d_CIE_62 : decode jdk_116_method_22_code 62 = .ok (.ireturn, 1) := by decide +kernel
theorem pn_CIE : plainFor (⟨"java/lang/CharacterDataLatin1", "equalsIgnoreCase", "(BB)Z"⟩ : MethodName) = true := by first | exact plainFor_of_name (by first | (simp [plainName, overriddenIn]; done) | decide +kernel) | decide +kernel
theorem d_RMC_0 : decode jdk_43_method_30_code 0 = .ok (.iload_n 1, 1) := by decide +kernel
theorem d_RMC_1 : decode jdk_43_method_30_code 1 = .ok (.iload 4, 2) := by decide +kernel
theorem d_RMC_3 : decode jdk_43_method_30_code 3 = .ok (.iadd, 1) := by decide +kernel
theorem d_RMC_4 : decode jdk_43_method_30_code 4 = .ok (.istore 5, 2) := by decide +kernel
theorem d_RMC_6 : decode jdk_43_method_30_code 6 = .ok (.iload_n 1, 1) := by decide +kernel
theorem d_RMC_7 : decode jdk_43_method_30_code 7 = .ok (.iload 5, 2) := by decide +kernel
theorem d_RMC_9 : decode jdk_43_method_30_code 9 = .ok (.if_icmp .ge 34, 3) := by decide +kernel
theorem d_RMC_12 : decode jdk_43_method_30_code 12 = .ok (.aload_n 0, 1) := by decide +kernel
theorem d_RMC_13 : decode jdk_43_method_30_code 13 = .ok (.iload_n 1, 1) := by decide +kernel
theorem d_RMC_14 : decode jdk_43_method_30_code 14 = .ok (.iinc 1 1, 3) := by decide +kernel
theorem d_RMC_17 : decode jdk_43_method_30_code 17 = .ok (.baload, 1) := by decide +kernel
theorem d_RMC_18 : decode jdk_43_method_30_code 18 = .ok (.istore 6, 2) := by decide +kernel
theorem d_RMC_20 : decode jdk_43_method_30_code 20 = .ok (.aload_n 2, 1) := by decide +kernel
theorem d_RMC_21 : decode jdk_43_method_30_code 21 = .ok (.iload_n 3, 1) := by decide +kernel
theorem d_RMC_22 : decode jdk_43_method_30_code 22 = .ok (.iinc 3 1, 3) := by decide +kernel
theorem d_RMC_25 : decode jdk_43_method_30_code 25 = .ok (.baload, 1) := by decide +kernel
theorem d_RMC_26 : decode jdk_43_method_30_code 26 = .ok (.istore 7, 2) := by decide +kernel
theorem d_RMC_28 : decode jdk_43_method_30_code 28 = .ok (.iload 6, 2) := by decide +kernel
theorem d_RMC_30 : decode jdk_43_method_30_code 30 = .ok (.iload 7, 2) := by decide +kernel
theorem d_RMC_32 : decode jdk_43_method_30_code 32 = .ok (.invokestatic 153, 3) := by decide +kernel
theorem d_RMC_35 : decode jdk_43_method_30_code 35 = .ok (.ifCond .eq 6, 3) := by decide +kernel
theorem d_RMC_38 : decode jdk_43_method_30_code 38 = .ok (.goto (-32), 3) := by decide +kernel
theorem d_RMC_41 : decode jdk_43_method_30_code 41 = .ok (.iconst 0, 1) := by decide +kernel
theorem d_RMC_42 : decode jdk_43_method_30_code 42 = .ok (.ireturn, 1) := by decide +kernel
theorem d_RMC_43 : decode jdk_43_method_30_code 43 = .ok (.iconst 1, 1) := by decide +kernel
theorem d_RMC_44 : decode jdk_43_method_30_code 44 = .ok (.ireturn, 1) := by decide +kernel
theorem pn_RMC : plainFor (⟨"java/lang/StringLatin1", "regionMatchesCI", "([BI[BII)Z"⟩ : MethodName) = true := by first | exact plainFor_of_name (by first | (simp [plainName, overriddenIn]; done) | decide +kernel) | decide +kernel
theorem d_RM_0 : decode jdk_42_method_74_code 0 = .ok (.iload_n 1, 1) := by decide +kernel
theorem d_RM_1 : decode jdk_42_method_74_code 1 = .ok (.ifCond .ne 14, 3) := by decide +kernel
theorem d_RM_4 : decode jdk_42_method_74_code 4 = .ok (.aload_n 0, 1) := by decide +kernel
theorem d_RM_5 : decode jdk_42_method_74_code 5 = .ok (.iload_n 2, 1) := by decide +kernel
theorem d_RM_6 : decode jdk_42_method_74_code 6 = .ok (.aload_n 3, 1) := by decide +kernel
theorem d_RM_7 : decode jdk_42_method_74_code 7 = .ok (.iload 4, 2) := by decide +kernel
theorem d_RM_9 : decode jdk_42_method_74_code 9 = .ok (.iload 5, 2) := by decide +kernel
theorem d_RM_11 : decode jdk_42_method_74_code 11 = .ok (.invokevirtual 610, 3) := by decide +kernel
theorem d_RM_14 : decode jdk_42_method_74_code 14 = .ok (.ireturn, 1) := by decide +kernel
theorem d_RM_15 : decode jdk_42_method_74_code 15 = .ok (.iload 4, 2) := by decide +kernel
theorem d_RM_17 : decode jdk_42_method_74_code 17 = .ok (.ifCond .lt 38, 3) := by decide +kernel
theorem d_RM_20 : decode jdk_42_method_74_code 20 = .ok (.iload_n 2, 1) := by decide +kernel
theorem d_RM_21 : decode jdk_42_method_74_code 21 = .ok (.ifCond .lt 34, 3) := by decide +kernel
theorem d_RM_24 : decode jdk_42_method_74_code 24 = .ok (.iload_n 2, 1) := by decide +kernel
theorem d_RM_25 : decode jdk_42_method_74_code 25 = .ok (.i2l, 1) := by decide +kernel
theorem d_RM_26 : decode jdk_42_method_74_code 26 = .ok (.aload_n 0, 1) := by decide +kernel
theorem d_RM_27 : decode jdk_42_method_74_code 27 = .ok (.invokevirtual 505, 3) := by decide +kernel
theorem d_RM_30 : decode jdk_42_method_74_code 30 = .ok (.i2l, 1) := by decide +kernel
theorem d_RM_31 : decode jdk_42_method_74_code 31 = .ok (.iload 5, 2) := by decide +kernel
theorem d_RM_33 : decode jdk_42_method_74_code 33 = .ok (.i2l, 1) := by decide +kernel
theorem d_RM_34 : decode jdk_42_method_74_code 34 = .ok (.lsub, 1) := by decide +kernel
theorem d_RM_35 : decode jdk_42_method_74_code 35 = .ok (.lcmp, 1) := by decide +kernel
theorem d_RM_36 : decode jdk_42_method_74_code 36 = .ok (.ifCond .gt 19, 3) := by decide +kernel
theorem d_RM_39 : decode jdk_42_method_74_code 39 = .ok (.iload 4, 2) := by decide +kernel
theorem d_RM_41 : decode jdk_42_method_74_code 41 = .ok (.i2l, 1) := by decide +kernel
theorem d_RM_42 : decode jdk_42_method_74_code 42 = .ok (.aload_n 3, 1) := by decide +kernel
theorem d_RM_43 : decode jdk_42_method_74_code 43 = .ok (.invokevirtual 505, 3) := by decide +kernel
theorem d_RM_46 : decode jdk_42_method_74_code 46 = .ok (.i2l, 1) := by decide +kernel
theorem d_RM_47 : decode jdk_42_method_74_code 47 = .ok (.iload 5, 2) := by decide +kernel
theorem d_RM_49 : decode jdk_42_method_74_code 49 = .ok (.i2l, 1) := by decide +kernel
theorem d_RM_50 : decode jdk_42_method_74_code 50 = .ok (.lsub, 1) := by decide +kernel
theorem d_RM_51 : decode jdk_42_method_74_code 51 = .ok (.lcmp, 1) := by decide +kernel
theorem d_RM_52 : decode jdk_42_method_74_code 52 = .ok (.ifCond .le 5, 3) := by decide +kernel
theorem d_RM_55 : decode jdk_42_method_74_code 55 = .ok (.iconst 0, 1) := by decide +kernel
theorem d_RM_56 : decode jdk_42_method_74_code 56 = .ok (.ireturn, 1) := by decide +kernel
theorem d_RM_57 : decode jdk_42_method_74_code 57 = .ok (.aload_n 0, 1) := by decide +kernel
theorem d_RM_58 : decode jdk_42_method_74_code 58 = .ok (.getfield 9, 3) := by decide +kernel
theorem d_RM_61 : decode jdk_42_method_74_code 61 = .ok (.astore 6, 2) := by decide +kernel
theorem d_RM_63 : decode jdk_42_method_74_code 63 = .ok (.aload_n 3, 1) := by decide +kernel
theorem d_RM_64 : decode jdk_42_method_74_code 64 = .ok (.getfield 9, 3) := by decide +kernel
theorem d_RM_67 : decode jdk_42_method_74_code 67 = .ok (.astore 7, 2) := by decide +kernel
theorem d_RM_69 : decode jdk_42_method_74_code 69 = .ok (.aload_n 0, 1) := by decide +kernel
theorem d_RM_70 : decode jdk_42_method_74_code 70 = .ok (.invokevirtual 335, 3) := by decide +kernel
theorem d_RM_73 : decode jdk_42_method_74_code 73 = .ok (.istore 8, 2) := by decide +kernel
theorem d_RM_75 : decode jdk_42_method_74_code 75 = .ok (.iload 8, 2) := by decide +kernel
theorem d_RM_77 : decode jdk_42_method_74_code 77 = .ok (.aload_n 3, 1) := by decide +kernel
theorem d_RM_78 : decode jdk_42_method_74_code 78 = .ok (.invokevirtual 335, 3) := by decide +kernel
theorem d_RM_81 : decode jdk_42_method_74_code 81 = .ok (.if_icmp .ne 36, 3) := by decide +kernel
theorem d_RM_84 : decode jdk_42_method_74_code 84 = .ok (.iload 8, 2) := by decide +kernel
theorem d_RM_86 : decode jdk_42_method_74_code 86 = .ok (.ifCond .ne 18, 3) := by decide +kernel
theorem d_RM_89 : decode jdk_42_method_74_code 89 = .ok (.aload 6, 2) := by decide +kernel
theorem d_RM_91 : decode jdk_42_method_74_code 91 = .ok (.iload_n 2, 1) := by decide +kernel
theorem d_RM_92 : decode jdk_42_method_74_code 92 = .ok (.aload 7, 2) := by decide +kernel
theorem d_RM_94 : decode jdk_42_method_74_code 94 = .ok (.iload 4, 2) := by decide +kernel
theorem d_RM_96 : decode jdk_42_method_74_code 96 = .ok (.iload 5, 2) := by decide +kernel
theorem d_RM_98 : decode jdk_42_method_74_code 98 = .ok (.invokestatic 613, 3) := by decide +kernel
theorem d_RM_101 : decode jdk_42_method_74_code 101 = .ok (.goto 15, 3) := by decide +kernel
theorem d_RM_104 : decode jdk_42_method_74_code 104 = .ok (.aload 6, 2) := by decide +kernel
theorem d_RM_106 : decode jdk_42_method_74_code 106 = .ok (.iload_n 2, 1) := by decide +kernel
theorem d_RM_107 : decode jdk_42_method_74_code 107 = .ok (.aload 7, 2) := by decide +kernel
theorem d_RM_109 : decode jdk_42_method_74_code 109 = .ok (.iload 4, 2) := by decide +kernel
theorem d_RM_111 : decode jdk_42_method_74_code 111 = .ok (.iload 5, 2) := by decide +kernel
theorem d_RM_113 : decode jdk_42_method_74_code 113 = .ok (.invokestatic 617, 3) := by decide +kernel
theorem d_RM_116 : decode jdk_42_method_74_code 116 = .ok (.ireturn, 1) := by decide +kernel
theorem d_RM_117 : decode jdk_42_method_74_code 117 = .ok (.iload 8, 2) := by decide +kernel
theorem d_RM_119 : decode jdk_42_method_74_code 119 = .ok (.ifCond .ne 18, 3) := by decide +kernel
theorem d_RM_122 : decode jdk_42_method_74_code 122 = .ok (.aload 6, 2) := by decide +kernel
theorem d_RM_124 : decode jdk_42_method_74_code 124 = .ok (.iload_n 2, 1) := by decide +kernel
theorem d_RM_125 : decode jdk_42_method_74_code 125 = .ok (.aload 7, 2) := by decide +kernel
theorem d_RM_127 : decode jdk_42_method_74_code 127 = .ok (.iload 4, 2) := by decide +kernel
theorem d_RM_129 : decode jdk_42_method_74_code 129 = .ok (.iload 5, 2) := by decide +kernel
theorem d_RM_131 : decode jdk_42_method_74_code 131 = .ok (.invokestatic 618, 3) := by decide +kernel
theorem d_RM_134 : decode jdk_42_method_74_code 134 = .ok (.goto 15, 3) := by decide +kernel
theorem d_RM_137 : decode jdk_42_method_74_code 137 = .ok (.aload 6, 2) := by decide +kernel
theorem d_RM_139 : decode jdk_42_method_74_code 139 = .ok (.iload_n 2, 1) := by decide +kernel
theorem d_RM_140 : decode jdk_42_method_74_code 140 = .ok (.aload 7, 2) := by decide +kernel
theorem d_RM_142 : decode jdk_42_method_74_code 142 = .ok (.iload 4, 2) := by decide +kernel
theorem d_RM_144 : decode jdk_42_method_74_code 144 = .ok (.iload 5, 2) := by decide +kernel
theorem d_RM_146 : decode jdk_42_method_74_code 146 = .ok (.invokestatic 621, 3) := by decide +kernel
theorem d_RM_149 : decode jdk_42_method_74_code 149 = .ok (.ireturn, 1) := by decide +kernel
theorem pn_RM : plainFor (⟨"java/lang/String", "regionMatches", "(ZILjava/lang/String;II)Z"⟩ : MethodName) = true := by first | exact plainFor_of_name (by first | (simp [plainName, overriddenIn]; done) | decide +kernel) | decide +kernel
theorem d_EIC_0 : decode jdk_42_method_70_code 0 = .ok (.aload_n 0, 1) := by decide +kernel
theorem d_EIC_1 : decode jdk_42_method_70_code 1 = .ok (.aload_n 1, 1) := by decide +kernel
theorem d_EIC_2 : decode jdk_42_method_70_code 2 = .ok (.if_acmp .ne 7, 3) := by decide +kernel
theorem d_EIC_5 : decode jdk_42_method_70_code 5 = .ok (.iconst 1, 1) := by decide +kernel
theorem d_EIC_6 : decode jdk_42_method_70_code 6 = .ok (.goto 38, 3) := by decide +kernel
theorem d_EIC_9 : decode jdk_42_method_70_code 9 = .ok (.aload_n 1, 1) := by decide +kernel
theorem d_EIC_10 : decode jdk_42_method_70_code 10 = .ok (.ifnull 33, 3) := by decide +kernel
theorem d_EIC_13 : decode jdk_42_method_70_code 13 = .ok (.aload_n 1, 1) := by decide +kernel
theorem d_EIC_14 : decode jdk_42_method_70_code 14 = .ok (.invokevirtual 505, 3) := by decide +kernel
theorem d_EIC_17 : decode jdk_42_method_70_code 17 = .ok (.aload_n 0, 1) := by decide +kernel
theorem d_EIC_18 : decode jdk_42_method_70_code 18 = .ok (.invokevirtual 505, 3) := by decide +kernel
theorem d_EIC_21 : decode jdk_42_method_70_code 21 = .ok (.if_icmp .ne 22, 3) := by decide +kernel
theorem d_EIC_24 : decode jdk_42_method_70_code 24 = .ok (.aload_n 0, 1) := by decide +kernel
theorem d_EIC_25 : decode jdk_42_method_70_code 25 = .ok (.iconst 1, 1) := by decide +kernel
theorem d_EIC_26 : decode jdk_42_method_70_code 26 = .ok (.iconst 0, 1) := by decide +kernel
theorem d_EIC_27 : decode jdk_42_method_70_code 27 = .ok (.aload_n 1, 1) := by decide +kernel
theorem d_EIC_28 : decode jdk_42_method_70_code 28 = .ok (.iconst 0, 1) := by decide +kernel
theorem d_EIC_29 : decode jdk_42_method_70_code 29 = .ok (.aload_n 0, 1) := by decide +kernel
theorem d_EIC_30 : decode jdk_42_method_70_code 30 = .ok (.invokevirtual 505, 3) := by decide +kernel
theorem d_EIC_33 : decode jdk_42_method_70_code 33 = .ok (.invokevirtual 582, 3) := by decide +kernel
theorem d_EIC_36 : decode jdk_42_method_70_code 36 = .ok (.ifCond .eq 7, 3) := by decide +kernel
theorem d_EIC_39 : decode jdk_42_method_70_code 39 = .ok (.iconst 1, 1) := by decide +kernel
theorem d_EIC_40 : decode jdk_42_method_70_code 40 = .ok (.goto 4, 3) := by decide +kernel
theorem d_EIC_43 : decode jdk_42_method_70_code 43 = .ok (.iconst 0, 1) := by decide +kernel
theorem d_EIC_44 : decode jdk_42_method_70_code 44 = .ok (.ireturn, 1) := by decide +kernel
theorem pn_EIC : plainFor (⟨"java/lang/String", "equalsIgnoreCase", "(Ljava/lang/String;)Z"⟩ : MethodName) = true := by first | exact plainFor_of_name (by first | (simp [plainName, overriddenIn]; done) | decide +kernel) | decide +kernel
theorem d_OIN_0 : decode jdk_32_method_2_code 0 = .ok (.aload_n 0, 1) := by decide +kernel
theorem d_OIN_1 : decode jdk_32_method_2_code 1 = .ok (.invokespecial 7, 3) := by decide +kernel
theorem d_OIN_4 : decode jdk_32_method_2_code 4 = .ok (.aload_n 0, 1) := by decide +kernel
theorem d_OIN_5 : decode jdk_32_method_2_code 5 = .ok (.aload_n 1, 1) := by decide +kernel
theorem d_OIN_6 : decode jdk_32_method_2_code 6 = .ok (.putfield 13, 3) := by decide +kernel
theorem d_OIN_9 : decode jdk_32_method_2_code 9 = .ok (.return_, 1) := by decide +kernel
theorem pn_OIN : plainFor (⟨"java/util/Optional", "<init>", "(Ljava/lang/Object;)V"⟩ : MethodName) = true := by first | exact plainFor_of_name (by first | (simp [plainName, overriddenIn]; done) | decide +kernel) | decide +kernel
theorem d_RN1_0 : decode jdk_31_method_10_code 0 = .ok (.aload_n 0, 1) := by decide +kernel
theorem d_RN1_1 : decode jdk_31_method_10_code 1 = .ok (.ifnonnull 11, 3) := by decide +kernel
theorem d_RN1_4 : decode jdk_31_method_10_code 4 = .ok (.new 84, 3) := by decide +kernel
theorem d_RN1_7 : decode jdk_31_method_10_code 7 = .ok (.dup, 1) := by decide +kernel
theorem d_RN1_8 : decode jdk_31_method_10_code 8 = .ok (.invokespecial 86, 3) := by decide +kernel
theorem d_RN1_11 : decode jdk_31_method_10_code 11 = .ok (.athrow, 1) := by decide +kernel
theorem d_RN1_12 : decode jdk_31_method_10_code 12 = .ok (.aload_n 0, 1) := by decide +kernel
theorem d_RN1_13 : decode jdk_31_method_10_code 13 = .ok (.areturn, 1) := by decide +kernel
theorem pn_RN1 : plainFor (⟨"java/util/Objects", "requireNonNull", "(Ljava/lang/Object;)Ljava/lang/Object;"⟩ : MethodName) = true := by first | exact plainFor_of_name (by first | (simp [plainName, overriddenIn]; done) | decide +kernel) | decide +kernel
theorem d_OOF_0 : decode jdk_32_method_3_code 0 = .ok (.new 2, 3) := by decide +kernel
theorem d_OOF_3 : decode jdk_32_method_3_code 3 = .ok (.dup, 1) := by decide +kernel
theorem d_OOF_4 : decode jdk_32_method_3_code 4 = .ok (.aload_n 0, 1) := by decide +kernel
theorem d_OOF_5 : decode jdk_32_method_3_code 5 = .ok (.invokestatic 17, 3) := by decide +kernel
theorem d_OOF_8 : decode jdk_32_method_3_code 8 = .ok (.invokespecial 23, 3) := by decide +kernel
theorem d_OOF_11 : decode jdk_32_method_3_code 11 = .ok (.areturn, 1) := by decide +kernel
theorem pn_OOF : plainFor (⟨"java/util/Optional", "of", "(Ljava/lang/Object;)Ljava/util/Optional;"⟩ : MethodName) = true := by first | exact plainFor_of_name (by first | (simp [plainName, overriddenIn]; done) | decide +kernel) | decide +kernel
theorem d_OEM_0 : decode jdk_32_method_1_code 0 = .ok (.getstatic 1, 3) := by decide +kernel
theorem d_OEM_3 : decode jdk_32_method_1_code 3 = .ok (.astore_n 0, 1) := by decide +kernel
theorem d_OEM_4 : decode jdk_32_method_1_code 4 = .ok (.aload_n 0, 1) := by decide +kernel
theorem d_OEM_5 : decode jdk_32_method_1_code 5 = .ok (.areturn, 1) := by decide +kernel
theorem pn_OEM : plainFor (⟨"java/util/Optional", "empty", "()Ljava/util/Optional;"⟩ : MethodName) = true := by first | exact plainFor_of_name (by first | (simp [plainName, overriddenIn]; done) | decide +kernel) | decide +kernel
theorem d_ORE_0 : decode jdk_32_method_15_code 0 = .ok (.aload_n 0, 1) := by decide +kernel
theorem d_ORE_1 : decode jdk_32_method_15_code 1 = .ok (.getfield 13, 3) := by decide +kernel
theorem d_ORE_4 : decode jdk_32_method_15_code 4 = .ok (.ifnull 10, 3) := by decide +kernel
theorem d_ORE_7 : decode jdk_32_method_15_code 7 = .ok (.aload_n 0, 1) := by decide +kernel
theorem d_ORE_8 : decode jdk_32_method_15_code 8 = .ok (.getfield 13, 3) := by decide +kernel
theorem d_ORE_11 : decode jdk_32_method_15_code 11 = .ok (.goto 4, 3) := by decide +kernel
theorem d_ORE_14 : decode jdk_32_method_15_code 14 = .ok (.aload_n 1, 1) := by decide +kernel
theorem d_ORE_15 : decode jdk_32_method_15_code 15 = .ok (.areturn, 1) := by decide +kernel
theorem pn_ORE : plainFor (⟨"java/util/Optional", "orElse", "(Ljava/lang/Object;)Ljava/lang/Object;"⟩ : MethodName) = true := by first | exact plainFor_of_name (by first | (simp [plainName, overriddenIn]; done) | decide +kernel) | decide +kernel
theorem d_VAL_0 : decode prog_28_method_1_code 0 = .ok (.getstatic 10, 3) := by decide +kernel
theorem d_VAL_3 : decode prog_28_method_1_code 3 = .ok (.invokevirtual 14, 3) := by decide +kernel
theorem d_VAL_6 : decode prog_28_method_1_code 6 = .ok (.checkcast 15, 3) := by decide +kernel
theorem d_VAL_9 : decode prog_28_method_1_code 9 = .ok (.areturn, 1) := by decide +kernel
theorem pn_VAL : plainFor (⟨"com/example/cardea/cardea/request/TrustedProxies$Header", "values", "()[Lcom/example/cardea/cardea/request/TrustedProxies$Header;"⟩ : MethodName) = true := by first | exact plainFor_of_name (by first | (simp [plainName, overriddenIn]; done) | decide +kernel) | decide +kernel
theorem d_NMD_0 : decode prog_28_method_5_code 0 = .ok (.invokestatic 33, 3) := by decide +kernel
theorem d_NMD_3 : decode prog_28_method_5_code 3 = .ok (.astore_n 1, 1) := by decide +kernel
theorem d_NMD_4 : decode prog_28_method_5_code 4 = .ok (.aload_n 1, 1) := by decide +kernel
theorem d_NMD_5 : decode prog_28_method_5_code 5 = .ok (.arraylength, 1) := by decide +kernel
theorem d_NMD_6 : decode prog_28_method_5_code 6 = .ok (.istore_n 2, 1) := by decide +kernel
theorem d_NMD_7 : decode prog_28_method_5_code 7 = .ok (.iconst 0, 1) := by decide +kernel
theorem d_NMD_8 : decode prog_28_method_5_code 8 = .ok (.istore_n 3, 1) := by decide +kernel
theorem d_NMD_9 : decode prog_28_method_5_code 9 = .ok (.iload_n 3, 1) := by decide +kernel
theorem d_NMD_10 : decode prog_28_method_5_code 10 = .ok (.iload_n 2, 1) := by decide +kernel
theorem d_NMD_11 : decode prog_28_method_5_code 11 = .ok (.if_icmp .ge 32, 3) := by decide +kernel
theorem d_NMD_14 : decode prog_28_method_5_code 14 = .ok (.aload_n 1, 1) := by decide +kernel
theorem d_NMD_15 : decode prog_28_method_5_code 15 = .ok (.iload_n 3, 1) := by decide +kernel
theorem d_NMD_16 : decode prog_28_method_5_code 16 = .ok (.aaload, 1) := by decide +kernel
theorem d_NMD_17 : decode prog_28_method_5_code 17 = .ok (.astore 4, 2) := by decide +kernel
theorem d_NMD_19 : decode prog_28_method_5_code 19 = .ok (.aload 4, 2) := by decide +kernel
theorem d_NMD_21 : decode prog_28_method_5_code 21 = .ok (.getfield 29, 3) := by decide +kernel
theorem d_NMD_24 : decode prog_28_method_5_code 24 = .ok (.aload_n 0, 1) := by decide +kernel
theorem d_NMD_25 : decode prog_28_method_5_code 25 = .ok (.invokevirtual 37, 3) := by decide +kernel
theorem d_NMD_28 : decode prog_28_method_5_code 28 = .ok (.ifCond .eq 9, 3) := by decide +kernel
theorem d_NMD_31 : decode prog_28_method_5_code 31 = .ok (.aload 4, 2) := by decide +kernel
theorem d_NMD_33 : decode prog_28_method_5_code 33 = .ok (.invokestatic 43, 3) := by decide +kernel
theorem d_NMD_36 : decode prog_28_method_5_code 36 = .ok (.areturn, 1) := by decide +kernel
theorem d_NMD_37 : decode prog_28_method_5_code 37 = .ok (.iinc 3 1, 3) := by decide +kernel
theorem d_NMD_40 : decode prog_28_method_5_code 40 = .ok (.goto (-31), 3) := by decide +kernel
theorem d_NMD_43 : decode prog_28_method_5_code 43 = .ok (.invokestatic 49, 3) := by decide +kernel
theorem d_NMD_46 : decode prog_28_method_5_code 46 = .ok (.areturn, 1) := by decide +kernel
theorem pn_NMD : plainFor (⟨"com/example/cardea/cardea/request/TrustedProxies$Header", "named", "(Ljava/lang/String;)Ljava/util/Optional;"⟩ : MethodName) = true := by first | exact plainFor_of_name (by first | (simp [plainName, overriddenIn]; done) | decide +kernel) | decide +kernel
theorem d_CSD_0 : decode method_4_code 0 = .ok (.iload_n 1, 1) := by decide +kernel
theorem d_CSD_1 : decode method_4_code 1 = .ok (.iload_n 2, 1) := by decide +kernel
theorem d_CSD_2 : decode method_4_code 2 = .ok (.iushr, 1) := by decide +kernel
theorem d_CSD_3 : decode method_4_code 3 = .ok (.iconst 1, 1) := by decide +kernel
theorem d_CSD_4 : decode method_4_code 4 = .ok (.iand, 1) := by decide +kernel
theorem d_CSD_5 : decode method_4_code 5 = .ok (.ifCond .ne 5, 3) := by decide +kernel
theorem d_CSD_8 : decode method_4_code 8 = .ok (.iload_n 0, 1) := by decide +kernel
theorem d_CSD_9 : decode method_4_code 9 = .ok (.ireturn, 1) := by decide +kernel
theorem d_CSD_10 : decode method_4_code 10 = .ok (.iload_n 0, 1) := by decide +kernel
theorem d_CSD_11 : decode method_4_code 11 = .ok (.bipush 97, 2) := by decide +kernel
theorem d_CSD_13 : decode method_4_code 13 = .ok (.if_icmp .lt 15, 3) := by decide +kernel
theorem d_CSD_16 : decode method_4_code 16 = .ok (.iload_n 0, 1) := by decide +kernel
theorem d_CSD_17 : decode method_4_code 17 = .ok (.bipush 122, 2) := by decide +kernel
theorem d_CSD_19 : decode method_4_code 19 = .ok (.if_icmp .gt 9, 3) := by decide +kernel
theorem d_CSD_22 : decode method_4_code 22 = .ok (.iload_n 0, 1) := by decide +kernel
theorem d_CSD_23 : decode method_4_code 23 = .ok (.bipush 32, 2) := by decide +kernel
theorem d_CSD_25 : decode method_4_code 25 = .ok (.isub, 1) := by decide +kernel
theorem d_CSD_26 : decode method_4_code 26 = .ok (.i2c, 1) := by decide +kernel
theorem d_CSD_27 : decode method_4_code 27 = .ok (.ireturn, 1) := by decide +kernel
theorem d_CSD_28 : decode method_4_code 28 = .ok (.iload_n 0, 1) := by decide +kernel
theorem d_CSD_29 : decode method_4_code 29 = .ok (.bipush 65, 2) := by decide +kernel
theorem d_CSD_31 : decode method_4_code 31 = .ok (.if_icmp .lt 15, 3) := by decide +kernel
theorem d_CSD_34 : decode method_4_code 34 = .ok (.iload_n 0, 1) := by decide +kernel
theorem d_CSD_35 : decode method_4_code 35 = .ok (.bipush 90, 2) := by decide +kernel
theorem d_CSD_37 : decode method_4_code 37 = .ok (.if_icmp .gt 9, 3) := by decide +kernel
theorem d_CSD_40 : decode method_4_code 40 = .ok (.iload_n 0, 1) := by decide +kernel
theorem d_CSD_41 : decode method_4_code 41 = .ok (.bipush 32, 2) := by decide +kernel
theorem d_CSD_43 : decode method_4_code 43 = .ok (.iadd, 1) := by decide +kernel
theorem d_CSD_44 : decode method_4_code 44 = .ok (.i2c, 1) := by decide +kernel
theorem d_CSD_45 : decode method_4_code 45 = .ok (.ireturn, 1) := by decide +kernel
theorem d_CSD_46 : decode method_4_code 46 = .ok (.iload_n 0, 1) := by decide +kernel
theorem d_CSD_47 : decode method_4_code 47 = .ok (.ireturn, 1) := by decide +kernel
theorem pn_CSD : plainFor (⟨"com/example/cardea/cardea/request/HeaderNamedPinLaw", "cased", "(CII)C"⟩ : MethodName) = true := by first | exact plainFor_of_name (by first | (simp [plainName, overriddenIn]; done) | decide +kernel) | decide +kernel
theorem d_AT_0 : decode method_3_code 0 = .ok (.iload_n 3, 1) := by decide +kernel
theorem d_AT_1 : decode method_3_code 1 = .ok (.aload_n 0, 1) := by decide +kernel
theorem d_AT_2 : decode method_3_code 2 = .ok (.invokevirtual 11, 3) := by decide +kernel
theorem d_AT_5 : decode method_3_code 5 = .ok (.if_icmp .ge 14, 3) := by decide +kernel
theorem d_AT_8 : decode method_3_code 8 = .ok (.aload_n 0, 1) := by decide +kernel
theorem d_AT_9 : decode method_3_code 9 = .ok (.iload_n 3, 1) := by decide +kernel
theorem d_AT_10 : decode method_3_code 10 = .ok (.invokevirtual 24, 3) := by decide +kernel
theorem d_AT_13 : decode method_3_code 13 = .ok (.iload_n 1, 1) := by decide +kernel
theorem d_AT_14 : decode method_3_code 14 = .ok (.iload_n 3, 1) := by decide +kernel
theorem d_AT_15 : decode method_3_code 15 = .ok (.invokestatic 58, 3) := by decide +kernel
theorem d_AT_18 : decode method_3_code 18 = .ok (.ireturn, 1) := by decide +kernel
theorem d_AT_19 : decode method_3_code 19 = .ok (.iload_n 2, 1) := by decide +kernel
theorem d_AT_20 : decode method_3_code 20 = .ok (.ireturn, 1) := by decide +kernel
theorem pn_AT : plainFor (⟨"com/example/cardea/cardea/request/HeaderNamedPinLaw", "at", "(Ljava/lang/String;ICI)C"⟩ : MethodName) = true := by first | exact plainFor_of_name (by first | (simp [plainName, overriddenIn]; done) | decide +kernel) | decide +kernel
theorem d_EQI_0 : decode method_5_code 0 = .ok (.iload_n 0, 1) := by decide +kernel
theorem d_EQI_1 : decode method_5_code 1 = .ok (.iload_n 1, 1) := by decide +kernel
theorem d_EQI_2 : decode method_5_code 2 = .ok (.if_icmp .ne 5, 3) := by decide +kernel
theorem d_EQI_5 : decode method_5_code 5 = .ok (.iconst 1, 1) := by decide +kernel
theorem d_EQI_6 : decode method_5_code 6 = .ok (.ireturn, 1) := by decide +kernel
theorem d_EQI_7 : decode method_5_code 7 = .ok (.iload_n 1, 1) := by decide +kernel
theorem d_EQI_8 : decode method_5_code 8 = .ok (.bipush 97, 2) := by decide +kernel
theorem d_EQI_10 : decode method_5_code 10 = .ok (.if_icmp .lt 24, 3) := by decide +kernel
theorem d_EQI_13 : decode method_5_code 13 = .ok (.iload_n 1, 1) := by decide +kernel
theorem d_EQI_14 : decode method_5_code 14 = .ok (.bipush 122, 2) := by decide +kernel
theorem d_EQI_16 : decode method_5_code 16 = .ok (.if_icmp .gt 18, 3) := by decide +kernel
theorem d_EQI_19 : decode method_5_code 19 = .ok (.iload_n 0, 1) := by decide +kernel
theorem d_EQI_20 : decode method_5_code 20 = .ok (.iload_n 1, 1) := by decide +kernel
theorem d_EQI_21 : decode method_5_code 21 = .ok (.bipush 32, 2) := by decide +kernel
theorem d_EQI_23 : decode method_5_code 23 = .ok (.isub, 1) := by decide +kernel
theorem d_EQI_24 : decode method_5_code 24 = .ok (.i2c, 1) := by decide +kernel
theorem d_EQI_25 : decode method_5_code 25 = .ok (.if_icmp .ne 7, 3) := by decide +kernel
theorem d_EQI_28 : decode method_5_code 28 = .ok (.iconst 1, 1) := by decide +kernel
theorem d_EQI_29 : decode method_5_code 29 = .ok (.goto 4, 3) := by decide +kernel
theorem d_EQI_32 : decode method_5_code 32 = .ok (.iconst 0, 1) := by decide +kernel
theorem d_EQI_33 : decode method_5_code 33 = .ok (.ireturn, 1) := by decide +kernel
theorem d_EQI_34 : decode method_5_code 34 = .ok (.iload_n 1, 1) := by decide +kernel
theorem d_EQI_35 : decode method_5_code 35 = .ok (.bipush 65, 2) := by decide +kernel
theorem d_EQI_37 : decode method_5_code 37 = .ok (.if_icmp .lt 24, 3) := by decide +kernel
theorem d_EQI_40 : decode method_5_code 40 = .ok (.iload_n 1, 1) := by decide +kernel
theorem d_EQI_41 : decode method_5_code 41 = .ok (.bipush 90, 2) := by decide +kernel
theorem d_EQI_43 : decode method_5_code 43 = .ok (.if_icmp .gt 18, 3) := by decide +kernel
theorem d_EQI_46 : decode method_5_code 46 = .ok (.iload_n 0, 1) := by decide +kernel
theorem d_EQI_47 : decode method_5_code 47 = .ok (.iload_n 1, 1) := by decide +kernel
theorem d_EQI_48 : decode method_5_code 48 = .ok (.bipush 32, 2) := by decide +kernel
theorem d_EQI_50 : decode method_5_code 50 = .ok (.iadd, 1) := by decide +kernel
theorem d_EQI_51 : decode method_5_code 51 = .ok (.i2c, 1) := by decide +kernel
theorem d_EQI_52 : decode method_5_code 52 = .ok (.if_icmp .ne 7, 3) := by decide +kernel
theorem d_EQI_55 : decode method_5_code 55 = .ok (.iconst 1, 1) := by decide +kernel
theorem d_EQI_56 : decode method_5_code 56 = .ok (.goto 4, 3) := by decide +kernel
theorem d_EQI_59 : decode method_5_code 59 = .ok (.iconst 0, 1) := by decide +kernel
theorem d_EQI_60 : decode method_5_code 60 = .ok (.ireturn, 1) := by decide +kernel
theorem d_EQI_61 : decode method_5_code 61 = .ok (.iconst 0, 1) := by decide +kernel
theorem d_EQI_62 : decode method_5_code 62 = .ok (.ireturn, 1) := by decide +kernel
theorem pn_EQI : plainFor (⟨"com/example/cardea/cardea/request/HeaderNamedPinLaw", "eqIgnoreCase", "(CC)Z"⟩ : MethodName) = true := by first | exact plainFor_of_name (by first | (simp [plainName, overriddenIn]; done) | decide +kernel) | decide +kernel
theorem d_PUT_0 : decode method_7_code 0 = .ok (.iload_n 2, 1) := by decide +kernel
theorem d_PUT_1 : decode method_7_code 1 = .ok (.aload_n 0, 1) := by decide +kernel
theorem d_PUT_2 : decode method_7_code 2 = .ok (.arraylength, 1) := by decide +kernel
theorem d_PUT_3 : decode method_7_code 3 = .ok (.if_icmp .ge 9, 3) := by decide +kernel
theorem d_PUT_6 : decode method_7_code 6 = .ok (.aload_n 0, 1) := by decide +kernel
theorem d_PUT_7 : decode method_7_code 7 = .ok (.iload_n 2, 1) := by decide +kernel
theorem d_PUT_8 : decode method_7_code 8 = .ok (.aload_n 1, 1) := by decide +kernel
theorem d_PUT_9 : decode method_7_code 9 = .ok (.iload_n 2, 1) := by decide +kernel
theorem d_PUT_10 : decode method_7_code 10 = .ok (.caload, 1) := by decide +kernel
theorem d_PUT_11 : decode method_7_code 11 = .ok (.castore, 1) := by decide +kernel
theorem d_PUT_12 : decode method_7_code 12 = .ok (.return_, 1) := by decide +kernel
theorem pn_PUT : plainFor (⟨"com/example/cardea/cardea/request/HeaderNamedPinLaw", "put", "([C[CI)V"⟩ : MethodName) = true := by first | exact plainFor_of_name (by first | (simp [plainName, overriddenIn]; done) | decide +kernel) | decide +kernel
theorem d_CUT_0 : decode method_6_code 0 = .ok (.iload_n 1, 1) := by decide +kernel
theorem d_CUT_1 : decode method_6_code 1 = .ok (.bipush 8, 2) := by decide +kernel
theorem d_CUT_3 : decode method_6_code 3 = .ok (.if_icmp .ne 10, 3) := by decide +kernel
theorem d_CUT_6 : decode method_6_code 6 = .ok (.bipush 8, 2) := by decide +kernel
theorem d_CUT_8 : decode method_6_code 8 = .ok (.newarray .char, 2) := by decide +kernel
theorem d_CUT_10 : decode method_6_code 10 = .ok (.goto 59, 3) := by decide +kernel
theorem d_CUT_13 : decode method_6_code 13 = .ok (.iload_n 1, 1) := by decide +kernel
theorem d_CUT_14 : decode method_6_code 14 = .ok (.bipush 9, 2) := by decide +kernel
theorem d_CUT_16 : decode method_6_code 16 = .ok (.if_icmp .ne 10, 3) := by decide +kernel
theorem d_CUT_19 : decode method_6_code 19 = .ok (.bipush 9, 2) := by decide +kernel
theorem d_CUT_21 : decode method_6_code 21 = .ok (.newarray .char, 2) := by decide +kernel
theorem d_CUT_23 : decode method_6_code 23 = .ok (.goto 46, 3) := by decide +kernel
theorem d_CUT_26 : decode method_6_code 26 = .ok (.iload_n 1, 1) := by decide +kernel
theorem d_CUT_27 : decode method_6_code 27 = .ok (.bipush 10, 2) := by decide +kernel
theorem d_CUT_29 : decode method_6_code 29 = .ok (.if_icmp .ne 10, 3) := by decide +kernel
theorem d_CUT_32 : decode method_6_code 32 = .ok (.bipush 10, 2) := by decide +kernel
theorem d_CUT_34 : decode method_6_code 34 = .ok (.newarray .char, 2) := by decide +kernel
theorem d_CUT_36 : decode method_6_code 36 = .ok (.goto 33, 3) := by decide +kernel
theorem d_CUT_39 : decode method_6_code 39 = .ok (.iload_n 1, 1) := by decide +kernel
theorem d_CUT_40 : decode method_6_code 40 = .ok (.bipush 14, 2) := by decide +kernel
theorem d_CUT_42 : decode method_6_code 42 = .ok (.if_icmp .ne 10, 3) := by decide +kernel
theorem d_CUT_45 : decode method_6_code 45 = .ok (.bipush 14, 2) := by decide +kernel
theorem d_CUT_47 : decode method_6_code 47 = .ok (.newarray .char, 2) := by decide +kernel
theorem d_CUT_49 : decode method_6_code 49 = .ok (.goto 20, 3) := by decide +kernel
theorem d_CUT_52 : decode method_6_code 52 = .ok (.iload_n 1, 1) := by decide +kernel
theorem d_CUT_53 : decode method_6_code 53 = .ok (.bipush 15, 2) := by decide +kernel
theorem d_CUT_55 : decode method_6_code 55 = .ok (.if_icmp .ne 10, 3) := by decide +kernel
theorem d_CUT_58 : decode method_6_code 58 = .ok (.bipush 15, 2) := by decide +kernel
theorem d_CUT_60 : decode method_6_code 60 = .ok (.newarray .char, 2) := by decide +kernel
theorem d_CUT_62 : decode method_6_code 62 = .ok (.goto 7, 3) := by decide +kernel
theorem d_CUT_65 : decode method_6_code 65 = .ok (.bipush 16, 2) := by decide +kernel
theorem d_CUT_67 : decode method_6_code 67 = .ok (.newarray .char, 2) := by decide +kernel
theorem d_CUT_69 : decode method_6_code 69 = .ok (.astore_n 2, 1) := by decide +kernel
theorem d_CUT_70 : decode method_6_code 70 = .ok (.aload_n 2, 1) := by decide +kernel
theorem d_CUT_71 : decode method_6_code 71 = .ok (.aload_n 0, 1) := by decide +kernel
theorem d_CUT_72 : decode method_6_code 72 = .ok (.iconst 0, 1) := by decide +kernel
theorem d_CUT_73 : decode method_6_code 73 = .ok (.invokestatic 62, 3) := by decide +kernel
theorem d_CUT_76 : decode method_6_code 76 = .ok (.aload_n 2, 1) := by decide +kernel
theorem d_CUT_77 : decode method_6_code 77 = .ok (.aload_n 0, 1) := by decide +kernel
theorem d_CUT_78 : decode method_6_code 78 = .ok (.iconst 1, 1) := by decide +kernel
theorem d_CUT_79 : decode method_6_code 79 = .ok (.invokestatic 62, 3) := by decide +kernel
theorem d_CUT_82 : decode method_6_code 82 = .ok (.aload_n 2, 1) := by decide +kernel
theorem d_CUT_83 : decode method_6_code 83 = .ok (.aload_n 0, 1) := by decide +kernel
theorem d_CUT_84 : decode method_6_code 84 = .ok (.iconst 2, 1) := by decide +kernel
theorem d_CUT_85 : decode method_6_code 85 = .ok (.invokestatic 62, 3) := by decide +kernel
theorem d_CUT_88 : decode method_6_code 88 = .ok (.aload_n 2, 1) := by decide +kernel
theorem d_CUT_89 : decode method_6_code 89 = .ok (.aload_n 0, 1) := by decide +kernel
theorem d_CUT_90 : decode method_6_code 90 = .ok (.iconst 3, 1) := by decide +kernel
theorem d_CUT_91 : decode method_6_code 91 = .ok (.invokestatic 62, 3) := by decide +kernel
theorem d_CUT_94 : decode method_6_code 94 = .ok (.aload_n 2, 1) := by decide +kernel
theorem d_CUT_95 : decode method_6_code 95 = .ok (.aload_n 0, 1) := by decide +kernel
theorem d_CUT_96 : decode method_6_code 96 = .ok (.iconst 4, 1) := by decide +kernel
theorem d_CUT_97 : decode method_6_code 97 = .ok (.invokestatic 62, 3) := by decide +kernel
theorem d_CUT_100 : decode method_6_code 100 = .ok (.aload_n 2, 1) := by decide +kernel
theorem d_CUT_101 : decode method_6_code 101 = .ok (.aload_n 0, 1) := by decide +kernel
theorem d_CUT_102 : decode method_6_code 102 = .ok (.iconst 5, 1) := by decide +kernel
theorem d_CUT_103 : decode method_6_code 103 = .ok (.invokestatic 62, 3) := by decide +kernel
theorem d_CUT_106 : decode method_6_code 106 = .ok (.aload_n 2, 1) := by decide +kernel
theorem d_CUT_107 : decode method_6_code 107 = .ok (.aload_n 0, 1) := by decide +kernel
theorem d_CUT_108 : decode method_6_code 108 = .ok (.bipush 6, 2) := by decide +kernel
theorem d_CUT_110 : decode method_6_code 110 = .ok (.invokestatic 62, 3) := by decide +kernel
theorem d_CUT_113 : decode method_6_code 113 = .ok (.aload_n 2, 1) := by decide +kernel
theorem d_CUT_114 : decode method_6_code 114 = .ok (.aload_n 0, 1) := by decide +kernel
theorem d_CUT_115 : decode method_6_code 115 = .ok (.bipush 7, 2) := by decide +kernel
theorem d_CUT_117 : decode method_6_code 117 = .ok (.invokestatic 62, 3) := by decide +kernel
theorem d_CUT_120 : decode method_6_code 120 = .ok (.aload_n 2, 1) := by decide +kernel
theorem d_CUT_121 : decode method_6_code 121 = .ok (.aload_n 0, 1) := by decide +kernel
theorem d_CUT_122 : decode method_6_code 122 = .ok (.bipush 8, 2) := by decide +kernel
theorem d_CUT_124 : decode method_6_code 124 = .ok (.invokestatic 62, 3) := by decide +kernel
theorem d_CUT_127 : decode method_6_code 127 = .ok (.aload_n 2, 1) := by decide +kernel
theorem d_CUT_128 : decode method_6_code 128 = .ok (.aload_n 0, 1) := by decide +kernel
theorem d_CUT_129 : decode method_6_code 129 = .ok (.bipush 9, 2) := by decide +kernel
theorem d_CUT_131 : decode method_6_code 131 = .ok (.invokestatic 62, 3) := by decide +kernel
theorem d_CUT_134 : decode method_6_code 134 = .ok (.aload_n 2, 1) := by decide +kernel
theorem d_CUT_135 : decode method_6_code 135 = .ok (.aload_n 0, 1) := by decide +kernel
theorem d_CUT_136 : decode method_6_code 136 = .ok (.bipush 10, 2) := by decide +kernel
theorem d_CUT_138 : decode method_6_code 138 = .ok (.invokestatic 62, 3) := by decide +kernel
theorem d_CUT_141 : decode method_6_code 141 = .ok (.aload_n 2, 1) := by decide +kernel
theorem d_CUT_142 : decode method_6_code 142 = .ok (.aload_n 0, 1) := by decide +kernel
theorem d_CUT_143 : decode method_6_code 143 = .ok (.bipush 11, 2) := by decide +kernel
theorem d_CUT_145 : decode method_6_code 145 = .ok (.invokestatic 62, 3) := by decide +kernel
theorem d_CUT_148 : decode method_6_code 148 = .ok (.aload_n 2, 1) := by decide +kernel
theorem d_CUT_149 : decode method_6_code 149 = .ok (.aload_n 0, 1) := by decide +kernel
theorem d_CUT_150 : decode method_6_code 150 = .ok (.bipush 12, 2) := by decide +kernel
theorem d_CUT_152 : decode method_6_code 152 = .ok (.invokestatic 62, 3) := by decide +kernel
theorem d_CUT_155 : decode method_6_code 155 = .ok (.aload_n 2, 1) := by decide +kernel
theorem d_CUT_156 : decode method_6_code 156 = .ok (.aload_n 0, 1) := by decide +kernel
theorem d_CUT_157 : decode method_6_code 157 = .ok (.bipush 13, 2) := by decide +kernel
theorem d_CUT_159 : decode method_6_code 159 = .ok (.invokestatic 62, 3) := by decide +kernel
theorem d_CUT_162 : decode method_6_code 162 = .ok (.aload_n 2, 1) := by decide +kernel
theorem d_CUT_163 : decode method_6_code 163 = .ok (.aload_n 0, 1) := by decide +kernel
theorem d_CUT_164 : decode method_6_code 164 = .ok (.bipush 14, 2) := by decide +kernel
theorem d_CUT_166 : decode method_6_code 166 = .ok (.invokestatic 62, 3) := by decide +kernel
theorem d_CUT_169 : decode method_6_code 169 = .ok (.aload_n 2, 1) := by decide +kernel
theorem d_CUT_170 : decode method_6_code 170 = .ok (.aload_n 0, 1) := by decide +kernel
theorem d_CUT_171 : decode method_6_code 171 = .ok (.bipush 15, 2) := by decide +kernel
theorem d_CUT_173 : decode method_6_code 173 = .ok (.invokestatic 62, 3) := by decide +kernel
theorem d_CUT_176 : decode method_6_code 176 = .ok (.aload_n 2, 1) := by decide +kernel
theorem d_CUT_177 : decode method_6_code 177 = .ok (.areturn, 1) := by decide +kernel
theorem pn_CUT : plainFor (⟨"com/example/cardea/cardea/request/HeaderNamedPinLaw", "cut", "([CI)[C"⟩ : MethodName) = true := by first | exact plainFor_of_name (by first | (simp [plainName, overriddenIn]; done) | decide +kernel) | decide +kernel
theorem pn_law : plainFor (⟨"com/example/cardea/cardea/request/HeaderNamedPinLaw", "law", "(IIIII)Z"⟩ : MethodName) = true := by first | exact plainFor_of_name (by first | (simp [plainName, overriddenIn]; done) | decide +kernel) | decide +kernel
section Plain
def litF : List Int32 := [70, 111, 114, 119, 97, 114, 100, 101, 100]
def litX : List Int32 := [88, 45, 70, 111, 114, 119, 97, 114, 100, 101, 100, 45, 70, 111, 114]
def up (b : Int32) : Int32 := b &&& 223
def upOk (b : Int32) : Bool := decide (¬ up b < 65) && (decide (¬ (90 : Int32) < up b) || (decide (¬ up b < 192) && (decide (¬ (222 : Int32) < up b) && decide (¬ up b = 215))))
def ciB (b1 b2 : Int32) : Bool := decide (b1 = b2) || (upOk b1 && decide (up b1 = up b2))
def CI (t w : Int32) : Prop := ciB (lo8 t) (lo8 w) = true
instance (t w : Int32) : Decidable (CI t w) := inferInstanceAs (Decidable (_ = true))
theorem CI.refl (t : Int32) : CI t t := by simp [CI, ciB]
def Lo (t : Int32) : Prop := t = 111 ∨ t = 114 ∨ t = 119 ∨ t = 97 ∨ t = 100 ∨ t = 101
def Up (t : Int32) : Prop := t = 70 ∨ t = 88
instance (t : Int32) : Decidable (Lo t) := inferInstanceAs (Decidable (t = 111 ∨ t = 114 ∨ t = 119 ∨ t = 97 ∨ t = 100 ∨ t = 101))
instance (t : Int32) : Decidable (Up t) := inferInstanceAs (Decidable (t = 70 ∨ t = 88))
def Let (t : Int32) : Prop := Lo t ∨ Up t ∨ t = 45
instance (t : Int32) : Decidable (Let t) := inferInstanceAs (Decidable ((t = 111 ∨ t = 114 ∨ t = 119 ∨ t = 97 ∨ t = 100 ∨ t = 101) ∨ (t = 70 ∨ t = 88) ∨ t = 45))
theorem let_F : ∀ j, j < 9 → Let (litF.getD j 0) := by decide
theorem let_X : ∀ j, j < 15 → Let (litX.getD j 0) := by decide
def ByR (c : Int32) : Prop := ¬ c < 0 ∧ ¬ (255 : Int32) < c
theorem byR_n {c : Int32} (h : ByR c) : ∃ k : Nat, k < 256 ∧ c = Int32.ofNat k := by
  obtain ⟨h1, h2⟩ := h
  rw [i_lt] at h1 h2
  have e1 : (0 : Int32).toInt = 0 := by decide
  have e2 : (255 : Int32).toInt = 255 := by decide
  exact ⟨c.toInt.toNat, by omega, i_eq (by rw [n_int (by omega)]; omega)⟩
def oth (t : Int32) : Int32 := if Lo t then t - 32 else if Up t then t + 32 else t
theorem ci_tab : ∀ t ∈ ([111, 114, 119, 97, 100, 101, 70, 88, 45] : List Int32), ∀ k : Fin 256, ciB (lo8 t) (lo8 (Int32.ofNat k.val)) = (decide (Int32.ofNat k.val = t) || decide (Int32.ofNat k.val = oth t)) := by decide +kernel
theorem ci_iff {t c : Int32} (ht : Let t) (hc : ByR c) : CI t c ↔ (c = t ∨ c = oth t) := by
  obtain ⟨k, hk, rfl⟩ := byR_n hc
  have hm : t ∈ ([111, 114, 119, 97, 100, 101, 70, 88, 45] : List Int32) := by
    rcases ht with (rfl | rfl | rfl | rfl | rfl | rfl) | (rfl | rfl) | rfl <;> decide
  have := ci_tab t hm ⟨k, hk⟩
  simp only at this
  rw [CI, this]; simp
theorem byR_nar {c : Int32} (h : ByR c) : nar .char c = c := nar_char_id h.1 (lt_65535 h.2)
/-- the texts agree, case aside -/
def eqI (ds cs : List Int32) : Prop := cs.length = ds.length ∧ ∀ j, j < ds.length → CI (ds.getD j 0) (cs.getD j 0)
end Plain
section Own
variable {l : Launch} {Z : State} {a0 : Array Value} {EL : List (String × Nat)} {zc : Int32} {x t a y u o va fa xa f1 f2 x1 x2 ea w : Addr} {cx ct cy cu co cv cf cf1 cf2 cxh cx1 cx2 ce cw : Cell} {cs ds : List Int32} {fm v0 wv : Value} {n i : Nat} {f g : Nat → Value} {F G : Nat → Int32} {b1 b2 ch bits tc : Int32}
theorem c_CIE (hw : ∀ d ∈ tables_1, d.before a0 Z = true) (hEL : EW Z a0 EL)  :
    OCon l Z EL (⟨"java/lang/CharacterDataLatin1", "equalsIgnoreCase", "(BB)Z"⟩ : MethodName) jdk_116_method_22_code 3 (some .boolean) [] ({ frames := 0, cells := 0, slots := 0, locals := 0 } : Room) #[.int b1, .int b2] [] [] (fun v M N => v = some (.int (if ciB b1 b2 then 1 else 0)) ∧ M = [] ∧ N = []) := by
  refine OCon.of_wp (L0 := [.val (.int b1), .val (.int b2), .unset]) pn_CIE hEL (fun m => by first | (simp [entryFrame, mkF, argsToLocals, Value.category]; done) | rfl) ?_
  intro p e s m below meth c hk
  refine OWp.iload_n hk d_CIE_0 (pc' := 1) rfl rfl ?_
  refine OWp.iload_n hk d_CIE_1 (pc' := 2) rfl rfl ?_
  by_cases h : b1 = b2
  · refine OWp.icmpNo hk d_CIE_2 (XT.ii_ne_f h) (pc' := 5) rfl ?_
    refine OWp.iconst hk d_CIE_5 (pc' := 6) rfl (z := 1) rfl ?_
    exact OWp.retN hk (Or.inl rfl) d_CIE_6 ⟨by rw [show ciB b1 b2 = true by simp [ciB, h]]; rfl, rfl, rfl⟩ (List.Sublist.refl _) (fun _ h => h) (by decide) (by decide)
  refine OWp.icmpYes hk d_CIE_2 (XT.ii_ne_t h) (by decide) (pc' := 7) rfl ?_
  have J61 : ciB b1 b2 = false → OWp p l e ({ frames := 0, cells := 0, slots := 0, locals := 0 } : Room) s m #[.int b1, .int b2] below meth c "java/lang/CharacterDataLatin1" Z EL (dom []) [] (fun v M N => v = some (.int (if ciB b1 b2 then 1 else 0)) ∧ M = [] ∧ N = []) [] [] 0 0 61 [.val (.int b1), .val (.int b2), .val (.int (b1 &&& 223))] [] := by
    intro hb
    refine OWp.iconst hk d_CIE_61 (pc' := 62) rfl (z := 0) rfl ?_
    exact OWp.retN hk (Or.inl rfl) d_CIE_62 ⟨by rw [hb]; rfl, rfl, rfl⟩ (List.Sublist.refl _) (fun _ h => h) (by decide) (by decide)
  have J48 : upOk b1 = true → OWp p l e ({ frames := 0, cells := 0, slots := 0, locals := 0 } : Room) s m #[.int b1, .int b2] below meth c "java/lang/CharacterDataLatin1" Z EL (dom []) [] (fun v M N => v = some (.int (if ciB b1 b2 then 1 else 0)) ∧ M = [] ∧ N = []) [] [] 0 0 48 [.val (.int b1), .val (.int b2), .val (.int (b1 &&& 223))] [] := by
    intro hu
    refine OWp.iload_n hk d_CIE_48 (pc' := 49) rfl rfl ?_
    refine OWp.iload_n hk d_CIE_49 (pc' := 50) rfl rfl ?_
    refine OWp.sipush hk d_CIE_50 (pc' := 53) rfl (z := 223) rfl ?_
    refine OWp.iand hk d_CIE_53 (pc' := 54) rfl ?_
    by_cases h2 : b1 &&& 223 = b2 &&& 223
    · refine OWp.icmpNo hk d_CIE_54 (XT.ii_ne_f h2) (pc' := 57) rfl ?_
      refine OWp.iconst hk d_CIE_57 (pc' := 58) rfl (z := 1) rfl ?_
      refine OWp.goto hk d_CIE_58 (by decide) (pc' := 62) rfl ?_
      exact OWp.retN hk (Or.inl rfl) d_CIE_62 ⟨by rw [show ciB b1 b2 = true by simp [ciB, hu, up, h2]]; rfl, rfl, rfl⟩ (List.Sublist.refl _) (fun _ h => h) (by decide) (by decide)
    · refine OWp.icmpYes hk d_CIE_54 (XT.ii_ne_t h2) (by decide) (pc' := 61) rfl ?_
      exact J61 (by simp [ciB, h, up, h2])
  refine OWp.iload_n hk d_CIE_7 (pc' := 8) rfl rfl ?_
  refine OWp.sipush hk d_CIE_8 (pc' := 11) rfl (z := 223) rfl ?_
  refine OWp.iand hk d_CIE_11 (pc' := 12) rfl ?_
  refine OWp.istore_n hk d_CIE_12 (pc' := 13) rfl (kn := 2) rfl rfl (by simp only [List.set_cons_zero, List.set_cons_succ]; rfl) ?_
  refine OWp.iload_n hk d_CIE_13 (pc' := 14) rfl rfl ?_
  refine OWp.bipush hk d_CIE_14 (pc' := 16) rfl (z := 65) rfl ?_
  by_cases h3 : b1 &&& 223 < 65
  · refine OWp.icmpNo hk d_CIE_16 (XT.ii_ge_f h3) (pc' := 19) rfl ?_
    refine OWp.iconst hk d_CIE_19 (pc' := 20) rfl (z := 0) rfl ?_
    exact OWp.retN hk (Or.inl rfl) d_CIE_20 ⟨by rw [show ciB b1 b2 = false by simp [ciB, h, upOk, up, h3]]; rfl, rfl, rfl⟩ (List.Sublist.refl _) (fun _ h => h) (by decide) (by decide)
  refine OWp.icmpYes hk d_CIE_16 (XT.ii_ge_t h3) (by decide) (pc' := 21) rfl ?_
  refine OWp.iload_n hk d_CIE_21 (pc' := 22) rfl rfl ?_
  refine OWp.bipush hk d_CIE_22 (pc' := 24) rfl (z := 90) rfl ?_
  by_cases h4 : (90 : Int32) < b1 &&& 223
  · refine OWp.icmpNo hk d_CIE_24 (XT.ii_le_f h4) (pc' := 27) rfl ?_
    refine OWp.iload_n hk d_CIE_27 (pc' := 28) rfl rfl ?_
    refine OWp.sipush hk d_CIE_28 (pc' := 31) rfl (z := 192) rfl ?_
    by_cases h5 : b1 &&& 223 < 192
    · refine OWp.icmpYes hk d_CIE_31 (XT.ii_lt_t h5) (by decide) (pc' := 61) rfl ?_
      exact J61 (by simp [ciB, h, upOk, up, h4, h5])
    refine OWp.icmpNo hk d_CIE_31 (XT.ii_lt_f h5) (pc' := 34) rfl ?_
    refine OWp.iload_n hk d_CIE_34 (pc' := 35) rfl rfl ?_
    refine OWp.sipush hk d_CIE_35 (pc' := 38) rfl (z := 222) rfl ?_
    by_cases h6 : (222 : Int32) < b1 &&& 223
    · refine OWp.icmpYes hk d_CIE_38 (XT.ii_gt_t h6) (by decide) (pc' := 61) rfl ?_
      exact J61 (by simp [ciB, h, upOk, up, h4, h6])
    refine OWp.icmpNo hk d_CIE_38 (XT.ii_gt_f h6) (pc' := 41) rfl ?_
    refine OWp.iload_n hk d_CIE_41 (pc' := 42) rfl rfl ?_
    refine OWp.sipush hk d_CIE_42 (pc' := 45) rfl (z := 215) rfl ?_
    by_cases h7 : b1 &&& 223 = 215
    · refine OWp.icmpYes hk d_CIE_45 (XT.ii_eq_t h7) (by decide) (pc' := 61) rfl ?_
      exact J61 (by simp [ciB, h, upOk, up, h7])
    refine OWp.icmpNo hk d_CIE_45 (XT.ii_eq_f h7) (pc' := 48) rfl ?_
    exact J48 (by simp [upOk, up, h3, h5, h6, h7])
  · refine OWp.icmpYes hk d_CIE_24 (XT.ii_le_t h4) (by decide) (pc' := 48) rfl ?_
    exact J48 (by simp [upOk, up, h3, h4])
theorem c_RMC (hw : ∀ d ∈ tables_1, d.before a0 Z = true) (hEL : EW Z a0 EL) (hA : AC Z ct .byte (tab n fun j => .int (F j))) (hB : AC Z cu .byte (tab n fun j => .int (G j))) :
    OCon l Z EL (⟨"java/lang/StringLatin1", "regionMatchesCI", "([BI[BII)Z"⟩ : MethodName) jdk_43_method_30_code 8 (some .boolean) [] ({ frames := 1, cells := 0, slots := 0, locals := 14 } : Room) #[.ref t, .int 0, .ref u, .int 0, .int (Int32.ofNat n)] [] [(t, ct), (u, cu)] (fun v M N => M = [] ∧ N = [] ∧ ∃ r, v = some (.int r) ∧ ((r = 1 ∧ ∀ j, j < n → ciB (F j) (G j) = true) ∨ (r = 0 ∧ ¬ ∀ j, j < n → ciB (F j) (G j) = true))) := by
  have hn : n < 2147483648 := by have := hA.2.2.2.1; rwa [tab_len] at this
  refine OCon.of_wp (L0 := [.val (.ref t), .val (.int 0), .val (.ref u), .val (.int 0), .val (.int (Int32.ofNat n)), .unset, .unset, .unset]) pn_RMC hEL (fun m => by first | (simp [entryFrame, mkF, argsToLocals, Value.category]; done) | rfl) ?_
  intro p e s m below meth c hk
  have loop : ∀ (fu i : Nat) (z6 z7 : Slot), i + fu = n → o1 z6 = true → o1 z7 = true → (∀ j, j < i → ciB (F j) (G j) = true) →
      OWp p l e ({ frames := 1, cells := 0, slots := 0, locals := 14 } : Room) s m #[.ref t, .int 0, .ref u, .int 0, .int (Int32.ofNat n)] below meth c "java/lang/StringLatin1" Z EL (dom []) [(t, ct), (u, cu)] (fun v M N => M = [] ∧ N = [] ∧ ∃ r, v = some (.int r) ∧ ((r = 1 ∧ ∀ j, j < n → ciB (F j) (G j) = true) ∨ (r = 0 ∧ ¬ ∀ j, j < n → ciB (F j) (G j) = true))) [] [] 0 0 6 [.val (.ref t), .val (.int (Int32.ofNat i)), .val (.ref u), .val (.int (Int32.ofNat i)), .val (.int (Int32.ofNat n)), .val (.int (Int32.ofNat n)), z6, z7] [] := by
    intro fu
    induction fu with
    | zero =>
      intro i z6 z7 hi h6 h7 hall
      refine OWp.iload_n hk d_RMC_6 (pc' := 7) rfl rfl ?_
      refine OWp.iload hk d_RMC_7 (pc' := 9) rfl rfl ?_
      refine OWp.icmpYes hk d_RMC_9 (XT.ii_ge_t (by rw [n_lt (by omega) (by omega)]; omega)) (by decide) (pc' := 43) rfl ?_
      refine OWp.iconst hk d_RMC_43 (pc' := 44) rfl (z := 1) rfl ?_
      exact OWp.retN hk (Or.inl rfl) d_RMC_44 ⟨rfl, rfl, 1, rfl, Or.inl ⟨rfl, fun j hj => hall j (by omega)⟩⟩ (List.Sublist.refl _) (fun _ h => h) (by decide) (by decide)
    | succ fu ih =>
      intro i z6 z7 hi h6 h7 hall
      have hlt : i < n := by omega
      refine OWp.iload_n hk d_RMC_6 (pc' := 7) rfl rfl ?_
      refine OWp.iload hk d_RMC_7 (pc' := 9) rfl rfl ?_
      refine OWp.icmpNo hk d_RMC_9 (XT.ii_ge_f (by rw [n_lt (by omega) (by omega)]; exact hlt)) (pc' := 12) rfl ?_
      refine OWp.aload_n hk d_RMC_12 (pc' := 13) rfl rfl rfl ?_
      refine OWp.iload_n hk d_RMC_13 (pc' := 14) rfl rfl ?_
      refine OWp.iinc hk d_RMC_14 (pc' := 17) rfl rfl (z := 1) rfl (by simp only [List.set_cons_zero, List.set_cons_succ]; rfl) ?_
      refine OWp.baload hk d_RMC_17 (pc' := 18) rfl (by simp) hA (n_nn (by omega)) (by rw [n_nat (by omega)]; exact tab_get hlt) ?_
      refine OWp.istore hk d_RMC_18 (pc' := 20) rfl (by exact h6) (by simp only [List.set_cons_zero, List.set_cons_succ]; rfl) ?_
      refine OWp.aload_n hk d_RMC_20 (pc' := 21) rfl rfl rfl ?_
      refine OWp.iload_n hk d_RMC_21 (pc' := 22) rfl rfl ?_
      refine OWp.iinc hk d_RMC_22 (pc' := 25) rfl rfl (z := 1) rfl (by simp only [List.set_cons_zero, List.set_cons_succ]; rfl) ?_
      refine OWp.baload hk d_RMC_25 (pc' := 26) rfl (by simp) hB (n_nn (by omega)) (by rw [n_nat (by omega)]; exact tab_get hlt) ?_
      refine OWp.istore hk d_RMC_26 (pc' := 28) rfl (by exact h7) (by simp only [List.set_cons_zero, List.set_cons_succ]; rfl) ?_
      refine OWp.iload hk d_RMC_28 (pc' := 30) rfl rfl ?_
      refine OWp.iload hk d_RMC_30 (pc' := 32) rfl rfl ?_
      refine OWp.callS hk d_RMC_32 (pc' := 35) rfl (hw _ (List.mem_of_getElem? (i := 132) rfl)) (hw _ (List.mem_of_getElem? (i := 133) rfl)) (hw _ (List.mem_of_getElem? (i := 134) rfl)) (hw _ (List.mem_of_getElem? (i := 135) rfl)) (by decide) (c_CIE hw hEL) rfl (by simp) rfl (lenOf pd_9 rfl) rfl (W := 0) rfl (by first | decide | (dsimp only; omega)) (by first | decide | (dsimp only; omega)) (by first | decide | (dsimp only; omega)) (by first | decide | (dsimp only; omega)) ?_
      rintro _ _ _ ⟨rfl, rfl, rfl⟩
      by_cases hc : ciB (F i) (G i) = true
      · refine OWp.ifNo hk d_RMC_35 (XT.i0_eq_f (by rw [if_pos hc]; decide)) (pc' := 38) rfl ?_
        refine OWp.goto hk d_RMC_38 (by decide) (pc' := 6) rfl ?_
        rw [n_succ]
        exact ih (i + 1) _ _ (by omega) rfl rfl fun j hj => by
          by_cases z : j = i
          · rw [z]; exact hc
          · exact hall j (by omega)
      · refine OWp.ifYes hk d_RMC_35 (XT.i0_eq_t (by rw [if_neg hc])) (by decide) (pc' := 41) rfl ?_
        refine OWp.iconst hk d_RMC_41 (pc' := 42) rfl (z := 0) rfl ?_
        exact OWp.retN hk (Or.inl rfl) d_RMC_42 ⟨rfl, rfl, 0, rfl, Or.inr ⟨rfl, fun q => hc (q i hlt)⟩⟩ (List.Sublist.refl _) (fun _ h => h) (by decide) (by decide)
  refine OWp.iload_n hk d_RMC_0 (pc' := 1) rfl rfl ?_
  refine OWp.iload hk d_RMC_1 (pc' := 3) rfl rfl ?_
  refine OWp.iadd hk d_RMC_3 (pc' := 4) rfl ?_
  rw [show (0 : Int32) + Int32.ofNat n = Int32.ofNat n from by rw [show (0 : Int32) = Int32.ofNat 0 from rfl, n_add, Nat.zero_add]]
  refine OWp.istore hk d_RMC_4 (pc' := 6) rfl rfl (by simp only [List.set_cons_zero, List.set_cons_succ]; rfl) ?_
  exact loop n 0 _ _ (by omega) rfl rfl fun j hj => absurd hj (Nat.not_lt_zero _)
theorem c_RM (hw : ∀ d ∈ tables_1, d.before a0 Z = true) (hEL : EW Z a0 EL) (O2 : Sta Z Z.heap "java/lang/String" "COMPACT_STRINGS" "Z" (.int zc)) (hzc : ¬ zc = 0) (hs : SC Z t cx ct ds) (hl : lat ds = true) (hs' : SC Z u cy cu cs) (hl' : lat cs = true) (hlen : cs.length = ds.length) :
    OCon l Z EL (⟨"java/lang/String", "regionMatches", "(ZILjava/lang/String;II)Z"⟩ : MethodName) jdk_42_method_74_code 9 (some .boolean) [] ({ frames := 2, cells := 0, slots := 0, locals := 33 } : Room) #[.ref x, .int 1, .int 0, .ref y, .int 0, .int (Int32.ofNat ds.length)] [] [(x, cx), (t, ct), (y, cy), (u, cu)] (fun v M N => M = [] ∧ N = [] ∧ ∃ r, v = some (.int r) ∧ ((r = 1 ∧ eqI ds cs) ∨ (r = 0 ∧ ¬ eqI ds cs))) := by
  refine OCon.of_wp (L0 := [.val (.ref x), .val (.int 1), .val (.int 0), .val (.ref y), .val (.int 0), .val (.int (Int32.ofNat ds.length)), .unset, .unset, .unset]) pn_RM hEL (fun m => by first | (simp [entryFrame, mkF, argsToLocals, Value.category]; done) | rfl) ?_
  intro p e s m below meth c hk
  have hA := hs.2.2.2.1
  have hB := hs'.2.2.2.1
  rw [bytes_lat hl] at hA
  rw [bytes_lat hl', hlen] at hB
  refine OWp.iload_n hk d_RM_0 (pc' := 1) rfl rfl ?_
  refine OWp.ifYes hk d_RM_1 (XT.i0_ne_t (by decide)) (by decide) (pc' := 15) rfl ?_
  refine OWp.iload hk d_RM_15 (pc' := 17) rfl rfl ?_
  refine OWp.ifNo hk d_RM_17 (XT.i0_lt_f (by decide)) (pc' := 20) rfl ?_
  refine OWp.iload_n hk d_RM_20 (pc' := 21) rfl rfl ?_
  refine OWp.ifNo hk d_RM_21 (XT.i0_lt_f (by decide)) (pc' := 24) rfl ?_
  refine OWp.iload_n hk d_RM_24 (pc' := 25) rfl rfl ?_
  refine OWp.i2l hk d_RM_25 (pc' := 26) rfl ?_
  refine OWp.aload_n hk d_RM_26 (pc' := 27) rfl rfl rfl ?_
  refine OWp.callV hk d_RM_27 (pc' := 30) rfl (hw _ (List.mem_of_getElem? (i := 107) rfl)) (hw _ (List.mem_of_getElem? (i := 9) rfl)) (nfs (hw _ (List.mem_of_getElem? (i := 11) rfl))) (hw _ (List.mem_of_getElem? (i := 11) rfl)) (hw _ (List.mem_of_getElem? (i := 10) rfl)) (hw _ (List.mem_of_getElem? (i := 1) rfl)) (hw _ (List.mem_of_getElem? (i := 12) rfl)) (by decide) (by simp) hs.1 (c_LEN hw hEL O2 hzc hs) rfl (by simp) rfl (lenOf pd_10 rfl) rfl (W := 2) rfl (by first | decide | (dsimp only; omega)) (by first | decide | (dsimp only; omega)) (by first | decide | (dsimp only; omega)) (by first | decide | (dsimp only; omega)) ?_
  rintro _ _ _ ⟨rfl, rfl, rfl⟩
  refine OWp.i2l hk d_RM_30 (pc' := 31) rfl ?_
  refine OWp.iload hk d_RM_31 (pc' := 33) rfl rfl ?_
  refine OWp.i2l hk d_RM_33 (pc' := 34) rfl ?_
  refine OWp.lsub hk d_RM_34 (pc' := 35) rfl ?_
  refine OWp.lcmp hk d_RM_35 (pc' := 36) rfl ?_
  rw [Int64.sub_self]
  refine OWp.ifNo hk d_RM_36 (XT.i0_gt_f (by decide)) (pc' := 39) rfl ?_
  refine OWp.iload hk d_RM_39 (pc' := 41) rfl rfl ?_
  refine OWp.i2l hk d_RM_41 (pc' := 42) rfl ?_
  refine OWp.aload_n hk d_RM_42 (pc' := 43) rfl rfl rfl ?_
  refine OWp.callV hk d_RM_43 (pc' := 46) rfl (hw _ (List.mem_of_getElem? (i := 107) rfl)) (hw _ (List.mem_of_getElem? (i := 9) rfl)) (nfs (hw _ (List.mem_of_getElem? (i := 11) rfl))) (hw _ (List.mem_of_getElem? (i := 11) rfl)) (hw _ (List.mem_of_getElem? (i := 10) rfl)) (hw _ (List.mem_of_getElem? (i := 1) rfl)) (hw _ (List.mem_of_getElem? (i := 12) rfl)) (by decide) (by simp) hs'.1 (c_LEN hw hEL O2 hzc hs') rfl (by simp) rfl (lenOf pd_10 rfl) rfl (W := 2) rfl (by first | decide | (dsimp only; omega)) (by first | decide | (dsimp only; omega)) (by first | decide | (dsimp only; omega)) (by first | decide | (dsimp only; omega)) ?_
  rintro _ _ _ ⟨rfl, rfl, rfl⟩
  refine OWp.i2l hk d_RM_46 (pc' := 47) rfl ?_
  refine OWp.iload hk d_RM_47 (pc' := 49) rfl rfl ?_
  refine OWp.i2l hk d_RM_49 (pc' := 50) rfl ?_
  refine OWp.lsub hk d_RM_50 (pc' := 51) rfl ?_
  refine OWp.lcmp hk d_RM_51 (pc' := 52) rfl ?_
  rw [hlen, Int64.sub_self]
  refine OWp.ifYes hk d_RM_52 (XT.i0_le_t (by decide)) (by decide) (pc' := 57) rfl ?_
  refine OWp.aload_n hk d_RM_57 (pc' := 58) rfl rfl rfl ?_
  refine OWp.getfield hk d_RM_58 (pc' := 61) rfl (hw _ (List.mem_of_getElem? (i := 13) rfl)) (by simp) hs.2.1 ?_
  refine OWp.astore hk d_RM_61 (pc' := 63) rfl rfl rfl (by simp only [List.set_cons_zero, List.set_cons_succ]; rfl) ?_
  refine OWp.aload_n hk d_RM_63 (pc' := 64) rfl rfl rfl ?_
  refine OWp.getfield hk d_RM_64 (pc' := 67) rfl (hw _ (List.mem_of_getElem? (i := 13) rfl)) (by simp) hs'.2.1 ?_
  refine OWp.astore hk d_RM_67 (pc' := 69) rfl rfl rfl (by simp only [List.set_cons_zero, List.set_cons_succ]; rfl) ?_
  refine OWp.aload_n hk d_RM_69 (pc' := 70) rfl rfl rfl ?_
  refine OWp.callV hk d_RM_70 (pc' := 73) rfl (hw _ (List.mem_of_getElem? (i := 14) rfl)) (hw _ (List.mem_of_getElem? (i := 15) rfl)) (nfs (hw _ (List.mem_of_getElem? (i := 17) rfl))) (hw _ (List.mem_of_getElem? (i := 17) rfl)) (hw _ (List.mem_of_getElem? (i := 16) rfl)) (hw _ (List.mem_of_getElem? (i := 1) rfl)) (hw _ (List.mem_of_getElem? (i := 18) rfl)) (by decide) (by simp) hs.1 (c_COD hw hEL O2 hzc hs) rfl (by simp) rfl (lenOf pd_0 rfl) rfl (W := 0) rfl (by first | decide | (dsimp only; omega)) (by first | decide | (dsimp only; omega)) (by first | decide | (dsimp only; omega)) (by first | decide | (dsimp only; omega)) ?_
  rintro _ _ _ ⟨rfl, rfl, rfl⟩
  refine OWp.istore hk d_RM_73 (pc' := 75) rfl rfl (by simp only [List.set_cons_zero, List.set_cons_succ]; rfl) ?_
  refine OWp.iload hk d_RM_75 (pc' := 77) rfl rfl ?_
  refine OWp.aload_n hk d_RM_77 (pc' := 78) rfl rfl rfl ?_
  refine OWp.callV hk d_RM_78 (pc' := 81) rfl (hw _ (List.mem_of_getElem? (i := 14) rfl)) (hw _ (List.mem_of_getElem? (i := 15) rfl)) (nfs (hw _ (List.mem_of_getElem? (i := 17) rfl))) (hw _ (List.mem_of_getElem? (i := 17) rfl)) (hw _ (List.mem_of_getElem? (i := 16) rfl)) (hw _ (List.mem_of_getElem? (i := 1) rfl)) (hw _ (List.mem_of_getElem? (i := 18) rfl)) (by decide) (by simp) hs'.1 (c_COD hw hEL O2 hzc hs') rfl (by simp) rfl (lenOf pd_0 rfl) rfl (W := 1) rfl (by first | decide | (dsimp only; omega)) (by first | decide | (dsimp only; omega)) (by first | decide | (dsimp only; omega)) (by first | decide | (dsimp only; omega)) ?_
  rintro _ _ _ ⟨rfl, rfl, rfl⟩
  refine OWp.icmpNo hk d_RM_81 (XT.ii_ne_f (by rw [cd_lat hl, cd_lat hl'])) (pc' := 84) rfl ?_
  refine OWp.iload hk d_RM_84 (pc' := 86) rfl rfl ?_
  refine OWp.ifNo hk d_RM_86 (XT.i0_ne_f (cd_lat hl)) (pc' := 89) rfl ?_
  refine OWp.aload hk d_RM_89 (pc' := 91) rfl rfl rfl ?_
  refine OWp.iload_n hk d_RM_91 (pc' := 92) rfl rfl ?_
  refine OWp.aload hk d_RM_92 (pc' := 94) rfl rfl rfl ?_
  refine OWp.iload hk d_RM_94 (pc' := 96) rfl rfl ?_
  refine OWp.iload hk d_RM_96 (pc' := 98) rfl rfl ?_
  refine OWp.callS hk d_RM_98 (pc' := 101) rfl (hw _ (List.mem_of_getElem? (i := 129) rfl)) (hw _ (List.mem_of_getElem? (i := 130) rfl)) (hw _ (List.mem_of_getElem? (i := 39) rfl)) (hw _ (List.mem_of_getElem? (i := 131) rfl)) (by decide) (c_RMC hw hEL hA hB) rfl (by simp) rfl (lenOf pd_11 rfl) rfl (W := 0) rfl (by first | decide | (dsimp only; omega)) (by first | decide | (dsimp only; omega)) (by first | decide | (dsimp only; omega)) (by first | decide | (dsimp only; omega)) ?_
  rintro _ _ _ ⟨rfl, rfl, r, rfl, hr⟩
  refine OWp.goto hk d_RM_101 (by decide) (pc' := 116) rfl ?_
  exact OWp.retN hk (Or.inl rfl) d_RM_116 ⟨rfl, rfl, r, by rcases hr with ⟨rfl, -⟩ | ⟨rfl, -⟩ <;> rfl, hr.imp (fun q => ⟨q.1, hlen, fun j hj => q.2 j hj⟩) (fun q => ⟨q.1, fun z => q.2 z.2⟩)⟩ (List.Sublist.refl _) (fun _ h => h) (by decide) (by decide)
theorem same_text (hs : SC Z t cx ct ds) (hl : lat ds = true) (hs' : SC Z t cx ct cs) (hl' : lat cs = true) : ds = cs := by
  have hA := hs.2.2.2.1.2.2.1
  have hB := hs'.2.2.2.1.2.2.1
  have e := hA.symm.trans hB
  rw [bytes_lat hl, bytes_lat hl'] at e
  have hlen : ds.length = cs.length := by have := congrArg List.length e; rwa [tab_len, tab_len] at this
  refine List.ext_getElem? fun j => ?_
  by_cases hj : j < ds.length
  · have e1 : (tab ds.length fun j => Value.int (lo8 (ds.getD j 0)))[j]? = (tab cs.length fun j => Value.int (lo8 (cs.getD j 0)))[j]? := congrArg (fun q => q[j]?) e
    rw [tab_get hj, tab_get (by omega)] at e1
    have c0 := hs.2.2.2.2.1 _ (getD_mem hj)
    have d0 := lat_iff.mp hl _ (getD_mem hj)
    have c1 := hs'.2.2.2.2.1 _ (getD_mem (show j < cs.length by omega))
    have d1 := lat_iff.mp hl' _ (getD_mem (show j < cs.length by omega))
    have e2 : ds.getD j 0 = cs.getD j 0 := lo8_inj c0.1 d0 c1.1 d1 (by simpa using e1)
    rw [List.getD_eq_getElem?_getD, List.getD_eq_getElem?_getD, List.getElem?_eq_getElem hj, List.getElem?_eq_getElem (show j < cs.length by omega)] at e2
    rw [List.getElem?_eq_getElem hj, List.getElem?_eq_getElem (show j < cs.length by omega)]
    exact congrArg some e2
  · rw [List.getElem?_eq_none (by omega), List.getElem?_eq_none (by omega)]
theorem c_EIC (hw : ∀ d ∈ tables_1, d.before a0 Z = true) (hEL : EW Z a0 EL) (O2 : Sta Z Z.heap "java/lang/String" "COMPACT_STRINGS" "Z" (.int zc)) (hzc : ¬ zc = 0) (hs : SC Z t cx ct ds) (hl : lat ds = true) (hs' : SC Z u cy cu cs) (hl' : lat cs = true) :
    OCon l Z EL (⟨"java/lang/String", "equalsIgnoreCase", "(Ljava/lang/String;)Z"⟩ : MethodName) jdk_42_method_70_code 2 (some .boolean) [] ({ frames := 3, cells := 0, slots := 0, locals := 53 } : Room) #[.ref x, .ref y] [] [(x, cx), (t, ct), (y, cy), (u, cu)] (fun v M N => M = [] ∧ N = [] ∧ ∃ r, v = some (.int r) ∧ ((r = 1 ∧ eqI ds cs) ∨ (r = 0 ∧ ¬ eqI ds cs))) := by
  refine OCon.of_wp (L0 := [.val (.ref x), .val (.ref y)]) pn_EIC hEL (fun m => by first | (simp [entryFrame, mkF, argsToLocals, Value.category]; done) | rfl) ?_
  intro p e s m below meth c hk
  have c4 := hs.2.2.2.2.2
  have c4' := hs'.2.2.2.2.2
  refine OWp.aload_n hk d_EIC_0 (pc' := 1) rfl rfl rfl ?_
  refine OWp.aload_n hk d_EIC_1 (pc' := 2) rfl rfl rfl ?_
  by_cases hxy : x = y
  · subst hxy
    refine OWp.same (a := x) (c1 := cx) (c2 := cy) (by simp) (by simp) fun ec => ?_
    subst ec
    have et : t = u := by have := FC.inj hs.2.1 hs'.2.1; simpa using this
    subst et
    refine OWp.same (a := t) (c1 := ct) (c2 := cu) (by simp) (by simp) fun ec => ?_
    subst ec
    have hd := same_text hs hl hs' hl'
    refine OWp.acmpNo hk d_EIC_2 rfl rfl (XT.aa_ne_f rfl) (pc' := 5) rfl ?_
    refine OWp.iconst hk d_EIC_5 (pc' := 6) rfl (z := 1) rfl ?_
    refine OWp.goto hk d_EIC_6 (by decide) (pc' := 44) rfl ?_
    exact OWp.retN hk (Or.inl rfl) d_EIC_44 ⟨rfl, rfl, 1, rfl, Or.inl ⟨rfl, by rw [hd]; exact ⟨rfl, fun j _ => CI.refl _⟩⟩⟩ (List.Sublist.refl _) (fun _ h => h) (by decide) (by decide)
  refine OWp.acmpYes hk d_EIC_2 rfl rfl (XT.aa_ne_t (by simpa using hxy)) (by decide) (pc' := 9) rfl ?_
  refine OWp.aload_n hk d_EIC_9 (pc' := 10) rfl rfl rfl ?_
  refine OWp.nullNo hk d_EIC_10 (pc' := 13) rfl ?_
  refine OWp.aload_n hk d_EIC_13 (pc' := 14) rfl rfl rfl ?_
  refine OWp.callV hk d_EIC_14 (pc' := 17) rfl (hw _ (List.mem_of_getElem? (i := 107) rfl)) (hw _ (List.mem_of_getElem? (i := 9) rfl)) (nfs (hw _ (List.mem_of_getElem? (i := 11) rfl))) (hw _ (List.mem_of_getElem? (i := 11) rfl)) (hw _ (List.mem_of_getElem? (i := 10) rfl)) (hw _ (List.mem_of_getElem? (i := 1) rfl)) (hw _ (List.mem_of_getElem? (i := 12) rfl)) (by decide) (by simp) hs'.1 (c_LEN hw hEL O2 hzc hs') rfl (by simp) rfl (lenOf pd_10 rfl) rfl (W := 0) rfl (by first | decide | (dsimp only; omega)) (by first | decide | (dsimp only; omega)) (by first | decide | (dsimp only; omega)) (by first | decide | (dsimp only; omega)) ?_
  rintro _ _ _ ⟨rfl, rfl, rfl⟩
  refine OWp.aload_n hk d_EIC_17 (pc' := 18) rfl rfl rfl ?_
  refine OWp.callV hk d_EIC_18 (pc' := 21) rfl (hw _ (List.mem_of_getElem? (i := 107) rfl)) (hw _ (List.mem_of_getElem? (i := 9) rfl)) (nfs (hw _ (List.mem_of_getElem? (i := 11) rfl))) (hw _ (List.mem_of_getElem? (i := 11) rfl)) (hw _ (List.mem_of_getElem? (i := 10) rfl)) (hw _ (List.mem_of_getElem? (i := 1) rfl)) (hw _ (List.mem_of_getElem? (i := 12) rfl)) (by decide) (by simp) hs.1 (c_LEN hw hEL O2 hzc hs) rfl (by simp) rfl (lenOf pd_10 rfl) rfl (W := 1) rfl (by first | decide | (dsimp only; omega)) (by first | decide | (dsimp only; omega)) (by first | decide | (dsimp only; omega)) (by first | decide | (dsimp only; omega)) ?_
  rintro _ _ _ ⟨rfl, rfl, rfl⟩
  by_cases hlen : cs.length = ds.length
  · refine OWp.icmpNo hk d_EIC_21 (XT.ii_ne_f (by rw [hlen])) (pc' := 24) rfl ?_
    refine OWp.aload_n hk d_EIC_24 (pc' := 25) rfl rfl rfl ?_
    refine OWp.iconst hk d_EIC_25 (pc' := 26) rfl (z := 1) rfl ?_
    refine OWp.iconst hk d_EIC_26 (pc' := 27) rfl (z := 0) rfl ?_
    refine OWp.aload_n hk d_EIC_27 (pc' := 28) rfl rfl rfl ?_
    refine OWp.iconst hk d_EIC_28 (pc' := 29) rfl (z := 0) rfl ?_
    refine OWp.aload_n hk d_EIC_29 (pc' := 30) rfl rfl rfl ?_
    refine OWp.callV hk d_EIC_30 (pc' := 33) rfl (hw _ (List.mem_of_getElem? (i := 107) rfl)) (hw _ (List.mem_of_getElem? (i := 9) rfl)) (nfs (hw _ (List.mem_of_getElem? (i := 11) rfl))) (hw _ (List.mem_of_getElem? (i := 11) rfl)) (hw _ (List.mem_of_getElem? (i := 10) rfl)) (hw _ (List.mem_of_getElem? (i := 1) rfl)) (hw _ (List.mem_of_getElem? (i := 12) rfl)) (by decide) (by simp) hs.1 (c_LEN hw hEL O2 hzc hs) rfl (by simp) rfl (lenOf pd_10 rfl) rfl (W := 5) rfl (by first | decide | (dsimp only; omega)) (by first | decide | (dsimp only; omega)) (by first | decide | (dsimp only; omega)) (by first | decide | (dsimp only; omega)) ?_
    rintro _ _ _ ⟨rfl, rfl, rfl⟩
    refine OWp.callV hk d_EIC_33 (pc' := 36) rfl (hw _ (List.mem_of_getElem? (i := 124) rfl)) (hw _ (List.mem_of_getElem? (i := 125) rfl)) (nfs (hw _ (List.mem_of_getElem? (i := 127) rfl))) (hw _ (List.mem_of_getElem? (i := 127) rfl)) (hw _ (List.mem_of_getElem? (i := 126) rfl)) (hw _ (List.mem_of_getElem? (i := 1) rfl)) (hw _ (List.mem_of_getElem? (i := 128) rfl)) (by decide) (by simp) hs.1 (c_RM hw hEL O2 hzc hs hl hs' hl' hlen) rfl (by simp) rfl (lenOf pd_12 rfl) rfl (W := 0) rfl (by first | decide | (dsimp only; omega)) (by first | decide | (dsimp only; omega)) (by first | decide | (dsimp only; omega)) (by first | decide | (dsimp only; omega)) ?_
    rintro _ _ _ ⟨rfl, rfl, r, rfl, hr⟩
    rcases hr with ⟨rfl, he⟩ | ⟨rfl, he⟩
    · refine OWp.ifNo hk d_EIC_36 (XT.i0_eq_f (by decide)) (pc' := 39) rfl ?_
      refine OWp.iconst hk d_EIC_39 (pc' := 40) rfl (z := 1) rfl ?_
      refine OWp.goto hk d_EIC_40 (by decide) (pc' := 44) rfl ?_
      exact OWp.retN hk (Or.inl rfl) d_EIC_44 ⟨rfl, rfl, 1, rfl, Or.inl ⟨rfl, he⟩⟩ (List.Sublist.refl _) (fun _ h => h) (by decide) (by decide)
    · refine OWp.ifYes hk d_EIC_36 (XT.i0_eq_t rfl) (by decide) (pc' := 43) rfl ?_
      refine OWp.iconst hk d_EIC_43 (pc' := 44) rfl (z := 0) rfl ?_
      exact OWp.retN hk (Or.inl rfl) d_EIC_44 ⟨rfl, rfl, 0, rfl, Or.inr ⟨rfl, he⟩⟩ (List.Sublist.refl _) (fun _ h => h) (by decide) (by decide)
  · refine OWp.icmpYes hk d_EIC_21 (XT.ii_ne_t (by rw [n_inj (by omega) (by omega)]; exact hlen)) (by decide) (pc' := 43) rfl ?_
    refine OWp.iconst hk d_EIC_43 (pc' := 44) rfl (z := 0) rfl ?_
    exact OWp.retN hk (Or.inl rfl) d_EIC_44 ⟨rfl, rfl, 0, rfl, Or.inr ⟨rfl, fun q => hlen q.1⟩⟩ (List.Sublist.refl _) (fun _ h => h) (by decide) (by decide)
def OptC (Z : State) (co : Cell) (w : Value) : Prop := EC Z co "java/util/Optional" ∧ FC Z co "java/util/Optional" "value" "Ljava/lang/Object;" w
theorem c_OIN (hw : ∀ d ∈ tables_1, d.before a0 Z = true) (hEL : EW Z a0 EL) (hE : EC Z co "java/util/Optional") (F_value : FC Z co "java/util/Optional" "value" "Ljava/lang/Object;" v0) :
    OCon l Z EL (⟨"java/util/Optional", "<init>", "(Ljava/lang/Object;)V"⟩ : MethodName) jdk_32_method_2_code 2 none [] ({ frames := 1, cells := 0, slots := 0, locals := 12 } : Room) #[.ref o, .ref a] [(o, co)] [] (fun v M N => v = none ∧ M = [] ∧ ∃ co', N = [(o, co')] ∧ OptC Z co' (.ref a)) := by
  refine OCon.of_wp (L0 := [.val (.ref o), .val (.ref a)]) pn_OIN hEL (fun m => by first | (simp [entryFrame, mkF, argsToLocals, Value.category]; done) | rfl) ?_
  intro p e s m below meth c hk
  refine OWp.aload_n hk d_OIN_0 (pc' := 1) rfl rfl rfl ?_
  refine OWp.initO hk d_OIN_1 (pc' := 4) rfl (hw _ (List.mem_of_getElem? (i := 150) rfl)) (hw _ (List.mem_of_getElem? (i := 67) rfl)) (hw _ (List.mem_of_getElem? (i := 68) rfl)) rfl (by first | decide | (dsimp only; omega)) (W := 0) rfl (by first | decide | (dsimp only; omega)) ?_
  refine OWp.aload_n hk d_OIN_4 (pc' := 5) rfl rfl rfl ?_
  refine OWp.aload_n hk d_OIN_5 (pc' := 6) rfl rfl rfl ?_
  refine OWp.putfield hk d_OIN_6 (pc' := 9) rfl (hw _ (List.mem_of_getElem? (i := 118) rfl)) (i := 0) rfl F_value hE (Or.inr ⟨(hw _ (List.mem_of_getElem? (i := 119) rfl)), rfl, rfl⟩) (hw _ (List.mem_of_getElem? (i := 141) rfl)) (ty := (.object "java/lang/Object")) (by decide) rfl rfl ?_
  intro ck hE F_value hK
  simp only [List.nil_append, List.cons_append, List.set_cons_zero]
  refine OWp.freeze ?_
  exact OWp.ret0 hk d_OIN_9 (N' := [(o, ck)]) ⟨rfl, rfl, ck, rfl, hE, F_value⟩ (List.nil_sublist _) (by simp) (by decide) (by decide)
theorem c_RN1 (hw : ∀ d ∈ tables_1, d.before a0 Z = true) (hEL : EW Z a0 EL)  :
    OCon l Z EL (⟨"java/util/Objects", "requireNonNull", "(Ljava/lang/Object;)Ljava/lang/Object;"⟩ : MethodName) jdk_31_method_10_code 1 (some (.object "java/lang/Object")) [] ({ frames := 0, cells := 0, slots := 0, locals := 0 } : Room) #[.ref x] [] [] (fun v M N => v = some (.ref x) ∧ M = [] ∧ N = []) := by
  refine OCon.of_wp (L0 := [.val (.ref x)]) pn_RN1 hEL (fun m => by first | (simp [entryFrame, mkF, argsToLocals, Value.category]; done) | rfl) ?_
  intro p e s m below meth c hk
  refine OWp.aload_n hk d_RN1_0 (pc' := 1) rfl rfl rfl ?_
  refine OWp.nonnullYes hk d_RN1_1 (by decide) (pc' := 12) rfl ?_
  refine OWp.aload_n hk d_RN1_12 (pc' := 13) rfl rfl rfl ?_
  exact OWp.retA hk rfl rfl rfl d_RN1_13 ⟨rfl, rfl, rfl⟩ (List.Sublist.refl _) (fun _ h => h) (by decide) (by decide)
theorem c_OOF (hw : ∀ d ∈ tables_1, d.before a0 Z = true) (hEL : EW Z a0 EL)  :
    OCon l Z EL (⟨"java/util/Optional", "of", "(Ljava/lang/Object;)Ljava/util/Optional;"⟩ : MethodName) jdk_32_method_3_code 1 (some (.object "java/util/Optional")) [] ({ frames := 2, cells := 1, slots := 1, locals := 26 } : Room) #[.ref a] [] [] (fun v M N => M = [] ∧ ∃ o co, v = some (.ref o) ∧ N = [(o, co)] ∧ OptC Z co (.ref a)) := by
  refine OCon.of_wp (L0 := [.val (.ref a)]) pn_OOF hEL (fun m => by first | (simp [entryFrame, mkF, argsToLocals, Value.category]; done) | rfl) ?_
  intro p e s m below meth c hk
  refine OWp.new hk d_OOF_0 (pc' := 3) rfl (hw _ (List.mem_of_getElem? (i := 140) rfl)) (hw _ (List.mem_of_getElem? (i := 141) rfl)) (hw _ (List.mem_of_getElem? (i := 110) rfl)) (by decide) (by decide) ?_
  intro o co hE hD
  have F0 : FC Z co "java/util/Optional" "value" "Ljava/lang/Object;" .null := hD (Or.inr (hw _ (List.mem_of_getElem? (i := 119) rfl))) (ty := .object "java/lang/Object") (by decide)
  refine OWp.dup hk d_OOF_3 (pc' := 4) rfl rfl ?_
  refine OWp.aload_n hk d_OOF_4 (pc' := 5) rfl rfl rfl ?_
  refine OWp.callS hk d_OOF_5 (pc' := 8) rfl (hw _ (List.mem_of_getElem? (i := 142) rfl)) (hw _ (List.mem_of_getElem? (i := 143) rfl)) (hw _ (List.mem_of_getElem? (i := 144) rfl)) (hw _ (List.mem_of_getElem? (i := 145) rfl)) (by decide) (c_RN1 hw hEL) rfl (by simp) rfl (lenOf pd_13 rfl) rfl (W := 2) rfl (by first | decide | (dsimp only; omega)) (by first | decide | (dsimp only; omega)) (by first | decide | (dsimp only; omega)) (by first | decide | (dsimp only; omega)) ?_
  rintro _ _ _ ⟨rfl, rfl, rfl⟩
  refine OWp.callI hk d_OOF_8 (pc' := 11) rfl rfl (hw _ (List.mem_of_getElem? (i := 146) rfl)) (hw _ (List.mem_of_getElem? (i := 147) rfl)) (hw _ (List.mem_of_getElem? (i := 110) rfl)) (hw _ (List.mem_of_getElem? (i := 149) rfl)) (by decide) (c_OIN hw hEL hE F0) rfl (by simp) rfl (lenOf pd_14 rfl) rfl (W := 1) rfl (by first | decide | (dsimp only; omega)) (by first | decide | (dsimp only; omega)) (by first | decide | (dsimp only; omega)) (by first | decide | (dsimp only; omega)) ?_
  rintro _ _ _ ⟨rfl, rfl, co2, rfl, hO⟩
  exact OWp.retA hk rfl rfl rfl d_OOF_11 (M' := []) (N' := [(o, co2)]) ⟨rfl, o, co2, rfl, rfl, hO⟩ (List.nil_sublist _) (by simp) (by decide) (by decide)
theorem c_OEM (hw : ∀ d ∈ tables_1, d.before a0 Z = true) (hEL : EW Z a0 EL) (hSE : Sta Z Z.heap "java/util/Optional" "EMPTY" "Ljava/util/Optional;" (.ref ea)) :
    OCon l Z EL (⟨"java/util/Optional", "empty", "()Ljava/util/Optional;"⟩ : MethodName) jdk_32_method_1_code 1 (some (.object "java/util/Optional")) [] ({ frames := 0, cells := 0, slots := 0, locals := 0 } : Room) #[] [] [] (fun v M N => v = some (.ref ea) ∧ M = [] ∧ N = []) := by
  refine OCon.of_wp (L0 := [.unset]) pn_OEM hEL (fun m => by first | (simp [entryFrame, mkF, argsToLocals, Value.category]; done) | rfl) ?_
  intro p e s m below meth c hk
  refine OWp.getstatic hk d_OEM_0 (pc' := 3) rfl (hw _ (List.mem_of_getElem? (i := 112) rfl)) hSE ?_
  refine OWp.astore_n hk d_OEM_3 (pc' := 4) rfl (kn := 0) rfl rfl rfl (by simp only [List.set_cons_zero, List.set_cons_succ]; rfl) ?_
  refine OWp.aload_n hk d_OEM_4 (pc' := 5) rfl rfl rfl ?_
  exact OWp.retA hk rfl rfl rfl d_OEM_5 ⟨rfl, rfl, rfl⟩ (List.Sublist.refl _) (fun _ h => h) (by decide) (by decide)
theorem c_ORE (hw : ∀ d ∈ tables_1, d.before a0 Z = true) (hEL : EW Z a0 EL) (hO : OptC Z co wv) (hwv : wv = .null ∨ ∃ q, wv = .ref q) :
    OCon l Z EL (⟨"java/util/Optional", "orElse", "(Ljava/lang/Object;)Ljava/lang/Object;"⟩ : MethodName) jdk_32_method_15_code 2 (some (.object "java/lang/Object")) [] ({ frames := 0, cells := 0, slots := 0, locals := 0 } : Room) #[.ref o, .null] [] [(o, co)] (fun v M N => v = some wv ∧ M = [] ∧ N = []) := by
  refine OCon.of_wp (L0 := [.val (.ref o), .val .null]) pn_ORE hEL (fun m => by first | (simp [entryFrame, mkF, argsToLocals, Value.category]; done) | rfl) ?_
  intro p e s m below meth c hk
  refine OWp.aload_n hk d_ORE_0 (pc' := 1) rfl rfl rfl ?_
  refine OWp.getfield hk d_ORE_1 (pc' := 4) rfl (hw _ (List.mem_of_getElem? (i := 118) rfl)) (by simp) hO.2 ?_
  rcases hwv with rfl | ⟨q, rfl⟩
  · refine OWp.nullYes hk d_ORE_4 (by decide) (pc' := 14) rfl ?_
    refine OWp.aload_n hk d_ORE_14 (pc' := 15) rfl rfl rfl ?_
    exact OWp.retA hk rfl rfl rfl d_ORE_15 ⟨rfl, rfl, rfl⟩ (List.Sublist.refl _) (fun _ h => h) (by decide) (by decide)
  · refine OWp.nullNo hk d_ORE_4 (pc' := 7) rfl ?_
    refine OWp.aload_n hk d_ORE_7 (pc' := 8) rfl rfl rfl ?_
    refine OWp.getfield hk d_ORE_8 (pc' := 11) rfl (hw _ (List.mem_of_getElem? (i := 118) rfl)) (by simp) hO.2 ?_
    refine OWp.goto hk d_ORE_11 (by decide) (pc' := 15) rfl ?_
    exact OWp.retA hk rfl rfl rfl d_ORE_15 ⟨rfl, rfl, rfl⟩ (List.Sublist.refl _) (fun _ h => h) (by decide) (by decide)
theorem c_VAL (hw : ∀ d ∈ tables_1, d.before a0 Z = true) (hEL : EW Z a0 EL) (hSV : Sta Z Z.heap "com/example/cardea/cardea/request/TrustedProxies$Header" "$VALUES" "[Lcom/example/cardea/cardea/request/TrustedProxies$Header;" (.ref va)) (hV : AC Z cv (.object "com/example/cardea/cardea/request/TrustedProxies$Header") (tab 2 fun j => if j = 0 then .ref fa else .ref xa)) (hE : EC Z cv "[Lcom/example/cardea/cardea/request/TrustedProxies$Header;") :
    OCon l Z EL (⟨"com/example/cardea/cardea/request/TrustedProxies$Header", "values", "()[Lcom/example/cardea/cardea/request/TrustedProxies$Header;"⟩ : MethodName) prog_28_method_1_code 0 (some (.array (.object "com/example/cardea/cardea/request/TrustedProxies$Header"))) [] ({ frames := 1, cells := 1, slots := 2, locals := 14 } : Room) #[] [] [(va, cv)] (fun v M N => M = [] ∧ ∃ a c', v = some (.ref a) ∧ N = [(a, c')] ∧ AC Z c' (.object "com/example/cardea/cardea/request/TrustedProxies$Header") (tab 2 fun j => if j = 0 then .ref fa else .ref xa)) := by
  refine OCon.of_wp (L0 := []) pn_VAL hEL (fun m => by first | (simp [entryFrame, mkF, argsToLocals, Value.category]; done) | rfl) ?_
  intro p e s m below meth c hk
  refine OWp.getstatic hk d_VAL_0 (pc' := 3) rfl (hw _ (List.mem_of_getElem? (i := 86) rfl)) hSV ?_
  refine OWp.clone hk d_VAL_3 (pc' := 6) rfl (hw _ (List.mem_of_getElem? (i := 88) rfl)) (hw _ (List.mem_of_getElem? (i := 89) rfl)) (hw _ (List.mem_of_getElem? (i := 93) rfl)) (hw _ (List.mem_of_getElem? (i := 91) rfl)) (hw _ (List.mem_of_getElem? (i := 92) rfl)) (hw _ (List.mem_of_getElem? (i := 94) rfl)) (by simp) hV hE  rfl (by decide) (W := 0) rfl (by decide)  (cap := 2) (by rw [tab_len]; exact Nat.le_refl _) (by decide) (by decide) ?_
  intro a c' hA hEA
  refine OWp.castY hk d_VAL_6 (pc' := 9) rfl (hw _ (List.mem_of_getElem? (i := 98) rfl)) (by simp) (cl := c') hEA ?_
  refine OWp.freeze ?_
  exact OWp.retA hk rfl rfl rfl d_VAL_9 (M' := []) (N' := [(a, c')]) ⟨rfl, a, c', rfl, rfl, hA⟩ (List.nil_sublist _) (by simp) (by decide) (by decide)
theorem c_NMD (hw : ∀ d ∈ tables_1, d.before a0 Z = true) (hEL : EW Z a0 EL) (O2 : Sta Z Z.heap "java/lang/String" "COMPACT_STRINGS" "Z" (.int zc)) (hzc : ¬ zc = 0) (hSV : Sta Z Z.heap "com/example/cardea/cardea/request/TrustedProxies$Header" "$VALUES" "[Lcom/example/cardea/cardea/request/TrustedProxies$Header;" (.ref va)) (hV : AC Z cv (.object "com/example/cardea/cardea/request/TrustedProxies$Header") (tab 2 fun j => if j = 0 then .ref fa else .ref xa)) (hEV : EC Z cv "[Lcom/example/cardea/cardea/request/TrustedProxies$Header;") (hEF : EC Z cf "com/example/cardea/cardea/request/TrustedProxies$Header") (hFF : FC Z cf "com/example/cardea/cardea/request/TrustedProxies$Header" "headerName" "Ljava/lang/String;" (.ref f1)) (hSF : SC Z f2 cf1 cf2 litF) (hEX : EC Z cxh "com/example/cardea/cardea/request/TrustedProxies$Header") (hFX : FC Z cxh "com/example/cardea/cardea/request/TrustedProxies$Header" "headerName" "Ljava/lang/String;" (.ref x1)) (hSX : SC Z x2 cx1 cx2 litX) (hSE : Sta Z Z.heap "java/util/Optional" "EMPTY" "Ljava/util/Optional;" (.ref ea)) (hOE : OptC Z ce .null) (hs' : SC Z u cy cu cs) (hl' : lat cs = true) :
    OCon l Z EL (⟨"com/example/cardea/cardea/request/TrustedProxies$Header", "named", "(Ljava/lang/String;)Ljava/util/Optional;"⟩ : MethodName) prog_28_method_5_code 5 (some (.object "java/util/Optional")) [] ({ frames := 4, cells := 4, slots := 8, locals := 66 } : Room) #[.ref y] [] [(y, cy), (u, cu), (va, cv), (fa, cf), (f1, cf1), (f2, cf2), (xa, cxh), (x1, cx1), (x2, cx2), (ea, ce)] (fun v M N => M = [] ∧ ∃ o co wv, v = some (.ref o) ∧ OptC Z co wv ∧ (N = [(o, co)] ∨ (N = [] ∧ o = ea ∧ co = ce)) ∧ ((eqI litF cs ∧ wv = .ref fa) ∨ (¬ eqI litF cs ∧ eqI litX cs ∧ wv = .ref xa) ∨ (¬ eqI litF cs ∧ ¬ eqI litX cs ∧ wv = .null))) := by
  refine OCon.of_wp (L0 := [.val (.ref y), .unset, .unset, .unset, .unset]) pn_NMD hEL (fun m => by first | (simp [entryFrame, mkF, argsToLocals, Value.category]; done) | rfl) ?_
  intro p e s m below meth c hk
  refine OWp.callS hk d_NMD_0 (pc' := 3) rfl (hw _ (List.mem_of_getElem? (i := 83) rfl)) (hw _ (List.mem_of_getElem? (i := 84) rfl)) (hw _ (List.mem_of_getElem? (i := 81) rfl)) (hw _ (List.mem_of_getElem? (i := 85) rfl)) (by decide) (c_VAL hw hEL hSV hV hEV) rfl (by simp) rfl (lenOf pd_15 rfl) rfl (W := 0) rfl (by first | decide | (dsimp only; omega)) (by first | decide | (dsimp only; omega)) (by first | decide | (dsimp only; omega)) (by first | decide | (dsimp only; omega)) ?_
  rintro _ _ _ ⟨rfl, av, c', rfl, rfl, hA⟩
  refine OWp.astore_n hk d_NMD_3 (pc' := 4) rfl (kn := 1) rfl rfl rfl (by simp only [List.set_cons_zero, List.set_cons_succ]; rfl) ?_
  refine OWp.aload_n hk d_NMD_4 (pc' := 5) rfl rfl rfl ?_
  refine OWp.arraylength hk d_NMD_5 (pc' := 6) rfl (by simp) hA (z := 2) rfl ?_
  refine OWp.istore_n hk d_NMD_6 (pc' := 7) rfl (kn := 2) rfl rfl (by simp only [List.set_cons_zero, List.set_cons_succ]; rfl) ?_
  refine OWp.iconst hk d_NMD_7 (pc' := 8) rfl (z := 0) rfl ?_
  refine OWp.istore_n hk d_NMD_8 (pc' := 9) rfl (kn := 3) rfl rfl (by simp only [List.set_cons_zero, List.set_cons_succ]; rfl) ?_
  refine OWp.iload_n hk d_NMD_9 (pc' := 10) rfl rfl ?_
  refine OWp.iload_n hk d_NMD_10 (pc' := 11) rfl rfl ?_
  refine OWp.icmpNo hk d_NMD_11 (XT.ii_ge_f (by decide)) (pc' := 14) rfl ?_
  refine OWp.aload_n hk d_NMD_14 (pc' := 15) rfl rfl rfl ?_
  refine OWp.iload_n hk d_NMD_15 (pc' := 16) rfl rfl ?_
  refine OWp.aaload hk d_NMD_16 (pc' := 17) rfl (by simp) hA rfl (by decide) (v := .ref fa) rfl ?_
  refine OWp.astore hk d_NMD_17 (pc' := 19) rfl rfl rfl (by simp only [List.set_cons_zero, List.set_cons_succ]; rfl) ?_
  refine OWp.aload hk d_NMD_19 (pc' := 21) rfl rfl rfl ?_
  refine OWp.getfield hk d_NMD_21 (pc' := 24) rfl (hw _ (List.mem_of_getElem? (i := 100) rfl)) (by simp) hFF ?_
  refine OWp.aload_n hk d_NMD_24 (pc' := 25) rfl rfl rfl ?_
  refine OWp.callV hk d_NMD_25 (pc' := 28) rfl (hw _ (List.mem_of_getElem? (i := 102) rfl)) (hw _ (List.mem_of_getElem? (i := 103) rfl)) (nfs (hw _ (List.mem_of_getElem? (i := 105) rfl))) (hw _ (List.mem_of_getElem? (i := 105) rfl)) (hw _ (List.mem_of_getElem? (i := 104) rfl)) (hw _ (List.mem_of_getElem? (i := 1) rfl)) (hw _ (List.mem_of_getElem? (i := 106) rfl)) (by decide) (by simp) hSF.1 (c_EIC hw hEL O2 hzc hSF (by decide) hs' hl') rfl (by simp) rfl (lenOf pd_16 rfl) rfl (W := 0) rfl (by first | decide | (dsimp only; omega)) (by first | decide | (dsimp only; omega)) (by first | decide | (dsimp only; omega)) (by first | decide | (dsimp only; omega)) ?_
  rintro _ _ _ ⟨rfl, rfl, r, rfl, hr⟩
  rcases hr with ⟨rfl, he⟩ | ⟨rfl, he⟩
  · refine OWp.ifNo hk d_NMD_28 (XT.i0_eq_f (by decide)) (pc' := 31) rfl ?_
    refine OWp.aload hk d_NMD_31 (pc' := 33) rfl rfl rfl ?_
    refine OWp.callS hk d_NMD_33 (pc' := 36) rfl (hw _ (List.mem_of_getElem? (i := 137) rfl)) (hw _ (List.mem_of_getElem? (i := 138) rfl)) (hw _ (List.mem_of_getElem? (i := 110) rfl)) (hw _ (List.mem_of_getElem? (i := 139) rfl)) (by decide) (c_OOF hw hEL) rfl (by simp) rfl (lenOf pd_17 rfl) rfl (W := 0) rfl (by first | decide | (dsimp only; omega)) (by first | decide | (dsimp only; omega)) (by first | decide | (dsimp only; omega)) (by first | decide | (dsimp only; omega)) ?_
    rintro _ _ _ ⟨rfl, o, co, rfl, rfl, hO⟩
    exact OWp.retA hk rfl rfl rfl d_NMD_36 (M' := []) (N' := [(o, co)]) ⟨rfl, o, co, _, rfl, hO, Or.inl rfl, Or.inl ⟨he, rfl⟩⟩ (List.nil_sublist _) (by simp) (by decide) (by decide)
  refine OWp.ifYes hk d_NMD_28 (XT.i0_eq_t rfl) (by decide) (pc' := 37) rfl ?_
  refine OWp.iinc hk d_NMD_37 (pc' := 40) rfl rfl (z := 1) rfl (by simp only [List.set_cons_zero, List.set_cons_succ]; rfl) ?_
  refine OWp.goto hk d_NMD_40 (by decide) (pc' := 9) rfl ?_
  refine OWp.iload_n hk d_NMD_9 (pc' := 10) rfl rfl ?_
  refine OWp.iload_n hk d_NMD_10 (pc' := 11) rfl rfl ?_
  refine OWp.icmpNo hk d_NMD_11 (XT.ii_ge_f (by decide)) (pc' := 14) rfl ?_
  refine OWp.aload_n hk d_NMD_14 (pc' := 15) rfl rfl rfl ?_
  refine OWp.iload_n hk d_NMD_15 (pc' := 16) rfl rfl ?_
  refine OWp.aaload hk d_NMD_16 (pc' := 17) rfl (by simp) hA rfl (by decide) (v := .ref xa) rfl ?_
  refine OWp.astore hk d_NMD_17 (pc' := 19) rfl rfl rfl (by simp only [List.set_cons_zero, List.set_cons_succ]; rfl) ?_
  refine OWp.aload hk d_NMD_19 (pc' := 21) rfl rfl rfl ?_
  refine OWp.getfield hk d_NMD_21 (pc' := 24) rfl (hw _ (List.mem_of_getElem? (i := 100) rfl)) (by simp) hFX ?_
  refine OWp.aload_n hk d_NMD_24 (pc' := 25) rfl rfl rfl ?_
  refine OWp.callV hk d_NMD_25 (pc' := 28) rfl (hw _ (List.mem_of_getElem? (i := 102) rfl)) (hw _ (List.mem_of_getElem? (i := 103) rfl)) (nfs (hw _ (List.mem_of_getElem? (i := 105) rfl))) (hw _ (List.mem_of_getElem? (i := 105) rfl)) (hw _ (List.mem_of_getElem? (i := 104) rfl)) (hw _ (List.mem_of_getElem? (i := 1) rfl)) (hw _ (List.mem_of_getElem? (i := 106) rfl)) (by decide) (by simp) hSX.1 (c_EIC hw hEL O2 hzc hSX (by decide) hs' hl') rfl (by simp) rfl (lenOf pd_16 rfl) rfl (W := 0) rfl (by first | decide | (dsimp only; omega)) (by first | decide | (dsimp only; omega)) (by first | decide | (dsimp only; omega)) (by first | decide | (dsimp only; omega)) ?_
  rintro _ _ _ ⟨rfl, rfl, r, rfl, hr⟩
  rcases hr with ⟨rfl, he2⟩ | ⟨rfl, he2⟩
  · refine OWp.ifNo hk d_NMD_28 (XT.i0_eq_f (by decide)) (pc' := 31) rfl ?_
    refine OWp.aload hk d_NMD_31 (pc' := 33) rfl rfl rfl ?_
    refine OWp.callS hk d_NMD_33 (pc' := 36) rfl (hw _ (List.mem_of_getElem? (i := 137) rfl)) (hw _ (List.mem_of_getElem? (i := 138) rfl)) (hw _ (List.mem_of_getElem? (i := 110) rfl)) (hw _ (List.mem_of_getElem? (i := 139) rfl)) (by decide) (c_OOF hw hEL) rfl (by simp) rfl (lenOf pd_17 rfl) rfl (W := 0) rfl (by first | decide | (dsimp only; omega)) (by first | decide | (dsimp only; omega)) (by first | decide | (dsimp only; omega)) (by first | decide | (dsimp only; omega)) ?_
    rintro _ _ _ ⟨rfl, o, co, rfl, rfl, hO⟩
    exact OWp.retA hk rfl rfl rfl d_NMD_36 (M' := []) (N' := [(o, co)]) ⟨rfl, o, co, _, rfl, hO, Or.inl rfl, Or.inr (Or.inl ⟨he, he2, rfl⟩)⟩ (List.nil_sublist _) (by simp) (by decide) (by decide)
  refine OWp.ifYes hk d_NMD_28 (XT.i0_eq_t rfl) (by decide) (pc' := 37) rfl ?_
  refine OWp.iinc hk d_NMD_37 (pc' := 40) rfl rfl (z := 1) rfl (by simp only [List.set_cons_zero, List.set_cons_succ]; rfl) ?_
  refine OWp.goto hk d_NMD_40 (by decide) (pc' := 9) rfl ?_
  refine OWp.iload_n hk d_NMD_9 (pc' := 10) rfl rfl ?_
  refine OWp.iload_n hk d_NMD_10 (pc' := 11) rfl rfl ?_
  refine OWp.icmpYes hk d_NMD_11 (XT.ii_ge_t (by decide)) (by decide) (pc' := 43) rfl ?_
  refine OWp.callS hk d_NMD_43 (pc' := 46) rfl (hw _ (List.mem_of_getElem? (i := 108) rfl)) (hw _ (List.mem_of_getElem? (i := 109) rfl)) (hw _ (List.mem_of_getElem? (i := 110) rfl)) (hw _ (List.mem_of_getElem? (i := 111) rfl)) (by decide) (c_OEM hw hEL hSE) rfl (by simp) rfl (lenOf pd_18 rfl) rfl (W := 0) rfl (by first | decide | (dsimp only; omega)) (by first | decide | (dsimp only; omega)) (by first | decide | (dsimp only; omega)) (by first | decide | (dsimp only; omega)) ?_
  rintro _ _ _ ⟨rfl, rfl, rfl⟩
  exact OWp.retA hk rfl rfl rfl d_NMD_46 (M' := []) (N' := []) ⟨rfl, ea, ce, _, rfl, hOE, Or.inr ⟨rfl, rfl, rfl⟩, Or.inr (Or.inr ⟨he, he2, rfl⟩)⟩ (List.nil_sublist _) (by simp) (by decide) (by decide)
theorem c_CSD (hw : ∀ d ∈ tables_1, d.before a0 Z = true) (hEL : EW Z a0 EL) (ht : Let tc) (q1 : Int32) :
    OCon l Z EL (⟨"com/example/cardea/cardea/request/HeaderNamedPinLaw", "cased", "(CII)C"⟩ : MethodName) method_4_code 3 (some .char) [] ({ frames := 0, cells := 0, slots := 0, locals := 0 } : Room) #[.int tc, .int bits, .int q1] [] [] (fun v M N => M = [] ∧ N = [] ∧ ∃ w, v = some (.int w) ∧ ByR w ∧ CI tc w) := by
  refine OCon.of_wp (L0 := [.val (.int tc), .val (.int bits), .val (.int q1)]) pn_CSD hEL (fun m => by first | (simp [entryFrame, mkF, argsToLocals, Value.category]; done) | rfl) ?_
  intro p e s m below meth c hk
  have hb : nar .char tc = tc ∧ ByR tc := by
    rcases ht with (rfl | rfl | rfl | rfl | rfl | rfl) | (rfl | rfl) | rfl <;> exact ⟨by decide, by decide, by decide⟩
  refine OWp.iload_n hk d_CSD_0 (pc' := 1) rfl rfl ?_
  refine OWp.iload_n hk d_CSD_1 (pc' := 2) rfl rfl ?_
  refine OWp.iushr hk d_CSD_2 (pc' := 3) rfl ?_
  refine OWp.iconst hk d_CSD_3 (pc' := 4) rfl (z := 1) rfl ?_
  refine OWp.iand hk d_CSD_4 (pc' := 5) rfl ?_
  by_cases h : XT.ushr bits q1 &&& 1 = 0
  · refine OWp.ifNo hk d_CSD_5 (XT.i0_ne_f h) (pc' := 8) rfl ?_
    refine OWp.iload_n hk d_CSD_8 (pc' := 9) rfl rfl ?_
    exact OWp.retN hk (Or.inr (Or.inr (Or.inl rfl))) d_CSD_9 ⟨rfl, rfl, tc, by rw [hb.1], hb.2, CI.refl _⟩ (List.Sublist.refl _) (fun _ h => h) (by decide) (by decide)
  refine OWp.ifYes hk d_CSD_5 (XT.i0_ne_t h) (by decide) (pc' := 10) rfl ?_
  refine OWp.iload_n hk d_CSD_10 (pc' := 11) rfl rfl ?_
  refine OWp.bipush hk d_CSD_11 (pc' := 13) rfl (z := 97) rfl ?_
  rcases ht with hLo | hUp | hDa
  · refine OWp.icmpNo hk d_CSD_13 (XT.ii_lt_f (by rcases hLo with rfl | rfl | rfl | rfl | rfl | rfl <;> decide)) (pc' := 16) rfl ?_
    refine OWp.iload_n hk d_CSD_16 (pc' := 17) rfl rfl ?_
    refine OWp.bipush hk d_CSD_17 (pc' := 19) rfl (z := 122) rfl ?_
    refine OWp.icmpNo hk d_CSD_19 (XT.ii_gt_f (by rcases hLo with rfl | rfl | rfl | rfl | rfl | rfl <;> decide)) (pc' := 22) rfl ?_
    refine OWp.iload_n hk d_CSD_22 (pc' := 23) rfl rfl ?_
    refine OWp.bipush hk d_CSD_23 (pc' := 25) rfl (z := 32) rfl ?_
    refine OWp.isub hk d_CSD_25 (pc' := 26) rfl ?_
    refine OWp.i2c hk d_CSD_26 (pc' := 27) rfl ?_
    exact OWp.retN hk (Or.inr (Or.inr (Or.inl rfl))) d_CSD_27 ⟨rfl, rfl, tc - 32, by congr 2; rcases hLo with rfl | rfl | rfl | rfl | rfl | rfl <;> decide, by constructor <;> (rcases hLo with rfl | rfl | rfl | rfl | rfl | rfl <;> decide), by rcases hLo with rfl | rfl | rfl | rfl | rfl | rfl <;> decide⟩ (List.Sublist.refl _) (fun _ h => h) (by decide) (by decide)
  · refine OWp.icmpYes hk d_CSD_13 (XT.ii_lt_t (by rcases hUp with rfl | rfl <;> decide)) (by decide) (pc' := 28) rfl ?_
    refine OWp.iload_n hk d_CSD_28 (pc' := 29) rfl rfl ?_
    refine OWp.bipush hk d_CSD_29 (pc' := 31) rfl (z := 65) rfl ?_
    refine OWp.icmpNo hk d_CSD_31 (XT.ii_lt_f (by rcases hUp with rfl | rfl <;> decide)) (pc' := 34) rfl ?_
    refine OWp.iload_n hk d_CSD_34 (pc' := 35) rfl rfl ?_
    refine OWp.bipush hk d_CSD_35 (pc' := 37) rfl (z := 90) rfl ?_
    refine OWp.icmpNo hk d_CSD_37 (XT.ii_gt_f (by rcases hUp with rfl | rfl <;> decide)) (pc' := 40) rfl ?_
    refine OWp.iload_n hk d_CSD_40 (pc' := 41) rfl rfl ?_
    refine OWp.bipush hk d_CSD_41 (pc' := 43) rfl (z := 32) rfl ?_
    refine OWp.iadd hk d_CSD_43 (pc' := 44) rfl ?_
    refine OWp.i2c hk d_CSD_44 (pc' := 45) rfl ?_
    exact OWp.retN hk (Or.inr (Or.inr (Or.inl rfl))) d_CSD_45 ⟨rfl, rfl, tc + 32, by congr 2; rcases hUp with rfl | rfl <;> decide, by constructor <;> (rcases hUp with rfl | rfl <;> decide), by rcases hUp with rfl | rfl <;> decide⟩ (List.Sublist.refl _) (fun _ h => h) (by decide) (by decide)
  · subst hDa
    refine OWp.icmpYes hk d_CSD_13 (XT.ii_lt_t (by decide)) (by decide) (pc' := 28) rfl ?_
    refine OWp.iload_n hk d_CSD_28 (pc' := 29) rfl rfl ?_
    refine OWp.bipush hk d_CSD_29 (pc' := 31) rfl (z := 65) rfl ?_
    refine OWp.icmpYes hk d_CSD_31 (XT.ii_lt_t (by decide)) (by decide) (pc' := 46) rfl ?_
    refine OWp.iload_n hk d_CSD_46 (pc' := 47) rfl rfl ?_
    exact OWp.retN hk (Or.inr (Or.inr (Or.inl rfl))) d_CSD_47 ⟨rfl, rfl, 45, rfl, hb.2, CI.refl _⟩ (List.Sublist.refl _) (fun _ h => h) (by decide) (by decide)
theorem c_AT (hw : ∀ d ∈ tables_1, d.before a0 Z = true) (hEL : EW Z a0 EL) (O2 : Sta Z Z.heap "java/lang/String" "COMPACT_STRINGS" "Z" (.int zc)) (hzc : ¬ zc = 0) (O4 : Sta Z Z.heap "jdk/internal/util/Preconditions" "SIOOBE_FORMATTER" "Ljava/util/function/BiFunction;" fm) (hf : fm.isRef = true) (hs : SC Z t cx ct ds) (hl : lat ds = true) (hle : ∀ j, j < ds.length → Let (ds.getD j 0)) (hc : ByR ch) (hi : i < 100) :
    OCon l Z EL (⟨"com/example/cardea/cardea/request/HeaderNamedPinLaw", "at", "(Ljava/lang/String;ICI)C"⟩ : MethodName) method_3_code 4 (some .char) [] ({ frames := 4, cells := 0, slots := 0, locals := 53 } : Room) #[.ref x, .int bits, .int ch, .int (Int32.ofNat i)] [] [(x, cx), (t, ct)] (fun v M N => M = [] ∧ N = [] ∧ ∃ w, v = some (.int w) ∧ ByR w ∧ (i < ds.length → CI (ds.getD i 0) w)) := by
  refine OCon.of_wp (L0 := [.val (.ref x), .val (.int bits), .val (.int ch), .val (.int (Int32.ofNat i))]) pn_AT hEL (fun m => by first | (simp [entryFrame, mkF, argsToLocals, Value.category]; done) | rfl) ?_
  intro p e s m below meth c hk
  have h4 := hs.2.2.2.2.2
  refine OWp.iload_n hk d_AT_0 (pc' := 1) rfl rfl ?_
  refine OWp.aload_n hk d_AT_1 (pc' := 2) rfl rfl rfl ?_
  refine OWp.callV hk d_AT_2 (pc' := 5) rfl (hw _ (List.mem_of_getElem? (i := 8) rfl)) (hw _ (List.mem_of_getElem? (i := 9) rfl)) (nfs (hw _ (List.mem_of_getElem? (i := 11) rfl))) (hw _ (List.mem_of_getElem? (i := 11) rfl)) (hw _ (List.mem_of_getElem? (i := 10) rfl)) (hw _ (List.mem_of_getElem? (i := 1) rfl)) (hw _ (List.mem_of_getElem? (i := 12) rfl)) (by decide) (by simp) hs.1 (c_LEN hw hEL O2 hzc hs) rfl (by simp) rfl (lenOf pd_10 rfl) rfl (W := 1) rfl (by first | decide | (dsimp only; omega)) (by first | decide | (dsimp only; omega)) (by first | decide | (dsimp only; omega)) (by first | decide | (dsimp only; omega)) ?_
  rintro _ _ _ ⟨rfl, rfl, rfl⟩
  by_cases h : i < ds.length
  · refine OWp.icmpNo hk d_AT_5 (XT.ii_ge_f (by rw [n_lt (by omega) (by omega)]; exact h)) (pc' := 8) rfl ?_
    refine OWp.aload_n hk d_AT_8 (pc' := 9) rfl rfl rfl ?_
    refine OWp.iload_n hk d_AT_9 (pc' := 10) rfl rfl ?_
    refine OWp.callV hk d_AT_10 (pc' := 13) rfl (hw _ (List.mem_of_getElem? (i := 27) rfl)) (hw _ (List.mem_of_getElem? (i := 28) rfl)) (nfs (hw _ (List.mem_of_getElem? (i := 30) rfl))) (hw _ (List.mem_of_getElem? (i := 30) rfl)) (hw _ (List.mem_of_getElem? (i := 29) rfl)) (hw _ (List.mem_of_getElem? (i := 1) rfl)) (hw _ (List.mem_of_getElem? (i := 31) rfl)) (by decide) (by simp) hs.1 (c_CHA (i := i) hw hEL O2 hzc O4 hf hs hl h) rfl (by simp) rfl (lenOf pd_19 rfl) rfl (W := 0) rfl (by first | decide | (dsimp only; omega)) (by first | decide | (dsimp only; omega)) (by first | decide | (dsimp only; omega)) (by first | decide | (dsimp only; omega)) ?_
    rintro _ _ _ ⟨rfl, rfl, rfl⟩
    refine OWp.iload_n hk d_AT_13 (pc' := 14) rfl rfl ?_
    refine OWp.iload_n hk d_AT_14 (pc' := 15) rfl rfl ?_
    refine OWp.callS hk d_AT_15 (pc' := 18) rfl (hw _ (List.mem_of_getElem? (i := 49) rfl)) (hw _ (List.mem_of_getElem? (i := 50) rfl)) (hw _ (List.mem_of_getElem? (i := 25) rfl)) (hw _ (List.mem_of_getElem? (i := 51) rfl)) (by decide) (c_CSD hw hEL (hle i h) (Int32.ofNat i)) rfl (by simp) rfl (lenOf pd_20 rfl) rfl (W := 0) rfl (by first | decide | (dsimp only; omega)) (by first | decide | (dsimp only; omega)) (by first | decide | (dsimp only; omega)) (by first | decide | (dsimp only; omega)) ?_
    rintro _ _ _ ⟨rfl, rfl, w, rfl, hr, hci⟩
    exact OWp.retN hk (Or.inr (Or.inr (Or.inl rfl))) d_AT_18 ⟨rfl, rfl, w, by rw [byR_nar hr], hr, fun _ => hci⟩ (List.Sublist.refl _) (fun _ h => h) (by decide) (by decide)
  · refine OWp.icmpYes hk d_AT_5 (XT.ii_ge_t (by rw [n_lt (by omega) (by omega)]; exact h)) (by decide) (pc' := 19) rfl ?_
    refine OWp.iload_n hk d_AT_19 (pc' := 20) rfl rfl ?_
    exact OWp.retN hk (Or.inr (Or.inr (Or.inl rfl))) d_AT_20 ⟨rfl, rfl, ch, by rw [byR_nar hc], hc, fun q => absurd q h⟩ (List.Sublist.refl _) (fun _ h => h) (by decide) (by decide)
theorem c_EQI (hw : ∀ d ∈ tables_1, d.before a0 Z = true) (hEL : EW Z a0 EL) (ht : Let tc) (hc : ByR ch) :
    OCon l Z EL (⟨"com/example/cardea/cardea/request/HeaderNamedPinLaw", "eqIgnoreCase", "(CC)Z"⟩ : MethodName) method_5_code 2 (some .boolean) [] ({ frames := 0, cells := 0, slots := 0, locals := 0 } : Room) #[.int ch, .int tc] [] [] (fun v M N => v = some (.int (if CI tc ch then 1 else 0)) ∧ M = [] ∧ N = []) := by
  refine OCon.of_wp (L0 := [.val (.int ch), .val (.int tc)]) pn_EQI hEL (fun m => by first | (simp [entryFrame, mkF, argsToLocals, Value.category]; done) | rfl) ?_
  intro p e s m below meth c hk
  have hiff := ci_iff ht hc
  refine OWp.iload_n hk d_EQI_0 (pc' := 1) rfl rfl ?_
  refine OWp.iload_n hk d_EQI_1 (pc' := 2) rfl rfl ?_
  by_cases h : ch = tc
  · refine OWp.icmpNo hk d_EQI_2 (XT.ii_ne_f h) (pc' := 5) rfl ?_
    refine OWp.iconst hk d_EQI_5 (pc' := 6) rfl (z := 1) rfl ?_
    exact OWp.retN hk (Or.inl rfl) d_EQI_6 ⟨by rw [if_pos (hiff.mpr (Or.inl h))]; rfl, rfl, rfl⟩ (List.Sublist.refl _) (fun _ h => h) (by decide) (by decide)
  refine OWp.icmpYes hk d_EQI_2 (XT.ii_ne_t h) (by decide) (pc' := 7) rfl ?_
  refine OWp.iload_n hk d_EQI_7 (pc' := 8) rfl rfl ?_
  refine OWp.bipush hk d_EQI_8 (pc' := 10) rfl (z := 97) rfl ?_
  have ht' := ht
  rcases ht with hLo | hUp | hDa
  · have eo : oth tc = tc - 32 := if_pos hLo
    have en : (tc - 32).toUInt32.toUInt16.toUInt32.toInt32 = tc - 32 := by rcases hLo with rfl | rfl | rfl | rfl | rfl | rfl <;> decide
    refine OWp.icmpNo hk d_EQI_10 (XT.ii_lt_f (by rcases hLo with rfl | rfl | rfl | rfl | rfl | rfl <;> decide)) (pc' := 13) rfl ?_
    refine OWp.iload_n hk d_EQI_13 (pc' := 14) rfl rfl ?_
    refine OWp.bipush hk d_EQI_14 (pc' := 16) rfl (z := 122) rfl ?_
    refine OWp.icmpNo hk d_EQI_16 (XT.ii_gt_f (by rcases hLo with rfl | rfl | rfl | rfl | rfl | rfl <;> decide)) (pc' := 19) rfl ?_
    refine OWp.iload_n hk d_EQI_19 (pc' := 20) rfl rfl ?_
    refine OWp.iload_n hk d_EQI_20 (pc' := 21) rfl rfl ?_
    refine OWp.bipush hk d_EQI_21 (pc' := 23) rfl (z := 32) rfl ?_
    refine OWp.isub hk d_EQI_23 (pc' := 24) rfl ?_
    refine OWp.i2c hk d_EQI_24 (pc' := 25) rfl ?_
    rw [en]
    by_cases h2 : ch = tc - 32
    · refine OWp.icmpNo hk d_EQI_25 (XT.ii_ne_f h2) (pc' := 28) rfl ?_
      refine OWp.iconst hk d_EQI_28 (pc' := 29) rfl (z := 1) rfl ?_
      refine OWp.goto hk d_EQI_29 (by decide) (pc' := 33) rfl ?_
      exact OWp.retN hk (Or.inl rfl) d_EQI_33 ⟨by rw [if_pos (hiff.mpr (Or.inr (by rw [eo]; exact h2)))]; rfl, rfl, rfl⟩ (List.Sublist.refl _) (fun _ h => h) (by decide) (by decide)
    · refine OWp.icmpYes hk d_EQI_25 (XT.ii_ne_t h2) (by decide) (pc' := 32) rfl ?_
      refine OWp.iconst hk d_EQI_32 (pc' := 33) rfl (z := 0) rfl ?_
      exact OWp.retN hk (Or.inl rfl) d_EQI_33 ⟨by rw [if_neg (fun z => (hiff.mp z).elim h (by rw [eo]; exact h2))]; rfl, rfl, rfl⟩ (List.Sublist.refl _) (fun _ h => h) (by decide) (by decide)
  · have eo : oth tc = tc + 32 := by rcases hUp with rfl | rfl <;> decide
    have en : (tc + 32).toUInt32.toUInt16.toUInt32.toInt32 = tc + 32 := by rcases hUp with rfl | rfl <;> decide
    refine OWp.icmpYes hk d_EQI_10 (XT.ii_lt_t (by rcases hUp with rfl | rfl <;> decide)) (by decide) (pc' := 34) rfl ?_
    refine OWp.iload_n hk d_EQI_34 (pc' := 35) rfl rfl ?_
    refine OWp.bipush hk d_EQI_35 (pc' := 37) rfl (z := 65) rfl ?_
    refine OWp.icmpNo hk d_EQI_37 (XT.ii_lt_f (by rcases hUp with rfl | rfl <;> decide)) (pc' := 40) rfl ?_
    refine OWp.iload_n hk d_EQI_40 (pc' := 41) rfl rfl ?_
    refine OWp.bipush hk d_EQI_41 (pc' := 43) rfl (z := 90) rfl ?_
    refine OWp.icmpNo hk d_EQI_43 (XT.ii_gt_f (by rcases hUp with rfl | rfl <;> decide)) (pc' := 46) rfl ?_
    refine OWp.iload_n hk d_EQI_46 (pc' := 47) rfl rfl ?_
    refine OWp.iload_n hk d_EQI_47 (pc' := 48) rfl rfl ?_
    refine OWp.bipush hk d_EQI_48 (pc' := 50) rfl (z := 32) rfl ?_
    refine OWp.iadd hk d_EQI_50 (pc' := 51) rfl ?_
    refine OWp.i2c hk d_EQI_51 (pc' := 52) rfl ?_
    rw [en]
    by_cases h2 : ch = tc + 32
    · refine OWp.icmpNo hk d_EQI_52 (XT.ii_ne_f h2) (pc' := 55) rfl ?_
      refine OWp.iconst hk d_EQI_55 (pc' := 56) rfl (z := 1) rfl ?_
      refine OWp.goto hk d_EQI_56 (by decide) (pc' := 60) rfl ?_
      exact OWp.retN hk (Or.inl rfl) d_EQI_60 ⟨by rw [if_pos (hiff.mpr (Or.inr (by rw [eo]; exact h2)))]; rfl, rfl, rfl⟩ (List.Sublist.refl _) (fun _ h => h) (by decide) (by decide)
    · refine OWp.icmpYes hk d_EQI_52 (XT.ii_ne_t h2) (by decide) (pc' := 59) rfl ?_
      refine OWp.iconst hk d_EQI_59 (pc' := 60) rfl (z := 0) rfl ?_
      exact OWp.retN hk (Or.inl rfl) d_EQI_60 ⟨by rw [if_neg (fun z => (hiff.mp z).elim h (by rw [eo]; exact h2))]; rfl, rfl, rfl⟩ (List.Sublist.refl _) (fun _ h => h) (by decide) (by decide)
  · subst hDa
    refine OWp.icmpYes hk d_EQI_10 (XT.ii_lt_t (by decide)) (by decide) (pc' := 34) rfl ?_
    refine OWp.iload_n hk d_EQI_34 (pc' := 35) rfl rfl ?_
    refine OWp.bipush hk d_EQI_35 (pc' := 37) rfl (z := 65) rfl ?_
    refine OWp.icmpYes hk d_EQI_37 (XT.ii_lt_t (by decide)) (by decide) (pc' := 61) rfl ?_
    refine OWp.iconst hk d_EQI_61 (pc' := 62) rfl (z := 0) rfl ?_
    exact OWp.retN hk (Or.inl rfl) d_EQI_62 ⟨by rw [if_neg (fun z => (hiff.mp z).elim h (by rw [show oth 45 = 45 from by decide]; exact h))]; rfl, rfl, rfl⟩ (List.Sublist.refl _) (fun _ h => h) (by decide) (by decide)
theorem c_PUT (hw : ∀ d ∈ tables_1, d.before a0 Z = true) (hEL : EW Z a0 EL) (hA : AC Z co .char (tab n f)) (hW : AC Z cw .char (tab 16 fun j => .int (G j))) (hn : n ≤ 16) (hi : i < 16) (hG : ByR (G i)) :
    OCon l Z EL (⟨"com/example/cardea/cardea/request/HeaderNamedPinLaw", "put", "([C[CI)V"⟩ : MethodName) method_7_code 3 none [] ({ frames := 0, cells := 0, slots := 0, locals := 0 } : Room) #[.ref o, .ref w, .int (Int32.ofNat i)] [(o, co)] [(w, cw)] (fun v M N => v = none ∧ N = [] ∧ ∃ co', M = [(o, co')] ∧ AC Z co' .char (tab n fun j => if j = i then .int (G i) else f j)) := by
  refine OCon.of_wp (L0 := [.val (.ref o), .val (.ref w), .val (.int (Int32.ofNat i))]) pn_PUT hEL (fun m => by first | (simp [entryFrame, mkF, argsToLocals, Value.category]; done) | rfl) ?_
  intro p e s m below meth c hk
  refine OWp.iload_n hk d_PUT_0 (pc' := 1) rfl rfl ?_
  refine OWp.aload_n hk d_PUT_1 (pc' := 2) rfl rfl rfl ?_
  refine OWp.arraylength hk d_PUT_2 (pc' := 3) rfl (by simp) hA (z := Int32.ofNat n) (by rw [tab_len]) ?_
  by_cases h : i < n
  · refine OWp.icmpNo hk d_PUT_3 (XT.ii_ge_f (by rw [n_lt (by omega) (by omega)]; exact h)) (pc' := 6) rfl ?_
    refine OWp.aload_n hk d_PUT_6 (pc' := 7) rfl rfl rfl ?_
    refine OWp.iload_n hk d_PUT_7 (pc' := 8) rfl rfl ?_
    refine OWp.aload_n hk d_PUT_8 (pc' := 9) rfl rfl rfl ?_
    refine OWp.iload_n hk d_PUT_9 (pc' := 10) rfl rfl ?_
    refine OWp.caload hk d_PUT_10 (pc' := 11) rfl (by simp) hW (n_nn (by omega)) (by rw [n_nat (by omega)]; exact tab_get hi) ?_
    refine OWp.castore hk d_PUT_11 (pc' := 12) rfl (i := 0) rfl hA (n_nn (by omega)) (t := i) (n_nat (by omega)) (by rw [tab_len]; exact h) ?_
    intro co2 hA2
    simp only [List.set_cons_zero]
    rw [tab_set, byR_nar hG] at hA2
    exact OWp.ret0 hk d_PUT_12 (M' := [(o, co2)]) (N' := []) ⟨rfl, rfl, co2, rfl, hA2⟩ (List.Sublist.refl _) (by simp) (by decide) (by decide)
  · refine OWp.icmpYes hk d_PUT_3 (XT.ii_ge_t (by rw [n_lt (by omega) (by omega)]; exact h)) (by decide) (pc' := 12) rfl ?_
    exact OWp.ret0 hk d_PUT_12 (M' := [(o, co)]) (N' := []) ⟨rfl, rfl, co, rfl, hA.congr fun j hj => by rw [if_neg (by omega)]⟩ (List.Sublist.refl _) (by simp) (by decide) (by decide)
theorem c_CUT (hw : ∀ d ∈ tables_1, d.before a0 Z = true) (hEL : EW Z a0 EL) (hW : AC Z cw .char (tab 16 fun j => .int (G j))) (hG : ∀ j, j < 16 → ByR (G j)) (hn : n = 8 ∨ n = 9 ∨ n = 10 ∨ n = 14 ∨ n = 15 ∨ n = 16) :
    OCon l Z EL (⟨"com/example/cardea/cardea/request/HeaderNamedPinLaw", "cut", "([CI)[C"⟩ : MethodName) method_6_code 3 (some (.array .char)) [] ({ frames := 1, cells := 1, slots := 16, locals := 14 } : Room) #[.ref w, .int (Int32.ofNat n)] [] [(w, cw)] (fun v M N => M = [] ∧ ∃ o co, v = some (.ref o) ∧ N = [(o, co)] ∧ AC Z co .char (tab n fun j => .int (G j))) := by
  refine OCon.of_wp (L0 := [.val (.ref w), .val (.int (Int32.ofNat n)), .unset]) pn_CUT hEL (fun m => by first | (simp [entryFrame, mkF, argsToLocals, Value.category]; done) | rfl) ?_
  intro p e s m below meth c hk
  have J : ∀ (o : Addr) (co : Cell), AC Z co .char (tab n fun _ => .int 0) → OWp p l e ({ frames := 1, cells := 1, slots := 16, locals := 14 } : Room) s m #[.ref w, .int (Int32.ofNat n)] below meth c "com/example/cardea/cardea/request/HeaderNamedPinLaw" Z EL (dom []) [(w, cw)] (fun v M N => M = [] ∧ ∃ o co, v = some (.ref o) ∧ N = [(o, co)] ∧ AC Z co .char (tab n fun j => .int (G j))) [(o, co)] [] 1 16 69 [.val (.ref w), .val (.int (Int32.ofNat n)), .unset] [.ref o] := by
    intro o co hA
    have hn16 : n ≤ 16 := by omega
    refine OWp.astore_n hk d_CUT_69 (pc' := 70) rfl (kn := 2) rfl rfl rfl (by simp only [List.set_cons_zero, List.set_cons_succ]; rfl) ?_
    refine OWp.aload_n hk d_CUT_70 (pc' := 71) rfl rfl rfl ?_
    refine OWp.aload_n hk d_CUT_71 (pc' := 72) rfl rfl rfl ?_
    refine OWp.iconst hk d_CUT_72 (pc' := 73) rfl (z := 0) rfl ?_
    refine OWp.callS hk d_CUT_73 (pc' := 76) rfl (hw _ (List.mem_of_getElem? (i := 56) rfl)) (hw _ (List.mem_of_getElem? (i := 57) rfl)) (hw _ (List.mem_of_getElem? (i := 25) rfl)) (hw _ (List.mem_of_getElem? (i := 58) rfl)) (by decide) (c_PUT (i := 0) hw hEL hA hW hn16 (by decide) (hG 0 (by decide))) rfl (by simp) rfl (lenOf pd_21 rfl) rfl (W := 0) rfl (by first | decide | (dsimp only; omega)) (by first | decide | (dsimp only; omega)) (by first | decide | (dsimp only; omega)) (by first | decide | (dsimp only; omega)) ?_
    clear hA
    rintro _ _ _ ⟨rfl, rfl, co, rfl, hA⟩
    refine OWp.aload_n hk d_CUT_76 (pc' := 77) rfl rfl rfl ?_
    refine OWp.aload_n hk d_CUT_77 (pc' := 78) rfl rfl rfl ?_
    refine OWp.iconst hk d_CUT_78 (pc' := 79) rfl (z := 1) rfl ?_
    refine OWp.callS hk d_CUT_79 (pc' := 82) rfl (hw _ (List.mem_of_getElem? (i := 56) rfl)) (hw _ (List.mem_of_getElem? (i := 57) rfl)) (hw _ (List.mem_of_getElem? (i := 25) rfl)) (hw _ (List.mem_of_getElem? (i := 58) rfl)) (by decide) (c_PUT (i := 1) hw hEL hA hW hn16 (by decide) (hG 1 (by decide))) rfl (by simp) rfl (lenOf pd_21 rfl) rfl (W := 0) rfl (by first | decide | (dsimp only; omega)) (by first | decide | (dsimp only; omega)) (by first | decide | (dsimp only; omega)) (by first | decide | (dsimp only; omega)) ?_
    clear hA
    rintro _ _ _ ⟨rfl, rfl, co, rfl, hA⟩
    refine OWp.aload_n hk d_CUT_82 (pc' := 83) rfl rfl rfl ?_
    refine OWp.aload_n hk d_CUT_83 (pc' := 84) rfl rfl rfl ?_
    refine OWp.iconst hk d_CUT_84 (pc' := 85) rfl (z := 2) rfl ?_
    refine OWp.callS hk d_CUT_85 (pc' := 88) rfl (hw _ (List.mem_of_getElem? (i := 56) rfl)) (hw _ (List.mem_of_getElem? (i := 57) rfl)) (hw _ (List.mem_of_getElem? (i := 25) rfl)) (hw _ (List.mem_of_getElem? (i := 58) rfl)) (by decide) (c_PUT (i := 2) hw hEL hA hW hn16 (by decide) (hG 2 (by decide))) rfl (by simp) rfl (lenOf pd_21 rfl) rfl (W := 0) rfl (by first | decide | (dsimp only; omega)) (by first | decide | (dsimp only; omega)) (by first | decide | (dsimp only; omega)) (by first | decide | (dsimp only; omega)) ?_
    clear hA
    rintro _ _ _ ⟨rfl, rfl, co, rfl, hA⟩
    refine OWp.aload_n hk d_CUT_88 (pc' := 89) rfl rfl rfl ?_
    refine OWp.aload_n hk d_CUT_89 (pc' := 90) rfl rfl rfl ?_
    refine OWp.iconst hk d_CUT_90 (pc' := 91) rfl (z := 3) rfl ?_
    refine OWp.callS hk d_CUT_91 (pc' := 94) rfl (hw _ (List.mem_of_getElem? (i := 56) rfl)) (hw _ (List.mem_of_getElem? (i := 57) rfl)) (hw _ (List.mem_of_getElem? (i := 25) rfl)) (hw _ (List.mem_of_getElem? (i := 58) rfl)) (by decide) (c_PUT (i := 3) hw hEL hA hW hn16 (by decide) (hG 3 (by decide))) rfl (by simp) rfl (lenOf pd_21 rfl) rfl (W := 0) rfl (by first | decide | (dsimp only; omega)) (by first | decide | (dsimp only; omega)) (by first | decide | (dsimp only; omega)) (by first | decide | (dsimp only; omega)) ?_
    clear hA
    rintro _ _ _ ⟨rfl, rfl, co, rfl, hA⟩
    refine OWp.aload_n hk d_CUT_94 (pc' := 95) rfl rfl rfl ?_
    refine OWp.aload_n hk d_CUT_95 (pc' := 96) rfl rfl rfl ?_
    refine OWp.iconst hk d_CUT_96 (pc' := 97) rfl (z := 4) rfl ?_
    refine OWp.callS hk d_CUT_97 (pc' := 100) rfl (hw _ (List.mem_of_getElem? (i := 56) rfl)) (hw _ (List.mem_of_getElem? (i := 57) rfl)) (hw _ (List.mem_of_getElem? (i := 25) rfl)) (hw _ (List.mem_of_getElem? (i := 58) rfl)) (by decide) (c_PUT (i := 4) hw hEL hA hW hn16 (by decide) (hG 4 (by decide))) rfl (by simp) rfl (lenOf pd_21 rfl) rfl (W := 0) rfl (by first | decide | (dsimp only; omega)) (by first | decide | (dsimp only; omega)) (by first | decide | (dsimp only; omega)) (by first | decide | (dsimp only; omega)) ?_
    clear hA
    rintro _ _ _ ⟨rfl, rfl, co, rfl, hA⟩
    refine OWp.aload_n hk d_CUT_100 (pc' := 101) rfl rfl rfl ?_
    refine OWp.aload_n hk d_CUT_101 (pc' := 102) rfl rfl rfl ?_
    refine OWp.iconst hk d_CUT_102 (pc' := 103) rfl (z := 5) rfl ?_
    refine OWp.callS hk d_CUT_103 (pc' := 106) rfl (hw _ (List.mem_of_getElem? (i := 56) rfl)) (hw _ (List.mem_of_getElem? (i := 57) rfl)) (hw _ (List.mem_of_getElem? (i := 25) rfl)) (hw _ (List.mem_of_getElem? (i := 58) rfl)) (by decide) (c_PUT (i := 5) hw hEL hA hW hn16 (by decide) (hG 5 (by decide))) rfl (by simp) rfl (lenOf pd_21 rfl) rfl (W := 0) rfl (by first | decide | (dsimp only; omega)) (by first | decide | (dsimp only; omega)) (by first | decide | (dsimp only; omega)) (by first | decide | (dsimp only; omega)) ?_
    clear hA
    rintro _ _ _ ⟨rfl, rfl, co, rfl, hA⟩
    refine OWp.aload_n hk d_CUT_106 (pc' := 107) rfl rfl rfl ?_
    refine OWp.aload_n hk d_CUT_107 (pc' := 108) rfl rfl rfl ?_
    refine OWp.bipush hk d_CUT_108 (pc' := 110) rfl (z := 6) rfl ?_
    refine OWp.callS hk d_CUT_110 (pc' := 113) rfl (hw _ (List.mem_of_getElem? (i := 56) rfl)) (hw _ (List.mem_of_getElem? (i := 57) rfl)) (hw _ (List.mem_of_getElem? (i := 25) rfl)) (hw _ (List.mem_of_getElem? (i := 58) rfl)) (by decide) (c_PUT (i := 6) hw hEL hA hW hn16 (by decide) (hG 6 (by decide))) rfl (by simp) rfl (lenOf pd_21 rfl) rfl (W := 0) rfl (by first | decide | (dsimp only; omega)) (by first | decide | (dsimp only; omega)) (by first | decide | (dsimp only; omega)) (by first | decide | (dsimp only; omega)) ?_
    clear hA
    rintro _ _ _ ⟨rfl, rfl, co, rfl, hA⟩
    refine OWp.aload_n hk d_CUT_113 (pc' := 114) rfl rfl rfl ?_
    refine OWp.aload_n hk d_CUT_114 (pc' := 115) rfl rfl rfl ?_
    refine OWp.bipush hk d_CUT_115 (pc' := 117) rfl (z := 7) rfl ?_
    refine OWp.callS hk d_CUT_117 (pc' := 120) rfl (hw _ (List.mem_of_getElem? (i := 56) rfl)) (hw _ (List.mem_of_getElem? (i := 57) rfl)) (hw _ (List.mem_of_getElem? (i := 25) rfl)) (hw _ (List.mem_of_getElem? (i := 58) rfl)) (by decide) (c_PUT (i := 7) hw hEL hA hW hn16 (by decide) (hG 7 (by decide))) rfl (by simp) rfl (lenOf pd_21 rfl) rfl (W := 0) rfl (by first | decide | (dsimp only; omega)) (by first | decide | (dsimp only; omega)) (by first | decide | (dsimp only; omega)) (by first | decide | (dsimp only; omega)) ?_
    clear hA
    rintro _ _ _ ⟨rfl, rfl, co, rfl, hA⟩
    refine OWp.aload_n hk d_CUT_120 (pc' := 121) rfl rfl rfl ?_
    refine OWp.aload_n hk d_CUT_121 (pc' := 122) rfl rfl rfl ?_
    refine OWp.bipush hk d_CUT_122 (pc' := 124) rfl (z := 8) rfl ?_
    refine OWp.callS hk d_CUT_124 (pc' := 127) rfl (hw _ (List.mem_of_getElem? (i := 56) rfl)) (hw _ (List.mem_of_getElem? (i := 57) rfl)) (hw _ (List.mem_of_getElem? (i := 25) rfl)) (hw _ (List.mem_of_getElem? (i := 58) rfl)) (by decide) (c_PUT (i := 8) hw hEL hA hW hn16 (by decide) (hG 8 (by decide))) rfl (by simp) rfl (lenOf pd_21 rfl) rfl (W := 0) rfl (by first | decide | (dsimp only; omega)) (by first | decide | (dsimp only; omega)) (by first | decide | (dsimp only; omega)) (by first | decide | (dsimp only; omega)) ?_
    clear hA
    rintro _ _ _ ⟨rfl, rfl, co, rfl, hA⟩
    refine OWp.aload_n hk d_CUT_127 (pc' := 128) rfl rfl rfl ?_
    refine OWp.aload_n hk d_CUT_128 (pc' := 129) rfl rfl rfl ?_
    refine OWp.bipush hk d_CUT_129 (pc' := 131) rfl (z := 9) rfl ?_
    refine OWp.callS hk d_CUT_131 (pc' := 134) rfl (hw _ (List.mem_of_getElem? (i := 56) rfl)) (hw _ (List.mem_of_getElem? (i := 57) rfl)) (hw _ (List.mem_of_getElem? (i := 25) rfl)) (hw _ (List.mem_of_getElem? (i := 58) rfl)) (by decide) (c_PUT (i := 9) hw hEL hA hW hn16 (by decide) (hG 9 (by decide))) rfl (by simp) rfl (lenOf pd_21 rfl) rfl (W := 0) rfl (by first | decide | (dsimp only; omega)) (by first | decide | (dsimp only; omega)) (by first | decide | (dsimp only; omega)) (by first | decide | (dsimp only; omega)) ?_
    clear hA
    rintro _ _ _ ⟨rfl, rfl, co, rfl, hA⟩
    refine OWp.aload_n hk d_CUT_134 (pc' := 135) rfl rfl rfl ?_
    refine OWp.aload_n hk d_CUT_135 (pc' := 136) rfl rfl rfl ?_
    refine OWp.bipush hk d_CUT_136 (pc' := 138) rfl (z := 10) rfl ?_
    refine OWp.callS hk d_CUT_138 (pc' := 141) rfl (hw _ (List.mem_of_getElem? (i := 56) rfl)) (hw _ (List.mem_of_getElem? (i := 57) rfl)) (hw _ (List.mem_of_getElem? (i := 25) rfl)) (hw _ (List.mem_of_getElem? (i := 58) rfl)) (by decide) (c_PUT (i := 10) hw hEL hA hW hn16 (by decide) (hG 10 (by decide))) rfl (by simp) rfl (lenOf pd_21 rfl) rfl (W := 0) rfl (by first | decide | (dsimp only; omega)) (by first | decide | (dsimp only; omega)) (by first | decide | (dsimp only; omega)) (by first | decide | (dsimp only; omega)) ?_
    clear hA
    rintro _ _ _ ⟨rfl, rfl, co, rfl, hA⟩
    refine OWp.aload_n hk d_CUT_141 (pc' := 142) rfl rfl rfl ?_
    refine OWp.aload_n hk d_CUT_142 (pc' := 143) rfl rfl rfl ?_
    refine OWp.bipush hk d_CUT_143 (pc' := 145) rfl (z := 11) rfl ?_
    refine OWp.callS hk d_CUT_145 (pc' := 148) rfl (hw _ (List.mem_of_getElem? (i := 56) rfl)) (hw _ (List.mem_of_getElem? (i := 57) rfl)) (hw _ (List.mem_of_getElem? (i := 25) rfl)) (hw _ (List.mem_of_getElem? (i := 58) rfl)) (by decide) (c_PUT (i := 11) hw hEL hA hW hn16 (by decide) (hG 11 (by decide))) rfl (by simp) rfl (lenOf pd_21 rfl) rfl (W := 0) rfl (by first | decide | (dsimp only; omega)) (by first | decide | (dsimp only; omega)) (by first | decide | (dsimp only; omega)) (by first | decide | (dsimp only; omega)) ?_
    clear hA
    rintro _ _ _ ⟨rfl, rfl, co, rfl, hA⟩
    refine OWp.aload_n hk d_CUT_148 (pc' := 149) rfl rfl rfl ?_
    refine OWp.aload_n hk d_CUT_149 (pc' := 150) rfl rfl rfl ?_
    refine OWp.bipush hk d_CUT_150 (pc' := 152) rfl (z := 12) rfl ?_
    refine OWp.callS hk d_CUT_152 (pc' := 155) rfl (hw _ (List.mem_of_getElem? (i := 56) rfl)) (hw _ (List.mem_of_getElem? (i := 57) rfl)) (hw _ (List.mem_of_getElem? (i := 25) rfl)) (hw _ (List.mem_of_getElem? (i := 58) rfl)) (by decide) (c_PUT (i := 12) hw hEL hA hW hn16 (by decide) (hG 12 (by decide))) rfl (by simp) rfl (lenOf pd_21 rfl) rfl (W := 0) rfl (by first | decide | (dsimp only; omega)) (by first | decide | (dsimp only; omega)) (by first | decide | (dsimp only; omega)) (by first | decide | (dsimp only; omega)) ?_
    clear hA
    rintro _ _ _ ⟨rfl, rfl, co, rfl, hA⟩
    refine OWp.aload_n hk d_CUT_155 (pc' := 156) rfl rfl rfl ?_
    refine OWp.aload_n hk d_CUT_156 (pc' := 157) rfl rfl rfl ?_
    refine OWp.bipush hk d_CUT_157 (pc' := 159) rfl (z := 13) rfl ?_
    refine OWp.callS hk d_CUT_159 (pc' := 162) rfl (hw _ (List.mem_of_getElem? (i := 56) rfl)) (hw _ (List.mem_of_getElem? (i := 57) rfl)) (hw _ (List.mem_of_getElem? (i := 25) rfl)) (hw _ (List.mem_of_getElem? (i := 58) rfl)) (by decide) (c_PUT (i := 13) hw hEL hA hW hn16 (by decide) (hG 13 (by decide))) rfl (by simp) rfl (lenOf pd_21 rfl) rfl (W := 0) rfl (by first | decide | (dsimp only; omega)) (by first | decide | (dsimp only; omega)) (by first | decide | (dsimp only; omega)) (by first | decide | (dsimp only; omega)) ?_
    clear hA
    rintro _ _ _ ⟨rfl, rfl, co, rfl, hA⟩
    refine OWp.aload_n hk d_CUT_162 (pc' := 163) rfl rfl rfl ?_
    refine OWp.aload_n hk d_CUT_163 (pc' := 164) rfl rfl rfl ?_
    refine OWp.bipush hk d_CUT_164 (pc' := 166) rfl (z := 14) rfl ?_
    refine OWp.callS hk d_CUT_166 (pc' := 169) rfl (hw _ (List.mem_of_getElem? (i := 56) rfl)) (hw _ (List.mem_of_getElem? (i := 57) rfl)) (hw _ (List.mem_of_getElem? (i := 25) rfl)) (hw _ (List.mem_of_getElem? (i := 58) rfl)) (by decide) (c_PUT (i := 14) hw hEL hA hW hn16 (by decide) (hG 14 (by decide))) rfl (by simp) rfl (lenOf pd_21 rfl) rfl (W := 0) rfl (by first | decide | (dsimp only; omega)) (by first | decide | (dsimp only; omega)) (by first | decide | (dsimp only; omega)) (by first | decide | (dsimp only; omega)) ?_
    clear hA
    rintro _ _ _ ⟨rfl, rfl, co, rfl, hA⟩
    refine OWp.aload_n hk d_CUT_169 (pc' := 170) rfl rfl rfl ?_
    refine OWp.aload_n hk d_CUT_170 (pc' := 171) rfl rfl rfl ?_
    refine OWp.bipush hk d_CUT_171 (pc' := 173) rfl (z := 15) rfl ?_
    refine OWp.callS hk d_CUT_173 (pc' := 176) rfl (hw _ (List.mem_of_getElem? (i := 56) rfl)) (hw _ (List.mem_of_getElem? (i := 57) rfl)) (hw _ (List.mem_of_getElem? (i := 25) rfl)) (hw _ (List.mem_of_getElem? (i := 58) rfl)) (by decide) (c_PUT (i := 15) hw hEL hA hW hn16 (by decide) (hG 15 (by decide))) rfl (by simp) rfl (lenOf pd_21 rfl) rfl (W := 0) rfl (by first | decide | (dsimp only; omega)) (by first | decide | (dsimp only; omega)) (by first | decide | (dsimp only; omega)) (by first | decide | (dsimp only; omega)) ?_
    clear hA
    rintro _ _ _ ⟨rfl, rfl, co, rfl, hA⟩
    refine OWp.aload_n hk d_CUT_176 (pc' := 177) rfl rfl rfl ?_
    refine OWp.freeze ?_
    exact OWp.retA hk rfl rfl rfl d_CUT_177 (M' := []) (N' := [(o, co)]) ⟨rfl, o, co, rfl, rfl, hA.congr fun j hj => by
      have hj16 : j < 16 := by omega
      clear hA
      match j, hj16 with
      | 0, _ => rfl
      | 1, _ => rfl
      | 2, _ => rfl
      | 3, _ => rfl
      | 4, _ => rfl
      | 5, _ => rfl
      | 6, _ => rfl
      | 7, _ => rfl
      | 8, _ => rfl
      | 9, _ => rfl
      | 10, _ => rfl
      | 11, _ => rfl
      | 12, _ => rfl
      | 13, _ => rfl
      | 14, _ => rfl
      | 15, _ => rfl
      | j + 16, h => omega⟩ (List.nil_sublist _) (by simp) (by decide) (by decide)
  refine OWp.iload_n hk d_CUT_0 (pc' := 1) rfl rfl ?_
  refine OWp.bipush hk d_CUT_1 (pc' := 3) rfl (z := 8) rfl ?_
  by_cases h8 : n = 8
  · subst h8
    refine OWp.icmpNo hk d_CUT_3 (XT.ii_ne_f rfl) (pc' := 6) rfl ?_
    refine OWp.bipush hk d_CUT_6 (pc' := 8) rfl (z := 8) rfl ?_
    refine OWp.newarray hk d_CUT_8 (pc' := 10) rfl (hw _ (List.mem_of_getElem? (i := 22) rfl)) (by decide) (cap := 16) (by decide) (by decide) (by decide) (by decide) (vs := tab 8 fun _ => .int 0) rfl ?_
    intro o co hA
    refine OWp.goto hk d_CUT_10 (by decide) (pc' := 69) rfl ?_
    exact J o co hA
  refine OWp.icmpYes hk d_CUT_3 (XT.ii_ne_t (by rw [show (8 : Int32) = Int32.ofNat 8 from rfl, n_inj (by omega) (by omega)]; exact h8)) (by decide) (pc' := 13) rfl ?_
  refine OWp.iload_n hk d_CUT_13 (pc' := 14) rfl rfl ?_
  refine OWp.bipush hk d_CUT_14 (pc' := 16) rfl (z := 9) rfl ?_
  by_cases h9 : n = 9
  · subst h9
    refine OWp.icmpNo hk d_CUT_16 (XT.ii_ne_f rfl) (pc' := 19) rfl ?_
    refine OWp.bipush hk d_CUT_19 (pc' := 21) rfl (z := 9) rfl ?_
    refine OWp.newarray hk d_CUT_21 (pc' := 23) rfl (hw _ (List.mem_of_getElem? (i := 22) rfl)) (by decide) (cap := 16) (by decide) (by decide) (by decide) (by decide) (vs := tab 9 fun _ => .int 0) rfl ?_
    intro o co hA
    refine OWp.goto hk d_CUT_23 (by decide) (pc' := 69) rfl ?_
    exact J o co hA
  refine OWp.icmpYes hk d_CUT_16 (XT.ii_ne_t (by rw [show (9 : Int32) = Int32.ofNat 9 from rfl, n_inj (by omega) (by omega)]; exact h9)) (by decide) (pc' := 26) rfl ?_
  refine OWp.iload_n hk d_CUT_26 (pc' := 27) rfl rfl ?_
  refine OWp.bipush hk d_CUT_27 (pc' := 29) rfl (z := 10) rfl ?_
  by_cases h10 : n = 10
  · subst h10
    refine OWp.icmpNo hk d_CUT_29 (XT.ii_ne_f rfl) (pc' := 32) rfl ?_
    refine OWp.bipush hk d_CUT_32 (pc' := 34) rfl (z := 10) rfl ?_
    refine OWp.newarray hk d_CUT_34 (pc' := 36) rfl (hw _ (List.mem_of_getElem? (i := 22) rfl)) (by decide) (cap := 16) (by decide) (by decide) (by decide) (by decide) (vs := tab 10 fun _ => .int 0) rfl ?_
    intro o co hA
    refine OWp.goto hk d_CUT_36 (by decide) (pc' := 69) rfl ?_
    exact J o co hA
  refine OWp.icmpYes hk d_CUT_29 (XT.ii_ne_t (by rw [show (10 : Int32) = Int32.ofNat 10 from rfl, n_inj (by omega) (by omega)]; exact h10)) (by decide) (pc' := 39) rfl ?_
  refine OWp.iload_n hk d_CUT_39 (pc' := 40) rfl rfl ?_
  refine OWp.bipush hk d_CUT_40 (pc' := 42) rfl (z := 14) rfl ?_
  by_cases h14 : n = 14
  · subst h14
    refine OWp.icmpNo hk d_CUT_42 (XT.ii_ne_f rfl) (pc' := 45) rfl ?_
    refine OWp.bipush hk d_CUT_45 (pc' := 47) rfl (z := 14) rfl ?_
    refine OWp.newarray hk d_CUT_47 (pc' := 49) rfl (hw _ (List.mem_of_getElem? (i := 22) rfl)) (by decide) (cap := 16) (by decide) (by decide) (by decide) (by decide) (vs := tab 14 fun _ => .int 0) rfl ?_
    intro o co hA
    refine OWp.goto hk d_CUT_49 (by decide) (pc' := 69) rfl ?_
    exact J o co hA
  refine OWp.icmpYes hk d_CUT_42 (XT.ii_ne_t (by rw [show (14 : Int32) = Int32.ofNat 14 from rfl, n_inj (by omega) (by omega)]; exact h14)) (by decide) (pc' := 52) rfl ?_
  refine OWp.iload_n hk d_CUT_52 (pc' := 53) rfl rfl ?_
  refine OWp.bipush hk d_CUT_53 (pc' := 55) rfl (z := 15) rfl ?_
  by_cases h15 : n = 15
  · subst h15
    refine OWp.icmpNo hk d_CUT_55 (XT.ii_ne_f rfl) (pc' := 58) rfl ?_
    refine OWp.bipush hk d_CUT_58 (pc' := 60) rfl (z := 15) rfl ?_
    refine OWp.newarray hk d_CUT_60 (pc' := 62) rfl (hw _ (List.mem_of_getElem? (i := 22) rfl)) (by decide) (cap := 16) (by decide) (by decide) (by decide) (by decide) (vs := tab 15 fun _ => .int 0) rfl ?_
    intro o co hA
    refine OWp.goto hk d_CUT_62 (by decide) (pc' := 69) rfl ?_
    exact J o co hA
  refine OWp.icmpYes hk d_CUT_55 (XT.ii_ne_t (by rw [show (15 : Int32) = Int32.ofNat 15 from rfl, n_inj (by omega) (by omega)]; exact h15)) (by decide) (pc' := 65) rfl ?_
  obtain rfl : n = 16 := by omega
  refine OWp.bipush hk d_CUT_65 (pc' := 67) rfl (z := 16) rfl ?_
  refine OWp.newarray hk d_CUT_67 (pc' := 69) rfl (hw _ (List.mem_of_getElem? (i := 22) rfl)) (by decide) (cap := 16) (by decide) (by decide) (by decide) (by decide) (vs := tab 16 fun _ => .int 0) rfl ?_
  intro o co hA
  exact J o co hA
end Own
--CUT
section Law
variable {l : Launch} {Z : State} {a0 : Array Value} {EL : List (String × Nat)} {zc : Int32} {va fa xa f1 f2 x1 x2 ea : Addr} {cv cf cf1 cf2 cxh cx1 cx2 ce : Cell} {fm : Value}
set_option maxRecDepth 65536 in
set_option maxHeartbeats 8000000 in
theorem c_law (hw : ∀ d ∈ tables_1, d.before a0 Z = true) (hEL : EW Z a0 EL) (O2 : Sta Z Z.heap "java/lang/String" "COMPACT_STRINGS" "Z" (.int zc)) (hzc : ¬ zc = 0) (O4 : Sta Z Z.heap "jdk/internal/util/Preconditions" "SIOOBE_FORMATTER" "Ljava/util/function/BiFunction;" fm) (hf : fm.isRef = true) (hSV : Sta Z Z.heap "com/example/cardea/cardea/request/TrustedProxies$Header" "$VALUES" "[Lcom/example/cardea/cardea/request/TrustedProxies$Header;" (.ref va)) (hV : AC Z cv (.object "com/example/cardea/cardea/request/TrustedProxies$Header") (tab 2 fun j => if j = 0 then .ref fa else .ref xa)) (hEV : EC Z cv "[Lcom/example/cardea/cardea/request/TrustedProxies$Header;") (hEF : EC Z cf "com/example/cardea/cardea/request/TrustedProxies$Header") (hFF : FC Z cf "com/example/cardea/cardea/request/TrustedProxies$Header" "headerName" "Ljava/lang/String;" (.ref f1)) (hSF : SC Z f2 cf1 cf2 litF) (hEX : EC Z cxh "com/example/cardea/cardea/request/TrustedProxies$Header") (hFX : FC Z cxh "com/example/cardea/cardea/request/TrustedProxies$Header" "headerName" "Ljava/lang/String;" (.ref x1)) (hSX : SC Z x2 cx1 cx2 litX) (hSE : Sta Z Z.heap "java/util/Optional" "EMPTY" "Ljava/util/Optional;" (.ref ea)) (hOE : OptC Z ce .null) (hmX : ("com/example/cardea/cardea/request/HeaderNamedPinLaw", 7) ∈ EL) (hmF : ("com/example/cardea/cardea/request/HeaderNamedPinLaw", 9) ∈ EL) (hGX : Sta Z Z.heap "com/example/cardea/cardea/request/TrustedProxies$Header" "X_FORWARDED_FOR" "Lcom/example/cardea/cardea/request/TrustedProxies$Header;" (.ref xa)) (hGF : Sta Z Z.heap "com/example/cardea/cardea/request/TrustedProxies$Header" "FORWARDED" "Lcom/example/cardea/cardea/request/TrustedProxies$Header;" (.ref fa)) (p1 p2 p3 p4 p5 : Int32) :
    OCon l Z EL x code maxLocals ret tables_1 room_1 #[.int p1, .int p2, .int p3, .int p4, .int p5] [] [(va, cv), (fa, cf), (f1, cf1), (f2, cf2), (xa, cxh), (x1, cx1), (x2, cx2), (ea, ce)] (fun v _ _ => v = some (.int 1)) := by
  refine OCon.of_wp (L0 := [.val (.int p1), .val (.int p2), .val (.int p3), .val (.int p4), .val (.int p5), .unset, .unset, .unset, .unset, .unset, .unset, .unset, .unset, .unset, .unset, .unset, .unset]) pn_law hEL (fun m => by first | (simp [entryFrame, mkF, argsToLocals, Value.category, maxLocals]; done) | rfl) ?_
  intro p e s m below meth c hk
  have T25 : ∀ (xf : Int32) (lit : List Int32) (hd : Addr) (a6 t6 : Addr) (ca6 ct6 : Cell), ((xf = 1 ∧ lit = litX ∧ hd = xa) ∨ (xf = 0 ∧ lit = litF ∧ hd = fa)) → SC Z t6 ca6 ct6 lit → OWp p l e room_1 s m #[.int p1, .int p2, .int p3, .int p4, .int p5] below meth c x.cls Z EL (dom []) [(va, cv), (fa, cf), (f1, cf1), (f2, cf2), (xa, cxh), (x1, cx1), (x2, cx2), (ea, ce)] (fun v _ _ => v = some (.int 1)) [] [(a6, ca6), (t6, ct6)] 2 64 25 [.val (.int p1), .val (.int p2), .val (.int p3), .val (.int p4), .val (.int p5), .val (.int xf), .unset, .unset, .unset, .unset, .unset, .unset, .unset, .unset, .unset, .unset, .unset] [.ref a6] := by
    intro xf lit hd a6 t6 ca6 ct6 hlit hS6
    have hl6 : lat lit = true := by rcases hlit with ⟨-, rfl, -⟩ | ⟨-, rfl, -⟩ <;> decide
    have hlen : lit.length = 9 ∨ lit.length = 15 := by rcases hlit with ⟨-, rfl, -⟩ | ⟨-, rfl, -⟩ <;> decide
    have hle : ∀ j, j < lit.length → Let (lit.getD j 0) := by
      rcases hlit with ⟨-, rfl, -⟩ | ⟨-, rfl, -⟩
      · exact let_X
      · exact let_F
    have hcc : ByR (p5 &&& 255).toUInt32.toUInt16.toUInt32.toInt32 := msk_lat p5
    refine OWp.astore hk at_25 (pc' := 27) rfl rfl rfl (by simp only [List.set_cons_zero, List.set_cons_succ]; rfl) ?_
    refine OWp.aload hk at_27 (pc' := 29) rfl rfl rfl ?_
    refine OWp.callV hk at_29 (pc' := 32) rfl (hw _ (List.mem_of_getElem? (i := 8) rfl)) (hw _ (List.mem_of_getElem? (i := 9) rfl)) (nfs (hw _ (List.mem_of_getElem? (i := 11) rfl))) (hw _ (List.mem_of_getElem? (i := 11) rfl)) (hw _ (List.mem_of_getElem? (i := 10) rfl)) (hw _ (List.mem_of_getElem? (i := 1) rfl)) (hw _ (List.mem_of_getElem? (i := 12) rfl)) (by decide) (by simp) hS6.1 (c_LEN hw hEL O2 hzc hS6) rfl (by simp) rfl (lenOf pd_10 rfl) rfl (W := 0) rfl (by first | decide | (dsimp only; omega)) (by first | decide | (dsimp only; omega)) (by first | decide | (dsimp only; omega)) (by first | decide | (dsimp only; omega)) ?_
    rintro _ _ _ ⟨rfl, rfl, rfl⟩
    refine OWp.istore hk at_32 (pc' := 34) rfl rfl (by simp only [List.set_cons_zero, List.set_cons_succ]; rfl) ?_
    refine OWp.iload hk at_34 (pc' := 36) rfl rfl ?_
    refine OWp.sipush hk at_36 (pc' := 39) rfl (z := 255) rfl ?_
    refine OWp.iand hk at_39 (pc' := 40) rfl ?_
    refine OWp.i2c hk at_40 (pc' := 41) rfl ?_
    generalize (p5 &&& 255).toUInt32.toUInt16.toUInt32.toInt32 = cc at hcc ⊢
    obtain ⟨kr, hkr, ekr⟩ : ∃ r : Nat, r < 2147483648 ∧ p3 &&& 2147483647 = Int32.ofNat r := by
      have h := c_and p3 2147483647 (by decide)
      have e1 : (2147483647 : Int32).toInt = 2147483647 := by decide
      exact ⟨(p3 &&& 2147483647).toInt.toNat, by omega, i_eq (by rw [n_int (by omega)]; omega)⟩
    obtain ⟨pr, hpr, epr⟩ : ∃ r : Nat, r < 2147483648 ∧ p4 &&& 2147483647 = Int32.ofNat r := by
      have h := c_and p4 2147483647 (by decide)
      have e1 : (2147483647 : Int32).toInt = 2147483647 := by decide
      exact ⟨(p4 &&& 2147483647).toInt.toNat, by omega, i_eq (by rw [n_int (by omega)]; omega)⟩
    refine OWp.istore hk at_41 (pc' := 43) rfl rfl (by simp only [List.set_cons_zero, List.set_cons_succ]; rfl) ?_
    refine OWp.iload_n hk at_43 (pc' := 44) rfl rfl ?_
    refine OWp.ldcI hk at_44 (pc' := 46) rfl (hw _ (List.mem_of_getElem? (i := 21) rfl)) ?_
    refine OWp.iand hk at_46 (pc' := 47) rfl ?_
    rw [ekr]
    refine OWp.iconst hk at_47 (pc' := 48) rfl (z := 4) rfl ?_
    refine OWp.irem hk at_48 (pc' := 49) rfl (by decide) ?_
    rw [show Int32.ofNat kr % 4 = Int32.ofNat (kr % 4) from n_mod (b := 4) hkr (by decide)]
    have hk4 : kr % 4 < 4 := Nat.mod_lt _ (by decide)
    generalize kr % 4 = kk at hk4 ⊢
    refine OWp.istore hk at_49 (pc' := 51) rfl rfl (by simp only [List.set_cons_zero, List.set_cons_succ]; rfl) ?_
    refine OWp.iload_n hk at_51 (pc' := 52) rfl rfl ?_
    refine OWp.ldcI hk at_52 (pc' := 54) rfl (hw _ (List.mem_of_getElem? (i := 21) rfl)) ?_
    refine OWp.iand hk at_54 (pc' := 55) rfl ?_
    rw [epr]
    refine OWp.iload hk at_55 (pc' := 57) rfl rfl ?_
    refine OWp.irem hk at_57 (pc' := 58) rfl (fun z => by rw [show (0 : Int32) = Int32.ofNat 0 from rfl, n_inj (by omega) (by omega)] at z; omega) ?_
    rw [n_mod hpr (by omega)]
    have hpp : pr % lit.length < lit.length := Nat.mod_lt _ (by omega)
    generalize pr % lit.length = pp at hpp ⊢
    refine OWp.istore hk at_58 (pc' := 60) rfl rfl (by simp only [List.set_cons_zero, List.set_cons_succ]; rfl) ?_
    refine OWp.bipush hk at_60 (pc' := 62) rfl (z := 16) rfl ?_
    refine OWp.newarray hk at_62 (pc' := 64) rfl (hw _ (List.mem_of_getElem? (i := 22) rfl)) (by decide) (cap := 16) (by decide) (by decide) (by decide) (by decide) (vs := [.int 0, .int 0, .int 0, .int 0, .int 0, .int 0, .int 0, .int 0, .int 0, .int 0, .int 0, .int 0, .int 0, .int 0, .int 0, .int 0]) rfl ?_
    intro w cw hA
    refine OWp.astore hk at_64 (pc' := 66) rfl rfl rfl (by simp only [List.set_cons_zero, List.set_cons_succ]; rfl) ?_
    refine OWp.aload hk at_66 (pc' := 68) rfl rfl rfl ?_
    refine OWp.iconst hk at_68 (pc' := 69) rfl (z := 0) rfl ?_
    refine OWp.aload hk at_69 (pc' := 71) rfl rfl rfl ?_
    refine OWp.iload_n hk at_71 (pc' := 72) rfl rfl ?_
    refine OWp.iload hk at_72 (pc' := 74) rfl rfl ?_
    refine OWp.iconst hk at_74 (pc' := 75) rfl (z := 0) rfl ?_
    refine OWp.callS hk at_75 (pc' := 78) rfl (hw _ (List.mem_of_getElem? (i := 23) rfl)) (hw _ (List.mem_of_getElem? (i := 24) rfl)) (hw _ (List.mem_of_getElem? (i := 25) rfl)) (hw _ (List.mem_of_getElem? (i := 26) rfl)) (by decide) (c_AT (i := 0) (bits := p2) hw hEL O2 hzc O4 hf hS6 hl6 hle hcc (by decide)) rfl (by simp) rfl (lenOf pd_22 rfl) rfl (W := 2) rfl (by first | decide | (dsimp only; omega)) (by first | decide | (dsimp only; omega)) (by first | decide | (dsimp only; omega)) (by first | decide | (dsimp only; omega)) ?_
    rintro _ _ _ ⟨rfl, rfl, w0, rfl, r0, i0⟩
    simp only [List.nil_append]
    refine OWp.castore hk at_78 (pc' := 79) rfl (i := 0) rfl hA (by decide) (t := 0) (by decide) (Nat.le_of_ble_eq_true rfl) ?_
    clear hA
    intro cw hA
    simp only [List.set_cons_zero, List.set_cons_succ] at hA ⊢
    refine OWp.aload hk at_79 (pc' := 81) rfl rfl rfl ?_
    refine OWp.iconst hk at_81 (pc' := 82) rfl (z := 1) rfl ?_
    refine OWp.aload hk at_82 (pc' := 84) rfl rfl rfl ?_
    refine OWp.iload_n hk at_84 (pc' := 85) rfl rfl ?_
    refine OWp.iload hk at_85 (pc' := 87) rfl rfl ?_
    refine OWp.iconst hk at_87 (pc' := 88) rfl (z := 1) rfl ?_
    refine OWp.callS hk at_88 (pc' := 91) rfl (hw _ (List.mem_of_getElem? (i := 23) rfl)) (hw _ (List.mem_of_getElem? (i := 24) rfl)) (hw _ (List.mem_of_getElem? (i := 25) rfl)) (hw _ (List.mem_of_getElem? (i := 26) rfl)) (by decide) (c_AT (i := 1) (bits := p2) hw hEL O2 hzc O4 hf hS6 hl6 hle hcc (by decide)) rfl (by simp) rfl (lenOf pd_22 rfl) rfl (W := 2) rfl (by first | decide | (dsimp only; omega)) (by first | decide | (dsimp only; omega)) (by first | decide | (dsimp only; omega)) (by first | decide | (dsimp only; omega)) ?_
    rintro _ _ _ ⟨rfl, rfl, w1, rfl, r1, i1⟩
    simp only [List.nil_append]
    refine OWp.castore hk at_91 (pc' := 92) rfl (i := 0) rfl hA (by decide) (t := 1) (by decide) (Nat.le_of_ble_eq_true rfl) ?_
    clear hA
    intro cw hA
    simp only [List.set_cons_zero, List.set_cons_succ] at hA ⊢
    refine OWp.aload hk at_92 (pc' := 94) rfl rfl rfl ?_
    refine OWp.iconst hk at_94 (pc' := 95) rfl (z := 2) rfl ?_
    refine OWp.aload hk at_95 (pc' := 97) rfl rfl rfl ?_
    refine OWp.iload_n hk at_97 (pc' := 98) rfl rfl ?_
    refine OWp.iload hk at_98 (pc' := 100) rfl rfl ?_
    refine OWp.iconst hk at_100 (pc' := 101) rfl (z := 2) rfl ?_
    refine OWp.callS hk at_101 (pc' := 104) rfl (hw _ (List.mem_of_getElem? (i := 23) rfl)) (hw _ (List.mem_of_getElem? (i := 24) rfl)) (hw _ (List.mem_of_getElem? (i := 25) rfl)) (hw _ (List.mem_of_getElem? (i := 26) rfl)) (by decide) (c_AT (i := 2) (bits := p2) hw hEL O2 hzc O4 hf hS6 hl6 hle hcc (by decide)) rfl (by simp) rfl (lenOf pd_22 rfl) rfl (W := 2) rfl (by first | decide | (dsimp only; omega)) (by first | decide | (dsimp only; omega)) (by first | decide | (dsimp only; omega)) (by first | decide | (dsimp only; omega)) ?_
    rintro _ _ _ ⟨rfl, rfl, w2, rfl, r2, i2⟩
    simp only [List.nil_append]
    refine OWp.castore hk at_104 (pc' := 105) rfl (i := 0) rfl hA (by decide) (t := 2) (by decide) (Nat.le_of_ble_eq_true rfl) ?_
    clear hA
    intro cw hA
    simp only [List.set_cons_zero, List.set_cons_succ] at hA ⊢
    refine OWp.aload hk at_105 (pc' := 107) rfl rfl rfl ?_
    refine OWp.iconst hk at_107 (pc' := 108) rfl (z := 3) rfl ?_
    refine OWp.aload hk at_108 (pc' := 110) rfl rfl rfl ?_
    refine OWp.iload_n hk at_110 (pc' := 111) rfl rfl ?_
    refine OWp.iload hk at_111 (pc' := 113) rfl rfl ?_
    refine OWp.iconst hk at_113 (pc' := 114) rfl (z := 3) rfl ?_
    refine OWp.callS hk at_114 (pc' := 117) rfl (hw _ (List.mem_of_getElem? (i := 23) rfl)) (hw _ (List.mem_of_getElem? (i := 24) rfl)) (hw _ (List.mem_of_getElem? (i := 25) rfl)) (hw _ (List.mem_of_getElem? (i := 26) rfl)) (by decide) (c_AT (i := 3) (bits := p2) hw hEL O2 hzc O4 hf hS6 hl6 hle hcc (by decide)) rfl (by simp) rfl (lenOf pd_22 rfl) rfl (W := 2) rfl (by first | decide | (dsimp only; omega)) (by first | decide | (dsimp only; omega)) (by first | decide | (dsimp only; omega)) (by first | decide | (dsimp only; omega)) ?_
    rintro _ _ _ ⟨rfl, rfl, w3, rfl, r3, i3⟩
    simp only [List.nil_append]
    refine OWp.castore hk at_117 (pc' := 118) rfl (i := 0) rfl hA (by decide) (t := 3) (by decide) (Nat.le_of_ble_eq_true rfl) ?_
    clear hA
    intro cw hA
    simp only [List.set_cons_zero, List.set_cons_succ] at hA ⊢
    refine OWp.aload hk at_118 (pc' := 120) rfl rfl rfl ?_
    refine OWp.iconst hk at_120 (pc' := 121) rfl (z := 4) rfl ?_
    refine OWp.aload hk at_121 (pc' := 123) rfl rfl rfl ?_
    refine OWp.iload_n hk at_123 (pc' := 124) rfl rfl ?_
    refine OWp.iload hk at_124 (pc' := 126) rfl rfl ?_
    refine OWp.iconst hk at_126 (pc' := 127) rfl (z := 4) rfl ?_
    refine OWp.callS hk at_127 (pc' := 130) rfl (hw _ (List.mem_of_getElem? (i := 23) rfl)) (hw _ (List.mem_of_getElem? (i := 24) rfl)) (hw _ (List.mem_of_getElem? (i := 25) rfl)) (hw _ (List.mem_of_getElem? (i := 26) rfl)) (by decide) (c_AT (i := 4) (bits := p2) hw hEL O2 hzc O4 hf hS6 hl6 hle hcc (by decide)) rfl (by simp) rfl (lenOf pd_22 rfl) rfl (W := 2) rfl (by first | decide | (dsimp only; omega)) (by first | decide | (dsimp only; omega)) (by first | decide | (dsimp only; omega)) (by first | decide | (dsimp only; omega)) ?_
    rintro _ _ _ ⟨rfl, rfl, w4, rfl, r4, i4⟩
    simp only [List.nil_append]
    refine OWp.castore hk at_130 (pc' := 131) rfl (i := 0) rfl hA (by decide) (t := 4) (by decide) (Nat.le_of_ble_eq_true rfl) ?_
    clear hA
    intro cw hA
    simp only [List.set_cons_zero, List.set_cons_succ] at hA ⊢
    refine OWp.aload hk at_131 (pc' := 133) rfl rfl rfl ?_
    refine OWp.iconst hk at_133 (pc' := 134) rfl (z := 5) rfl ?_
    refine OWp.aload hk at_134 (pc' := 136) rfl rfl rfl ?_
    refine OWp.iload_n hk at_136 (pc' := 137) rfl rfl ?_
    refine OWp.iload hk at_137 (pc' := 139) rfl rfl ?_
    refine OWp.iconst hk at_139 (pc' := 140) rfl (z := 5) rfl ?_
    refine OWp.callS hk at_140 (pc' := 143) rfl (hw _ (List.mem_of_getElem? (i := 23) rfl)) (hw _ (List.mem_of_getElem? (i := 24) rfl)) (hw _ (List.mem_of_getElem? (i := 25) rfl)) (hw _ (List.mem_of_getElem? (i := 26) rfl)) (by decide) (c_AT (i := 5) (bits := p2) hw hEL O2 hzc O4 hf hS6 hl6 hle hcc (by decide)) rfl (by simp) rfl (lenOf pd_22 rfl) rfl (W := 2) rfl (by first | decide | (dsimp only; omega)) (by first | decide | (dsimp only; omega)) (by first | decide | (dsimp only; omega)) (by first | decide | (dsimp only; omega)) ?_
    rintro _ _ _ ⟨rfl, rfl, w5, rfl, r5, i5⟩
    simp only [List.nil_append]
    refine OWp.castore hk at_143 (pc' := 144) rfl (i := 0) rfl hA (by decide) (t := 5) (by decide) (Nat.le_of_ble_eq_true rfl) ?_
    clear hA
    intro cw hA
    simp only [List.set_cons_zero, List.set_cons_succ] at hA ⊢
    refine OWp.aload hk at_144 (pc' := 146) rfl rfl rfl ?_
    refine OWp.bipush hk at_146 (pc' := 148) rfl (z := 6) rfl ?_
    refine OWp.aload hk at_148 (pc' := 150) rfl rfl rfl ?_
    refine OWp.iload_n hk at_150 (pc' := 151) rfl rfl ?_
    refine OWp.iload hk at_151 (pc' := 153) rfl rfl ?_
    refine OWp.bipush hk at_153 (pc' := 155) rfl (z := 6) rfl ?_
    refine OWp.callS hk at_155 (pc' := 158) rfl (hw _ (List.mem_of_getElem? (i := 23) rfl)) (hw _ (List.mem_of_getElem? (i := 24) rfl)) (hw _ (List.mem_of_getElem? (i := 25) rfl)) (hw _ (List.mem_of_getElem? (i := 26) rfl)) (by decide) (c_AT (i := 6) (bits := p2) hw hEL O2 hzc O4 hf hS6 hl6 hle hcc (by decide)) rfl (by simp) rfl (lenOf pd_22 rfl) rfl (W := 2) rfl (by first | decide | (dsimp only; omega)) (by first | decide | (dsimp only; omega)) (by first | decide | (dsimp only; omega)) (by first | decide | (dsimp only; omega)) ?_
    rintro _ _ _ ⟨rfl, rfl, w6, rfl, r6, i6⟩
    simp only [List.nil_append]
    refine OWp.castore hk at_158 (pc' := 159) rfl (i := 0) rfl hA (by decide) (t := 6) (by decide) (Nat.le_of_ble_eq_true rfl) ?_
    clear hA
    intro cw hA
    simp only [List.set_cons_zero, List.set_cons_succ] at hA ⊢
    refine OWp.aload hk at_159 (pc' := 161) rfl rfl rfl ?_
    refine OWp.bipush hk at_161 (pc' := 163) rfl (z := 7) rfl ?_
    refine OWp.aload hk at_163 (pc' := 165) rfl rfl rfl ?_
    refine OWp.iload_n hk at_165 (pc' := 166) rfl rfl ?_
    refine OWp.iload hk at_166 (pc' := 168) rfl rfl ?_
    refine OWp.bipush hk at_168 (pc' := 170) rfl (z := 7) rfl ?_
    refine OWp.callS hk at_170 (pc' := 173) rfl (hw _ (List.mem_of_getElem? (i := 23) rfl)) (hw _ (List.mem_of_getElem? (i := 24) rfl)) (hw _ (List.mem_of_getElem? (i := 25) rfl)) (hw _ (List.mem_of_getElem? (i := 26) rfl)) (by decide) (c_AT (i := 7) (bits := p2) hw hEL O2 hzc O4 hf hS6 hl6 hle hcc (by decide)) rfl (by simp) rfl (lenOf pd_22 rfl) rfl (W := 2) rfl (by first | decide | (dsimp only; omega)) (by first | decide | (dsimp only; omega)) (by first | decide | (dsimp only; omega)) (by first | decide | (dsimp only; omega)) ?_
    rintro _ _ _ ⟨rfl, rfl, w7, rfl, r7, i7⟩
    simp only [List.nil_append]
    refine OWp.castore hk at_173 (pc' := 174) rfl (i := 0) rfl hA (by decide) (t := 7) (by decide) (Nat.le_of_ble_eq_true rfl) ?_
    clear hA
    intro cw hA
    simp only [List.set_cons_zero, List.set_cons_succ] at hA ⊢
    refine OWp.aload hk at_174 (pc' := 176) rfl rfl rfl ?_
    refine OWp.bipush hk at_176 (pc' := 178) rfl (z := 8) rfl ?_
    refine OWp.aload hk at_178 (pc' := 180) rfl rfl rfl ?_
    refine OWp.iload_n hk at_180 (pc' := 181) rfl rfl ?_
    refine OWp.iload hk at_181 (pc' := 183) rfl rfl ?_
    refine OWp.bipush hk at_183 (pc' := 185) rfl (z := 8) rfl ?_
    refine OWp.callS hk at_185 (pc' := 188) rfl (hw _ (List.mem_of_getElem? (i := 23) rfl)) (hw _ (List.mem_of_getElem? (i := 24) rfl)) (hw _ (List.mem_of_getElem? (i := 25) rfl)) (hw _ (List.mem_of_getElem? (i := 26) rfl)) (by decide) (c_AT (i := 8) (bits := p2) hw hEL O2 hzc O4 hf hS6 hl6 hle hcc (by decide)) rfl (by simp) rfl (lenOf pd_22 rfl) rfl (W := 2) rfl (by first | decide | (dsimp only; omega)) (by first | decide | (dsimp only; omega)) (by first | decide | (dsimp only; omega)) (by first | decide | (dsimp only; omega)) ?_
    rintro _ _ _ ⟨rfl, rfl, w8, rfl, r8, i8⟩
    simp only [List.nil_append]
    refine OWp.castore hk at_188 (pc' := 189) rfl (i := 0) rfl hA (by decide) (t := 8) (by decide) (Nat.le_of_ble_eq_true rfl) ?_
    clear hA
    intro cw hA
    simp only [List.set_cons_zero, List.set_cons_succ] at hA ⊢
    refine OWp.aload hk at_189 (pc' := 191) rfl rfl rfl ?_
    refine OWp.bipush hk at_191 (pc' := 193) rfl (z := 9) rfl ?_
    refine OWp.aload hk at_193 (pc' := 195) rfl rfl rfl ?_
    refine OWp.iload_n hk at_195 (pc' := 196) rfl rfl ?_
    refine OWp.iload hk at_196 (pc' := 198) rfl rfl ?_
    refine OWp.bipush hk at_198 (pc' := 200) rfl (z := 9) rfl ?_
    refine OWp.callS hk at_200 (pc' := 203) rfl (hw _ (List.mem_of_getElem? (i := 23) rfl)) (hw _ (List.mem_of_getElem? (i := 24) rfl)) (hw _ (List.mem_of_getElem? (i := 25) rfl)) (hw _ (List.mem_of_getElem? (i := 26) rfl)) (by decide) (c_AT (i := 9) (bits := p2) hw hEL O2 hzc O4 hf hS6 hl6 hle hcc (by decide)) rfl (by simp) rfl (lenOf pd_22 rfl) rfl (W := 2) rfl (by first | decide | (dsimp only; omega)) (by first | decide | (dsimp only; omega)) (by first | decide | (dsimp only; omega)) (by first | decide | (dsimp only; omega)) ?_
    rintro _ _ _ ⟨rfl, rfl, w9, rfl, r9, i9⟩
    simp only [List.nil_append]
    refine OWp.castore hk at_203 (pc' := 204) rfl (i := 0) rfl hA (by decide) (t := 9) (by decide) (Nat.le_of_ble_eq_true rfl) ?_
    clear hA
    intro cw hA
    simp only [List.set_cons_zero, List.set_cons_succ] at hA ⊢
    refine OWp.aload hk at_204 (pc' := 206) rfl rfl rfl ?_
    refine OWp.bipush hk at_206 (pc' := 208) rfl (z := 10) rfl ?_
    refine OWp.aload hk at_208 (pc' := 210) rfl rfl rfl ?_
    refine OWp.iload_n hk at_210 (pc' := 211) rfl rfl ?_
    refine OWp.iload hk at_211 (pc' := 213) rfl rfl ?_
    refine OWp.bipush hk at_213 (pc' := 215) rfl (z := 10) rfl ?_
    refine OWp.callS hk at_215 (pc' := 218) rfl (hw _ (List.mem_of_getElem? (i := 23) rfl)) (hw _ (List.mem_of_getElem? (i := 24) rfl)) (hw _ (List.mem_of_getElem? (i := 25) rfl)) (hw _ (List.mem_of_getElem? (i := 26) rfl)) (by decide) (c_AT (i := 10) (bits := p2) hw hEL O2 hzc O4 hf hS6 hl6 hle hcc (by decide)) rfl (by simp) rfl (lenOf pd_22 rfl) rfl (W := 2) rfl (by first | decide | (dsimp only; omega)) (by first | decide | (dsimp only; omega)) (by first | decide | (dsimp only; omega)) (by first | decide | (dsimp only; omega)) ?_
    rintro _ _ _ ⟨rfl, rfl, w10, rfl, r10, i10⟩
    simp only [List.nil_append]
    refine OWp.castore hk at_218 (pc' := 219) rfl (i := 0) rfl hA (by decide) (t := 10) (by decide) (Nat.le_of_ble_eq_true rfl) ?_
    clear hA
    intro cw hA
    simp only [List.set_cons_zero, List.set_cons_succ] at hA ⊢
    refine OWp.aload hk at_219 (pc' := 221) rfl rfl rfl ?_
    refine OWp.bipush hk at_221 (pc' := 223) rfl (z := 11) rfl ?_
    refine OWp.aload hk at_223 (pc' := 225) rfl rfl rfl ?_
    refine OWp.iload_n hk at_225 (pc' := 226) rfl rfl ?_
    refine OWp.iload hk at_226 (pc' := 228) rfl rfl ?_
    refine OWp.bipush hk at_228 (pc' := 230) rfl (z := 11) rfl ?_
    refine OWp.callS hk at_230 (pc' := 233) rfl (hw _ (List.mem_of_getElem? (i := 23) rfl)) (hw _ (List.mem_of_getElem? (i := 24) rfl)) (hw _ (List.mem_of_getElem? (i := 25) rfl)) (hw _ (List.mem_of_getElem? (i := 26) rfl)) (by decide) (c_AT (i := 11) (bits := p2) hw hEL O2 hzc O4 hf hS6 hl6 hle hcc (by decide)) rfl (by simp) rfl (lenOf pd_22 rfl) rfl (W := 2) rfl (by first | decide | (dsimp only; omega)) (by first | decide | (dsimp only; omega)) (by first | decide | (dsimp only; omega)) (by first | decide | (dsimp only; omega)) ?_
    rintro _ _ _ ⟨rfl, rfl, w11, rfl, r11, i11⟩
    simp only [List.nil_append]
    refine OWp.castore hk at_233 (pc' := 234) rfl (i := 0) rfl hA (by decide) (t := 11) (by decide) (Nat.le_of_ble_eq_true rfl) ?_
    clear hA
    intro cw hA
    simp only [List.set_cons_zero, List.set_cons_succ] at hA ⊢
    refine OWp.aload hk at_234 (pc' := 236) rfl rfl rfl ?_
    refine OWp.bipush hk at_236 (pc' := 238) rfl (z := 12) rfl ?_
    refine OWp.aload hk at_238 (pc' := 240) rfl rfl rfl ?_
    refine OWp.iload_n hk at_240 (pc' := 241) rfl rfl ?_
    refine OWp.iload hk at_241 (pc' := 243) rfl rfl ?_
    refine OWp.bipush hk at_243 (pc' := 245) rfl (z := 12) rfl ?_
    refine OWp.callS hk at_245 (pc' := 248) rfl (hw _ (List.mem_of_getElem? (i := 23) rfl)) (hw _ (List.mem_of_getElem? (i := 24) rfl)) (hw _ (List.mem_of_getElem? (i := 25) rfl)) (hw _ (List.mem_of_getElem? (i := 26) rfl)) (by decide) (c_AT (i := 12) (bits := p2) hw hEL O2 hzc O4 hf hS6 hl6 hle hcc (by decide)) rfl (by simp) rfl (lenOf pd_22 rfl) rfl (W := 2) rfl (by first | decide | (dsimp only; omega)) (by first | decide | (dsimp only; omega)) (by first | decide | (dsimp only; omega)) (by first | decide | (dsimp only; omega)) ?_
    rintro _ _ _ ⟨rfl, rfl, w12, rfl, r12, i12⟩
    simp only [List.nil_append]
    refine OWp.castore hk at_248 (pc' := 249) rfl (i := 0) rfl hA (by decide) (t := 12) (by decide) (Nat.le_of_ble_eq_true rfl) ?_
    clear hA
    intro cw hA
    simp only [List.set_cons_zero, List.set_cons_succ] at hA ⊢
    refine OWp.aload hk at_249 (pc' := 251) rfl rfl rfl ?_
    refine OWp.bipush hk at_251 (pc' := 253) rfl (z := 13) rfl ?_
    refine OWp.aload hk at_253 (pc' := 255) rfl rfl rfl ?_
    refine OWp.iload_n hk at_255 (pc' := 256) rfl rfl ?_
    refine OWp.iload hk at_256 (pc' := 258) rfl rfl ?_
    refine OWp.bipush hk at_258 (pc' := 260) rfl (z := 13) rfl ?_
    refine OWp.callS hk at_260 (pc' := 263) rfl (hw _ (List.mem_of_getElem? (i := 23) rfl)) (hw _ (List.mem_of_getElem? (i := 24) rfl)) (hw _ (List.mem_of_getElem? (i := 25) rfl)) (hw _ (List.mem_of_getElem? (i := 26) rfl)) (by decide) (c_AT (i := 13) (bits := p2) hw hEL O2 hzc O4 hf hS6 hl6 hle hcc (by decide)) rfl (by simp) rfl (lenOf pd_22 rfl) rfl (W := 2) rfl (by first | decide | (dsimp only; omega)) (by first | decide | (dsimp only; omega)) (by first | decide | (dsimp only; omega)) (by first | decide | (dsimp only; omega)) ?_
    rintro _ _ _ ⟨rfl, rfl, w13, rfl, r13, i13⟩
    simp only [List.nil_append]
    refine OWp.castore hk at_263 (pc' := 264) rfl (i := 0) rfl hA (by decide) (t := 13) (by decide) (Nat.le_of_ble_eq_true rfl) ?_
    clear hA
    intro cw hA
    simp only [List.set_cons_zero, List.set_cons_succ] at hA ⊢
    refine OWp.aload hk at_264 (pc' := 266) rfl rfl rfl ?_
    refine OWp.bipush hk at_266 (pc' := 268) rfl (z := 14) rfl ?_
    refine OWp.aload hk at_268 (pc' := 270) rfl rfl rfl ?_
    refine OWp.iload_n hk at_270 (pc' := 271) rfl rfl ?_
    refine OWp.iload hk at_271 (pc' := 273) rfl rfl ?_
    refine OWp.bipush hk at_273 (pc' := 275) rfl (z := 14) rfl ?_
    refine OWp.callS hk at_275 (pc' := 278) rfl (hw _ (List.mem_of_getElem? (i := 23) rfl)) (hw _ (List.mem_of_getElem? (i := 24) rfl)) (hw _ (List.mem_of_getElem? (i := 25) rfl)) (hw _ (List.mem_of_getElem? (i := 26) rfl)) (by decide) (c_AT (i := 14) (bits := p2) hw hEL O2 hzc O4 hf hS6 hl6 hle hcc (by decide)) rfl (by simp) rfl (lenOf pd_22 rfl) rfl (W := 2) rfl (by first | decide | (dsimp only; omega)) (by first | decide | (dsimp only; omega)) (by first | decide | (dsimp only; omega)) (by first | decide | (dsimp only; omega)) ?_
    rintro _ _ _ ⟨rfl, rfl, w14, rfl, r14, i14⟩
    simp only [List.nil_append]
    refine OWp.castore hk at_278 (pc' := 279) rfl (i := 0) rfl hA (by decide) (t := 14) (by decide) (Nat.le_of_ble_eq_true rfl) ?_
    clear hA
    intro cw hA
    simp only [List.set_cons_zero, List.set_cons_succ] at hA ⊢
    refine OWp.aload hk at_279 (pc' := 281) rfl rfl rfl ?_
    refine OWp.bipush hk at_281 (pc' := 283) rfl (z := 15) rfl ?_
    refine OWp.aload hk at_283 (pc' := 285) rfl rfl rfl ?_
    refine OWp.iload_n hk at_285 (pc' := 286) rfl rfl ?_
    refine OWp.iload hk at_286 (pc' := 288) rfl rfl ?_
    refine OWp.bipush hk at_288 (pc' := 290) rfl (z := 15) rfl ?_
    refine OWp.callS hk at_290 (pc' := 293) rfl (hw _ (List.mem_of_getElem? (i := 23) rfl)) (hw _ (List.mem_of_getElem? (i := 24) rfl)) (hw _ (List.mem_of_getElem? (i := 25) rfl)) (hw _ (List.mem_of_getElem? (i := 26) rfl)) (by decide) (c_AT (i := 15) (bits := p2) hw hEL O2 hzc O4 hf hS6 hl6 hle hcc (by decide)) rfl (by simp) rfl (lenOf pd_22 rfl) rfl (W := 2) rfl (by first | decide | (dsimp only; omega)) (by first | decide | (dsimp only; omega)) (by first | decide | (dsimp only; omega)) (by first | decide | (dsimp only; omega)) ?_
    rintro _ _ _ ⟨rfl, rfl, w15, rfl, r15, i15⟩
    simp only [List.nil_append]
    refine OWp.castore hk at_293 (pc' := 294) rfl (i := 0) rfl hA (by decide) (t := 15) (by decide) (Nat.le_of_ble_eq_true rfl) ?_
    clear hA
    intro cw hA
    simp only [List.set_cons_zero, List.set_cons_succ] at hA ⊢
    rw [byR_nar r0, byR_nar r1, byR_nar r2, byR_nar r3, byR_nar r4, byR_nar r5, byR_nar r6, byR_nar r7, byR_nar r8, byR_nar r9, byR_nar r10, byR_nar r11, byR_nar r12, byR_nar r13, byR_nar r14, byR_nar r15] at hA
    have hA16 : AC Z cw .char (tab 16 fun j => .int ([w0, w1, w2, w3, w4, w5, w6, w7, w8, w9, w10, w11, w12, w13, w14, w15].getD j 0)) := by
      have h := hA
      rw [show ([.int w0, .int w1, .int w2, .int w3, .int w4, .int w5, .int w6, .int w7, .int w8, .int w9, .int w10, .int w11, .int w12, .int w13, .int w14, .int w15] : List Value) = tab 16 fun j => .int ([w0, w1, w2, w3, w4, w5, w6, w7, w8, w9, w10, w11, w12, w13, w14, w15].getD j 0) from map_tab [w0, w1, w2, w3, w4, w5, w6, w7, w8, w9, w10, w11, w12, w13, w14, w15] Value.int] at h
      exact h
    have hwr : ∀ j, j < 16 → ByR ([w0, w1, w2, w3, w4, w5, w6, w7, w8, w9, w10, w11, w12, w13, w14, w15].getD j 0) := fun j hj => by
      match j, hj with
      | 0, _ => exact r0
      | 1, _ => exact r1
      | 2, _ => exact r2
      | 3, _ => exact r3
      | 4, _ => exact r4
      | 5, _ => exact r5
      | 6, _ => exact r6
      | 7, _ => exact r7
      | 8, _ => exact r8
      | 9, _ => exact r9
      | 10, _ => exact r10
      | 11, _ => exact r11
      | 12, _ => exact r12
      | 13, _ => exact r13
      | 14, _ => exact r14
      | 15, _ => exact r15
      | j + 16, hj => omega
    have hwc : ∀ j, j < lit.length → CI (lit.getD j 0) ([w0, w1, w2, w3, w4, w5, w6, w7, w8, w9, w10, w11, w12, w13, w14, w15].getD j 0) := fun j hj => by
      have hj16 : j < 16 := by omega
      match j, hj16 with
      | 0, _ => exact i0 hj
      | 1, _ => exact i1 hj
      | 2, _ => exact i2 hj
      | 3, _ => exact i3 hj
      | 4, _ => exact i4 hj
      | 5, _ => exact i5 hj
      | 6, _ => exact i6 hj
      | 7, _ => exact i7 hj
      | 8, _ => exact i8 hj
      | 9, _ => exact i9 hj
      | 10, _ => exact i10 hj
      | 11, _ => exact i11 hj
      | 12, _ => exact i12 hj
      | 13, _ => exact i13 hj
      | 14, _ => exact i14 hj
      | 15, _ => exact i15 hj
      | j + 16, hj' => omega
    generalize [w0, w1, w2, w3, w4, w5, w6, w7, w8, w9, w10, w11, w12, w13, w14, w15] = ws at hA16 hwr hwc
    clear hA i0 r0 i1 r1 i2 r2 i3 r3 i4 r4 i5 r5 i6 r6 i7 r7 i8 r8 i9 r9 i10 r10 i11 r11 i12 r12 i13 r13 i14 r14 i15 r15
    have E364 : ∀ (sm : Int32) (nn : Nat) (cw : Cell) (G : Nat → Int32), AC Z cw .char (tab 16 fun j => .int (G j)) → (∀ j, j < 16 → ByR (G j)) → (nn = 8 ∨ nn = 9 ∨ nn = 10 ∨ nn = 14 ∨ nn = 15 ∨ nn = 16) → ((sm = 1 ∧ nn = lit.length ∧ ∀ j, j < nn → CI (lit.getD j 0) (G j)) ∨ (sm = 0 ∧ ((nn = lit.length ∧ ∃ j, j < nn ∧ ¬ CI (lit.getD j 0) (G j)) ∨ (nn ≠ 9 ∧ nn ≠ 15)))) → OWp p l e room_1 s m #[.int p1, .int p2, .int p3, .int p4, .int p5] below meth c x.cls Z EL (dom []) [(va, cv), (fa, cf), (f1, cf1), (f2, cf2), (xa, cxh), (x1, cx1), (x2, cx2), (ea, ce)] (fun v _ _ => v = some (.int 1)) [(w, cw)] [(a6, ca6), (t6, ct6)] 3 80 364 [.val (.int p1), .val (.int p2), .val (.int p3), .val (.int p4), .val (.int p5), .val (.int xf), .val (.ref a6), .val (.int (Int32.ofNat lit.length)), .val (.int cc), .val (.int (Int32.ofNat kk)), .val (.int (Int32.ofNat pp)), .val (.ref w), .val (.int sm), .val (.int (Int32.ofNat nn)), .unset, .unset, .unset] [] := by
      intro sm nn cw G hW hG hnn hsm
      have hcl : ((List.range nn).map G).length = nn := by simp
      have hcg : ∀ j, j < nn → ((List.range nn).map G).getD j 0 = G j := fun j hj => by
        rw [List.getD_eq_getElem?_getD, List.getElem?_map, List.getElem?_range hj]; rfl
      generalize (List.range nn).map G = cs at hcl hcg
      have hcm : ∀ c ∈ cs, ByR c := fun c hc => by
        obtain ⟨j, hj, rfl⟩ := List.getElem_of_mem hc
        have e1 := hcg j (by omega)
        rw [List.getD_eq_getElem?_getD, List.getElem?_eq_getElem hj] at e1
        have e2 : cs[j] = G j := e1
        rw [e2]; exact hG j (by omega)
      have hl : lat cs = true := lat_iff.mpr fun c hc => (hcm c hc).2
      have hch : Chars cs := ⟨fun c hc => ⟨(hcm c hc).1, lt_65535 (hcm c hc).2⟩, by omega⟩
      have hlF : litF.length = 9 := rfl
      have hlX : litX.length = 15 := rfl
      refine OWp.new hk at_364 (pc' := 367) rfl (hw _ (List.mem_of_getElem? (i := 52) rfl)) (hw _ (List.mem_of_getElem? (i := 2) rfl)) (hw _ (List.mem_of_getElem? (i := 1) rfl)) (by decide) (by decide) ?_
      intro sx cx hE hD
      have hV0 : FC Z cx "java/lang/String" "value" "[B" .null := hD (Or.inr (hw _ (List.mem_of_getElem? (i := 4) rfl))) (ty := .array .byte) (by decide)
      have hC0 : FC Z cx "java/lang/String" "coder" "B" (.int 0) := hD (Or.inr (hw _ (List.mem_of_getElem? (i := 5) rfl))) (ty := .byte) (by decide)
      refine OWp.dup hk at_367 (pc' := 368) rfl rfl ?_
      refine OWp.aload hk at_368 (pc' := 370) rfl rfl rfl ?_
      refine OWp.iload hk at_370 (pc' := 372) rfl rfl ?_
      refine OWp.callS hk at_372 (pc' := 375) rfl (hw _ (List.mem_of_getElem? (i := 53) rfl)) (hw _ (List.mem_of_getElem? (i := 54) rfl)) (hw _ (List.mem_of_getElem? (i := 25) rfl)) (hw _ (List.mem_of_getElem? (i := 55) rfl)) (by decide) (c_CUT hw hEL hW hG hnn) rfl (by simp) rfl (lenOf pd_23 rfl) rfl (W := 2) rfl (by first | decide | (dsimp only; omega)) (by first | decide | (dsimp only; omega)) (by first | decide | (dsimp only; omega)) (by first | decide | (dsimp only; omega)) ?_
      rintro _ _ _ ⟨rfl, ob, cob, rfl, rfl, hOb⟩
      have hA0 : AC Z cob .char (cs.map Value.int) := by
        rw [map_tab, hcl]; exact hOb.congr fun j hj => by rw [hcg j hj]
      refine OWp.callI hk at_375 (pc' := 378) rfl rfl (hw _ (List.mem_of_getElem? (i := 59) rfl)) (hw _ (List.mem_of_getElem? (i := 60) rfl)) (hw _ (List.mem_of_getElem? (i := 1) rfl)) (hw _ (List.mem_of_getElem? (i := 61) rfl)) (by decide) (c_NEW hw hEL O2 hzc hE hV0 hC0 hA0 hch hl (by rw [hcl]; show nn ≤ 16; omega) (by omega)) rfl (by simp) rfl (lenOf pd_24 rfl) rfl (W := 1) rfl (by first | decide | (dsimp only; omega)) (by first | decide | (dsimp only; omega)) (by first | decide | (dsimp only; omega)) (by first | decide | (dsimp only; omega)) ?_
      rintro _ _ _ ⟨rfl, rfl, tt, cx9, ctt, rfl, hs⟩
      simp only [List.nil_append, List.cons_append]
      refine OWp.freeze ?_
      refine OWp.less (N' := [(sx, cx9), (tt, ctt)]) (by simp) ?_
      refine OWp.astore hk at_378 (pc' := 380) rfl rfl rfl (by simp only [List.set_cons_zero, List.set_cons_succ]; rfl) ?_
      refine OWp.iload hk at_380 (pc' := 382) rfl rfl ?_
      have T403 : ∀ (ev : Value), ((sm = 1 ∧ ev = .ref hd) ∨ (sm = 0 ∧ ev = .null)) → OWp p l e room_1 s m #[.int p1, .int p2, .int p3, .int p4, .int p5] below meth c x.cls Z EL (dom []) [(va, cv), (fa, cf), (f1, cf1), (f2, cf2), (xa, cxh), (x1, cx1), (x2, cx2), (ea, ce)] (fun v _ _ => v = some (.int 1)) [] [(sx, cx9), (tt, ctt)] 7 140 403 [.val (.int p1), .val (.int p2), .val (.int p3), .val (.int p4), .val (.int p5), .val (.int xf), .val (.ref a6), .val (.int (Int32.ofNat lit.length)), .val (.int cc), .val (.int (Int32.ofNat kk)), .val (.int (Int32.ofNat pp)), .val (.ref w), .val (.int sm), .val (.int (Int32.ofNat nn)), .val (.ref sx), .unset, .unset] [ev] := by
        intro ev hev
        have hevr : ev.isRef = true := by rcases hev with ⟨-, rfl⟩ | ⟨-, rfl⟩ <;> rfl
        refine OWp.astore hk at_403 (pc' := 405) rfl hevr rfl (by simp only [List.set_cons_zero, List.set_cons_succ]; rfl) ?_
        refine OWp.aload hk at_405 (pc' := 407) rfl rfl rfl ?_
        refine OWp.callS hk at_407 (pc' := 410) rfl (hw _ (List.mem_of_getElem? (i := 79) rfl)) (hw _ (List.mem_of_getElem? (i := 80) rfl)) (hw _ (List.mem_of_getElem? (i := 81) rfl)) (hw _ (List.mem_of_getElem? (i := 82) rfl)) (by decide) (c_NMD hw hEL O2 hzc hSV hV hEV hEF hFF hSF hEX hFX hSX hSE hOE hs hl) rfl (by simp) rfl (lenOf pd_25 rfl) rfl (W := 0) rfl (by first | decide | (dsimp only; omega)) (by first | decide | (dsimp only; omega)) (by first | decide | (dsimp only; omega)) (by first | decide | (dsimp only; omega)) ?_
        rintro _ _ _ ⟨rfl, o, co, wv, rfl, hO, hN, hres⟩
        have hfin : ev = wv := by
          rcases hlit with ⟨-, rfl, rfl⟩ | ⟨-, rfl, rfl⟩
          · rcases hsm with ⟨hs1, hnl, hci⟩ | ⟨hs1, hno⟩
            · have hX : eqI litX cs := ⟨hcl.trans hnl, fun j hj => by rw [hcg j (by omega)]; exact hci j (by omega)⟩
              have hF : ¬ eqI litF cs := fun q => by have := q.1; omega
              rcases hres with ⟨h1, -⟩ | ⟨-, -, h⟩ | ⟨-, h2, -⟩
              · exact absurd h1 hF
              · rcases hev with ⟨-, h'⟩ | ⟨h', -⟩
                · rw [h, h']
                · rw [hs1] at h'; exact absurd h' (by decide)
              · exact absurd hX h2
            · have hX : ¬ eqI litX cs := fun q => by
                rcases hno with ⟨h1, j, hj, hn⟩ | ⟨h1, h2⟩
                · exact hn (by rw [← hcg j hj]; exact q.2 j (by omega))
                · have := q.1; omega
              have hF : ¬ eqI litF cs := fun q => by
                have := q.1
                rcases hno with ⟨h1, -⟩ | ⟨h1, h2⟩ <;> omega
              rcases hres with ⟨h1, -⟩ | ⟨-, h1, -⟩ | ⟨-, -, h⟩
              · exact absurd h1 hF
              · exact absurd h1 hX
              · rcases hev with ⟨h', -⟩ | ⟨-, h'⟩
                · rw [hs1] at h'; exact absurd h' (by decide)
                · rw [h, h']
          · rcases hsm with ⟨hs1, hnl, hci⟩ | ⟨hs1, hno⟩
            · have hF : eqI litF cs := ⟨hcl.trans hnl, fun j hj => by rw [hcg j (by omega)]; exact hci j (by omega)⟩
              rcases hres with ⟨-, h⟩ | ⟨h2, -, -⟩ | ⟨h2, -, -⟩
              · rcases hev with ⟨-, h'⟩ | ⟨h', -⟩
                · rw [h, h']
                · rw [hs1] at h'; exact absurd h' (by decide)
              · exact absurd hF h2
              · exact absurd hF h2
            · have hF : ¬ eqI litF cs := fun q => by
                rcases hno with ⟨h1, j, hj, hn⟩ | ⟨h1, h2⟩
                · exact hn (by rw [← hcg j hj]; exact q.2 j (by omega))
                · have := q.1; omega
              have hX : ¬ eqI litX cs := fun q => by
                have := q.1
                rcases hno with ⟨h1, -⟩ | ⟨h1, h2⟩ <;> omega
              rcases hres with ⟨h1, -⟩ | ⟨-, h1, -⟩ | ⟨-, -, h⟩
              · exact absurd h1 hF
              · exact absurd h1 hX
              · rcases hev with ⟨h', -⟩ | ⟨-, h'⟩
                · rw [hs1] at h'; exact absurd h' (by decide)
                · rw [h, h']
        subst hfin
        have hev2 : ev = .null ∨ ∃ q, ev = .ref q := by
          rcases hev with ⟨-, h⟩ | ⟨-, h⟩
          · exact Or.inr ⟨_, h⟩
          · exact Or.inl h
        have hev3 : ev = .ref xa ∨ ev = .ref fa ∨ ev = .null := by
          rcases hev with ⟨-, h⟩ | ⟨-, h⟩
          · rcases hlit with ⟨-, -, h2⟩ | ⟨-, -, h2⟩
            · exact Or.inl (by rw [h, h2])
            · exact Or.inr (Or.inl (by rw [h, h2]))
          · exact Or.inr (Or.inr h)
        clear hres hev hsm hlit
        rcases hN with rfl | ⟨rfl, rfl, rfl⟩
        · refine OWp.aconst_null hk at_410 (pc' := 411) rfl ?_
          refine OWp.callV hk at_411 (pc' := 414) rfl (hw _ (List.mem_of_getElem? (i := 113) rfl)) (hw _ (List.mem_of_getElem? (i := 114) rfl)) (nfs (hw _ (List.mem_of_getElem? (i := 116) rfl))) (hw _ (List.mem_of_getElem? (i := 116) rfl)) (hw _ (List.mem_of_getElem? (i := 115) rfl)) (hw _ (List.mem_of_getElem? (i := 110) rfl)) (hw _ (List.mem_of_getElem? (i := 117) rfl)) (by decide) (by simp) hO.1 (c_ORE hw hEL hO hev2) rfl (by simp) rfl (lenOf pd_13 rfl) rfl (W := 0) rfl (by first | decide | (dsimp only; omega)) (by first | decide | (dsimp only; omega)) (by first | decide | (dsimp only; omega)) (by first | decide | (dsimp only; omega)) ?_
          rintro _ _ _ ⟨rfl, rfl, rfl⟩
          rcases hev3 with rfl | rfl | rfl
          · refine OWp.castY hk at_414 (pc' := 417) rfl (hw _ (List.mem_of_getElem? (i := 151) rfl)) (by simp) (cl := cxh) hEX ?_
            refine OWp.astore hk at_417 (pc' := 419) rfl rfl rfl (by simp only [List.set_cons_zero, List.set_cons_succ]; rfl) ?_
            refine OWp.aload hk at_419 (pc' := 421) rfl rfl rfl ?_
            refine OWp.aload hk at_421 (pc' := 423) rfl rfl rfl ?_
            refine OWp.acmpNo hk at_423 rfl rfl (XT.aa_ne_f rfl) (pc' := 426) rfl ?_
            refine OWp.iconst hk at_426 (pc' := 427) rfl (z := 1) rfl ?_
            refine OWp.goto hk at_427 (by decide) (pc' := 431) rfl ?_
            exact OWp.retN hk (Or.inl rfl) at_431 (M' := []) (N' := []) rfl (List.nil_sublist _) (by simp) (by decide) (by decide)
          · refine OWp.castY hk at_414 (pc' := 417) rfl (hw _ (List.mem_of_getElem? (i := 151) rfl)) (by simp) (cl := cf) hEF ?_
            refine OWp.astore hk at_417 (pc' := 419) rfl rfl rfl (by simp only [List.set_cons_zero, List.set_cons_succ]; rfl) ?_
            refine OWp.aload hk at_419 (pc' := 421) rfl rfl rfl ?_
            refine OWp.aload hk at_421 (pc' := 423) rfl rfl rfl ?_
            refine OWp.acmpNo hk at_423 rfl rfl (XT.aa_ne_f rfl) (pc' := 426) rfl ?_
            refine OWp.iconst hk at_426 (pc' := 427) rfl (z := 1) rfl ?_
            refine OWp.goto hk at_427 (by decide) (pc' := 431) rfl ?_
            exact OWp.retN hk (Or.inl rfl) at_431 (M' := []) (N' := []) rfl (List.nil_sublist _) (by simp) (by decide) (by decide)
          · refine OWp.castN (K := "") hk at_414 (pc' := 417) rfl ?_
            refine OWp.astore hk at_417 (pc' := 419) rfl rfl rfl (by simp only [List.set_cons_zero, List.set_cons_succ]; rfl) ?_
            refine OWp.aload hk at_419 (pc' := 421) rfl rfl rfl ?_
            refine OWp.aload hk at_421 (pc' := 423) rfl rfl rfl ?_
            refine OWp.acmpNo hk at_423 rfl rfl (XT.aa_ne_f rfl) (pc' := 426) rfl ?_
            refine OWp.iconst hk at_426 (pc' := 427) rfl (z := 1) rfl ?_
            refine OWp.goto hk at_427 (by decide) (pc' := 431) rfl ?_
            exact OWp.retN hk (Or.inl rfl) at_431 (M' := []) (N' := []) rfl (List.nil_sublist _) (by simp) (by decide) (by decide)
        · refine OWp.aconst_null hk at_410 (pc' := 411) rfl ?_
          refine OWp.callV hk at_411 (pc' := 414) rfl (hw _ (List.mem_of_getElem? (i := 113) rfl)) (hw _ (List.mem_of_getElem? (i := 114) rfl)) (nfs (hw _ (List.mem_of_getElem? (i := 116) rfl))) (hw _ (List.mem_of_getElem? (i := 116) rfl)) (hw _ (List.mem_of_getElem? (i := 115) rfl)) (hw _ (List.mem_of_getElem? (i := 110) rfl)) (hw _ (List.mem_of_getElem? (i := 117) rfl)) (by decide) (by simp) hO.1 (c_ORE hw hEL hO hev2) rfl (by simp) rfl (lenOf pd_13 rfl) rfl (W := 0) rfl (by first | decide | (dsimp only; omega)) (by first | decide | (dsimp only; omega)) (by first | decide | (dsimp only; omega)) (by first | decide | (dsimp only; omega)) ?_
          rintro _ _ _ ⟨rfl, rfl, rfl⟩
          rcases hev3 with rfl | rfl | rfl
          · refine OWp.castY hk at_414 (pc' := 417) rfl (hw _ (List.mem_of_getElem? (i := 151) rfl)) (by simp) (cl := cxh) hEX ?_
            refine OWp.astore hk at_417 (pc' := 419) rfl rfl rfl (by simp only [List.set_cons_zero, List.set_cons_succ]; rfl) ?_
            refine OWp.aload hk at_419 (pc' := 421) rfl rfl rfl ?_
            refine OWp.aload hk at_421 (pc' := 423) rfl rfl rfl ?_
            refine OWp.acmpNo hk at_423 rfl rfl (XT.aa_ne_f rfl) (pc' := 426) rfl ?_
            refine OWp.iconst hk at_426 (pc' := 427) rfl (z := 1) rfl ?_
            refine OWp.goto hk at_427 (by decide) (pc' := 431) rfl ?_
            exact OWp.retN hk (Or.inl rfl) at_431 (M' := []) (N' := []) rfl (List.nil_sublist _) (by simp) (by decide) (by decide)
          · refine OWp.castY hk at_414 (pc' := 417) rfl (hw _ (List.mem_of_getElem? (i := 151) rfl)) (by simp) (cl := cf) hEF ?_
            refine OWp.astore hk at_417 (pc' := 419) rfl rfl rfl (by simp only [List.set_cons_zero, List.set_cons_succ]; rfl) ?_
            refine OWp.aload hk at_419 (pc' := 421) rfl rfl rfl ?_
            refine OWp.aload hk at_421 (pc' := 423) rfl rfl rfl ?_
            refine OWp.acmpNo hk at_423 rfl rfl (XT.aa_ne_f rfl) (pc' := 426) rfl ?_
            refine OWp.iconst hk at_426 (pc' := 427) rfl (z := 1) rfl ?_
            refine OWp.goto hk at_427 (by decide) (pc' := 431) rfl ?_
            exact OWp.retN hk (Or.inl rfl) at_431 (M' := []) (N' := []) rfl (List.nil_sublist _) (by simp) (by decide) (by decide)
          · refine OWp.castN (K := "") hk at_414 (pc' := 417) rfl ?_
            refine OWp.astore hk at_417 (pc' := 419) rfl rfl rfl (by simp only [List.set_cons_zero, List.set_cons_succ]; rfl) ?_
            refine OWp.aload hk at_419 (pc' := 421) rfl rfl rfl ?_
            refine OWp.aload hk at_421 (pc' := 423) rfl rfl rfl ?_
            refine OWp.acmpNo hk at_423 rfl rfl (XT.aa_ne_f rfl) (pc' := 426) rfl ?_
            refine OWp.iconst hk at_426 (pc' := 427) rfl (z := 1) rfl ?_
            refine OWp.goto hk at_427 (by decide) (pc' := 431) rfl ?_
            exact OWp.retN hk (Or.inl rfl) at_431 (M' := []) (N' := []) rfl (List.nil_sublist _) (by simp) (by decide) (by decide)
      rcases hsm with ⟨rfl, hnl, hci⟩ | ⟨rfl, hno⟩
      · refine OWp.ifNo hk at_382 (XT.i0_eq_f (by decide)) (pc' := 385) rfl ?_
        refine OWp.iload hk at_385 (pc' := 387) rfl rfl ?_
        rcases hlit with ⟨rfl, rfl, rfl⟩ | ⟨rfl, rfl, rfl⟩
        · refine OWp.ifNo hk at_387 (XT.i0_eq_f (by decide)) (pc' := 390) rfl ?_
          refine OWp.getstatic hk at_390 (pc' := 393) rfl (hw _ (List.mem_of_getElem? (i := 136) rfl)) hGX ?_
          refine OWp.goto hk at_393 (by decide) (pc' := 403) rfl ?_
          exact OWp.more (by decide) (by decide) (T403 _ (Or.inl ⟨rfl, rfl⟩))
        · refine OWp.ifYes hk at_387 (XT.i0_eq_t rfl) (by decide) (pc' := 396) rfl ?_
          refine OWp.getstatic hk at_396 (pc' := 399) rfl (hw _ (List.mem_of_getElem? (i := 153) rfl)) hGF ?_
          refine OWp.goto hk at_399 (by decide) (pc' := 403) rfl ?_
          exact OWp.more (by decide) (by decide) (T403 _ (Or.inl ⟨rfl, rfl⟩))
      · refine OWp.ifYes hk at_382 (XT.i0_eq_t rfl) (by decide) (pc' := 402) rfl ?_
        refine OWp.aconst_null hk at_402 (pc' := 403) rfl ?_
        exact OWp.more (by decide) (by decide) (T403 _ (Or.inr ⟨rfl, rfl⟩))
    refine OWp.more (cells' := 3) (slots' := 80) (by decide) (by decide) ?_
    refine OWp.iconst hk at_294 (pc' := 295) rfl (z := 1) rfl ?_
    refine OWp.istore hk at_295 (pc' := 297) rfl rfl (by simp only [List.set_cons_zero, List.set_cons_succ]; rfl) ?_
    refine OWp.iload hk at_297 (pc' := 299) rfl rfl ?_
    refine OWp.istore hk at_299 (pc' := 301) rfl rfl (by simp only [List.set_cons_zero, List.set_cons_succ]; rfl) ?_
    refine OWp.iload hk at_301 (pc' := 303) rfl rfl ?_
    refine OWp.iconst hk at_303 (pc' := 304) rfl (z := 1) rfl ?_
    by_cases h1 : kk = 1
    · refine OWp.icmpNo hk at_304 (XT.ii_ne_f (by rw [h1]; rfl)) (pc' := 307) rfl ?_
      refine OWp.aload hk at_307 (pc' := 309) rfl rfl rfl ?_
      refine OWp.iload hk at_309 (pc' := 311) rfl rfl ?_
      refine OWp.iload hk at_311 (pc' := 313) rfl rfl ?_
      refine OWp.castore hk at_313 (pc' := 314) rfl (i := 0) rfl hA16 (n_nn (by omega)) (t := pp) (n_nat (by omega)) (by rw [tab_len]; omega) ?_
      intro cw2 hA2
      simp only [List.set_cons_zero]
      rw [tab_set, byR_nar hcc] at hA2
      have hA3 : AC Z cw2 .char (tab 16 fun j => .int (if j = pp then cc else ws.getD j 0)) := hA2.congr fun j hj => by split <;> rfl
      refine OWp.iload hk at_314 (pc' := 316) rfl rfl ?_
      refine OWp.aload hk at_316 (pc' := 318) rfl rfl rfl ?_
      refine OWp.iload hk at_318 (pc' := 320) rfl rfl ?_
      refine OWp.callV hk at_320 (pc' := 323) rfl (hw _ (List.mem_of_getElem? (i := 27) rfl)) (hw _ (List.mem_of_getElem? (i := 28) rfl)) (nfs (hw _ (List.mem_of_getElem? (i := 30) rfl))) (hw _ (List.mem_of_getElem? (i := 30) rfl)) (hw _ (List.mem_of_getElem? (i := 29) rfl)) (hw _ (List.mem_of_getElem? (i := 1) rfl)) (hw _ (List.mem_of_getElem? (i := 31) rfl)) (by decide) (by simp) hS6.1 (c_CHA (i := pp) hw hEL O2 hzc O4 hf hS6 hl6 hpp) rfl (by simp) rfl (lenOf pd_19 rfl) rfl (W := 1) rfl (by first | decide | (dsimp only; omega)) (by first | decide | (dsimp only; omega)) (by first | decide | (dsimp only; omega)) (by first | decide | (dsimp only; omega)) ?_
      rintro _ _ _ ⟨rfl, rfl, rfl⟩
      refine OWp.callS hk at_323 (pc' := 326) rfl (hw _ (List.mem_of_getElem? (i := 121) rfl)) (hw _ (List.mem_of_getElem? (i := 122) rfl)) (hw _ (List.mem_of_getElem? (i := 25) rfl)) (hw _ (List.mem_of_getElem? (i := 123) rfl)) (by decide) (c_EQI hw hEL (hle pp hpp) hcc) rfl (by simp) rfl (lenOf pd_26 rfl) rfl (W := 0) rfl (by first | decide | (dsimp only; omega)) (by first | decide | (dsimp only; omega)) (by first | decide | (dsimp only; omega)) (by first | decide | (dsimp only; omega)) ?_
      rintro _ _ _ ⟨rfl, rfl, rfl⟩
      refine OWp.istore hk at_326 (pc' := 328) rfl rfl (by simp only [List.set_cons_zero, List.set_cons_succ]; rfl) ?_
      refine OWp.goto hk at_328 (by decide) (pc' := 364) rfl ?_
      refine E364 _ lit.length cw2 _ hA3 (fun j hj => by split <;> first | exact hcc | exact hwr j hj) (by omega) ?_
      by_cases hci : CI (lit.getD pp 0) cc
      · rw [if_pos hci]
        exact Or.inl ⟨rfl, rfl, fun j hj => by
          by_cases z : j = pp
          · rw [if_pos z, z]; exact hci
          · rw [if_neg z]; exact hwc j hj⟩
      · rw [if_neg hci]
        exact Or.inr ⟨rfl, Or.inl ⟨rfl, pp, hpp, by rw [if_pos rfl]; exact hci⟩⟩
    refine OWp.icmpYes hk at_304 (XT.ii_ne_t (by rw [show (1 : Int32) = Int32.ofNat 1 from rfl, n_inj (by omega) (by omega)]; exact h1)) (by decide) (pc' := 331) rfl ?_
    refine OWp.iload hk at_331 (pc' := 333) rfl rfl ?_
    refine OWp.iconst hk at_333 (pc' := 334) rfl (z := 2) rfl ?_
    by_cases h2 : kk = 2
    · refine OWp.icmpNo hk at_334 (XT.ii_ne_f (by rw [h2]; rfl)) (pc' := 337) rfl ?_
      refine OWp.iload hk at_337 (pc' := 339) rfl rfl ?_
      refine OWp.iconst hk at_339 (pc' := 340) rfl (z := 1) rfl ?_
      refine OWp.isub hk at_340 (pc' := 341) rfl ?_
      rw [show Int32.ofNat lit.length - 1 = Int32.ofNat (lit.length - 1) from n_sub (a := 1) (by omega) (by omega)]
      refine OWp.istore hk at_341 (pc' := 343) rfl rfl (by simp only [List.set_cons_zero, List.set_cons_succ]; rfl) ?_
      refine OWp.iconst hk at_343 (pc' := 344) rfl (z := 0) rfl ?_
      refine OWp.istore hk at_344 (pc' := 346) rfl rfl (by simp only [List.set_cons_zero, List.set_cons_succ]; rfl) ?_
      refine OWp.goto hk at_346 (by decide) (pc' := 364) rfl ?_
      exact E364 0 (lit.length - 1) cw (fun j => ws.getD j 0) hA16 hwr (by omega) (Or.inr ⟨rfl, Or.inr (by omega)⟩)
    refine OWp.icmpYes hk at_334 (XT.ii_ne_t (by rw [show (2 : Int32) = Int32.ofNat 2 from rfl, n_inj (by omega) (by omega)]; exact h2)) (by decide) (pc' := 349) rfl ?_
    refine OWp.iload hk at_349 (pc' := 351) rfl rfl ?_
    refine OWp.iconst hk at_351 (pc' := 352) rfl (z := 3) rfl ?_
    by_cases h3 : kk = 3
    · refine OWp.icmpNo hk at_352 (XT.ii_ne_f (by rw [h3]; rfl)) (pc' := 355) rfl ?_
      refine OWp.iload hk at_355 (pc' := 357) rfl rfl ?_
      refine OWp.iconst hk at_357 (pc' := 358) rfl (z := 1) rfl ?_
      refine OWp.iadd hk at_358 (pc' := 359) rfl ?_
      rw [n_succ]
      refine OWp.istore hk at_359 (pc' := 361) rfl rfl (by simp only [List.set_cons_zero, List.set_cons_succ]; rfl) ?_
      refine OWp.iconst hk at_361 (pc' := 362) rfl (z := 0) rfl ?_
      refine OWp.istore hk at_362 (pc' := 364) rfl rfl (by simp only [List.set_cons_zero, List.set_cons_succ]; rfl) ?_
      exact E364 0 (lit.length + 1) cw (fun j => ws.getD j 0) hA16 hwr (by omega) (Or.inr ⟨rfl, Or.inr (by omega)⟩)
    refine OWp.icmpYes hk at_352 (XT.ii_ne_t (by rw [show (3 : Int32) = Int32.ofNat 3 from rfl, n_inj (by omega) (by omega)]; exact h3)) (by decide) (pc' := 364) rfl ?_
    exact E364 1 lit.length cw (fun j => ws.getD j 0) hA16 hwr (by omega) (Or.inl ⟨rfl, rfl, hwc⟩)
  refine OWp.iload_n hk at_0 (pc' := 1) rfl rfl ?_
  refine OWp.iconst hk at_1 (pc' := 2) rfl (z := 1) rfl ?_
  refine OWp.iand hk at_2 (pc' := 3) rfl ?_
  by_cases hx : p1 &&& 1 = 0
  · refine OWp.ifYes hk at_3 (XT.i0_eq_t hx) (by decide) (pc' := 10) rfl ?_
    refine OWp.iconst hk at_10 (pc' := 11) rfl (z := 0) rfl ?_
    refine OWp.istore hk at_11 (pc' := 13) rfl rfl (by simp only [List.set_cons_zero, List.set_cons_succ]; rfl) ?_
    refine OWp.iload hk at_13 (pc' := 15) rfl rfl ?_
    refine OWp.ifYes hk at_15 (XT.i0_eq_t rfl) (by decide) (pc' := 23) rfl ?_
    refine OWp.ldcS hk at_23 (pc' := 25) rfl (hw _ (List.mem_of_getElem? (i := 0) rfl)) (str_atoms hw) hmF (vs := oBytes litF) ⟨by decide +kernel, by decide +kernel⟩ (by decide +kernel) (n := 60) (by decide) (by decide) (by decide) (by decide) ?_
    intro a6 t6 ca6 ct6 hE3 hC3 hV3 hA3
    exact T25 0 litF fa a6 t6 ca6 ct6 (Or.inr ⟨rfl, rfl, rfl⟩) ⟨hE3, hV3, hC3, hA3, ⟨by decide, by decide⟩⟩
  · refine OWp.ifNo hk at_3 (XT.i0_eq_f hx) (pc' := 6) rfl ?_
    refine OWp.iconst hk at_6 (pc' := 7) rfl (z := 1) rfl ?_
    refine OWp.goto hk at_7 (by decide) (pc' := 11) rfl ?_
    refine OWp.istore hk at_11 (pc' := 13) rfl rfl (by simp only [List.set_cons_zero, List.set_cons_succ]; rfl) ?_
    refine OWp.iload hk at_13 (pc' := 15) rfl rfl ?_
    refine OWp.ifNo hk at_15 (XT.i0_eq_f (by decide)) (pc' := 18) rfl ?_
    refine OWp.ldcS hk at_18 (pc' := 20) rfl (hw _ (List.mem_of_getElem? (i := 120) rfl)) (str_atoms hw) hmX (vs := oBytes litX) ⟨by decide +kernel, by decide +kernel⟩ (by decide +kernel) (n := 60) (by decide) (by decide) (by decide) (by decide) ?_
    intro a6 t6 ca6 ct6 hE3 hC3 hV3 hA3
    refine OWp.goto hk at_20 (by decide) (pc' := 25) rfl ?_
    exact T25 1 litX xa a6 t6 ca6 ct6 (Or.inl ⟨rfl, rfl, rfl⟩) ⟨hE3, hV3, hC3, hA3, ⟨by decide, by decide⟩⟩
end Law
--CUT
section Law2
set_option maxRecDepth 65536 in
set_option maxHeartbeats 40000000 in
theorem comes_1 {Post : Tables → Env → Array Value → State → Outcome → State → Prop} (hpost : ∀ tb e args s v u, (limb_1_1.after args s (.returned v) u = true ∧ limb_1_2.after args s (.returned v) u = true ∧ True) → ReturnedEndW s (.returned v) u (Jvm.fieldLocs frame_1_writes args s ++ Jvm.arrayLocs frame_1_arrays args s ++ Jvm.staticLocs frame_1_statics s) 24 2240 → Post tb e args s (.returned v) u) :
    ArmFor flags0 classFile x code maxLocals ret World_1 tables_1 room_1 Calls_1 rest_1 Pre_1 Post := by
  intro l hfl _ _ p e ha hc hk s m args below hf hA hF happ hP
  obtain ⟨hcalls, hrest, hpre⟩ := hP
  obtain ⟨-, -, -, hnamed, -, -, -, hat⟩ := (Spec.applies_iff hf).mp happ
  obtain ⟨hg, hn⟩ := and_e (Cond.before_iff.mp (show (Jvm.Cond.and given_1 narrow_1).before args s = true from hpre))
  obtain ⟨g0, r0⟩ := and_e hg
  obtain ⟨q0, r1⟩ := and_e r0
  obtain ⟨q1, r2⟩ := and_e r1
  obtain ⟨q2, r3⟩ := and_e r2
  obtain ⟨q3, r4⟩ := and_e r3
  obtain ⟨w0, w1, w2, w3, w4, rfl⟩ : ∃ w0 w1 w2 w3 w4 : Value, args = #[w0, w1, w2, w3, w4] := by
    have hs : args.size = 5 := by simpa [Cond.value, given_1] using g0
    obtain ⟨L⟩ := args
    match L, hs with
    | [w0, w1, w2, w3, w4], _ => exact ⟨w0, w1, w2, w3, w4, rfl⟩
  have hw := fun d (hd : d ∈ tables_1) => atoms_spec (ws := Jvm.Cond.code x code maxLocals ret :: tables_1) hat d (List.mem_cons_of_mem _ hd)
  obtain ⟨hsets, hown0⟩ := atoms_of _ (rest_1_c_eq ▸ (show rest_1_c.before _ s = true from hrest))
  have hfit : Fit s := fun {y c} hc i hi => by
    obtain ⟨ha, rfl⟩ := Array.getElem?_eq_some_iff.mp hc
    have q := List.all_eq_true.mp ((Array.all_eq_true_iff_forall_mem.mp hF) _ (Array.getElem_mem ha)) i (List.mem_range.mpr hi)
    simpa [Array.getElem?_eq_getElem hi] using q
  obtain ⟨i0, e0⟩ := is_v q0
  obtain rfl : w0 = (.int i0) := Option.some.inj e0
  obtain ⟨i1, e1⟩ := is_v q1
  obtain rfl : w1 = (.int i1) := Option.some.inj e1
  obtain ⟨i2, e2⟩ := is_v q2
  obtain rfl : w2 = (.int i2) := Option.some.inj e2
  obtain ⟨i3, e3⟩ := is_v q3
  obtain rfl : w3 = (.int i3) := Option.some.inj e3
  obtain ⟨i4, e4⟩ := is_v r4
  obtain rfl : w4 = (.int i4) := Option.some.inj e4
  obtain ⟨zc, ezc⟩ := is_v (Cond.before_iff.mp (hsets _ (List.mem_of_getElem? (i := 1) rfl)))
  have O2 : Sta s s.heap "java/lang/String" "COMPACT_STRINGS" "Z" (.int zc) := Sta.start ezc (Or.inl (hsets _ (List.mem_of_getElem? (i := 0) rfl)))
  have hzc : ¬ (zc = (0 : Int32)) := gotF (Cond.eq_ints ezc (Term.int_eval (0))) (not_v (Cond.before_iff.mp (hsets _ (List.mem_of_getElem? (i := 2) rfl))))
  obtain ⟨fm, efm, hfm⟩ := isR_v (Cond.before_iff.mp (hsets _ (List.mem_of_getElem? (i := 8) rfl)))
  have O4 : Sta s s.heap "jdk/internal/util/Preconditions" "SIOOBE_FORMATTER" "Ljava/util/function/BiFunction;" fm := Sta.start efm (Or.inl (hsets _ (List.mem_of_getElem? (i := 7) rfl)))
  have hn0 := hn
  obtain ⟨n0, hn⟩ := and_e hn
  obtain ⟨n1, hn⟩ := and_e hn
  obtain ⟨n2, hn⟩ := and_e hn
  obtain ⟨n3, hn⟩ := and_e hn
  obtain ⟨n4, hn⟩ := and_e hn
  obtain ⟨n5, hn⟩ := and_e hn
  obtain ⟨n6, hn⟩ := and_e hn
  obtain ⟨n7, hn⟩ := and_e hn
  obtain ⟨n8, hn⟩ := and_e hn
  obtain ⟨n9, hn⟩ := and_e hn
  obtain ⟨n10, hn⟩ := and_e hn
  obtain ⟨n11, hn⟩ := and_e hn
  obtain ⟨n12, hn⟩ := and_e hn
  obtain ⟨n13, hn⟩ := and_e hn
  obtain ⟨n14, hn⟩ := and_e hn
  obtain ⟨n15, hn⟩ := and_e hn
  obtain ⟨n16, hn⟩ := and_e hn
  obtain ⟨n17, hn⟩ := and_e hn
  obtain ⟨n18, hn⟩ := and_e hn
  obtain ⟨n19, hn⟩ := and_e hn
  obtain ⟨n20, hn⟩ := and_e hn
  obtain ⟨n21, hn⟩ := and_e hn
  obtain ⟨n22, hn⟩ := and_e hn
  obtain ⟨n23, hn⟩ := and_e hn
  obtain ⟨n24, hn⟩ := and_e hn
  obtain ⟨n25, hn⟩ := and_e hn
  obtain ⟨n26, hn⟩ := and_e hn
  obtain ⟨n27, hn⟩ := and_e hn
  obtain ⟨n28, hn⟩ := and_e hn
  obtain ⟨n29, hn⟩ := and_e hn
  obtain ⟨n30, hn⟩ := and_e hn
  obtain ⟨n31, hn⟩ := and_e hn
  obtain ⟨n32, hn⟩ := and_e hn
  obtain ⟨n33, hn⟩ := and_e hn
  obtain ⟨n34, hn⟩ := and_e hn
  obtain ⟨n35, hn⟩ := and_e hn
  obtain ⟨n36, hn⟩ := and_e hn
  obtain ⟨n37, hn⟩ := and_e hn
  have n38 := hn
  obtain ⟨va, _, _, _, eva, -⟩ := Cond.exactly_spec (Cond.before_iff.mpr n1)
  obtain ⟨fa, _, _, _, efa, -⟩ := Cond.exactly_spec (Cond.before_iff.mpr n3)
  obtain ⟨xa, _, _, _, exa, -⟩ := Cond.exactly_spec (Cond.before_iff.mpr n5)
  obtain ⟨f1, _, _, _, ef1, -⟩ := Cond.exactly_spec (Cond.before_iff.mpr n7)
  obtain ⟨x1, _, _, _, ex1, -⟩ := Cond.exactly_spec (Cond.before_iff.mpr n11)
  have hSV : Sta s s.heap "com/example/cardea/cardea/request/TrustedProxies$Header" "$VALUES" "[Lcom/example/cardea/cardea/request/TrustedProxies$Header;" (.ref va) := Sta.start eva (Or.inl (hw _ (List.mem_of_getElem? (i := 97) rfl)))
  have hGF : Sta s s.heap "com/example/cardea/cardea/request/TrustedProxies$Header" "FORWARDED" "Lcom/example/cardea/cardea/request/TrustedProxies$Header;" (.ref fa) := Sta.start efa (Or.inr ⟨(hw _ (List.mem_of_getElem? (i := 81) rfl)), (hw _ (List.mem_of_getElem? (i := 95) rfl))⟩)
  have hGX : Sta s s.heap "com/example/cardea/cardea/request/TrustedProxies$Header" "X_FORWARDED_FOR" "Lcom/example/cardea/cardea/request/TrustedProxies$Header;" (.ref xa) := Sta.start exa (Or.inr ⟨(hw _ (List.mem_of_getElem? (i := 81) rfl)), (hw _ (List.mem_of_getElem? (i := 96) rfl))⟩)
  obtain ⟨cf, hcf, hEF⟩ := exa_cell (Exa.start efa n3)
  have hFF : FC s cf "com/example/cardea/cardea/request/TrustedProxies$Header" "headerName" "Ljava/lang/String;" (.ref f1) := FC.of (fld_start efa ef1) hcf
  obtain ⟨cxh, hcxh, hEX⟩ := exa_cell (Exa.start exa n5)
  have hFX : FC s cxh "com/example/cardea/cardea/request/TrustedProxies$Header" "headerName" "Ljava/lang/String;" (.ref x1) := FC.of (fld_start exa ex1) hcxh
  have tbF : ∀ j, j < 9 → Value.int (lo8 (litF.getD j 0)) = Value.int (litF.getD j 0) := by decide
  have tbX : ∀ j, j < 15 → Value.int (lo8 (litX.getD j 0)) = Value.int (litX.getD j 0) := by decide
  obtain ⟨f2, cf1, cf2, hcf1, hcf2, hSF⟩ := str_start (lit := litF) (n := 9) ef1 n7 n8 n9 n10 (fun j hj => by rw [tbF j hj]; match j, hj with | 0, _ => exact eqv_i rfl n15 | 1, _ => exact eqv_i rfl n16 | 2, _ => exact eqv_i rfl n17 | 3, _ => exact eqv_i rfl n18 | 4, _ => exact eqv_i rfl n19 | 5, _ => exact eqv_i rfl n20 | 6, _ => exact eqv_i rfl n21 | 7, _ => exact eqv_i rfl n22 | 8, _ => exact eqv_i rfl n23 | j + 9, h => omega) rfl (by decide) ⟨by decide, by decide⟩
  obtain ⟨x2, cx1, cx2, hcx1, hcx2, hSX⟩ := str_start (lit := litX) (n := 15) ex1 n11 n12 n13 n14 (fun j hj => by rw [tbX j hj]; match j, hj with | 0, _ => exact eqv_i rfl n24 | 1, _ => exact eqv_i rfl n25 | 2, _ => exact eqv_i rfl n26 | 3, _ => exact eqv_i rfl n27 | 4, _ => exact eqv_i rfl n28 | 5, _ => exact eqv_i rfl n29 | 6, _ => exact eqv_i rfl n30 | 7, _ => exact eqv_i rfl n31 | 8, _ => exact eqv_i rfl n32 | 9, _ => exact eqv_i rfl n33 | 10, _ => exact eqv_i rfl n34 | 11, _ => exact eqv_i rfl n35 | 12, _ => exact eqv_i rfl n36 | 13, _ => exact eqv_i rfl n37 | 14, _ => exact eqv_i rfl n38 | j + 15, h => omega) rfl (by decide) ⟨by decide, by decide⟩
  obtain ⟨cv, hcv, hV⟩ := arr_start (ty := .object "com/example/cardea/cardea/request/TrustedProxies$Header") (n := 2) (f := fun j => if j = 0 then .ref fa else .ref xa) eva n0 n2 (by decide) (fun j hj => by match j, hj with | 0, _ => exact eqv_ref efa n4 | 1, _ => exact eqv_ref exa n6 | j + 2, h => omega) (fun j _ => by split <;> rfl)
  obtain ⟨cv2, hcv2, hEV⟩ := exa_cell (Exa.start eva n1)
  obtain rfl : cv2 = cv := Option.some.inj (hcv2.symm.trans hcv)
  obtain ⟨ea, _, _, _, eea, -⟩ := Cond.exactly_spec (hsets _ (List.mem_of_getElem? (i := 11) rfl))
  have hSE : Sta s s.heap "java/util/Optional" "EMPTY" "Ljava/util/Optional;" (.ref ea) := Sta.start eea (Or.inl (hsets _ (List.mem_of_getElem? (i := 10) rfl)))
  obtain ⟨ce, hce, hEO⟩ := exa_cell (Exa.start eea (Cond.before_iff.mp (hsets _ (List.mem_of_getElem? (i := 11) rfl))))
  have hOE : OptC s ce .null := ⟨hEO, FC.of (fld_start eea (eqv_null (Cond.before_iff.mp (hsets _ (List.mem_of_getElem? (i := 12) rfl))))) hce⟩
  have hEL : EW s #[.int i0, .int i1, .int i2, .int i3, .int i4] consts_1 := (EW.cons (hw _ (List.mem_of_getElem? (i := 120) rfl)) (by decide) (EW.cons (hw _ (List.mem_of_getElem? (i := 0) rfl)) (by decide) EW.nil))
  have hCH : CHv s consts_1 s.vm s.heap := CHv.start hEL (fun p hp => hcalls.1 p hp) (hsets _ (List.mem_of_getElem? (i := 2) rfl)) (hw _ (List.mem_of_getElem? (i := 3) rfl)) (hw _ (List.mem_of_getElem? (i := 2) rfl))
  have I0 : OInv s consts_1 s.vm s.heap (dom []) s.vm s.heap [] [] [(va, cv2), (fa, cf), (f1, cf1), (f2, cf2), (xa, cxh), (x1, cx1), (x2, cx2), (ea, ce)] := ⟨CHr.refl hCH, ext_refl _, fun _ h => (nomatch h), List.nodup_nil, fun _ h => (nomatch h), (fun q hq => by simp only [List.mem_cons, List.not_mem_nil, or_false] at hq; rcases hq with rfl | rfl | rfl | rfl | rfl | rfl | rfl | rfl <;> first | exact ⟨hcv, fun h => (nomatch h)⟩ | exact ⟨hcf, fun h => (nomatch h)⟩ | exact ⟨hcf1, fun h => (nomatch h)⟩ | exact ⟨hcf2, fun h => (nomatch h)⟩ | exact ⟨hcxh, fun h => (nomatch h)⟩ | exact ⟨hcx1, fun h => (nomatch h)⟩ | exact ⟨hcx2, fun h => (nomatch h)⟩ | exact ⟨hce, fun h => (nomatch h)⟩)⟩
  obtain ⟨n, o, h1, h2, h3, v, L, rfl, ⟨M, N, rfl, -⟩, -, hL, hq⟩ := c_law (l := l) hw hEL O2 hzc O4 hfm hSV hV hEV hEF hFF hSF hEX hFX hSX hSE hOE (List.mem_of_getElem? (i := 0) rfl) (List.mem_of_getElem? (i := 1) rfl) hGX hGF i0 i1 i2 i3 i4 p e ha hc hk s m _ below hf ((Spec.applies_iff_loose hf).mp happ).1 ⟨rfl, State.Warmed39.refl s, I0⟩ trivial
  refine ⟨n, _, h1, h2, h3, hpost _ _ _ _ _ _ ⟨Cond.after_iff.mpr rfl, Cond.after_iff.mpr (eq_i res_at (Term.int_eval (1)) rfl), trivial⟩ ⟨hq.1, hq.2.1, hq.2.2.1, (hq.2.2.2.sift fun y hy => Or.inr ((hL y hy).elim id fun z => (nomatch z))).mono (by decide) (by decide)⟩⟩
theorem main_1_1 : Claimed_1_1 := comes_1 fun _ _ _ _ _ _ h hF => ⟨h.1, hF⟩
theorem main_1_2 : Claimed_1_2 := comes_1 fun _ _ _ _ _ _ h hF => ⟨h.2.1, hF⟩
end Law2
end Jvm.Pilot.@@N@@
namespace Jvm.Pilot.@@N@@
open Jvm Jvm.ClassFile Sem Op Lib Jvm.Free Jvm.Stand Jvm.Pilot.@@N@@.Jvm.D
/-! MADE BY PROGRAM (witnessworld.py) out of the Statement's table words and the real class files: 26 classes; the members and pool entries that the words name. The judged class is class 1, her method 1. -/
namespace start1
open Jvm.ClassFile
def u (s : String) : CpInfo := .utf8 (stringToUtf16 s)
/-- a pool by its gaps: so many unusable entries, then the entry; so many at the end -/
def gap : Nat → List CpInfo → List CpInfo
  | 0, r => r
  | n + 1, r => .unusable :: gap n r
def poolList (es : List (Nat × CpInfo)) (last : Nat) : List CpInfo := es.foldr (fun e r => gap e.1 (e.2 :: r)) (gap last [])
def pool (es : List (Nat × CpInfo)) (last : Nat) : Array CpInfo := ⟨poolList es last⟩
def fileOf (pool : Array CpInfo) (this : Nat) (attrs : Array Attribute := #[]) (ms : Array MethodInfo := #[]) (fl : Nat := 33) (sup : Nat := 0) (ifs : Array Nat := #[]) (fds : Array FieldInfo := #[]) : ClassFile where
  minorVersion := 0
  majorVersion := 65
  constantPool := pool
  accessFlags := fl
  thisClass := this
  superClass := sup
  interfaces := ifs
  fields := fds
  methods := ms
  attributes := attrs
def plain (name : String) (sup : Option ClassId) : Class where
  name := name
  kind := .ordinary
  loader := none
  accessFlags := 33
  super := sup
  interfaces := #[]
  cf := none
  fields := #[]
  methods := #[]
  instanceTypes := #[]
  staticTypes := #[]
  resolved := #[]
  callSites := []
  init := .initialized
  statics := none
  mirror := none

def pool0 : Array CpInfo := pool [(5, u "<init>"), (0, u "()V"), (1, .class_ 10), (1, u "java/lang/Object"), (85, u "clone"), (0, u "()Ljava/lang/Object;")] 26

def k0c0 : Code := { maxStack := 0, maxLocals := 1, code := object_method_1_code, exceptionTable := #[], attributes := #[] }
def k0m0 : Method := { name := "<init>", desc := "()V", sig := { parameters := [], returnType := none }, accessFlags := 1, code := some k0c0 }
def k0m1 : Method := { name := "clone", desc := "()Ljava/lang/Object;", sig := { parameters := [], returnType := some (.object "java/lang/Object") }, accessFlags := 260, code := none }
/-- java/lang/Object -/
def k0 : Class := { plain "java/lang/Object" none with
  accessFlags := 33
  interfaces := #[]
  cf := some (fileOf pool0 8 #[] #[{ accessFlags := 1, nameIndex := 5, descriptorIndex := 6, attributes := #[] }, { accessFlags := 260, nameIndex := 96, descriptorIndex := 97, attributes := #[] }] 33 0 #[] #[])
  fields := #[]
  methods := #[k0m0, k0m1]
  instanceTypes := #[]
  staticTypes := #[]
  resolved := Array.replicate 124 none
  statics := none }

def pool1 : Array CpInfo := pool [(2, .class_ 4), (1, u "java/lang/Object"), (0, u "<init>"), (0, u "()V"), (0, .string 8), (0, u "X-Forwarded-For"), (0, .string 10), (0, u "Forwarded"), (0, .methodref 12 13), (0, .class_ 14), (0, .nameAndType 15 16), (0, u "java/lang/String"), (0, u "length"), (0, u "()I"), (0, .integer 2147483647), (0, .methodref 19 20), (0, .class_ 21), (0, .nameAndType 22 23), (0, u "com/example/cardea/cardea/request/HeaderNamedPinLaw"), (0, u "at"), (0, u "(Ljava/lang/String;ICI)C"), (0, .methodref 12 25), (0, .nameAndType 26 27), (0, u "charAt"), (0, u "(I)C"), (0, .methodref 19 29), (0, .nameAndType 30 31), (0, u "eqIgnoreCase"), (0, u "(CC)Z"), (0, .methodref 19 33), (0, .nameAndType 34 35), (0, u "cut"), (0, u "([CI)[C"), (0, .methodref 12 37), (0, .nameAndType 5 38), (0, u "([C)V"), (0, .fieldref 40 41), (0, .class_ 42), (0, .nameAndType 43 44), (0, u "com/example/cardea/cardea/request/TrustedProxies$Header"), (0, u "X_FORWARDED_FOR"), (0, u "Lcom/example/cardea/cardea/request/TrustedProxies$Header;"), (0, .fieldref 40 46), (0, .nameAndType 47 44), (0, u "FORWARDED"), (0, .methodref 40 49), (0, .nameAndType 50 51), (0, u "named"), (0, u "(Ljava/lang/String;)Ljava/util/Optional;"), (0, .methodref 53 54), (0, .class_ 55), (0, .nameAndType 56 57), (0, u "java/util/Optional"), (0, u "orElse"), (0, u "(Ljava/lang/Object;)Ljava/lang/Object;"), (0, .methodref 19 59), (0, .nameAndType 60 61), (0, u "cased"), (0, u "(CII)C"), (0, .methodref 19 63), (0, .nameAndType 64 65), (0, u "put"), (0, u "([C[CI)V"), (2, u "law"), (0, u "(IIIII)Z")] 9

def k1m0 : Method := { name := "<init>", desc := "()V", sig := { parameters := [], returnType := none }, accessFlags := 2, code := none }
def k1c1 : Code := { maxStack := 6, maxLocals := 17, code := code, exceptionTable := #[], attributes := #[] }
def k1m1 : Method := { name := "law", desc := "(IIIII)Z", sig := { parameters := [.int, .int, .int, .int, .int], returnType := some .boolean }, accessFlags := 9, code := some k1c1 }
def k1c2 : Code := { maxStack := 3, maxLocals := 4, code := method_3_code, exceptionTable := #[], attributes := #[] }
def k1m2 : Method := { name := "at", desc := "(Ljava/lang/String;ICI)C", sig := { parameters := [(.object "java/lang/String"), .int, .char, .int], returnType := some .char }, accessFlags := 10, code := some k1c2 }
def k1c3 : Code := { maxStack := 2, maxLocals := 3, code := method_4_code, exceptionTable := #[], attributes := #[] }
def k1m3 : Method := { name := "cased", desc := "(CII)C", sig := { parameters := [.char, .int, .int], returnType := some .char }, accessFlags := 10, code := some k1c3 }
def k1c4 : Code := { maxStack := 3, maxLocals := 2, code := method_5_code, exceptionTable := #[], attributes := #[] }
def k1m4 : Method := { name := "eqIgnoreCase", desc := "(CC)Z", sig := { parameters := [.char, .char], returnType := some .boolean }, accessFlags := 10, code := some k1c4 }
def k1c5 : Code := { maxStack := 3, maxLocals := 3, code := method_6_code, exceptionTable := #[], attributes := #[] }
def k1m5 : Method := { name := "cut", desc := "([CI)[C", sig := { parameters := [(.array .char), .int], returnType := some (.array .char) }, accessFlags := 10, code := some k1c5 }
def k1c6 : Code := { maxStack := 4, maxLocals := 3, code := method_7_code, exceptionTable := #[], attributes := #[] }
def k1m6 : Method := { name := "put", desc := "([C[CI)V", sig := { parameters := [(.array .char), (.array .char), .int], returnType := none }, accessFlags := 10, code := some k1c6 }
/-- com/example/cardea/cardea/request/HeaderNamedPinLaw -/
def k1 : Class := { plain "com/example/cardea/cardea/request/HeaderNamedPinLaw" (some 0) with
  accessFlags := 49
  interfaces := #[]
  cf := some (fileOf pool1 19 #[] #[{ accessFlags := 2, nameIndex := 5, descriptorIndex := 6, attributes := #[] }, { accessFlags := 9, nameIndex := 68, descriptorIndex := 69, attributes := #[] }, { accessFlags := 10, nameIndex := 22, descriptorIndex := 23, attributes := #[] }, { accessFlags := 10, nameIndex := 60, descriptorIndex := 61, attributes := #[] }, { accessFlags := 10, nameIndex := 30, descriptorIndex := 31, attributes := #[] }, { accessFlags := 10, nameIndex := 34, descriptorIndex := 35, attributes := #[] }, { accessFlags := 10, nameIndex := 64, descriptorIndex := 65, attributes := #[] }] 49 2 #[] #[])
  fields := #[]
  methods := #[k1m0, k1m1, k1m2, k1m3, k1m4, k1m5, k1m6]
  instanceTypes := #[]
  staticTypes := #[]
  resolved := Array.replicate 79 none
  statics := none }

def pool2 : Array CpInfo := pool [(1, .class_ 2), (0, u "java/io/Serializable"), (0, .class_ 4), (0, u "java/lang/Object")] 2

/-- java/io/Serializable -/
def k2 : Class := { plain "java/io/Serializable" (some 0) with
  accessFlags := 1537
  interfaces := #[]
  cf := some (fileOf pool2 1 #[] #[] 1537 3 #[] #[])
  fields := #[]
  methods := #[]
  instanceTypes := #[]
  staticTypes := #[]
  resolved := Array.replicate 7 none
  statics := none }

def pool3 : Array CpInfo := pool [(1, .class_ 2), (0, u "java/lang/Comparable"), (0, .class_ 4), (0, u "java/lang/Object")] 7

/-- java/lang/Comparable -/
def k3 : Class := { plain "java/lang/Comparable" (some 0) with
  accessFlags := 1537
  interfaces := #[]
  cf := some (fileOf pool3 1 #[] #[] 1537 3 #[] #[])
  fields := #[]
  methods := #[]
  instanceTypes := #[]
  staticTypes := #[]
  resolved := Array.replicate 12 none
  statics := none }

def pool4 : Array CpInfo := pool [(2, .class_ 4), (1, u "java/lang/CharSequence"), (42, .class_ 48), (0, u "java/lang/CharSequence$1CodePointIterator"), (10, .class_ 60), (0, u "java/lang/CharSequence$1CharIterator"), (5, .class_ 67), (0, u "java/lang/Object")] 63

/-- java/lang/CharSequence -/
def k4 : Class := { plain "java/lang/CharSequence" (some 0) with
  accessFlags := 1537
  interfaces := #[]
  cf := some (fileOf pool4 2 #[.nestMembers #[47, 59]] #[] 1537 66 #[] #[])
  fields := #[]
  methods := #[]
  instanceTypes := #[]
  staticTypes := #[]
  resolved := Array.replicate 131 none
  statics := none }

def pool5 : Array CpInfo := pool [(1, .class_ 2), (0, u "java/lang/constant/Constable"), (0, .class_ 4), (0, u "java/lang/Object")] 6

/-- java/lang/constant/Constable -/
def k5 : Class := { plain "java/lang/constant/Constable" (some 0) with
  accessFlags := 1537
  interfaces := #[]
  cf := some (fileOf pool5 1 #[] #[] 1537 3 #[] #[])
  fields := #[]
  methods := #[]
  instanceTypes := #[]
  staticTypes := #[]
  resolved := Array.replicate 11 none
  statics := none }

def pool6 : Array CpInfo := pool [(1, .class_ 2), (0, u "java/lang/constant/ConstantDesc"), (0, .class_ 4), (0, u "java/lang/Object")] 32

/-- java/lang/constant/ConstantDesc -/
def k6 : Class := { plain "java/lang/constant/ConstantDesc" (some 0) with
  accessFlags := 1537
  interfaces := #[]
  cf := some (fileOf pool6 1 #[] #[] 1537 3 #[] #[])
  fields := #[]
  methods := #[]
  instanceTypes := #[]
  staticTypes := #[]
  resolved := Array.replicate 37 none
  statics := none }

def pool7 : Array CpInfo := pool [(1, .methodref 2 3), (0, .class_ 4), (0, .nameAndType 5 6), (0, u "java/lang/Object"), (0, u "<init>"), (0, u "()V"), (2, .fieldref 10 11), (0, .class_ 12), (0, .nameAndType 13 14), (0, u "java/lang/String"), (0, u "value"), (0, u "[B"), (0, .fieldref 10 16), (0, .nameAndType 17 18), (0, u "coder"), (0, u "B"), (2, u "hash"), (0, u "I"), (2, u "hashIsZero"), (0, u "Z"), (0, .methodref 10 28), (0, .nameAndType 5 29), (0, u "([CIILjava/lang/Void;)V"), (8, .fieldref 10 39), (0, .nameAndType 40 26), (0, u "COMPACT_STRINGS"), (1, .class_ 44), (1, u "java/lang/StringUTF16"), (0, u "compress"), (1, .methodref 42 48), (0, .nameAndType 49 50), (0, u "coderFromArrayLen"), (0, u "([BI)B"), (56, .class_ 109), (1, u "java/lang/StringLatin1"), (32, u "()Z"), (34, .methodref 42 178), (0, .nameAndType 45 179), (0, u "([CII)[B"), (154, u "()I"), (0, .methodref 10 336), (0, .nameAndType 17 337), (0, u "()B"), (25, u "([BI)C"), (27, u "(II)V"), (35, u "(I)C"), (64, .methodref 10 493), (0, .nameAndType 494 142), (0, u "isLatin1"), (0, .methodref 107 496), (0, .nameAndType 497 363), (0, u "charAt"), (3, u "checkIndex"), (3, .methodref 10 506), (0, .nameAndType 507 334), (0, u "length"), (67, .class_ 576), (0, u "java/lang/CharSequence"), (5, .methodref 10 583), (0, .nameAndType 584 585), (0, u "regionMatches"), (0, u "(ZILjava/lang/String;II)Z"), (13, u "CASE_INSENSITIVE_ORDER"), (0, u "Ljava/util/Comparator;"), (12, .methodref 107 614), (0, .nameAndType 615 616), (0, u "regionMatchesCI"), (0, u "([BI[BII)Z"), (393, u "([C)V"), (42, .fieldref 1054 1055), (0, .class_ 1056), (0, .nameAndType 1057 1058), (0, u "jdk/internal/util/Preconditions"), (0, u "SIOOBE_FORMATTER"), (0, u "Ljava/util/function/BiFunction;"), (0, .methodref 1054 1060), (0, .nameAndType 501 1061), (0, u "(IILjava/util/function/BiFunction;)I"), (39, u "serialPersistentFields"), (0, u "[Ljava/io/ObjectStreamField;"), (0, .class_ 1104), (0, u "java/lang/String$CaseInsensitiveComparator"), (1, .class_ 1107), (0, u "java/io/Serializable"), (0, .class_ 1109), (0, u "java/lang/Comparable"), (0, .class_ 1111), (0, u "java/lang/constant/Constable"), (0, .class_ 1113), (0, u "java/lang/constant/ConstantDesc"), (2, u "serialVersionUID"), (0, u "J"), (3, u "REPL"), (0, u "C"), (2, u "LATIN1"), (1, u "UTF16"), (128, u "equalsIgnoreCase"), (0, u "(Ljava/lang/String;)Z")] 193

def k7m0 : Method := { name := "<init>", desc := "()V", sig := { parameters := [], returnType := none }, accessFlags := 1, code := none }
def k7c1 : Code := { maxStack := 5, maxLocals := 2, code := jdk_42_method_3_code, exceptionTable := #[], attributes := #[] }
def k7m1 : Method := { name := "<init>", desc := "([C)V", sig := { parameters := [(.array .char)], returnType := none }, accessFlags := 1, code := some k7c1 }
def k7c2 : Code := { maxStack := 2, maxLocals := 1, code := jdk_42_method_54_code, exceptionTable := #[], attributes := #[] }
def k7m2 : Method := { name := "length", desc := "()I", sig := { parameters := [], returnType := some .int }, accessFlags := 1, code := some k7c2 }
def k7c3 : Code := { maxStack := 2, maxLocals := 2, code := jdk_42_method_56_code, exceptionTable := #[], attributes := #[] }
def k7m3 : Method := { name := "charAt", desc := "(I)C", sig := { parameters := [.int], returnType := some .char }, accessFlags := 1, code := some k7c3 }
def k7c4 : Code := { maxStack := 6, maxLocals := 2, code := jdk_42_method_70_code, exceptionTable := #[], attributes := #[] }
def k7m4 : Method := { name := "equalsIgnoreCase", desc := "(Ljava/lang/String;)Z", sig := { parameters := [(.object "java/lang/String")], returnType := some .boolean }, accessFlags := 1, code := some k7c4 }
def k7c5 : Code := { maxStack := 6, maxLocals := 9, code := jdk_42_method_74_code, exceptionTable := #[], attributes := #[] }
def k7m5 : Method := { name := "regionMatches", desc := "(ZILjava/lang/String;II)Z", sig := { parameters := [.boolean, .int, (.object "java/lang/String"), .int, .int], returnType := some .boolean }, accessFlags := 1, code := some k7c5 }
def k7c6 : Code := { maxStack := 4, maxLocals := 6, code := jdk_42_method_149_code, exceptionTable := #[], attributes := #[] }
def k7m6 : Method := { name := "<init>", desc := "([CIILjava/lang/Void;)V", sig := { parameters := [(.array .char), .int, .int, (.object "java/lang/Void")], returnType := none }, accessFlags := 2, code := some k7c6 }
def k7c7 : Code := { maxStack := 1, maxLocals := 1, code := jdk_42_method_152_code, exceptionTable := #[], attributes := #[] }
def k7m7 : Method := { name := "coder", desc := "()B", sig := { parameters := [], returnType := some .byte }, accessFlags := 0, code := some k7c7 }
def k7c8 : Code := { maxStack := 1, maxLocals := 1, code := jdk_42_method_154_code, exceptionTable := #[], attributes := #[] }
def k7m8 : Method := { name := "isLatin1", desc := "()Z", sig := { parameters := [], returnType := some .boolean }, accessFlags := 0, code := some k7c8 }
def k7c9 : Code := { maxStack := 3, maxLocals := 2, code := jdk_42_method_155_code, exceptionTable := #[], attributes := #[] }
def k7m9 : Method := { name := "checkIndex", desc := "(II)V", sig := { parameters := [.int, .int], returnType := none }, accessFlags := 8, code := some k7c9 }
/-- java/lang/String -/
def k7 : Class := { plain "java/lang/String" (some 0) with
  accessFlags := 49
  interfaces := #[2, 3, 4, 5, 6]
  cf := some (fileOf pool7 10 #[.nestMembers #[1103]] #[{ accessFlags := 1, nameIndex := 5, descriptorIndex := 6, attributes := #[] }, { accessFlags := 1, nameIndex := 5, descriptorIndex := 1010, attributes := #[] }, { accessFlags := 1, nameIndex := 507, descriptorIndex := 334, attributes := #[] }, { accessFlags := 1, nameIndex := 497, descriptorIndex := 427, attributes := #[] }, { accessFlags := 1, nameIndex := 1256, descriptorIndex := 1257, attributes := #[] }, { accessFlags := 1, nameIndex := 584, descriptorIndex := 585, attributes := #[] }, { accessFlags := 2, nameIndex := 5, descriptorIndex := 29, attributes := #[] }, { accessFlags := 0, nameIndex := 17, descriptorIndex := 337, attributes := #[] }, { accessFlags := 0, nameIndex := 494, descriptorIndex := 142, attributes := #[] }, { accessFlags := 8, nameIndex := 501, descriptorIndex := 391, attributes := #[] }] 49 2 #[1106, 1108, 575, 1110, 1112] #[{ accessFlags := 18, nameIndex := 13, descriptorIndex := 14, attributes := #[] }, { accessFlags := 18, nameIndex := 17, descriptorIndex := 18, attributes := #[] }, { accessFlags := 2, nameIndex := 21, descriptorIndex := 22, attributes := #[] }, { accessFlags := 2, nameIndex := 25, descriptorIndex := 26, attributes := #[] }, { accessFlags := 26, nameIndex := 1116, descriptorIndex := 1117, attributes := #[] }, { accessFlags := 24, nameIndex := 40, descriptorIndex := 26, attributes := #[] }, { accessFlags := 26, nameIndex := 1101, descriptorIndex := 1102, attributes := #[] }, { accessFlags := 26, nameIndex := 1121, descriptorIndex := 1122, attributes := #[] }, { accessFlags := 25, nameIndex := 599, descriptorIndex := 600, attributes := #[] }, { accessFlags := 24, nameIndex := 1125, descriptorIndex := 18, attributes := #[] }, { accessFlags := 24, nameIndex := 1127, descriptorIndex := 18, attributes := #[] }])
  fields := #[{ name := "value", type := (.array .byte), accessFlags := 18, slot := 0, constantValue := 0 }, { name := "coder", type := .byte, accessFlags := 18, slot := 1, constantValue := 0 }, { name := "hash", type := .int, accessFlags := 2, slot := 2, constantValue := 0 }, { name := "hashIsZero", type := .boolean, accessFlags := 2, slot := 3, constantValue := 0 }, { name := "serialVersionUID", type := .long, accessFlags := 26, slot := 0, constantValue := 0 }, { name := "COMPACT_STRINGS", type := .boolean, accessFlags := 24, slot := 1, constantValue := 0 }, { name := "serialPersistentFields", type := (.array (.object "java/io/ObjectStreamField")), accessFlags := 26, slot := 2, constantValue := 0 }, { name := "REPL", type := .char, accessFlags := 26, slot := 3, constantValue := 0 }, { name := "CASE_INSENSITIVE_ORDER", type := (.object "java/util/Comparator"), accessFlags := 25, slot := 4, constantValue := 0 }, { name := "LATIN1", type := .byte, accessFlags := 24, slot := 5, constantValue := 0 }, { name := "UTF16", type := .byte, accessFlags := 24, slot := 6, constantValue := 0 }]
  methods := #[k7m0, k7m1, k7m2, k7m3, k7m4, k7m5, k7m6, k7m7, k7m8, k7m9]
  instanceTypes := #[(.array .byte), .byte, .int, .boolean]
  staticTypes := #[.long, .boolean, (.array (.object "java/io/ObjectStreamField")), .char, (.object "java/util/Comparator"), .byte, .byte]
  resolved := Array.replicate 1451 none
  statics := some 0 }

def pool8 : Array CpInfo := pool [(1, .class_ 2), (0, u "java/lang/String"), (1, .class_ 6), (1, u "java/lang/Object"), (0, u "<init>"), (0, u "()V"), (0, .methodref 1 10), (0, .nameAndType 11 12), (0, u "checkIndex"), (0, u "(II)V"), (1, .class_ 16), (1, u "java/lang/StringLatin1"), (36, u "([BI)C"), (13, .class_ 69), (1, u "java/lang/CharacterDataLatin1"), (51, u "$assertionsDisabled"), (0, u "Z"), (30, .methodref 67 154), (0, .nameAndType 155 156), (0, u "equalsIgnoreCase"), (0, u "(BB)Z"), (64, .class_ 223), (1, u "java/lang/StringLatin1$LinesSpliterator"), (28, u "charAt"), (87, u "regionMatchesCI"), (0, u "([BI[BII)Z"), (48, .class_ 391), (0, u "java/lang/StringLatin1$CharsSpliterator")] 3

def k8m0 : Method := { name := "<init>", desc := "()V", sig := { parameters := [], returnType := none }, accessFlags := 0, code := none }
def k8c1 : Code := { maxStack := 2, maxLocals := 2, code := jdk_43_method_2_code, exceptionTable := #[], attributes := #[] }
def k8m1 : Method := { name := "charAt", desc := "([BI)C", sig := { parameters := [(.array .byte), .int], returnType := some .char }, accessFlags := 9, code := some k8c1 }
def k8c2 : Code := { maxStack := 2, maxLocals := 8, code := jdk_43_method_30_code, exceptionTable := #[], attributes := #[] }
def k8m2 : Method := { name := "regionMatchesCI", desc := "([BI[BII)Z", sig := { parameters := [(.array .byte), .int, (.array .byte), .int, .int], returnType := some .boolean }, accessFlags := 9, code := some k8c2 }
/-- java/lang/StringLatin1 -/
def k8 : Class := { plain "java/lang/StringLatin1" (some 0) with
  accessFlags := 48
  interfaces := #[]
  cf := some (fileOf pool8 14 #[.nestMembers #[390, 221]] #[{ accessFlags := 0, nameIndex := 7, descriptorIndex := 8, attributes := #[] }, { accessFlags := 9, nameIndex := 252, descriptorIndex := 53, attributes := #[] }, { accessFlags := 9, nameIndex := 340, descriptorIndex := 341, attributes := #[] }] 48 4 #[] #[{ accessFlags := 4120, nameIndex := 121, descriptorIndex := 122, attributes := #[] }])
  fields := #[{ name := "$assertionsDisabled", type := .boolean, accessFlags := 4120, slot := 0, constantValue := 0 }]
  methods := #[k8m0, k8m1, k8m2]
  instanceTypes := #[]
  staticTypes := #[.boolean]
  resolved := Array.replicate 395 none
  statics := none }

def pool9 : Array CpInfo := pool [(2, .class_ 4), (1, u "java/lang/Object"), (0, u "<init>"), (0, u "()V"), (17, .class_ 26), (1, u "jdk/internal/util/Preconditions"), (6, u "checkIndex"), (21, .class_ 56), (0, u "jdk/internal/util/Preconditions$4"), (57, .class_ 115), (0, u "jdk/internal/util/Preconditions$1"), (7, u "SIOOBE_FORMATTER"), (0, u "Ljava/util/function/BiFunction;"), (0, .class_ 126), (0, u "jdk/internal/util/Preconditions$2"), (3, u "AIOOBE_FORMATTER"), (0, .class_ 132), (0, u "jdk/internal/util/Preconditions$3"), (3, u "IOOBE_FORMATTER"), (41, u "(IILjava/util/function/BiFunction;)I")] 15

def k9m0 : Method := { name := "<init>", desc := "()V", sig := { parameters := [], returnType := none }, accessFlags := 1, code := none }
def k9c1 : Code := { maxStack := 3, maxLocals := 3, code := jdk_41_method_11_code, exceptionTable := #[], attributes := #[] }
def k9m1 : Method := { name := "checkIndex", desc := "(IILjava/util/function/BiFunction;)I", sig := { parameters := [.int, .int, (.object "java/util/function/BiFunction")], returnType := some .int }, accessFlags := 9, code := some k9c1 }
/-- jdk/internal/util/Preconditions -/
def k9 : Class := { plain "jdk/internal/util/Preconditions" (some 0) with
  accessFlags := 33
  interfaces := #[]
  cf := some (fileOf pool9 24 #[.nestMembers #[55, 131, 125, 114]] #[{ accessFlags := 1, nameIndex := 5, descriptorIndex := 6, attributes := #[] }, { accessFlags := 9, nameIndex := 33, descriptorIndex := 178, attributes := #[] }] 33 2 #[] #[{ accessFlags := 25, nameIndex := 123, descriptorIndex := 124, attributes := #[] }, { accessFlags := 25, nameIndex := 130, descriptorIndex := 124, attributes := #[] }, { accessFlags := 25, nameIndex := 136, descriptorIndex := 124, attributes := #[] }])
  fields := #[{ name := "SIOOBE_FORMATTER", type := (.object "java/util/function/BiFunction"), accessFlags := 25, slot := 0, constantValue := 0 }, { name := "AIOOBE_FORMATTER", type := (.object "java/util/function/BiFunction"), accessFlags := 25, slot := 1, constantValue := 0 }, { name := "IOOBE_FORMATTER", type := (.object "java/util/function/BiFunction"), accessFlags := 25, slot := 2, constantValue := 0 }]
  methods := #[k9m0, k9m1]
  instanceTypes := #[]
  staticTypes := #[(.object "java/util/function/BiFunction"), (.object "java/util/function/BiFunction"), (.object "java/util/function/BiFunction")]
  resolved := Array.replicate 194 none
  statics := some 1 }

def pool10 : Array CpInfo := pool [(6, .class_ 8), (1, u "java/lang/Object"), (0, u "<init>"), (0, u "()V"), (1, .class_ 14), (1, u "java/lang/StringUTF16"), (31, u "$assertionsDisabled"), (0, u "Z"), (13, u "HI_BYTE_SHIFT"), (0, u "I"), (2, u "LO_BYTE_SHIFT"), (49, .methodref 12 116), (0, .nameAndType 117 118), (0, u "compress"), (0, u "([CI[BII)I"), (3, u "([CII)[B"), (138, u "coderFromArrayLen"), (0, u "([BI)B"), (106, .class_ 371), (1, u "java/lang/StringUTF16$LinesSpliterator"), (58, u "MAX_LENGTH"), (196, .class_ 628), (0, u "java/lang/StringUTF16$CodePointsSpliterator"), (0, .class_ 630), (0, u "java/lang/StringUTF16$CharsSpliterator")] 4

def k10m0 : Method := { name := "<init>", desc := "()V", sig := { parameters := [], returnType := none }, accessFlags := 0, code := none }
def k10c1 : Code := { maxStack := 2, maxLocals := 2, code := jdk_52_method_15_code, exceptionTable := #[], attributes := #[] }
def k10m1 : Method := { name := "coderFromArrayLen", desc := "([BI)B", sig := { parameters := [(.array .byte), .int], returnType := some .byte }, accessFlags := 8, code := some k10c1 }
def k10c2 : Code := { maxStack := 5, maxLocals := 6, code := jdk_52_method_16_code, exceptionTable := #[], attributes := #[] }
def k10m2 : Method := { name := "compress", desc := "([CII)[B", sig := { parameters := [(.array .char), .int, .int], returnType := some (.array .byte) }, accessFlags := 9, code := some k10c2 }
def k10c3 : Code := { maxStack := 3, maxLocals := 7, code := jdk_52_method_21_code, exceptionTable := #[], attributes := #[] }
def k10m3 : Method := { name := "compress", desc := "([CI[BII)I", sig := { parameters := [(.array .char), .int, (.array .byte), .int, .int], returnType := some .int }, accessFlags := 9, code := some k10c3 }
/-- java/lang/StringUTF16 -/
def k10 : Class := { plain "java/lang/StringUTF16" (some 0) with
  accessFlags := 48
  interfaces := #[]
  cf := some (fileOf pool10 12 #[.nestMembers #[627, 629, 369]] #[{ accessFlags := 0, nameIndex := 9, descriptorIndex := 10, attributes := #[] }, { accessFlags := 8, nameIndex := 261, descriptorIndex := 262, attributes := #[] }, { accessFlags := 9, nameIndex := 117, descriptorIndex := 122, attributes := #[] }, { accessFlags := 9, nameIndex := 117, descriptorIndex := 118, attributes := #[] }] 48 6 #[] #[{ accessFlags := 26, nameIndex := 61, descriptorIndex := 62, attributes := #[] }, { accessFlags := 26, nameIndex := 65, descriptorIndex := 62, attributes := #[] }, { accessFlags := 24, nameIndex := 430, descriptorIndex := 62, attributes := #[] }, { accessFlags := 4120, nameIndex := 46, descriptorIndex := 47, attributes := #[] }])
  fields := #[{ name := "HI_BYTE_SHIFT", type := .int, accessFlags := 26, slot := 0, constantValue := 0 }, { name := "LO_BYTE_SHIFT", type := .int, accessFlags := 26, slot := 1, constantValue := 0 }, { name := "MAX_LENGTH", type := .int, accessFlags := 24, slot := 2, constantValue := 0 }, { name := "$assertionsDisabled", type := .boolean, accessFlags := 4120, slot := 3, constantValue := 0 }]
  methods := #[k10m0, k10m1, k10m2, k10m3]
  instanceTypes := #[]
  staticTypes := #[.int, .int, .int, .boolean]
  resolved := Array.replicate 635 none
  statics := none }

def pool11 : Array CpInfo := pool [(2, .class_ 4), (1, u "java/lang/Enum"), (0, u "name"), (0, u "Ljava/lang/String;"), (2, u "ordinal"), (0, u "I"), (1, .class_ 14), (1, u "java/lang/Object"), (4, u "hash"), (86, .class_ 108), (1, u "java/lang/Enum$EnumDesc"), (2, .class_ 112), (0, u "java/lang/constant/Constable"), (0, .class_ 114), (0, u "java/lang/Comparable"), (0, .class_ 116), (0, u "java/io/Serializable")] 87

/-- java/lang/Enum -/
def k11 : Class := { plain "java/lang/Enum" (some 0) with
  accessFlags := 1057
  interfaces := #[5, 3, 2]
  cf := some (fileOf pool11 2 #[.nestMembers #[106]] #[] 1057 12 #[111, 113, 115] #[{ accessFlags := 18, nameIndex := 5, descriptorIndex := 6, attributes := #[] }, { accessFlags := 18, nameIndex := 9, descriptorIndex := 10, attributes := #[] }, { accessFlags := 2, nameIndex := 19, descriptorIndex := 10, attributes := #[] }])
  fields := #[{ name := "name", type := (.object "java/lang/String"), accessFlags := 18, slot := 0, constantValue := 0 }, { name := "ordinal", type := .int, accessFlags := 18, slot := 1, constantValue := 0 }, { name := "hash", type := .int, accessFlags := 2, slot := 2, constantValue := 0 }]
  methods := #[]
  instanceTypes := #[(.object "java/lang/String"), .int, .int]
  staticTypes := #[]
  resolved := Array.replicate 204 none
  statics := none }

def pool12 : Array CpInfo := pool [(1, .class_ 2), (0, u "com/example/cardea/cardea/request/TrustedProxies$Header"), (2, u "FORWARDED"), (0, u "Lcom/example/cardea/cardea/request/TrustedProxies$Header;"), (2, u "X_FORWARDED_FOR"), (0, .fieldref 1 11), (0, .nameAndType 12 13), (0, u "$VALUES"), (0, u "[Lcom/example/cardea/cardea/request/TrustedProxies$Header;"), (0, .methodref 15 16), (0, .class_ 13), (0, .nameAndType 17 18), (0, u "clone"), (0, u "()Ljava/lang/Object;"), (1, .class_ 22), (1, u "java/lang/Enum"), (6, .fieldref 1 30), (0, .nameAndType 31 32), (0, u "headerName"), (0, u "Ljava/lang/String;"), (0, .methodref 1 34), (0, .nameAndType 35 36), (0, u "values"), (0, u "()[Lcom/example/cardea/cardea/request/TrustedProxies$Header;"), (0, .methodref 38 39), (0, .class_ 40), (0, .nameAndType 41 42), (0, u "java/lang/String"), (0, u "equalsIgnoreCase"), (0, u "(Ljava/lang/String;)Z"), (0, .methodref 44 45), (0, .class_ 46), (0, .nameAndType 47 48), (0, u "java/util/Optional"), (0, u "of"), (0, u "(Ljava/lang/Object;)Ljava/util/Optional;"), (0, .methodref 44 50), (0, .nameAndType 51 52), (0, u "empty"), (0, u "()Ljava/util/Optional;"), (19, u "named"), (0, u "(Ljava/lang/String;)Ljava/util/Optional;"), (8, .class_ 83), (0, u "com/example/cardea/cardea/request/TrustedProxies")] 2

def k12c0 : Code := { maxStack := 1, maxLocals := 0, code := prog_28_method_1_code, exceptionTable := #[], attributes := #[] }
def k12m0 : Method := { name := "values", desc := "()[Lcom/example/cardea/cardea/request/TrustedProxies$Header;", sig := { parameters := [], returnType := some (.array (.object "com/example/cardea/cardea/request/TrustedProxies$Header")) }, accessFlags := 9, code := some k12c0 }
def k12c1 : Code := { maxStack := 2, maxLocals := 5, code := prog_28_method_5_code, exceptionTable := #[], attributes := #[] }
def k12m1 : Method := { name := "named", desc := "(Ljava/lang/String;)Ljava/util/Optional;", sig := { parameters := [(.object "java/lang/String")], returnType := some (.object "java/util/Optional") }, accessFlags := 9, code := some k12c1 }
/-- com/example/cardea/cardea/request/TrustedProxies$Header -/
def k12 : Class := { plain "com/example/cardea/cardea/request/TrustedProxies$Header" (some 11) with
  accessFlags := 16433
  interfaces := #[]
  cf := some (fileOf pool12 1 #[.nestHost 82] #[{ accessFlags := 9, nameIndex := 35, descriptorIndex := 36, attributes := #[] }, { accessFlags := 9, nameIndex := 72, descriptorIndex := 73, attributes := #[] }] 16433 20 #[] #[{ accessFlags := 16409, nameIndex := 5, descriptorIndex := 6, attributes := #[] }, { accessFlags := 16409, nameIndex := 9, descriptorIndex := 6, attributes := #[] }, { accessFlags := 18, nameIndex := 31, descriptorIndex := 32, attributes := #[] }, { accessFlags := 4122, nameIndex := 12, descriptorIndex := 13, attributes := #[] }])
  fields := #[{ name := "FORWARDED", type := (.object "com/example/cardea/cardea/request/TrustedProxies$Header"), accessFlags := 16409, slot := 0, constantValue := 0 }, { name := "X_FORWARDED_FOR", type := (.object "com/example/cardea/cardea/request/TrustedProxies$Header"), accessFlags := 16409, slot := 1, constantValue := 0 }, { name := "headerName", type := (.object "java/lang/String"), accessFlags := 18, slot := 3, constantValue := 0 }, { name := "$VALUES", type := (.array (.object "com/example/cardea/cardea/request/TrustedProxies$Header")), accessFlags := 4122, slot := 2, constantValue := 0 }]
  methods := #[k12m0, k12m1]
  instanceTypes := #[(.object "java/lang/String"), .int, .int, (.object "java/lang/String")]
  staticTypes := #[(.object "com/example/cardea/cardea/request/TrustedProxies$Header"), (.object "com/example/cardea/cardea/request/TrustedProxies$Header"), (.array (.object "com/example/cardea/cardea/request/TrustedProxies$Header"))]
  resolved := Array.replicate 86 none
  statics := some 2 }

def pool13 : Array CpInfo := pool [(1, .class_ 2), (0, u "java/lang/Cloneable"), (0, .class_ 4), (0, u "java/lang/Object")] 2

/-- java/lang/Cloneable -/
def k13 : Class := { plain "java/lang/Cloneable" (some 0) with
  accessFlags := 1537
  interfaces := #[]
  cf := some (fileOf pool13 1 #[] #[] 1537 3 #[] #[])
  fields := #[]
  methods := #[]
  instanceTypes := #[]
  staticTypes := #[]
  resolved := Array.replicate 7 none
  statics := none }

def pool14 : Array CpInfo := pool [(1, .fieldref 2 3), (0, .class_ 4), (0, .nameAndType 5 6), (0, u "java/util/Optional"), (0, u "EMPTY"), (0, u "Ljava/util/Optional;"), (0, .methodref 8 9), (0, .class_ 10), (0, .nameAndType 11 12), (0, u "java/lang/Object"), (0, u "<init>"), (0, u "()V"), (0, .fieldref 2 14), (0, .nameAndType 15 16), (0, u "value"), (0, u "Ljava/lang/Object;"), (0, .methodref 18 19), (0, .class_ 20), (0, .nameAndType 21 22), (0, u "java/util/Objects"), (0, u "requireNonNull"), (0, u "(Ljava/lang/Object;)Ljava/lang/Object;"), (0, .methodref 2 24), (0, .nameAndType 11 25), (0, u "(Ljava/lang/Object;)V"), (29, u "empty"), (0, u "()Ljava/util/Optional;"), (8, u "(Ljava/lang/Object;)Ljava/util/Optional;"), (16, u "of"), (82, u "orElse")] 21

def k14c0 : Code := { maxStack := 1, maxLocals := 1, code := jdk_32_method_1_code, exceptionTable := #[], attributes := #[] }
def k14m0 : Method := { name := "empty", desc := "()Ljava/util/Optional;", sig := { parameters := [], returnType := some (.object "java/util/Optional") }, accessFlags := 9, code := some k14c0 }
def k14c1 : Code := { maxStack := 2, maxLocals := 2, code := jdk_32_method_2_code, exceptionTable := #[], attributes := #[] }
def k14m1 : Method := { name := "<init>", desc := "(Ljava/lang/Object;)V", sig := { parameters := [(.object "java/lang/Object")], returnType := none }, accessFlags := 2, code := some k14c1 }
def k14c2 : Code := { maxStack := 3, maxLocals := 1, code := jdk_32_method_3_code, exceptionTable := #[], attributes := #[] }
def k14m2 : Method := { name := "of", desc := "(Ljava/lang/Object;)Ljava/util/Optional;", sig := { parameters := [(.object "java/lang/Object")], returnType := some (.object "java/util/Optional") }, accessFlags := 9, code := some k14c2 }
def k14c3 : Code := { maxStack := 1, maxLocals := 2, code := jdk_32_method_15_code, exceptionTable := #[], attributes := #[] }
def k14m3 : Method := { name := "orElse", desc := "(Ljava/lang/Object;)Ljava/lang/Object;", sig := { parameters := [(.object "java/lang/Object")], returnType := some (.object "java/lang/Object") }, accessFlags := 1, code := some k14c3 }
/-- java/util/Optional -/
def k14 : Class := { plain "java/util/Optional" (some 0) with
  accessFlags := 49
  interfaces := #[]
  cf := some (fileOf pool14 2 #[] #[{ accessFlags := 9, nameIndex := 55, descriptorIndex := 56, attributes := #[] }, { accessFlags := 2, nameIndex := 11, descriptorIndex := 25, attributes := #[] }, { accessFlags := 9, nameIndex := 82, descriptorIndex := 65, attributes := #[] }, { accessFlags := 1, nameIndex := 165, descriptorIndex := 22, attributes := #[] }] 49 8 #[] #[{ accessFlags := 26, nameIndex := 5, descriptorIndex := 6, attributes := #[] }, { accessFlags := 18, nameIndex := 15, descriptorIndex := 16, attributes := #[] }])
  fields := #[{ name := "EMPTY", type := (.object "java/util/Optional"), accessFlags := 26, slot := 0, constantValue := 0 }, { name := "value", type := (.object "java/lang/Object"), accessFlags := 18, slot := 0, constantValue := 0 }]
  methods := #[k14m0, k14m1, k14m2, k14m3]
  instanceTypes := #[(.object "java/lang/Object")]
  staticTypes := #[(.object "java/util/Optional")]
  resolved := Array.replicate 187 none
  statics := some 3 }

def pool15 : Array CpInfo := pool [(2, .class_ 4), (1, u "java/lang/Object"), (0, u "<init>"), (0, u "()V"), (1, .class_ 10), (1, u "java/lang/CharacterData")] 75

def k15m0 : Method := { name := "<init>", desc := "()V", sig := { parameters := [], returnType := none }, accessFlags := 0, code := none }
/-- java/lang/CharacterData -/
def k15 : Class := { plain "java/lang/CharacterData" (some 0) with
  accessFlags := 1056
  interfaces := #[]
  cf := some (fileOf pool15 8 #[] #[{ accessFlags := 0, nameIndex := 5, descriptorIndex := 6, attributes := #[] }] 1056 2 #[] #[])
  fields := #[]
  methods := #[k15m0]
  instanceTypes := #[]
  staticTypes := #[]
  resolved := Array.replicate 86 none
  statics := none }

def pool16 : Array CpInfo := pool [(2, .class_ 4), (1, u "java/lang/CharacterDataLatin1"), (0, u "A"), (0, u "[I"), (2, u "B"), (0, u "[C"), (16, u "DIGITS"), (0, u "[B"), (8, u "sharpsMap"), (1, .class_ 41), (1, u "java/lang/CharacterData"), (0, u "<init>"), (0, u "()V"), (3, u "instance"), (0, u "Ljava/lang/CharacterDataLatin1;"), (66, u "equalsIgnoreCase"), (0, u "(BB)Z")] 24

def k16c0 : Code := { maxStack := 3, maxLocals := 3, code := jdk_116_method_22_code, exceptionTable := #[], attributes := #[] }
def k16m0 : Method := { name := "equalsIgnoreCase", desc := "(BB)Z", sig := { parameters := [.byte, .byte], returnType := some .boolean }, accessFlags := 8, code := some k16c0 }
def k16m1 : Method := { name := "<init>", desc := "()V", sig := { parameters := [], returnType := none }, accessFlags := 2, code := none }
/-- java/lang/CharacterDataLatin1 -/
def k16 : Class := { plain "java/lang/CharacterDataLatin1" (some 15) with
  accessFlags := 32
  interfaces := #[]
  cf := some (fileOf pool16 2 #[] #[{ accessFlags := 8, nameIndex := 115, descriptorIndex := 116, attributes := #[] }, { accessFlags := 2, nameIndex := 42, descriptorIndex := 43, attributes := #[] }] 32 39 #[] #[{ accessFlags := 26, nameIndex := 27, descriptorIndex := 28, attributes := #[] }, { accessFlags := 8, nameIndex := 37, descriptorIndex := 10, attributes := #[] }, { accessFlags := 24, nameIndex := 47, descriptorIndex := 48, attributes := #[] }, { accessFlags := 24, nameIndex := 5, descriptorIndex := 6, attributes := #[] }, { accessFlags := 24, nameIndex := 9, descriptorIndex := 10, attributes := #[] }])
  fields := #[{ name := "DIGITS", type := (.array .byte), accessFlags := 26, slot := 0, constantValue := 0 }, { name := "sharpsMap", type := (.array .char), accessFlags := 8, slot := 1, constantValue := 0 }, { name := "instance", type := (.object "java/lang/CharacterDataLatin1"), accessFlags := 24, slot := 2, constantValue := 0 }, { name := "A", type := (.array .int), accessFlags := 24, slot := 3, constantValue := 0 }, { name := "B", type := (.array .char), accessFlags := 24, slot := 4, constantValue := 0 }]
  methods := #[k16m0, k16m1]
  instanceTypes := #[]
  staticTypes := #[(.array .byte), (.array .char), (.object "java/lang/CharacterDataLatin1"), (.array .int), (.array .char)]
  resolved := Array.replicate 141 none
  statics := none }

def pool17 : Array CpInfo := pool [(2, .class_ 4), (1, u "java/lang/Object"), (0, u "<init>"), (0, u "()V"), (35, .class_ 44), (1, u "java/util/Objects"), (0, u "requireNonNull"), (0, u "(Ljava/lang/Object;)Ljava/lang/Object;")] 137

def k17m0 : Method := { name := "<init>", desc := "()V", sig := { parameters := [], returnType := none }, accessFlags := 2, code := none }
def k17c1 : Code := { maxStack := 2, maxLocals := 1, code := jdk_31_method_10_code, exceptionTable := #[], attributes := #[] }
def k17m1 : Method := { name := "requireNonNull", desc := "(Ljava/lang/Object;)Ljava/lang/Object;", sig := { parameters := [(.object "java/lang/Object")], returnType := some (.object "java/lang/Object") }, accessFlags := 9, code := some k17c1 }
/-- java/util/Objects -/
def k17 : Class := { plain "java/util/Objects" (some 0) with
  accessFlags := 49
  interfaces := #[]
  cf := some (fileOf pool17 42 #[] #[{ accessFlags := 2, nameIndex := 5, descriptorIndex := 6, attributes := #[] }, { accessFlags := 9, nameIndex := 45, descriptorIndex := 46, attributes := #[] }] 49 2 #[] #[])
  fields := #[]
  methods := #[k17m0, k17m1]
  instanceTypes := #[]
  staticTypes := #[]
  resolved := Array.replicate 184 none
  statics := none }

def pool18 : Array CpInfo := pool [(9, u "<init>"), (6, .class_ 18), (1, u "java/lang/Object"), (0, u "()V"), (1, .class_ 23), (1, u "jdk/internal/util/ArraysSupport"), (0, u "LOG2_ARRAY_LONG_INDEX_SCALE"), (0, u "I"), (2, u "U"), (0, u "Ljdk/internal/misc/Unsafe;"), (8, u "BIG_ENDIAN"), (0, u "Z"), (8, u "LOG2_BYTE_BIT_SIZE"), (4, u "LOG2_ARRAY_INT_INDEX_SCALE"), (54, u "JLA"), (0, u "Ljdk/internal/access/JavaLangAccess;"), (11, u "LOG2_ARRAY_BOOLEAN_INDEX_SCALE"), (9, u "LOG2_ARRAY_BYTE_INDEX_SCALE"), (5, u "LOG2_ARRAY_CHAR_INDEX_SCALE"), (5, u "LOG2_ARRAY_SHORT_INDEX_SCALE"), (18, u "LOG2_ARRAY_FLOAT_INDEX_SCALE"), (24, u "LOG2_ARRAY_DOUBLE_INDEX_SCALE"), (89, u "T_BOOLEAN"), (2, u "T_CHAR"), (1, u "T_FLOAT"), (1, u "T_DOUBLE"), (1, u "T_BYTE"), (1, u "T_SHORT"), (1, u "T_INT"), (1, u "T_LONG"), (1, u "SOFT_MAX_ARRAY_LENGTH")] 83

def k18m0 : Method := { name := "<init>", desc := "()V", sig := { parameters := [], returnType := none }, accessFlags := 2, code := none }
/-- jdk/internal/util/ArraysSupport -/
def k18 : Class := { plain "jdk/internal/util/ArraysSupport" (some 0) with
  accessFlags := 33
  interfaces := #[]
  cf := some (fileOf pool18 21 #[] #[{ accessFlags := 2, nameIndex := 9, descriptorIndex := 19, attributes := #[] }] 33 16 #[] #[{ accessFlags := 24, nameIndex := 28, descriptorIndex := 29, attributes := #[] }, { accessFlags := 26, nameIndex := 38, descriptorIndex := 39, attributes := #[] }, { accessFlags := 25, nameIndex := 121, descriptorIndex := 25, attributes := #[] }, { accessFlags := 25, nameIndex := 131, descriptorIndex := 25, attributes := #[] }, { accessFlags := 25, nameIndex := 137, descriptorIndex := 25, attributes := #[] }, { accessFlags := 25, nameIndex := 143, descriptorIndex := 25, attributes := #[] }, { accessFlags := 25, nameIndex := 53, descriptorIndex := 25, attributes := #[] }, { accessFlags := 25, nameIndex := 24, descriptorIndex := 25, attributes := #[] }, { accessFlags := 25, nameIndex := 162, descriptorIndex := 25, attributes := #[] }, { accessFlags := 25, nameIndex := 187, descriptorIndex := 25, attributes := #[] }, { accessFlags := 26, nameIndex := 48, descriptorIndex := 25, attributes := #[] }, { accessFlags := 25, nameIndex := 277, descriptorIndex := 25, attributes := #[] }, { accessFlags := 25, nameIndex := 280, descriptorIndex := 25, attributes := #[] }, { accessFlags := 25, nameIndex := 282, descriptorIndex := 25, attributes := #[] }, { accessFlags := 25, nameIndex := 284, descriptorIndex := 25, attributes := #[] }, { accessFlags := 25, nameIndex := 286, descriptorIndex := 25, attributes := #[] }, { accessFlags := 25, nameIndex := 288, descriptorIndex := 25, attributes := #[] }, { accessFlags := 25, nameIndex := 290, descriptorIndex := 25, attributes := #[] }, { accessFlags := 25, nameIndex := 292, descriptorIndex := 25, attributes := #[] }, { accessFlags := 26, nameIndex := 108, descriptorIndex := 109, attributes := #[] }, { accessFlags := 25, nameIndex := 294, descriptorIndex := 25, attributes := #[] }])
  fields := #[{ name := "U", type := (.object "jdk/internal/misc/Unsafe"), accessFlags := 24, slot := 0, constantValue := 0 }, { name := "BIG_ENDIAN", type := .boolean, accessFlags := 26, slot := 1, constantValue := 0 }, { name := "LOG2_ARRAY_BOOLEAN_INDEX_SCALE", type := .int, accessFlags := 25, slot := 2, constantValue := 0 }, { name := "LOG2_ARRAY_BYTE_INDEX_SCALE", type := .int, accessFlags := 25, slot := 3, constantValue := 0 }, { name := "LOG2_ARRAY_CHAR_INDEX_SCALE", type := .int, accessFlags := 25, slot := 4, constantValue := 0 }, { name := "LOG2_ARRAY_SHORT_INDEX_SCALE", type := .int, accessFlags := 25, slot := 5, constantValue := 0 }, { name := "LOG2_ARRAY_INT_INDEX_SCALE", type := .int, accessFlags := 25, slot := 6, constantValue := 0 }, { name := "LOG2_ARRAY_LONG_INDEX_SCALE", type := .int, accessFlags := 25, slot := 7, constantValue := 0 }, { name := "LOG2_ARRAY_FLOAT_INDEX_SCALE", type := .int, accessFlags := 25, slot := 8, constantValue := 0 }, { name := "LOG2_ARRAY_DOUBLE_INDEX_SCALE", type := .int, accessFlags := 25, slot := 9, constantValue := 0 }, { name := "LOG2_BYTE_BIT_SIZE", type := .int, accessFlags := 26, slot := 10, constantValue := 0 }, { name := "T_BOOLEAN", type := .int, accessFlags := 25, slot := 11, constantValue := 0 }, { name := "T_CHAR", type := .int, accessFlags := 25, slot := 12, constantValue := 0 }, { name := "T_FLOAT", type := .int, accessFlags := 25, slot := 13, constantValue := 0 }, { name := "T_DOUBLE", type := .int, accessFlags := 25, slot := 14, constantValue := 0 }, { name := "T_BYTE", type := .int, accessFlags := 25, slot := 15, constantValue := 0 }, { name := "T_SHORT", type := .int, accessFlags := 25, slot := 16, constantValue := 0 }, { name := "T_INT", type := .int, accessFlags := 25, slot := 17, constantValue := 0 }, { name := "T_LONG", type := .int, accessFlags := 25, slot := 18, constantValue := 0 }, { name := "JLA", type := (.object "jdk/internal/access/JavaLangAccess"), accessFlags := 26, slot := 19, constantValue := 0 }, { name := "SOFT_MAX_ARRAY_LENGTH", type := .int, accessFlags := 25, slot := 20, constantValue := 0 }]
  methods := #[k18m0]
  instanceTypes := #[]
  staticTypes := #[(.object "jdk/internal/misc/Unsafe"), .boolean, .int, .int, .int, .int, .int, .int, .int, .int, .int, .int, .int, .int, .int, .int, .int, .int, .int, (.object "jdk/internal/access/JavaLangAccess"), .int]
  resolved := Array.replicate 378 none
  statics := none }

/-- the primitive byte -/
def k19 : Class := { plain "byte" none with kind := .primitive 'B', accessFlags := 0x411 }
/-- [B -/
def k20 : Class := { plain "[B" (some 0) with kind := .array 19 .byte, interfaces := #[13, 2], accessFlags := 1041 }

/-- the primitive char -/
def k21 : Class := { plain "char" none with kind := .primitive 'C', accessFlags := 0x411 }
/-- [C -/
def k22 : Class := { plain "[C" (some 0) with kind := .array 21 .char, interfaces := #[13, 2], accessFlags := 1041 }

/-- the primitive int -/
def k23 : Class := { plain "int" none with kind := .primitive 'I', accessFlags := 0x411 }
/-- [I -/
def k24 : Class := { plain "[I" (some 0) with kind := .array 23 .int, interfaces := #[13, 2], accessFlags := 1041 }

/-- [Lcom/example/cardea/cardea/request/TrustedProxies$Header; -/
def k25 : Class := { plain "[Lcom/example/cardea/cardea/request/TrustedProxies$Header;" (some 0) with kind := .array 12 (.object "com/example/cardea/cardea/request/TrustedProxies$Header"), interfaces := #[13, 2], accessFlags := 1041 }

def heap : Heap := #[{ cls := 7, slots := #[.long 0, .int 1, .null, .int 0, .null, .int 0, .int 0], vm := .statics 7 },
  { cls := 9, slots := #[.null, .null, .null], vm := .statics 9 },
  { cls := 12, slots := #[.ref 5, .ref 6, .ref 4], vm := .statics 12 },
  { cls := 14, slots := #[.ref 11], vm := .statics 14 },
  { cls := 25, slots := #[.ref 5, .ref 6], vm := .none },
  { cls := 12, slots := #[.null, .int 0, .int 0, .ref 7], vm := .none },
  { cls := 12, slots := #[.null, .int 1, .int 0, .ref 9], vm := .none },
  { cls := 7, slots := #[.ref 8, .int 0, .int 0, .int 0], vm := .none },
  { cls := 20, slots := #[.int 70, .int 111, .int 114, .int 119, .int 97, .int 114, .int 100, .int 101, .int 100], vm := .none },
  { cls := 7, slots := #[.ref 10, .int 0, .int 0, .int 0], vm := .none },
  { cls := 20, slots := #[.int 88, .int 45, .int 70, .int 111, .int 114, .int 119, .int 97, .int 114, .int 100, .int 101, .int 100, .int 45, .int 70, .int 111, .int 114], vm := .none },
  { cls := 14, slots := #[.null], vm := .none }]
def classes : Array Class := #[k0, k1, k2, k3, k4, k5, k6, k7, k8, k9, k10, k11, k12, k13, k14, k15, k16, k17, k18, k19, k20, k21, k22, k23, k24, k25]
def interned : List (Array UInt16 × Addr) := []
def slotsUsed : Nat := 57
def theMethod : MethodId := ⟨1, 1⟩
def args0 : Array Value := #[.int 1, .int 5, .int 1, .int 3, .int 70]
def aboutOver (below : List Frame) : State where
  vm := { classes := classes, interned := interned.toArray }
  heap := heap
  slotsUsed := slotsUsed
  threads := #[{ frames := .invoking theMethod args0 :: below }]
def below0 : List Frame := [.native { method := ⟨0, 0⟩, args := #[] }]
def about1 : State := aboutOver below0
def p0 : Program := .bare "" "" ""
def e0 : Env := launch0.env 0 0 0
theorem w_frames : about1.frames = Frame.invoking theMethod args0 :: below0 := rfl
set_option maxRecDepth 65536 in
theorem w_args : argsFit about1.vm theMethod args0 = true := by decide +kernel
set_option maxRecDepth 65536 in
theorem w_heap : heapFits about1 = true := by decide +kernel
set_option maxRecDepth 65536 in
theorem w_runnable : about1.curStatus? = some .runnable := by decide +kernel
set_option maxRecDepth 65536 in
theorem w_alone : about1.alone = true := by decide +kernel
set_option maxRecDepth 65536 in
theorem w_named : about1.methodNamed? x = some theMethod := by decide +kernel
set_option maxRecDepth 65536 in
theorem w_hears : about1.hears theMethod below0 = true := by decide +kernel
set_option maxRecDepth 65536 in
theorem w_ripe : about1.ripe theMethod args0 below0 = true := by decide +kernel
theorem w_running : about1.status = .running := rfl
set_option maxRecDepth 65536 in
theorem w_room : about1.hasRoom e0.platform room_1 = true :=
  launch0.hasRoom_least _ room_1 (by decide +kernel) (by decide +kernel) (by decide +kernel) (by decide +kernel) (by decide +kernel) (by decide +kernel)
theorem allAtoms_all (ts : List Jvm.Cond) (a : Array Jvm.Value) (st : Jvm.State) : (allAtoms ts).before a st = ts.all (fun c => c.before a st) := by
  induction ts with
  | nil => rfl
  | cons c t ih =>
    show (Jvm.Cond.and c (allAtoms t)).before a st = _
    rw [Jvm.Cond.before_and, ih, List.all_cons]
def words1 : List Jvm.Cond := Jvm.Cond.code x code maxLocals ret :: tables_1
/-- a 'code' word, met by the world's own term for the bytes: nothing is compared byte by byte -/
theorem code_word {y : MethodName} {bytes : ByteArray} {mx : Nat} {rt : Option FieldType} {a : Array Value} {s : State} {m : MethodId} {meth : Method} {c : Code} (h1 : s.methodNamed? y = some m) (h2 : s.vm.method? m = some meth) (h3 : meth.code = some c) (h4 : c.code = bytes)
    (h5 : (c.maxLocals == mx && c.exceptionTable.isEmpty && decide (c.maxStack ≤ mostOperands) && decide (meth.sig.returnType = rt) && !meth.locks && decide (parseMethodDescriptor y.desc = some meth.sig)) = true) : (Jvm.Cond.code y bytes mx rt).before a s = true := by
  simp only [Bool.and_eq_true, beq_iff_eq, Bool.not_eq_true', decide_eq_true_eq] at h5
  obtain ⟨⟨⟨⟨⟨g1, g2⟩, g3⟩, g4⟩, g5⟩, g6⟩ := h5
  simp [Cond.before, Cond.holds, Cond.value, h1, h2, h3, h4, g1, g2, g3, g4, g5, g6]
def isCode : Jvm.Cond → Bool
  | .code _ _ _ _ => true
  | _ => false
theorem all_split {L : List Jvm.Cond} {P : Jvm.Cond → Bool} (h1 : L.all (fun c => isCode c || P c) = true) (h2 : ∀ c ∈ L.filter isCode, P c = true) : L.all P = true := by
  refine List.all_eq_true.mpr fun c hc => ?_
  have h := List.all_eq_true.mp h1 c hc
  rcases Bool.eq_false_or_eq_true (isCode c) with hi | hi
  · exact h2 c (List.mem_filter.mpr ⟨hc, hi⟩)
  · simpa [hi] using h
set_option maxRecDepth 65536 in
theorem w_c0 : (Jvm.Cond.code x code maxLocals ret).before args0 about1 = true := code_word (m := ⟨1, 1⟩) (meth := k1m1) (c := k1c1) (by decide +kernel) rfl rfl rfl (by decide +kernel)
set_option maxRecDepth 65536 in
theorem w_c1 : (Jvm.Cond.code ({ cls := "java/lang/String", name := "length", desc := "()I" } : Jvm.MethodName) jdk_42_method_54_code (1 : Nat) (Option.some Jvm.ClassFile.FieldType.int)).before args0 about1 = true := code_word (m := ⟨7, 2⟩) (meth := k7m2) (c := k7c2) (by decide +kernel) rfl rfl rfl (by decide +kernel)
set_option maxRecDepth 65536 in
theorem w_c2 : (Jvm.Cond.code ({ cls := "java/lang/String", name := "coder", desc := "()B" } : Jvm.MethodName) jdk_42_method_152_code (1 : Nat) (Option.some Jvm.ClassFile.FieldType.byte)).before args0 about1 = true := code_word (m := ⟨7, 7⟩) (meth := k7m7) (c := k7c7) (by decide +kernel) rfl rfl rfl (by decide +kernel)
set_option maxRecDepth 65536 in
theorem w_c3 : (Jvm.Cond.code ({ cls := "com/example/cardea/cardea/request/HeaderNamedPinLaw", name := "at", desc := "(Ljava/lang/String;ICI)C" } : Jvm.MethodName) method_3_code (4 : Nat) (Option.some Jvm.ClassFile.FieldType.char)).before args0 about1 = true := code_word (m := ⟨1, 2⟩) (meth := k1m2) (c := k1c2) (by decide +kernel) rfl rfl rfl (by decide +kernel)
set_option maxRecDepth 65536 in
theorem w_c4 : (Jvm.Cond.code ({ cls := "java/lang/String", name := "charAt", desc := "(I)C" } : Jvm.MethodName) jdk_42_method_56_code (2 : Nat) (Option.some Jvm.ClassFile.FieldType.char)).before args0 about1 = true := code_word (m := ⟨7, 3⟩) (meth := k7m3) (c := k7c3) (by decide +kernel) rfl rfl rfl (by decide +kernel)
set_option maxRecDepth 65536 in
theorem w_c5 : (Jvm.Cond.code ({ cls := "java/lang/String", name := "isLatin1", desc := "()Z" } : Jvm.MethodName) jdk_42_method_154_code (1 : Nat) (Option.some Jvm.ClassFile.FieldType.boolean)).before args0 about1 = true := code_word (m := ⟨7, 8⟩) (meth := k7m8) (c := k7c8) (by decide +kernel) rfl rfl rfl (by decide +kernel)
set_option maxRecDepth 65536 in
theorem w_c6 : (Jvm.Cond.code ({ cls := "java/lang/StringLatin1", name := "charAt", desc := "([BI)C" } : Jvm.MethodName) jdk_43_method_2_code (2 : Nat) (Option.some Jvm.ClassFile.FieldType.char)).before args0 about1 = true := code_word (m := ⟨8, 1⟩) (meth := k8m1) (c := k8c1) (by decide +kernel) rfl rfl rfl (by decide +kernel)
set_option maxRecDepth 65536 in
theorem w_c7 : (Jvm.Cond.code ({ cls := "java/lang/String", name := "checkIndex", desc := "(II)V" } : Jvm.MethodName) jdk_42_method_155_code (2 : Nat) (Option.none : Option Jvm.ClassFile.FieldType)).before args0 about1 = true := code_word (m := ⟨7, 9⟩) (meth := k7m9) (c := k7c9) (by decide +kernel) rfl rfl rfl (by decide +kernel)
set_option maxRecDepth 65536 in
theorem w_c8 : (Jvm.Cond.code ({ cls := "jdk/internal/util/Preconditions", name := "checkIndex", desc := "(IILjava/util/function/BiFunction;)I" } : Jvm.MethodName) jdk_41_method_11_code (3 : Nat) (Option.some Jvm.ClassFile.FieldType.int)).before args0 about1 = true := code_word (m := ⟨9, 1⟩) (meth := k9m1) (c := k9c1) (by decide +kernel) rfl rfl rfl (by decide +kernel)
set_option maxRecDepth 65536 in
theorem w_c9 : (Jvm.Cond.code ({ cls := "com/example/cardea/cardea/request/HeaderNamedPinLaw", name := "cased", desc := "(CII)C" } : Jvm.MethodName) method_4_code (3 : Nat) (Option.some Jvm.ClassFile.FieldType.char)).before args0 about1 = true := code_word (m := ⟨1, 3⟩) (meth := k1m3) (c := k1c3) (by decide +kernel) rfl rfl rfl (by decide +kernel)
set_option maxRecDepth 65536 in
theorem w_c10 : (Jvm.Cond.code ({ cls := "com/example/cardea/cardea/request/HeaderNamedPinLaw", name := "cut", desc := "([CI)[C" } : Jvm.MethodName) method_6_code (3 : Nat) (Option.some (Jvm.ClassFile.FieldType.array Jvm.ClassFile.FieldType.char))).before args0 about1 = true := code_word (m := ⟨1, 5⟩) (meth := k1m5) (c := k1c5) (by decide +kernel) rfl rfl rfl (by decide +kernel)
set_option maxRecDepth 65536 in
theorem w_c11 : (Jvm.Cond.code ({ cls := "com/example/cardea/cardea/request/HeaderNamedPinLaw", name := "put", desc := "([C[CI)V" } : Jvm.MethodName) method_7_code (3 : Nat) (Option.none : Option Jvm.ClassFile.FieldType)).before args0 about1 = true := code_word (m := ⟨1, 6⟩) (meth := k1m6) (c := k1c6) (by decide +kernel) rfl rfl rfl (by decide +kernel)
set_option maxRecDepth 65536 in
theorem w_c12 : (Jvm.Cond.code ({ cls := "java/lang/String", name := "<init>", desc := "([C)V" } : Jvm.MethodName) jdk_42_method_3_code (2 : Nat) (Option.none : Option Jvm.ClassFile.FieldType)).before args0 about1 = true := code_word (m := ⟨7, 1⟩) (meth := k7m1) (c := k7c1) (by decide +kernel) rfl rfl rfl (by decide +kernel)
set_option maxRecDepth 65536 in
theorem w_c13 : (Jvm.Cond.code ({ cls := "java/lang/String", name := "<init>", desc := "([CIILjava/lang/Void;)V" } : Jvm.MethodName) jdk_42_method_149_code (6 : Nat) (Option.none : Option Jvm.ClassFile.FieldType)).before args0 about1 = true := code_word (m := ⟨7, 6⟩) (meth := k7m6) (c := k7c6) (by decide +kernel) rfl rfl rfl (by decide +kernel)
set_option maxRecDepth 65536 in
theorem w_c14 : (Jvm.Cond.code ({ cls := "java/lang/Object", name := "<init>", desc := "()V" } : Jvm.MethodName) object_method_1_code (1 : Nat) (Option.none : Option Jvm.ClassFile.FieldType)).before args0 about1 = true := code_word (m := ⟨0, 0⟩) (meth := k0m0) (c := k0c0) (by decide +kernel) rfl rfl rfl (by decide +kernel)
set_option maxRecDepth 65536 in
theorem w_c15 : (Jvm.Cond.code ({ cls := "java/lang/StringUTF16", name := "compress", desc := "([CII)[B" } : Jvm.MethodName) jdk_52_method_16_code (6 : Nat) (Option.some (Jvm.ClassFile.FieldType.array Jvm.ClassFile.FieldType.byte))).before args0 about1 = true := code_word (m := ⟨10, 2⟩) (meth := k10m2) (c := k10c2) (by decide +kernel) rfl rfl rfl (by decide +kernel)
set_option maxRecDepth 65536 in
theorem w_c16 : (Jvm.Cond.code ({ cls := "java/lang/StringUTF16", name := "compress", desc := "([CI[BII)I" } : Jvm.MethodName) jdk_52_method_21_code (7 : Nat) (Option.some Jvm.ClassFile.FieldType.int)).before args0 about1 = true := code_word (m := ⟨10, 3⟩) (meth := k10m3) (c := k10c3) (by decide +kernel) rfl rfl rfl (by decide +kernel)
set_option maxRecDepth 65536 in
theorem w_c17 : (Jvm.Cond.code ({ cls := "java/lang/StringUTF16", name := "coderFromArrayLen", desc := "([BI)B" } : Jvm.MethodName) jdk_52_method_15_code (2 : Nat) (Option.some Jvm.ClassFile.FieldType.byte)).before args0 about1 = true := code_word (m := ⟨10, 1⟩) (meth := k10m1) (c := k10c1) (by decide +kernel) rfl rfl rfl (by decide +kernel)
set_option maxRecDepth 65536 in
theorem w_c18 : (Jvm.Cond.code ({ cls := "com/example/cardea/cardea/request/TrustedProxies$Header", name := "named", desc := "(Ljava/lang/String;)Ljava/util/Optional;" } : Jvm.MethodName) prog_28_method_5_code (5 : Nat) (Option.some (Jvm.ClassFile.FieldType.object "java/util/Optional"))).before args0 about1 = true := code_word (m := ⟨12, 1⟩) (meth := k12m1) (c := k12c1) (by decide +kernel) rfl rfl rfl (by decide +kernel)
set_option maxRecDepth 65536 in
theorem w_c19 : (Jvm.Cond.code ({ cls := "com/example/cardea/cardea/request/TrustedProxies$Header", name := "values", desc := "()[Lcom/example/cardea/cardea/request/TrustedProxies$Header;" } : Jvm.MethodName) prog_28_method_1_code (0 : Nat) (Option.some (Jvm.ClassFile.FieldType.array (Jvm.ClassFile.FieldType.object "com/example/cardea/cardea/request/TrustedProxies$Header")))).before args0 about1 = true := code_word (m := ⟨12, 0⟩) (meth := k12m0) (c := k12c0) (by decide +kernel) rfl rfl rfl (by decide +kernel)
set_option maxRecDepth 65536 in
theorem w_c20 : (Jvm.Cond.code ({ cls := "java/lang/String", name := "equalsIgnoreCase", desc := "(Ljava/lang/String;)Z" } : Jvm.MethodName) jdk_42_method_70_code (2 : Nat) (Option.some Jvm.ClassFile.FieldType.boolean)).before args0 about1 = true := code_word (m := ⟨7, 4⟩) (meth := k7m4) (c := k7c4) (by decide +kernel) rfl rfl rfl (by decide +kernel)
set_option maxRecDepth 65536 in
theorem w_c21 : (Jvm.Cond.code ({ cls := "java/util/Optional", name := "empty", desc := "()Ljava/util/Optional;" } : Jvm.MethodName) jdk_32_method_1_code (1 : Nat) (Option.some (Jvm.ClassFile.FieldType.object "java/util/Optional"))).before args0 about1 = true := code_word (m := ⟨14, 0⟩) (meth := k14m0) (c := k14c0) (by decide +kernel) rfl rfl rfl (by decide +kernel)
set_option maxRecDepth 65536 in
theorem w_c22 : (Jvm.Cond.code ({ cls := "java/util/Optional", name := "orElse", desc := "(Ljava/lang/Object;)Ljava/lang/Object;" } : Jvm.MethodName) jdk_32_method_15_code (2 : Nat) (Option.some (Jvm.ClassFile.FieldType.object "java/lang/Object"))).before args0 about1 = true := code_word (m := ⟨14, 3⟩) (meth := k14m3) (c := k14c3) (by decide +kernel) rfl rfl rfl (by decide +kernel)
set_option maxRecDepth 65536 in
theorem w_c23 : (Jvm.Cond.code ({ cls := "com/example/cardea/cardea/request/HeaderNamedPinLaw", name := "eqIgnoreCase", desc := "(CC)Z" } : Jvm.MethodName) method_5_code (2 : Nat) (Option.some Jvm.ClassFile.FieldType.boolean)).before args0 about1 = true := code_word (m := ⟨1, 4⟩) (meth := k1m4) (c := k1c4) (by decide +kernel) rfl rfl rfl (by decide +kernel)
set_option maxRecDepth 65536 in
theorem w_c24 : (Jvm.Cond.code ({ cls := "java/lang/String", name := "regionMatches", desc := "(ZILjava/lang/String;II)Z" } : Jvm.MethodName) jdk_42_method_74_code (9 : Nat) (Option.some Jvm.ClassFile.FieldType.boolean)).before args0 about1 = true := code_word (m := ⟨7, 5⟩) (meth := k7m5) (c := k7c5) (by decide +kernel) rfl rfl rfl (by decide +kernel)
set_option maxRecDepth 65536 in
theorem w_c25 : (Jvm.Cond.code ({ cls := "java/lang/StringLatin1", name := "regionMatchesCI", desc := "([BI[BII)Z" } : Jvm.MethodName) jdk_43_method_30_code (8 : Nat) (Option.some Jvm.ClassFile.FieldType.boolean)).before args0 about1 = true := code_word (m := ⟨8, 2⟩) (meth := k8m2) (c := k8c2) (by decide +kernel) rfl rfl rfl (by decide +kernel)
set_option maxRecDepth 65536 in
theorem w_c26 : (Jvm.Cond.code ({ cls := "java/lang/CharacterDataLatin1", name := "equalsIgnoreCase", desc := "(BB)Z" } : Jvm.MethodName) jdk_116_method_22_code (3 : Nat) (Option.some Jvm.ClassFile.FieldType.boolean)).before args0 about1 = true := code_word (m := ⟨16, 0⟩) (meth := k16m0) (c := k16c0) (by decide +kernel) rfl rfl rfl (by decide +kernel)
set_option maxRecDepth 65536 in
theorem w_c27 : (Jvm.Cond.code ({ cls := "java/util/Optional", name := "of", desc := "(Ljava/lang/Object;)Ljava/util/Optional;" } : Jvm.MethodName) jdk_32_method_3_code (1 : Nat) (Option.some (Jvm.ClassFile.FieldType.object "java/util/Optional"))).before args0 about1 = true := code_word (m := ⟨14, 2⟩) (meth := k14m2) (c := k14c2) (by decide +kernel) rfl rfl rfl (by decide +kernel)
set_option maxRecDepth 65536 in
theorem w_c28 : (Jvm.Cond.code ({ cls := "java/util/Objects", name := "requireNonNull", desc := "(Ljava/lang/Object;)Ljava/lang/Object;" } : Jvm.MethodName) jdk_31_method_10_code (1 : Nat) (Option.some (Jvm.ClassFile.FieldType.object "java/lang/Object"))).before args0 about1 = true := code_word (m := ⟨17, 1⟩) (meth := k17m1) (c := k17c1) (by decide +kernel) rfl rfl rfl (by decide +kernel)
set_option maxRecDepth 65536 in
theorem w_c29 : (Jvm.Cond.code ({ cls := "java/util/Optional", name := "<init>", desc := "(Ljava/lang/Object;)V" } : Jvm.MethodName) jdk_32_method_2_code (2 : Nat) (Option.none : Option Jvm.ClassFile.FieldType)).before args0 about1 = true := code_word (m := ⟨14, 1⟩) (meth := k14m1) (c := k14c1) (by decide +kernel) rfl rfl rfl (by decide +kernel)
def codes1 : List Jvm.Cond := [Jvm.Cond.code x code maxLocals ret, Jvm.Cond.code ({ cls := "java/lang/String", name := "length", desc := "()I" } : Jvm.MethodName) jdk_42_method_54_code (1 : Nat) (Option.some Jvm.ClassFile.FieldType.int), Jvm.Cond.code ({ cls := "java/lang/String", name := "coder", desc := "()B" } : Jvm.MethodName) jdk_42_method_152_code (1 : Nat) (Option.some Jvm.ClassFile.FieldType.byte), Jvm.Cond.code ({ cls := "com/example/cardea/cardea/request/HeaderNamedPinLaw", name := "at", desc := "(Ljava/lang/String;ICI)C" } : Jvm.MethodName) method_3_code (4 : Nat) (Option.some Jvm.ClassFile.FieldType.char), Jvm.Cond.code ({ cls := "java/lang/String", name := "charAt", desc := "(I)C" } : Jvm.MethodName) jdk_42_method_56_code (2 : Nat) (Option.some Jvm.ClassFile.FieldType.char), Jvm.Cond.code ({ cls := "java/lang/String", name := "isLatin1", desc := "()Z" } : Jvm.MethodName) jdk_42_method_154_code (1 : Nat) (Option.some Jvm.ClassFile.FieldType.boolean), Jvm.Cond.code ({ cls := "java/lang/StringLatin1", name := "charAt", desc := "([BI)C" } : Jvm.MethodName) jdk_43_method_2_code (2 : Nat) (Option.some Jvm.ClassFile.FieldType.char), Jvm.Cond.code ({ cls := "java/lang/String", name := "checkIndex", desc := "(II)V" } : Jvm.MethodName) jdk_42_method_155_code (2 : Nat) (Option.none : Option Jvm.ClassFile.FieldType), Jvm.Cond.code ({ cls := "jdk/internal/util/Preconditions", name := "checkIndex", desc := "(IILjava/util/function/BiFunction;)I" } : Jvm.MethodName) jdk_41_method_11_code (3 : Nat) (Option.some Jvm.ClassFile.FieldType.int), Jvm.Cond.code ({ cls := "com/example/cardea/cardea/request/HeaderNamedPinLaw", name := "cased", desc := "(CII)C" } : Jvm.MethodName) method_4_code (3 : Nat) (Option.some Jvm.ClassFile.FieldType.char), Jvm.Cond.code ({ cls := "com/example/cardea/cardea/request/HeaderNamedPinLaw", name := "cut", desc := "([CI)[C" } : Jvm.MethodName) method_6_code (3 : Nat) (Option.some (Jvm.ClassFile.FieldType.array Jvm.ClassFile.FieldType.char)), Jvm.Cond.code ({ cls := "com/example/cardea/cardea/request/HeaderNamedPinLaw", name := "put", desc := "([C[CI)V" } : Jvm.MethodName) method_7_code (3 : Nat) (Option.none : Option Jvm.ClassFile.FieldType), Jvm.Cond.code ({ cls := "java/lang/String", name := "<init>", desc := "([C)V" } : Jvm.MethodName) jdk_42_method_3_code (2 : Nat) (Option.none : Option Jvm.ClassFile.FieldType), Jvm.Cond.code ({ cls := "java/lang/String", name := "<init>", desc := "([CIILjava/lang/Void;)V" } : Jvm.MethodName) jdk_42_method_149_code (6 : Nat) (Option.none : Option Jvm.ClassFile.FieldType), Jvm.Cond.code ({ cls := "java/lang/Object", name := "<init>", desc := "()V" } : Jvm.MethodName) object_method_1_code (1 : Nat) (Option.none : Option Jvm.ClassFile.FieldType), Jvm.Cond.code ({ cls := "java/lang/StringUTF16", name := "compress", desc := "([CII)[B" } : Jvm.MethodName) jdk_52_method_16_code (6 : Nat) (Option.some (Jvm.ClassFile.FieldType.array Jvm.ClassFile.FieldType.byte)), Jvm.Cond.code ({ cls := "java/lang/StringUTF16", name := "compress", desc := "([CI[BII)I" } : Jvm.MethodName) jdk_52_method_21_code (7 : Nat) (Option.some Jvm.ClassFile.FieldType.int), Jvm.Cond.code ({ cls := "java/lang/StringUTF16", name := "coderFromArrayLen", desc := "([BI)B" } : Jvm.MethodName) jdk_52_method_15_code (2 : Nat) (Option.some Jvm.ClassFile.FieldType.byte), Jvm.Cond.code ({ cls := "com/example/cardea/cardea/request/TrustedProxies$Header", name := "named", desc := "(Ljava/lang/String;)Ljava/util/Optional;" } : Jvm.MethodName) prog_28_method_5_code (5 : Nat) (Option.some (Jvm.ClassFile.FieldType.object "java/util/Optional")), Jvm.Cond.code ({ cls := "com/example/cardea/cardea/request/TrustedProxies$Header", name := "values", desc := "()[Lcom/example/cardea/cardea/request/TrustedProxies$Header;" } : Jvm.MethodName) prog_28_method_1_code (0 : Nat) (Option.some (Jvm.ClassFile.FieldType.array (Jvm.ClassFile.FieldType.object "com/example/cardea/cardea/request/TrustedProxies$Header"))), Jvm.Cond.code ({ cls := "java/lang/String", name := "equalsIgnoreCase", desc := "(Ljava/lang/String;)Z" } : Jvm.MethodName) jdk_42_method_70_code (2 : Nat) (Option.some Jvm.ClassFile.FieldType.boolean), Jvm.Cond.code ({ cls := "java/util/Optional", name := "empty", desc := "()Ljava/util/Optional;" } : Jvm.MethodName) jdk_32_method_1_code (1 : Nat) (Option.some (Jvm.ClassFile.FieldType.object "java/util/Optional")), Jvm.Cond.code ({ cls := "java/util/Optional", name := "orElse", desc := "(Ljava/lang/Object;)Ljava/lang/Object;" } : Jvm.MethodName) jdk_32_method_15_code (2 : Nat) (Option.some (Jvm.ClassFile.FieldType.object "java/lang/Object")), Jvm.Cond.code ({ cls := "com/example/cardea/cardea/request/HeaderNamedPinLaw", name := "eqIgnoreCase", desc := "(CC)Z" } : Jvm.MethodName) method_5_code (2 : Nat) (Option.some Jvm.ClassFile.FieldType.boolean), Jvm.Cond.code ({ cls := "java/lang/String", name := "regionMatches", desc := "(ZILjava/lang/String;II)Z" } : Jvm.MethodName) jdk_42_method_74_code (9 : Nat) (Option.some Jvm.ClassFile.FieldType.boolean), Jvm.Cond.code ({ cls := "java/lang/StringLatin1", name := "regionMatchesCI", desc := "([BI[BII)Z" } : Jvm.MethodName) jdk_43_method_30_code (8 : Nat) (Option.some Jvm.ClassFile.FieldType.boolean), Jvm.Cond.code ({ cls := "java/lang/CharacterDataLatin1", name := "equalsIgnoreCase", desc := "(BB)Z" } : Jvm.MethodName) jdk_116_method_22_code (3 : Nat) (Option.some Jvm.ClassFile.FieldType.boolean), Jvm.Cond.code ({ cls := "java/util/Optional", name := "of", desc := "(Ljava/lang/Object;)Ljava/util/Optional;" } : Jvm.MethodName) jdk_32_method_3_code (1 : Nat) (Option.some (Jvm.ClassFile.FieldType.object "java/util/Optional")), Jvm.Cond.code ({ cls := "java/util/Objects", name := "requireNonNull", desc := "(Ljava/lang/Object;)Ljava/lang/Object;" } : Jvm.MethodName) jdk_31_method_10_code (1 : Nat) (Option.some (Jvm.ClassFile.FieldType.object "java/lang/Object")), Jvm.Cond.code ({ cls := "java/util/Optional", name := "<init>", desc := "(Ljava/lang/Object;)V" } : Jvm.MethodName) jdk_32_method_2_code (2 : Nat) (Option.none : Option Jvm.ClassFile.FieldType)]
set_option maxRecDepth 65536 in
theorem codes_eq : words1.filter isCode = codes1 := rfl
theorem w_codes : ∀ c ∈ words1.filter isCode, c.before args0 about1 = true := by
  rw [codes_eq]
  intro c hc
  simp only [codes1, List.mem_cons, List.not_mem_nil, or_false] at hc
  rcases hc with rfl | rfl | rfl | rfl | rfl | rfl | rfl | rfl | rfl | rfl | rfl | rfl | rfl | rfl | rfl | rfl | rfl | rfl | rfl | rfl | rfl | rfl | rfl | rfl | rfl | rfl | rfl | rfl | rfl | rfl
  · exact w_c0
  · exact w_c1
  · exact w_c2
  · exact w_c3
  · exact w_c4
  · exact w_c5
  · exact w_c6
  · exact w_c7
  · exact w_c8
  · exact w_c9
  · exact w_c10
  · exact w_c11
  · exact w_c12
  · exact w_c13
  · exact w_c14
  · exact w_c15
  · exact w_c16
  · exact w_c17
  · exact w_c18
  · exact w_c19
  · exact w_c20
  · exact w_c21
  · exact w_c22
  · exact w_c23
  · exact w_c24
  · exact w_c25
  · exact w_c26
  · exact w_c27
  · exact w_c28
  · exact w_c29
set_option maxRecDepth 65536 in
theorem w_t1 : (words1.take 24).all (fun c => isCode c || c.before args0 about1) = true := by decide +kernel
set_option maxRecDepth 65536 in
theorem w_t2 : ((words1.drop 24).take 24).all (fun c => isCode c || c.before args0 about1) = true := by decide +kernel
set_option maxRecDepth 65536 in
theorem w_t3 : (((words1.drop 24).drop 24).take 24).all (fun c => isCode c || c.before args0 about1) = true := by decide +kernel
set_option maxRecDepth 65536 in
theorem w_t4 : ((((words1.drop 24).drop 24).drop 24).take 24).all (fun c => isCode c || c.before args0 about1) = true := by decide +kernel
set_option maxRecDepth 65536 in
theorem w_t5 : (((((words1.drop 24).drop 24).drop 24).drop 24).take 24).all (fun c => isCode c || c.before args0 about1) = true := by decide +kernel
set_option maxRecDepth 65536 in
theorem w_t6 : ((((((words1.drop 24).drop 24).drop 24).drop 24).drop 24).take 24).all (fun c => isCode c || c.before args0 about1) = true := by decide +kernel
set_option maxRecDepth 65536 in
theorem w_t7 : ((((((words1.drop 24).drop 24).drop 24).drop 24).drop 24).drop 24).all (fun c => isCode c || c.before args0 about1) = true := by decide +kernel
theorem w_tables : (allAtoms (Jvm.Cond.code x code maxLocals ret :: tables_1)).before args0 about1 = true := by
  rw [allAtoms_all]
  show words1.all (fun c => c.before args0 about1) = true
  refine all_split ?_ w_codes
  rw [← List.take_append_drop 24 words1, List.all_append, w_t1, ← List.take_append_drop 24 (words1.drop 24), List.all_append, w_t2, ← List.take_append_drop 24 ((words1.drop 24).drop 24), List.all_append, w_t3, ← List.take_append_drop 24 (((words1.drop 24).drop 24).drop 24), List.all_append, w_t4, ← List.take_append_drop 24 ((((words1.drop 24).drop 24).drop 24).drop 24), List.all_append, w_t5, ← List.take_append_drop 24 (((((words1.drop 24).drop 24).drop 24).drop 24).drop 24), List.all_append, w_t6, w_t7]
  rfl
set_option maxRecDepth 65536 in
theorem w_rest : rest_1_c.before args0 about1 = true := by decide +kernel
set_option maxRecDepth 65536 in
theorem w_case : (Jvm.Cond.and given_1 narrow_1).before args0 about1 = true := by decide +kernel
set_option maxRecDepth 65536 in
theorem w_consts : constsHeld consts_1 about1 := Jvm.Lit.constsHeldB_iff.mp (by decide +kernel)
theorem w_applies : (headSpec (Jvm.Cond.code x code maxLocals ret :: tables_1) room_1).applies x e0.platform about1 = true :=
  (Spec.applies_iff w_frames).mpr ⟨w_running, w_runnable, w_alone, w_named, w_hears, w_ripe, w_room, w_tables⟩
theorem atStart : AtStart classFile x code maxLocals ret World_1 tables_1 room_1 Calls_1 rest_1 Pre_1 launch0 p0 e0 about1 theMethod args0 below0 :=
  ⟨lists_1, trivial, launch0.admits_env _ _ _, launch0.least_env, fairChoices_fair.cas, fairChoices_fair.clock, w_frames, w_args, w_heap, w_applies, ⟨w_consts, trivial⟩, w_rest, w_case⟩
end start1
theorem witness_1 : WitnessClaimed_1 := ⟨start1.p0, start1.e0, start1.about1, start1.theMethod, start1.args0, start1.below0, start1.atStart⟩
end Jvm.Pilot.@@N@@
