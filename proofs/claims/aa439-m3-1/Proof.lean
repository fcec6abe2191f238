import JvmDerived
import JvmDerived.Pilot.@@N@@Statement
import JvmDerived.Pilot.@@N@@Code
set_option linter.unusedVariables false
set_option linter.unusedSimpArgs false
namespace Jvm.OwnKit
/-! numbers -/
section Nums
theorem n_int {i : Nat} (hi : i < 2147483648) : (Int32.ofNat i).toInt = i := Int32.toInt_ofNat_small (by simpa using hi)
theorem n_lt {i n : Nat} (hi : i < 2147483648) (hn : n < 2147483648) : Int32.ofNat i < Int32.ofNat n ↔ i < n := by
  rw [Int32.lt_iff_toInt_lt, n_int hi, n_int hn]; omega
theorem n_nn {i : Nat} (hi : i < 2147483648) : ¬ Int32.ofNat i < 0 := by
  rw [Int32.lt_iff_toInt_lt, n_int hi, show (0 : Int32).toInt = 0 from by decide]; omega
theorem n_nat {i : Nat} (hi : i < 2147483648) : (Int32.ofNat i).toNatClampNeg = i := by
  rw [Int32.toNatClampNeg, n_int hi]; simp
theorem n_add (i j : Nat) : Int32.ofNat i + Int32.ofNat j = Int32.ofNat (i + j) := (Int32.ofNat_add i j).symm
theorem n_succ (i : Nat) : Int32.ofNat i + 1 = Int32.ofNat (i + 1) := n_add i 1
theorem n_inj {i n : Nat} (hi : i < 2147483648) (hn : n < 2147483648) : Int32.ofNat i = Int32.ofNat n ↔ i = n := by
  rw [← Int32.toInt_inj, n_int hi, n_int hn]; omega
theorem i_eq {x y : Int32} (h : x.toInt = y.toInt) : x = y := Int32.toInt_inj.mp h
theorem i_lt {x y : Int32} : x < y ↔ x.toInt < y.toInt := Int32.lt_iff_toInt_lt
/-- lists by their places -/
def tab (n : Nat) (f : Nat → Value) : List Value := (List.range n).map f
theorem tab_len (n : Nat) (f : Nat → Value) : (tab n f).length = n := by simp [tab]
theorem tab_get {n i : Nat} {f : Nat → Value} (hi : i < n) : (tab n f)[i]? = some (f i) := by simp [tab, hi]
theorem tab_set (n i : Nat) (f : Nat → Value) (v : Value) : (tab n f).set i v = tab n (fun j => if j = i then v else f j) := by
  refine List.ext_getElem? fun j => ?_
  by_cases hj : j < n
  · rw [tab_get hj, List.getElem?_set]
    by_cases e : i = j
    · subst e; simp [tab_len, hj]
    · rw [if_neg e, tab_get hj, if_neg (fun q => e q.symm)]
  · rw [List.getElem?_eq_none (by simpa [tab] using hj), List.getElem?_eq_none (by simpa [tab] using hj)]
theorem tab_congr {n : Nat} {f g : Nat → Value} (h : ∀ j, j < n → f j = g j) : tab n f = tab n g := by
  refine List.ext_getElem? fun j => ?_
  by_cases hj : j < n
  · rw [tab_get hj, tab_get hj, h j hj]
  · rw [List.getElem?_eq_none (by simpa [tab] using hj), List.getElem?_eq_none (by simpa [tab] using hj)]
theorem tab_rep (n : Nat) (v : Value) : List.replicate n v = tab n (fun _ => v) := by
  refine List.ext_getElem? fun j => ?_
  by_cases hj : j < n
  · rw [tab_get hj, List.getElem?_replicate, if_pos hj]
  · rw [List.getElem?_eq_none (by simpa using hj), List.getElem?_eq_none (by simpa [tab] using hj)]
theorem tab_list (vs : List Value) (d : Value) : vs = tab vs.length (fun j => vs.getD j d) := by
  refine List.ext_getElem? fun j => ?_
  by_cases hj : j < vs.length
  · rw [tab_get hj, List.getD_eq_getElem?_getD, List.getElem?_eq_getElem hj]; rfl
  · rw [List.getElem?_eq_none (by omega), List.getElem?_eq_none (by simpa [tab] using hj)]
theorem map_tab (cs : List Int32) (f : Int32 → Value) : cs.map f = tab cs.length (fun j => f (cs.getD j 0)) := by
  refine List.ext_getElem? fun j => ?_
  by_cases hj : j < cs.length
  · rw [tab_get hj, List.getElem?_map, List.getElem?_eq_getElem hj, List.getD_eq_getElem?_getD, List.getElem?_eq_getElem hj]; rfl
  · rw [List.getElem?_eq_none (by simpa using hj), List.getElem?_eq_none (by simpa [tab] using hj)]
end Nums
end Jvm.OwnKit
namespace Jvm.OwnKit
open Jvm Jvm.ClassFile Sem Op Lib Jvm.Free Jvm.Stand Jvm.LawKit Jvm.RoadKit Bundle
/-! 1. WHAT A WALK KNOWS OF THE HEAP: cells by address: M (made here, writable), N (frozen here), P (handed in, frozen) -/
abbrev Mem : Type := List (Addr × Cell)
abbrev dom (M : Mem) : List Addr := M.map Prod.fst
def OKp (h h' : Heap) (ws : List Addr) : Prop := h.size ≤ h'.size ∧ ∀ (x : Addr) (c : Cell), h[x]? = some c → x ∉ ws → h'[x]? = some c
def OInv (Z : State) (EL : List (String × Nat)) (vmS : Vm) (h0 : Heap) (ws : List Addr) (vm : Vm) (h : Heap) (M N P : Mem) : Prop :=
  CHr Z EL vmS h0 vm h ∧ Ext Z.heap h ∧
  (∀ q ∈ M, h[q.1]? = some q.2 ∧ Safe Z EL vm h q.1 ∧ Z.heap.size ≤ q.1 ∧ (h0.size ≤ q.1 ∨ q.1 ∈ ws)) ∧ (dom M).Nodup ∧
  (∀ q ∈ N, h[q.1]? = some q.2 ∧ q.1 ∉ dom M ∧ (h0.size ≤ q.1 ∨ q.1 ∈ ws ∨ Bk Z EL vmS h0 q.1)) ∧
  (∀ q ∈ P, h[q.1]? = some q.2 ∧ q.1 ∉ dom M)
section Inv
variable {Z : State} {EL : List (String × Nat)} {vmS vm vm1 vm2 : Vm} {h0 h h' h2 : Heap} {ws : List Addr} {M N P M' N' : Mem} {a x : Addr} {c c' cl : Cell} {i sl : Nat} {v : Value}
theorem lt_of (q : h[x]? = some c) : x < h.size := (Array.getElem?_eq_some_iff.mp q).1
theorem ext_trans (E : Ext h h') (E' : Ext h' h2) : Ext h h2 := ⟨Nat.le_trans E.1 E'.1, fun a c q => E'.2 a c (E.2 a c q)⟩
theorem ext_refl (h : Heap) : Ext h h := ⟨Nat.le_refl _, fun _ _ q => q⟩
theorem dom_set (hi : M[i]? = some (a, c)) : dom (M.set i (a, c')) = dom M := by
  induction M generalizing i with
  | nil => simp
  | cons q M ih =>
    cases i with
    | zero => simp at hi; subst hi; rfl
    | succ i => simp only [List.set_cons_succ, dom, List.map_cons]; exact congrArg _ (ih (by simpa using hi))
theorem mem_set (hn : (dom M).Nodup) (hi : M[i]? = some (a, c)) : ∀ q ∈ M.set i (a, c'), q = (a, c') ∨ (q ∈ M ∧ q.1 ≠ a) := by
  induction M generalizing i with
  | nil => simp at hi
  | cons r M ih =>
    have hn' := List.nodup_cons.mp (show (r.1 :: dom M).Nodup from hn)
    cases i with
    | zero =>
      simp at hi; subst hi
      intro q hq
      rcases List.mem_cons.mp (show q ∈ (a, c') :: M from hq) with rfl | hq
      · exact Or.inl rfl
      · exact Or.inr ⟨List.mem_cons_of_mem _ hq, fun e => hn'.1 (List.mem_map.mpr ⟨q, hq, e⟩)⟩
    | succ i =>
      have hi' : M[i]? = some (a, c) := by simpa using hi
      intro q hq
      rcases List.mem_cons.mp (show q ∈ r :: M.set i (a, c') from hq) with rfl | hq
      · exact Or.inr ⟨List.mem_cons_self .., fun e => hn'.1 (List.mem_map.mpr ⟨(a, c), List.mem_of_getElem? hi', e.symm⟩)⟩
      · rcases ih hn'.2 hi' q hq with e | ⟨e1, e2⟩
        · exact Or.inl e
        · exact Or.inr ⟨List.mem_cons_of_mem _ e1, e2⟩
theorem OInv.alloc (I : OInv Z EL vmS h0 ws vm h M N P) (E : Ext h h') (hc : h'[h.size]? = some c) : OInv Z EL vmS h0 ws vm h' ((h.size, c) :: M) N P := by
  obtain ⟨C, EZ, hM, hn, hN, hP⟩ := I
  have nin : ∀ q : Addr × Cell, h[q.1]? = some q.2 → q.1 ≠ h.size := fun q e z => absurd z (Nat.ne_of_lt (lt_of e))
  refine ⟨C.trans (CHr.ext E C.1), ext_trans EZ E, fun q hq => ?_, ?_, fun q hq => ?_, fun q hq => ?_⟩
  · rcases List.mem_cons.mp hq with rfl | hq
    · exact ⟨hc, Safe.ext E C.1 (Safe.new (Nat.le_refl _)), EZ.1, Or.inl C.2.1⟩
    · obtain ⟨a1, a2, a3, a4⟩ := hM q hq
      exact ⟨E.2 _ _ a1, a2.ext E C.1, a3, a4⟩
  · refine List.nodup_cons.mpr ⟨fun z => ?_, hn⟩
    obtain ⟨q, hq, e⟩ := List.mem_map.mp z
    exact nin q (hM q hq).1 e
  · obtain ⟨a1, a2, a3⟩ := hN q hq
    exact ⟨E.2 _ _ a1, fun z => (List.mem_cons.mp z).elim (nin q a1) a2, a3⟩
  · obtain ⟨a1, a2⟩ := hP q hq
    exact ⟨E.2 _ _ a1, fun z => (List.mem_cons.mp z).elim (nin q a1) a2⟩
theorem OInv.write (I : OInv Z EL vmS h0 ws vm h M N P) (hi : M[i]? = some (a, c)) (W : Wr h h' a sl v) : OInv Z EL vmS h0 ws vm h' (M.set i (a, c.setSlot sl v)) N P := by
  obtain ⟨C, EZ, hM, hn, hN, hP⟩ := I
  obtain ⟨b1, b2, b3, b4⟩ := hM _ (List.mem_of_getElem? hi)
  have W0 := W
  obtain ⟨cell, w1, w2, w3, rfl⟩ := W
  have e : cell = c := Option.some.inj (w1.symm.trans b1)
  subst e
  have ne : ∀ {y : Addr}, y ≠ a → (h.setIfInBounds a (cell.setSlot sl v))[y]? = h[y]? := fun {y} q => Array.getElem?_setIfInBounds_ne (Ne.symm q)
  have dm := dom_set (c' := cell.setSlot sl v) hi
  refine ⟨C.trans (CHr.wr W0 b2 C.1), ⟨by simpa using EZ.1, fun y cy q => ?_⟩, fun q hq => ?_, by rw [dm]; exact hn, fun q hq => ?_, fun q hq => ?_⟩
  · exact (ne (Nat.ne_of_lt (Nat.lt_of_lt_of_le (lt_of q) b3))).trans (EZ.2 _ _ q)
  · rcases mem_set hn hi q hq with rfl | ⟨hq, e⟩
    · exact ⟨by have := lt_of w1; simp [this], b2.wr W0 C.1 b2, b3, b4⟩
    · obtain ⟨a1, a2, a3, a4⟩ := hM q hq
      exact ⟨by rw [ne e]; exact a1, b2.wr W0 C.1 a2, a3, a4⟩
  · obtain ⟨a1, a2, a3⟩ := hN q hq
    exact ⟨(ne fun z => a2 (by rw [z]; exact List.mem_map.mpr ⟨_, List.mem_of_getElem? hi, rfl⟩)).trans a1, by rw [dm]; exact a2, a3⟩
  · obtain ⟨a1, a2⟩ := hP q hq
    exact ⟨(ne fun z => a2 (by rw [z]; exact List.mem_map.mpr ⟨_, List.mem_of_getElem? hi, rfl⟩)).trans a1, by rw [dm]; exact a2⟩
theorem OInv.later (I : OInv Z EL vmS h0 ws vm h M N P) (D : CHr Z EL vm h vm1 h') (E : Ext h h') : OInv Z EL vmS h0 ws vm1 h' M N P := by
  obtain ⟨C, EZ, hM, hn, hN, hP⟩ := I
  refine ⟨C.trans D, ext_trans EZ E, fun q hq => ?_, hn, fun q hq => ?_, fun q hq => ?_⟩
  · obtain ⟨a1, a2, a3⟩ := hM q hq
    exact ⟨E.2 _ _ a1, D.safe (lt_of a1) a2, a3⟩
  · obtain ⟨a1, a2⟩ := hN q hq
    exact ⟨E.2 _ _ a1, a2⟩
  · obtain ⟨a1, a2⟩ := hP q hq
    exact ⟨E.2 _ _ a1, a2⟩
/-- what is booked may be frozen knowledge too -/
theorem OInv.learn (I : OInv Z EL vmS h0 ws vm h M N P) (q1 : h[a]? = some c) (q2 : a ∉ dom M) (q3 : h0.size ≤ a ∨ a ∈ ws ∨ Bk Z EL vmS h0 a) : OInv Z EL vmS h0 ws vm h M ((a, c) :: N) P := by
  obtain ⟨C, EZ, hM, hn, hN, hP⟩ := I
  refine ⟨C, EZ, hM, hn, fun q hq => ?_, hP⟩
  rcases List.mem_cons.mp hq with rfl | hq
  · exact ⟨q1, q2, q3⟩
  · exact hN q hq
theorem OInv.sub (I : OInv Z EL vmS h0 ws vm h M N P) (hm : M'.Sublist M) (hn' : ∀ q ∈ N', q ∈ N) : OInv Z EL vmS h0 ws vm h M' N' [] := by
  obtain ⟨C, EZ, hM, hn, hN, hP⟩ := I
  exact ⟨C, EZ, fun q hq => hM q (hm.subset hq), (hm.map Prod.fst).nodup hn, fun q hq => ⟨(hN q (hn' q hq)).1, fun z => (hN q (hn' q hq)).2.1 ((hm.map Prod.fst).subset z), (hN q (hn' q hq)).2.2⟩, fun q hq => nomatch hq⟩
/-- one cell of M is written no more -/
theorem OInv.freeze (I : OInv Z EL vmS h0 ws vm h ((a, c) :: M) N P) : OInv Z EL vmS h0 ws vm h M ((a, c) :: N) P := by
  obtain ⟨C, EZ, hM, hn, hN, hP⟩ := I
  have hn' := List.nodup_cons.mp (show (a :: dom M).Nodup from hn)
  obtain ⟨b1, b2, b3, b4⟩ := hM _ (List.mem_cons_self ..)
  refine ⟨C, EZ, fun q hq => hM q (List.mem_cons_of_mem _ hq), hn'.2, fun q hq => ?_, fun q hq => ⟨(hP q hq).1, fun z => (hP q hq).2 (List.mem_cons_of_mem _ z)⟩⟩
  rcases List.mem_cons.mp hq with rfl | hq
  · exact ⟨b1, hn'.1, b4.imp id Or.inl⟩
  · exact ⟨(hN q hq).1, fun z => (hN q hq).2.1 (List.mem_cons_of_mem _ z), (hN q hq).2.2⟩
/-- the cells of M in another order -/
theorem OInv.perm (I : OInv Z EL vmS h0 ws vm h M N P) (hp : M'.Perm M) : OInv Z EL vmS h0 ws vm h M' N P := by
  obtain ⟨C, EZ, hM, hn, hN, hP⟩ := I
  have hd : (dom M').Perm (dom M) := hp.map _
  exact ⟨C, EZ, fun q hq => hM q (hp.subset hq), hd.nodup_iff.mpr hn, fun q hq => ⟨(hN q hq).1, fun z => (hN q hq).2.1 (hd.subset z), (hN q hq).2.2⟩, fun q hq => ⟨(hP q hq).1, fun z => (hP q hq).2 (hd.subset z)⟩⟩
theorem OInv.at (I : OInv Z EL vmS h0 ws vm h M N P) {q : Addr × Cell} (hq : q ∈ M ++ (N ++ P)) : h[q.1]? = some q.2 := by
  rcases List.mem_append.mp hq with hq | hq
  · exact (I.2.2.1 q hq).1
  · rcases List.mem_append.mp hq with hq | hq
    · exact (I.2.2.2.2.1 q hq).1
    · exact (I.2.2.2.2.2 q hq).1
variable {Mi Mr Mo No Pc : Mem}
/-- what a callee may ask -/
theorem OInv.hand (I : OInv Z EL vmS h0 ws vm h (Mi ++ Mr) N P) (D : CHr Z EL vm h vm1 h) (hp : ∀ q ∈ Pc, q ∈ Mr ++ (N ++ P)) : OInv Z EL vm1 h (dom Mi) vm1 h Mi [] Pc := by
  obtain ⟨C, EZ, hM, hn, hN, hP⟩ := I.later D (ext_refl h)
  rw [dom, List.map_append] at hn
  obtain ⟨n1, n2, n3⟩ := List.nodup_append.mp hn
  refine ⟨CHr.refl D.1, EZ, fun q hq => ?_, n1, fun q hq => (nomatch hq), fun q hq => ?_⟩
  · obtain ⟨a1, a2, a3, -⟩ := hM q (List.mem_append_left _ hq)
    exact ⟨a1, a2, a3, Or.inr (List.mem_map.mpr ⟨q, hq, rfl⟩)⟩
  · rcases List.mem_append.mp (hp q hq) with hq | hq
    · exact ⟨(hM q (List.mem_append_right _ hq)).1, fun z => n3 _ z _ (List.mem_map.mpr ⟨q, hq, rfl⟩) rfl⟩
    · have sub : q.1 ∈ dom Mi → q.1 ∈ dom (Mi ++ Mr) := fun z => by rw [dom, List.map_append]; exact List.mem_append_left _ z
      rcases List.mem_append.mp hq with hq | hq
      · exact ⟨(hN q hq).1, fun z => (hN q hq).2.1 (sub z)⟩
      · exact ⟨(hP q hq).1, fun z => (hP q hq).2 (sub z)⟩
/-- what stands behind a call -/
theorem OInv.call (I : OInv Z EL vmS h0 ws vm h (Mi ++ Mr) N P) (D : CHr Z EL vm h vm1 h) (J : OInv Z EL vm1 h (dom Mi) vm2 h2 Mo No []) (K : OKp h h2 (dom Mi)) : OInv Z EL vmS h0 ws vm2 h2 (Mo ++ Mr) (No ++ N) P := by
  obtain ⟨C, EZ, hM, hn, hN, hP⟩ := I.later D (ext_refl h)
  obtain ⟨C', EZ', hM', hn', hN', -⟩ := J
  rw [dom, List.map_append] at hn
  obtain ⟨n1, n2, n3⟩ := List.nodup_append.mp hn
  have sub : ∀ {y : Addr}, y ∈ dom Mi → y ∈ dom (Mi ++ Mr) := fun {y} z => by rw [dom, List.map_append]; exact List.mem_append_left _ z
  have subr : ∀ {y : Addr}, y ∈ dom Mr → y ∈ dom (Mi ++ Mr) := fun {y} z => by rw [dom, List.map_append]; exact List.mem_append_right _ z
  have up : ∀ {y : Addr}, h.size ≤ y ∨ y ∈ dom Mi → h0.size ≤ y ∨ y ∈ ws := fun {y} z => by
    rcases z with z | z
    · exact Or.inl (Nat.le_trans C.2.1 z)
    · obtain ⟨q, hq, rfl⟩ := List.mem_map.mp z
      exact (hM q (List.mem_append_left _ hq)).2.2.2
  have far : ∀ {y : Addr} {q : Addr × Cell}, h.size ≤ y ∨ y ∈ dom Mi → q ∈ Mr → q.1 ≠ y := fun {y q} z hq e => by
    rcases z with z | z
    · rw [← e] at z; exact Nat.not_lt.mpr z (lt_of (hM q (List.mem_append_right _ hq)).1)
    · exact n3 _ z _ (List.mem_map.mpr ⟨q, hq, rfl⟩) e.symm
  refine ⟨C.trans C', EZ', fun q hq => ?_, ?_, fun q hq => ?_, fun q hq => ?_⟩
  · rcases List.mem_append.mp hq with hq | hq
    · obtain ⟨a1, a2, a3, a4⟩ := hM' q hq
      exact ⟨a1, a2, a3, up a4⟩
    · obtain ⟨a1, a2, a3, a4⟩ := hM q (List.mem_append_right _ hq)
      exact ⟨K.2 _ _ a1 fun z => n3 _ z _ (List.mem_map.mpr ⟨q, hq, rfl⟩) rfl, C'.safe (lt_of a1) a2, a3, a4⟩
  · rw [dom, List.map_append]
    refine List.nodup_append.mpr ⟨hn', n2, fun y hy z hz e => ?_⟩
    obtain ⟨q, hq, rfl⟩ := List.mem_map.mp hy
    obtain ⟨r, hr, rfl⟩ := List.mem_map.mp hz
    exact far (hM' q hq).2.2.2 hr e.symm
  · rcases List.mem_append.mp hq with hq | hq
    · obtain ⟨a1, a2, a3⟩ := hN' q hq
      refine ⟨a1, fun z => ?_, ?_⟩
      · rw [dom, List.map_append] at z
        rcases List.mem_append.mp z with z | z
        · exact a2 z
        · obtain ⟨r, hr, e⟩ := List.mem_map.mp z
          rcases a3 with a3 | a3 | a3
          · exact far (Or.inl a3) hr e
          · exact far (Or.inr a3) hr e
          · exact (hM r (List.mem_append_right _ hr)).2.1 (e ▸ a3)
      · rcases a3 with a3 | a3 | a3
        · exact (up (Or.inl a3)).imp id Or.inl
        · exact (up (Or.inr a3)).imp id Or.inl
        · exact (C.2.2 _ a3).elim (fun z => Or.inr (Or.inr z)) Or.inl
    · obtain ⟨a1, a2, a3⟩ := hN q hq
      refine ⟨K.2 _ _ a1 fun z => a2 (sub z), fun z => ?_, a3⟩
      rw [dom, List.map_append] at z
      rcases List.mem_append.mp z with z | z
      · obtain ⟨r, hr, e⟩ := List.mem_map.mp z
        rcases (hM' r hr).2.2.2 with b | b
        · rw [e] at b; exact Nat.not_lt.mpr b (lt_of a1)
        · rw [e] at b; exact a2 (sub b)
      · exact a2 (subr z)
  · obtain ⟨a1, a2⟩ := hP q hq
    refine ⟨K.2 _ _ a1 fun z => a2 (sub z), fun z => ?_⟩
    rw [dom, List.map_append] at z
    rcases List.mem_append.mp z with z | z
    · obtain ⟨r, hr, e⟩ := List.mem_map.mp z
      rcases (hM' r hr).2.2.2 with b | b
      · rw [e] at b; exact Nat.not_lt.mpr b (lt_of a1)
      · rw [e] at b; exact a2 (sub b)
    · exact a2 (subr z)
end Inv
/-! 2. A WALK: OSt (where it stands), OWp (it comes to the end that Q says), OCon (a method's contract) -/
def OSt (p : Program) (l : Launch) (e : Env) (R : Room) (s : State) (m : MethodId) (args : Array Value) (below : List Frame) (meth : Method) (c : Code) (own : String) (Z : State) (EL : List (String × Nat)) (ws : List Addr) (P : Mem)
    (T : State) (M N : Mem) (cells slots : Nat) : Prop :=
  ∃ (vm0 : Vm) (k0 : Nat) (locs : List Loc), Stand p l e R (s.setVm vm0) m args below meth c T locs cells slots ∧ s.Since vm0 k0 ∧ k0 ≤ T.heap.size ∧ Z.Warmed39 vm0 ∧ vm0.findClass own = some m.cls ∧
    (∀ y ∈ locs, s.heap.size ≤ y.base ∨ y.base ∈ ws) ∧ OInv Z EL s.vm s.heap ws vm0 T.heap M N P
def OEnd (e : Env) (R : Room) (s : State) (below : List Frame) (Z : State) (EL : List (String × Nat)) (ws : List Addr) (Q : Option Value → Mem → Mem → Prop) (U : State) : Prop :=
  ∃ (v : Option Value) (L : List Loc), U.status = .running ∧ Ended U below (.returned v) ∧ (∃ M N, Q v M N ∧ OInv Z EL s.vm s.heap ws U.vm U.heap M N []) ∧ OKp s.heap U.heap ws ∧ (∀ y ∈ L, s.heap.size ≤ y.base ∨ y.base ∈ ws) ∧ ReturnedEndW s (.returned v) U L R.cells R.slots
def OWp (p : Program) (l : Launch) (e : Env) (R : Room) (s : State) (m : MethodId) (args : Array Value) (below : List Frame) (meth : Method) (c : Code) (own : String) (Z : State) (EL : List (String × Nat)) (ws : List Addr) (P : Mem)
    (Q : Option Value → Mem → Mem → Prop) (M N : Mem) (cells slots pc : Nat) (L : List Slot) (S : List Value) : Prop :=
  ∀ T, OSt p l e R s m args below meth c own Z EL ws P T M N cells slots → ∃ U, Steps p.tables e below (T.setTop (mkF m pc L.toArray S)) U ∧ OEnd e R s below Z EL ws Q U
def OOk (p : Program) (bytes : ByteArray) (maxL : Nat) (ret : Option FieldType) (nm : String) (meth : Method) (c : Code) (Z : State) (a0 : Array Value) (EL : List (String × Nat)) : Prop :=
  p.tables.exec = Jvm.exec ∧ c.code = bytes ∧ c.maxLocals = maxL ∧ meth.sig.returnType = ret ∧ meth.locks = false ∧ meth.name = nm ∧ EW Z a0 EL
def OCon (l : Launch) (Z : State) (EL : List (String × Nat)) (y : MethodName) (bytes : ByteArray) (maxL : Nat) (ret : Option FieldType) (xs : List Jvm.Cond) (rm : Room) (as' : Array Value) (Mi P : Mem) (Q : Option Value → Mem → Mem → Prop) : Prop :=
  MetFree l y (head1 (Jvm.Cond.code y bytes maxL ret :: xs) rm) (fun a U => a = as' ∧ Z.Warmed39 U.vm ∧ OInv Z EL U.vm U.heap (dom Mi) U.vm U.heap Mi [] P) (fun _ _ _ _ _ => True)
    (fun _ U o U' => ∃ v L, o = .returned v ∧ (∃ M N, Q v M N ∧ OInv Z EL U.vm U.heap (dom Mi) U'.vm U'.heap M N []) ∧ OKp U.heap U'.heap (dom Mi) ∧ (∀ y ∈ L, U.heap.size ≤ y.base ∨ y.base ∈ dom Mi) ∧ ReturnedEndW U o U' L rm.cells rm.slots)
section Walk
variable {p : Program} {l : Launch} {e : Env} {R : Room} {s : State} {m : MethodId} {args : Array Value} {below : List Frame} {meth : Method} {c : Code} {own : String} {Z : State} {a0 : Array Value} {EL : List (String × Nat)} {ws : List Addr} {P : Mem} {Q : Option Value → Mem → Mem → Prop} {M N : Mem} {cells slots pc pc' : Nat} {L L' : List Slot} {S S' rest : List Value} {bytes : ByteArray} {maxL : Nat} {ret : Option FieldType} {nm : String}
theorem okp_of {vm0 : Vm} {T : State} {locs : List Loc} (X : Stand p l e R (s.setVm vm0) m args below meth c T locs cells slots) (hL : ∀ y ∈ locs, s.heap.size ≤ y.base ∨ y.base ∈ ws) : OKp s.heap T.heap ws := by
  obtain ⟨-, q1, -, -, -, q2⟩ := X.same
  refine ⟨q1, fun x cx hx hnx => ?_⟩
  obtain ⟨c', r1, r2, r3, r4⟩ := q2 x cx hx
  have r1 : T.heap[x]? = some c' := r1
  have e : c'.slots = cx.slots := Array.ext_getElem? fun i => r4 i fun z => by
    rcases hL _ z with y | y
    · have := lt_of hx; exact absurd y (Nat.not_le.mpr this)
    · exact hnx y
  rw [r1, r2, e]
theorem chat {vm0 vm1 : Vm} {h : Heap} (hW : (s.setVm vm0).WarmedH vm1) (hZ : Z.Warmed39 vm0) (w : EW Z a0 EL) (H : CHv Z EL vm0 h) : CHr Z EL vm0 h vm1 h := by
  have q := CHv.later (h' := h) hZ (hW := (show (Wst Z vm0 h).Warmed39 vm1 from hW.wide)) w ⟨Nat.le_refl _, fun _ _ q => q⟩ (Or.inl hW.interned_eq) H
  exact ⟨q.1, Nat.le_refl _, q.2⟩
/-- a contract by its walk -/
theorem OCon.of_wp {y : MethodName} {xs : List Jvm.Cond} {rm : Room} {as' : Array Value} {Mi : Mem} {L0 : List Slot} (hpl : plainFor y = true) (hEL : EW Z a0 EL) (hent : ∀ m, entryFrame m as' maxL = mkF m 0 L0.toArray [])
    (H : ∀ p e s m below meth c, OOk p bytes maxL ret y.name meth c Z a0 EL → OWp p l e rm s m as' below meth c y.cls Z EL (dom Mi) P Q Mi [] 0 0 0 L0 []) : OCon l Z EL y bytes maxL ret xs rm as' Mi P Q := by
  refine MetFree.of_bodySF hpl hisR ?_
  intro p e s m args below meth c s₁ Bd hml0 hP hK
  obtain ⟨rfl, hZ, I⟩ := hP
  have X0 : Stand p l e rm s m args below meth c s₁ [] 0 0 := Stand.of_body Bd
  have hown : s.vm.findClass y.cls = some m.cls := findClass_of_methodNamed Bd.named
  have hnm := (name_of_methodNamed Bd.named Bd.method).1
  have hh : s₁.heap = s.heap := by rw [Bd.state]; rfl
  obtain ⟨U, st, v, L, h1, h2, h3, h4, h5, h6⟩ := H p e s m below meth c ⟨Bd.exec, Bd.bytes, hml0, Bd.returns, Bd.notSynchronized, hnm, hEL⟩ s₁
    ⟨s.vm, 0, [], X0, (State.WarmedH.refl s).since 0, Nat.zero_le _, hZ, hown, fun _ q => (nomatch q), by rw [hh]; exact I⟩
  refine ⟨U, .returned v, ?_, h1, h2, v, L, rfl, h3, h4, h5, h6⟩
  rw [hent m]; exact st
/-- a step that leaves all but the frame -/
theorem OWp.pure (H : ∀ T target, At T m c below → Steps p.tables e below (T.setTop (mkF m pc' L'.toArray S')) target → Steps p.tables e below (T.setTop (mkF m pc L.toArray S)) target)
    (k : OWp p l e R s m args below meth c own Z EL ws P Q M N cells slots pc' L' S') : OWp p l e R s m args below meth c own Z EL ws P Q M N cells slots pc L S := fun T hT => by
  obtain ⟨U, st, r⟩ := k T hT
  obtain ⟨vm0, k0, locs, X, -⟩ := hT
  exact ⟨U, H T U X.here st, r⟩
/-- one word lies in the slot, or none -/
def o1 : Slot → Bool
  | .unset => true
  | .val w => w.category == 1
  | .second => false
theorem store_l {L : List Slot} {k : Nat} {v : Value} (ho : (L[k]?).any o1 = true) (hv : v.category = 1) : storeLocals L.toArray k v = some (L.set k (.val v)).toArray := by
  cases hk : L[k]? with
  | none => rw [hk] at ho; cases ho
  | some o =>
    rw [hk] at ho
    have ho' : o1 o = true := ho
    rw [Jvm.Free.XS.store1 (l := L.toArray) (i := k) (o := o) (by simpa using hk) (by cases o <;> simp [o1] at ho' ⊢; exact ho') hv]
    simp
section Pure
variable (hk : OOk p bytes maxL ret nm meth c Z a0 EL)
theorem OWp.aload_n {k : Fin 4} {v : Value} (hk : OOk p bytes maxL ret nm meth c Z a0 EL) (hd : decode bytes pc = .ok (.aload_n k, 1)) (hp : pc' = pc + 1) (hl : L[k.val]? = some (.val v)) (hv : v.isRef = true)
    (kk : OWp p l e R s m args below meth c own Z EL ws P Q M N cells slots pc' L (v :: S)) : OWp p l e R s m args below meth c own Z EL ws P Q M N cells slots pc L S := by
  subst hp; exact OWp.pure (fun T t h k => XS.aloadN h hk.1 rfl (hb hk.2.1 hd) (by simpa using hl) hv k) kk
theorem OWp.aload {k : Nat} {v : Value} (hk : OOk p bytes maxL ret nm meth c Z a0 EL) (hd : decode bytes pc = .ok (.aload k, 2)) (hp : pc' = pc + 2) (hl : L[k]? = some (.val v)) (hv : v.isRef = true)
    (kk : OWp p l e R s m args below meth c own Z EL ws P Q M N cells slots pc' L (v :: S)) : OWp p l e R s m args below meth c own Z EL ws P Q M N cells slots pc L S := by
  subst hp; exact OWp.pure (fun T t h k => XS.aload h hk.1 rfl (hb hk.2.1 hd) (by simpa using hl) hv k) kk
theorem OWp.iload_n {k : Fin 4} {v : Int32} (hk : OOk p bytes maxL ret nm meth c Z a0 EL) (hd : decode bytes pc = .ok (.iload_n k, 1)) (hp : pc' = pc + 1) (hl : L[k.val]? = some (.val (.int v)))
    (kk : OWp p l e R s m args below meth c own Z EL ws P Q M N cells slots pc' L (.int v :: S)) : OWp p l e R s m args below meth c own Z EL ws P Q M N cells slots pc L S := by
  subst hp; exact OWp.pure (fun T t h k => XS.iloadN h hk.1 rfl (hb hk.2.1 hd) (by simpa using hl) k) kk
theorem OWp.iload {k : Nat} {v : Int32} (hk : OOk p bytes maxL ret nm meth c Z a0 EL) (hd : decode bytes pc = .ok (.iload k, 2)) (hp : pc' = pc + 2) (hl : L[k]? = some (.val (.int v)))
    (kk : OWp p l e R s m args below meth c own Z EL ws P Q M N cells slots pc' L (.int v :: S)) : OWp p l e R s m args below meth c own Z EL ws P Q M N cells slots pc L S := by
  subst hp; exact OWp.pure (fun T t h k => XS.iload h hk.1 rfl (hb hk.2.1 hd) (by simpa using hl) k) kk
theorem OWp.lload_n {k : Fin 4} {v : Int64} (hk : OOk p bytes maxL ret nm meth c Z a0 EL) (hd : decode bytes pc = .ok (.lload_n k, 1)) (hp : pc' = pc + 1) (hl : L[k.val]? = some (.val (.long v)))
    (kk : OWp p l e R s m args below meth c own Z EL ws P Q M N cells slots pc' L (.long v :: S)) : OWp p l e R s m args below meth c own Z EL ws P Q M N cells slots pc L S := by
  subst hp; exact OWp.pure (fun T t h k => XS.lloadN h hk.1 rfl (hb hk.2.1 hd) (by simpa using hl) k) kk
theorem OWp.lload {k : Nat} {v : Int64} (hk : OOk p bytes maxL ret nm meth c Z a0 EL) (hd : decode bytes pc = .ok (.lload k, 2)) (hp : pc' = pc + 2) (hl : L[k]? = some (.val (.long v)))
    (kk : OWp p l e R s m args below meth c own Z EL ws P Q M N cells slots pc' L (.long v :: S)) : OWp p l e R s m args below meth c own Z EL ws P Q M N cells slots pc L S := by
  subst hp; exact OWp.pure (fun T t h k => XS.lload h hk.1 rfl (hb hk.2.1 hd) (by simpa using hl) k) kk
theorem OWp.iconst {i : Int} {z : Int32} (hk : OOk p bytes maxL ret nm meth c Z a0 EL) (hd : decode bytes pc = .ok (.iconst i, 1)) (hp : pc' = pc + 1) (hz : Int32.ofInt i = z)
    (kk : OWp p l e R s m args below meth c own Z EL ws P Q M N cells slots pc' L (.int z :: S)) : OWp p l e R s m args below meth c own Z EL ws P Q M N cells slots pc L S := by
  subst hp hz; exact OWp.pure (fun T t h k => XS.iconst h hk.1 rfl (hb hk.2.1 hd) k) kk
theorem OWp.bipush {i : Int} {z : Int32} (hk : OOk p bytes maxL ret nm meth c Z a0 EL) (hd : decode bytes pc = .ok (.bipush i, 2)) (hp : pc' = pc + 2) (hz : (Int8.ofInt i).toInt32 = z)
    (kk : OWp p l e R s m args below meth c own Z EL ws P Q M N cells slots pc' L (.int z :: S)) : OWp p l e R s m args below meth c own Z EL ws P Q M N cells slots pc L S := by
  subst hp hz; exact OWp.pure (fun T t h k => XS.bipush h hk.1 rfl (hb hk.2.1 hd) k) kk
theorem OWp.sipush {i : Int} {z : Int32} (hk : OOk p bytes maxL ret nm meth c Z a0 EL) (hd : decode bytes pc = .ok (.sipush i, 3)) (hp : pc' = pc + 3) (hz : (Int16.ofInt i).toInt32 = z)
    (kk : OWp p l e R s m args below meth c own Z EL ws P Q M N cells slots pc' L (.int z :: S)) : OWp p l e R s m args below meth c own Z EL ws P Q M N cells slots pc L S := by
  subst hp hz; exact OWp.pure (fun T t h k => XS.sipush h hk.1 rfl (hb hk.2.1 hd) k) kk
theorem OWp.lconst {i : Fin 2} {z : Int64} (hk : OOk p bytes maxL ret nm meth c Z a0 EL) (hd : decode bytes pc = .ok (.lconst i, 1)) (hp : pc' = pc + 1) (hz : Int64.ofNat i = z)
    (kk : OWp p l e R s m args below meth c own Z EL ws P Q M N cells slots pc' L (.long z :: S)) : OWp p l e R s m args below meth c own Z EL ws P Q M N cells slots pc L S := by
  subst hp hz; exact OWp.pure (fun T t h k => XS.lconst h hk.1 rfl (hb hk.2.1 hd) k) kk
theorem OWp.aconst_null (hk : OOk p bytes maxL ret nm meth c Z a0 EL) (hd : decode bytes pc = .ok (.aconst_null, 1)) (hp : pc' = pc + 1)
    (kk : OWp p l e R s m args below meth c own Z EL ws P Q M N cells slots pc' L (.null :: S)) : OWp p l e R s m args below meth c own Z EL ws P Q M N cells slots pc L S := by
  subst hp; exact OWp.pure (fun T t h k => XS.aconstNull h hk.1 rfl (hb hk.2.1 hd) k) kk
theorem OWp.iadd {x : Int32} {y : Int32} (hk : OOk p bytes maxL ret nm meth c Z a0 EL) (hd : decode bytes pc = .ok (.iadd, 1)) (hp : pc' = pc + 1) 
    (kk : OWp p l e R s m args below meth c own Z EL ws P Q M N cells slots pc' L (.int (x + y) :: rest)) : OWp p l e R s m args below meth c own Z EL ws P Q M N cells slots pc L (.int y :: .int x :: rest) := by
  subst hp; exact OWp.pure (fun T t h k => XS.iadd h hk.1 rfl (hb hk.2.1 hd) rfl k) kk
theorem OWp.isub {x : Int32} {y : Int32} (hk : OOk p bytes maxL ret nm meth c Z a0 EL) (hd : decode bytes pc = .ok (.isub, 1)) (hp : pc' = pc + 1) 
    (kk : OWp p l e R s m args below meth c own Z EL ws P Q M N cells slots pc' L (.int (x - y) :: rest)) : OWp p l e R s m args below meth c own Z EL ws P Q M N cells slots pc L (.int y :: .int x :: rest) := by
  subst hp; exact OWp.pure (fun T t h k => XS.isub h hk.1 rfl (hb hk.2.1 hd) rfl k) kk
theorem OWp.imul {x : Int32} {y : Int32} (hk : OOk p bytes maxL ret nm meth c Z a0 EL) (hd : decode bytes pc = .ok (.imul, 1)) (hp : pc' = pc + 1) 
    (kk : OWp p l e R s m args below meth c own Z EL ws P Q M N cells slots pc' L (.int (x * y) :: rest)) : OWp p l e R s m args below meth c own Z EL ws P Q M N cells slots pc L (.int y :: .int x :: rest) := by
  subst hp; exact OWp.pure (fun T t h k => XS.imul h hk.1 rfl (hb hk.2.1 hd) rfl k) kk
theorem OWp.iand {x : Int32} {y : Int32} (hk : OOk p bytes maxL ret nm meth c Z a0 EL) (hd : decode bytes pc = .ok (.iand, 1)) (hp : pc' = pc + 1) 
    (kk : OWp p l e R s m args below meth c own Z EL ws P Q M N cells slots pc' L (.int (x &&& y) :: rest)) : OWp p l e R s m args below meth c own Z EL ws P Q M N cells slots pc L (.int y :: .int x :: rest) := by
  subst hp; exact OWp.pure (fun T t h k => XS.iand h hk.1 rfl (hb hk.2.1 hd) rfl k) kk
theorem OWp.ior {x : Int32} {y : Int32} (hk : OOk p bytes maxL ret nm meth c Z a0 EL) (hd : decode bytes pc = .ok (.ior, 1)) (hp : pc' = pc + 1) 
    (kk : OWp p l e R s m args below meth c own Z EL ws P Q M N cells slots pc' L (.int (x ||| y) :: rest)) : OWp p l e R s m args below meth c own Z EL ws P Q M N cells slots pc L (.int y :: .int x :: rest) := by
  subst hp; exact OWp.pure (fun T t h k => XS.ior h hk.1 rfl (hb hk.2.1 hd) rfl k) kk
theorem OWp.ixor {x : Int32} {y : Int32} (hk : OOk p bytes maxL ret nm meth c Z a0 EL) (hd : decode bytes pc = .ok (.ixor, 1)) (hp : pc' = pc + 1) 
    (kk : OWp p l e R s m args below meth c own Z EL ws P Q M N cells slots pc' L (.int (x ^^^ y) :: rest)) : OWp p l e R s m args below meth c own Z EL ws P Q M N cells slots pc L (.int y :: .int x :: rest) := by
  subst hp; exact OWp.pure (fun T t h k => XS.ixor h hk.1 rfl (hb hk.2.1 hd) rfl k) kk
theorem OWp.ishl {x : Int32} {y : Int32} (hk : OOk p bytes maxL ret nm meth c Z a0 EL) (hd : decode bytes pc = .ok (.ishl, 1)) (hp : pc' = pc + 1) 
    (kk : OWp p l e R s m args below meth c own Z EL ws P Q M N cells slots pc' L (.int (x <<< (y &&& 31)) :: rest)) : OWp p l e R s m args below meth c own Z EL ws P Q M N cells slots pc L (.int y :: .int x :: rest) := by
  subst hp; exact OWp.pure (fun T t h k => XS.ishl h hk.1 rfl (hb hk.2.1 hd) rfl k) kk
theorem OWp.ishr {x : Int32} {y : Int32} (hk : OOk p bytes maxL ret nm meth c Z a0 EL) (hd : decode bytes pc = .ok (.ishr, 1)) (hp : pc' = pc + 1) 
    (kk : OWp p l e R s m args below meth c own Z EL ws P Q M N cells slots pc' L (.int (x >>> (y &&& 31)) :: rest)) : OWp p l e R s m args below meth c own Z EL ws P Q M N cells slots pc L (.int y :: .int x :: rest) := by
  subst hp; exact OWp.pure (fun T t h k => XS.ishr h hk.1 rfl (hb hk.2.1 hd) rfl k) kk
theorem OWp.iushr {x : Int32} {y : Int32} (hk : OOk p bytes maxL ret nm meth c Z a0 EL) (hd : decode bytes pc = .ok (.iushr, 1)) (hp : pc' = pc + 1) 
    (kk : OWp p l e R s m args below meth c own Z EL ws P Q M N cells slots pc' L (.int (XT.ushr x y) :: rest)) : OWp p l e R s m args below meth c own Z EL ws P Q M N cells slots pc L (.int y :: .int x :: rest) := by
  subst hp; exact OWp.pure (fun T t h k => XS.iushr h hk.1 rfl (hb hk.2.1 hd) rfl k) kk
theorem OWp.idiv {x : Int32} {y : Int32} (hk : OOk p bytes maxL ret nm meth c Z a0 EL) (hd : decode bytes pc = .ok (.idiv, 1)) (hp : pc' = pc + 1) (hy : y ≠ 0)
    (kk : OWp p l e R s m args below meth c own Z EL ws P Q M N cells slots pc' L (.int (x / y) :: rest)) : OWp p l e R s m args below meth c own Z EL ws P Q M N cells slots pc L (.int y :: .int x :: rest) := by
  subst hp; exact OWp.pure (fun T t h k => XS.idiv h hk.1 rfl (hb hk.2.1 hd) rfl hy k) kk
theorem OWp.ladd {x : Int64} {y : Int64} (hk : OOk p bytes maxL ret nm meth c Z a0 EL) (hd : decode bytes pc = .ok (.ladd, 1)) (hp : pc' = pc + 1) 
    (kk : OWp p l e R s m args below meth c own Z EL ws P Q M N cells slots pc' L (.long (x + y) :: rest)) : OWp p l e R s m args below meth c own Z EL ws P Q M N cells slots pc L (.long y :: .long x :: rest) := by
  subst hp; exact OWp.pure (fun T t h k => XS.ladd h hk.1 rfl (hb hk.2.1 hd) rfl k) kk
theorem OWp.lsub {x : Int64} {y : Int64} (hk : OOk p bytes maxL ret nm meth c Z a0 EL) (hd : decode bytes pc = .ok (.lsub, 1)) (hp : pc' = pc + 1) 
    (kk : OWp p l e R s m args below meth c own Z EL ws P Q M N cells slots pc' L (.long (x - y) :: rest)) : OWp p l e R s m args below meth c own Z EL ws P Q M N cells slots pc L (.long y :: .long x :: rest) := by
  subst hp; exact OWp.pure (fun T t h k => XS.lsub h hk.1 rfl (hb hk.2.1 hd) rfl k) kk
theorem OWp.lmul {x : Int64} {y : Int64} (hk : OOk p bytes maxL ret nm meth c Z a0 EL) (hd : decode bytes pc = .ok (.lmul, 1)) (hp : pc' = pc + 1) 
    (kk : OWp p l e R s m args below meth c own Z EL ws P Q M N cells slots pc' L (.long (x * y) :: rest)) : OWp p l e R s m args below meth c own Z EL ws P Q M N cells slots pc L (.long y :: .long x :: rest) := by
  subst hp; exact OWp.pure (fun T t h k => XS.lmul h hk.1 rfl (hb hk.2.1 hd) rfl k) kk
theorem OWp.land {x : Int64} {y : Int64} (hk : OOk p bytes maxL ret nm meth c Z a0 EL) (hd : decode bytes pc = .ok (.land, 1)) (hp : pc' = pc + 1) 
    (kk : OWp p l e R s m args below meth c own Z EL ws P Q M N cells slots pc' L (.long (x &&& y) :: rest)) : OWp p l e R s m args below meth c own Z EL ws P Q M N cells slots pc L (.long y :: .long x :: rest) := by
  subst hp; exact OWp.pure (fun T t h k => XS.land h hk.1 rfl (hb hk.2.1 hd) rfl k) kk
theorem OWp.lor {x : Int64} {y : Int64} (hk : OOk p bytes maxL ret nm meth c Z a0 EL) (hd : decode bytes pc = .ok (.lor, 1)) (hp : pc' = pc + 1) 
    (kk : OWp p l e R s m args below meth c own Z EL ws P Q M N cells slots pc' L (.long (x ||| y) :: rest)) : OWp p l e R s m args below meth c own Z EL ws P Q M N cells slots pc L (.long y :: .long x :: rest) := by
  subst hp; exact OWp.pure (fun T t h k => XS.lor h hk.1 rfl (hb hk.2.1 hd) rfl k) kk
theorem OWp.lshl {x : Int64} {y : Int32} (hk : OOk p bytes maxL ret nm meth c Z a0 EL) (hd : decode bytes pc = .ok (.lshl, 1)) (hp : pc' = pc + 1) 
    (kk : OWp p l e R s m args below meth c own Z EL ws P Q M N cells slots pc' L (.long (x <<< (y &&& 63).toInt64) :: rest)) : OWp p l e R s m args below meth c own Z EL ws P Q M N cells slots pc L (.int y :: .long x :: rest) := by
  subst hp; exact OWp.pure (fun T t h k => XS.lshl h hk.1 rfl (hb hk.2.1 hd) rfl k) kk
theorem OWp.lushr {x : Int64} {y : Int32} (hk : OOk p bytes maxL ret nm meth c Z a0 EL) (hd : decode bytes pc = .ok (.lushr, 1)) (hp : pc' = pc + 1) 
    (kk : OWp p l e R s m args below meth c own Z EL ws P Q M N cells slots pc' L (.long (x.toUInt64 >>> (y &&& 63).toInt64.toUInt64).toInt64 :: rest)) : OWp p l e R s m args below meth c own Z EL ws P Q M N cells slots pc L (.int y :: .long x :: rest) := by
  subst hp; exact OWp.pure (fun T t h k => XS.lushr h hk.1 rfl (hb hk.2.1 hd) rfl k) kk
theorem OWp.lshr {x : Int64} {y : Int32} (hk : OOk p bytes maxL ret nm meth c Z a0 EL) (hd : decode bytes pc = .ok (.lshr, 1)) (hp : pc' = pc + 1) 
    (kk : OWp p l e R s m args below meth c own Z EL ws P Q M N cells slots pc' L (.long (x >>> (y &&& 63).toInt64) :: rest)) : OWp p l e R s m args below meth c own Z EL ws P Q M N cells slots pc L (.int y :: .long x :: rest) := by
  subst hp; exact OWp.pure (fun T t h k => XS.lshr h hk.1 rfl (hb hk.2.1 hd) rfl k) kk
theorem OWp.i2b {x : Int32} (hk : OOk p bytes maxL ret nm meth c Z a0 EL) (hd : decode bytes pc = .ok (.i2b, 1)) (hp : pc' = pc + 1)
    (kk : OWp p l e R s m args below meth c own Z EL ws P Q M N cells slots pc' L (.int x.toInt8.toInt32 :: rest)) : OWp p l e R s m args below meth c own Z EL ws P Q M N cells slots pc L (.int x :: rest) := by
  subst hp; exact OWp.pure (fun T t h k => XS.i2b h hk.1 rfl (hb hk.2.1 hd) rfl k) kk
theorem OWp.i2c {x : Int32} (hk : OOk p bytes maxL ret nm meth c Z a0 EL) (hd : decode bytes pc = .ok (.i2c, 1)) (hp : pc' = pc + 1)
    (kk : OWp p l e R s m args below meth c own Z EL ws P Q M N cells slots pc' L (.int x.toUInt32.toUInt16.toUInt32.toInt32 :: rest)) : OWp p l e R s m args below meth c own Z EL ws P Q M N cells slots pc L (.int x :: rest) := by
  subst hp; exact OWp.pure (fun T t h k => XS.i2c h hk.1 rfl (hb hk.2.1 hd) rfl k) kk
theorem OWp.i2s {x : Int32} (hk : OOk p bytes maxL ret nm meth c Z a0 EL) (hd : decode bytes pc = .ok (.i2s, 1)) (hp : pc' = pc + 1)
    (kk : OWp p l e R s m args below meth c own Z EL ws P Q M N cells slots pc' L (.int x.toInt16.toInt32 :: rest)) : OWp p l e R s m args below meth c own Z EL ws P Q M N cells slots pc L (.int x :: rest) := by
  subst hp; exact OWp.pure (fun T t h k => XS.i2s h hk.1 rfl (hb hk.2.1 hd) rfl k) kk
theorem OWp.i2l {x : Int32} (hk : OOk p bytes maxL ret nm meth c Z a0 EL) (hd : decode bytes pc = .ok (.i2l, 1)) (hp : pc' = pc + 1)
    (kk : OWp p l e R s m args below meth c own Z EL ws P Q M N cells slots pc' L (.long x.toInt64 :: rest)) : OWp p l e R s m args below meth c own Z EL ws P Q M N cells slots pc L (.int x :: rest) := by
  subst hp; exact OWp.pure (fun T t h k => XS.i2l h hk.1 rfl (hb hk.2.1 hd) rfl k) kk
theorem OWp.l2i {x : Int64} (hk : OOk p bytes maxL ret nm meth c Z a0 EL) (hd : decode bytes pc = .ok (.l2i, 1)) (hp : pc' = pc + 1)
    (kk : OWp p l e R s m args below meth c own Z EL ws P Q M N cells slots pc' L (.int x.toInt32 :: rest)) : OWp p l e R s m args below meth c own Z EL ws P Q M N cells slots pc L (.long x :: rest) := by
  subst hp; exact OWp.pure (fun T t h k => XS.l2i h hk.1 rfl (hb hk.2.1 hd) rfl k) kk
theorem OWp.ineg {x : Int32} (hk : OOk p bytes maxL ret nm meth c Z a0 EL) (hd : decode bytes pc = .ok (.ineg, 1)) (hp : pc' = pc + 1)
    (kk : OWp p l e R s m args below meth c own Z EL ws P Q M N cells slots pc' L (.int (-x) :: rest)) : OWp p l e R s m args below meth c own Z EL ws P Q M N cells slots pc L (.int x :: rest) := by
  subst hp; exact OWp.pure (fun T t h k => XS.ineg h hk.1 rfl (hb hk.2.1 hd) rfl k) kk
theorem OWp.istore {k : Nat} {x : Int32} (hk : OOk p bytes maxL ret nm meth c Z a0 EL) (hd : decode bytes pc = .ok (.istore k, 2)) (hp : pc' = pc + 2) (ho : (L[k]?).any o1 = true) (hl : L.set k (.val (.int x)) = L')
    (kk : OWp p l e R s m args below meth c own Z EL ws P Q M N cells slots pc' L' rest) : OWp p l e R s m args below meth c own Z EL ws P Q M N cells slots pc L (.int x :: rest) := by
  subst hp hl; exact OWp.pure (fun T t h k => XS.istore h hk.1 rfl (hb hk.2.1 hd) rfl (store_l ho rfl) k) kk
theorem OWp.istore_n {k : Fin 4} {kn : Nat} {x : Int32} (hk : OOk p bytes maxL ret nm meth c Z a0 EL) (hd : decode bytes pc = .ok (.istore_n k, 1)) (hp : pc' = pc + 1) (hkn : k.val = kn) (ho : (L[kn]?).any o1 = true) (hl : L.set kn (.val (.int x)) = L')
    (kk : OWp p l e R s m args below meth c own Z EL ws P Q M N cells slots pc' L' rest) : OWp p l e R s m args below meth c own Z EL ws P Q M N cells slots pc L (.int x :: rest) := by
  subst hp hl hkn; exact OWp.pure (fun T t h k => XS.istoreN h hk.1 rfl (hb hk.2.1 hd) rfl (store_l ho rfl) k) kk
theorem OWp.astore {k : Nat} {x : Value} (hk : OOk p bytes maxL ret nm meth c Z a0 EL) (hd : decode bytes pc = .ok (.astore k, 2)) (hp : pc' = pc + 2) (hv : x.isRef = true) (ho : (L[k]?).any o1 = true) (hl : L.set k (.val x) = L')
    (kk : OWp p l e R s m args below meth c own Z EL ws P Q M N cells slots pc' L' rest) : OWp p l e R s m args below meth c own Z EL ws P Q M N cells slots pc L (x :: rest) := by
  subst hp hl; exact OWp.pure (fun T t h k => XS.astore h hk.1 rfl (hb hk.2.1 hd) rfl hv (store_l ho (XT.cat1 hv)) k) kk
theorem OWp.astore_n {k : Fin 4} {kn : Nat} {x : Value} (hk : OOk p bytes maxL ret nm meth c Z a0 EL) (hd : decode bytes pc = .ok (.astore_n k, 1)) (hp : pc' = pc + 1) (hkn : k.val = kn) (hv : x.isRef = true) (ho : (L[kn]?).any o1 = true) (hl : L.set kn (.val x) = L')
    (kk : OWp p l e R s m args below meth c own Z EL ws P Q M N cells slots pc' L' rest) : OWp p l e R s m args below meth c own Z EL ws P Q M N cells slots pc L (x :: rest) := by
  subst hp hl hkn; exact OWp.pure (fun T t h k => XS.astoreN h hk.1 rfl (hb hk.2.1 hd) rfl hv (store_l ho (XT.cat1 hv)) k) kk
theorem OWp.lstore {k : Nat} {x : Int64} (hk : OOk p bytes maxL ret nm meth c Z a0 EL) (hd : decode bytes pc = .ok (.lstore k, 2)) (hp : pc' = pc + 2) (hl : storeLocals L.toArray k (.long x) = some L'.toArray)
    (kk : OWp p l e R s m args below meth c own Z EL ws P Q M N cells slots pc' L' rest) : OWp p l e R s m args below meth c own Z EL ws P Q M N cells slots pc L (.long x :: rest) := by
  subst hp; exact OWp.pure (fun T t h k => XS.lstore h hk.1 rfl (hb hk.2.1 hd) rfl hl k) kk
theorem OWp.lstore_n {k : Fin 4} {kn : Nat} {x : Int64} (hk : OOk p bytes maxL ret nm meth c Z a0 EL) (hd : decode bytes pc = .ok (.lstore_n k, 1)) (hp : pc' = pc + 1) (hkn : k.val = kn) (hl : storeLocals L.toArray kn (.long x) = some L'.toArray)
    (kk : OWp p l e R s m args below meth c own Z EL ws P Q M N cells slots pc' L' rest) : OWp p l e R s m args below meth c own Z EL ws P Q M N cells slots pc L (.long x :: rest) := by
  subst hp hkn; exact OWp.pure (fun T t h k => XS.lstoreN h hk.1 rfl (hb hk.2.1 hd) rfl hl k) kk
theorem OWp.iinc {k : Nat} {cst : Int} {x z : Int32} (hk : OOk p bytes maxL ret nm meth c Z a0 EL) (hd : decode bytes pc = .ok (.iinc k cst, 3)) (hp : pc' = pc + 3) (hx : L[k]? = some (.val (.int x))) (hz : Int32.ofInt cst = z) (hl : L.set k (.val (.int (x + z))) = L')
    (kk : OWp p l e R s m args below meth c own Z EL ws P Q M N cells slots pc' L' S) : OWp p l e R s m args below meth c own Z EL ws P Q M N cells slots pc L S := by
  subst hp hl hz; exact OWp.pure (fun T t h k => XS.iinc h hk.1 rfl (hb hk.2.1 hd) (by simpa using hx) (store_l (by rw [hx]; rfl) rfl) k) kk
theorem OWp.dup {x : Value} (hk : OOk p bytes maxL ret nm meth c Z a0 EL) (hd : decode bytes pc = .ok (.dup, 1)) (hp : pc' = pc + 1) (hc : x.category = 1)
    (kk : OWp p l e R s m args below meth c own Z EL ws P Q M N cells slots pc' L (x :: x :: rest)) : OWp p l e R s m args below meth c own Z EL ws P Q M N cells slots pc L (x :: rest) := by
  subst hp; exact OWp.pure (fun T t h k => XS.dup h hk.1 rfl (hb hk.2.1 hd) rfl hc k) kk
theorem OWp.dup_x1 {x y : Value} (hk : OOk p bytes maxL ret nm meth c Z a0 EL) (hd : decode bytes pc = .ok (.dup_x1, 1)) (hp : pc' = pc + 1) (hc : x.category = 1) (hc' : y.category = 1)
    (kk : OWp p l e R s m args below meth c own Z EL ws P Q M N cells slots pc' L (x :: y :: x :: rest)) : OWp p l e R s m args below meth c own Z EL ws P Q M N cells slots pc L (x :: y :: rest) := by
  subst hp; exact OWp.pure (fun T t h k => XS.dupX1 h hk.1 rfl (hb hk.2.1 hd) rfl hc hc' k) kk
theorem OWp.dup2 {x y : Value} (hk : OOk p bytes maxL ret nm meth c Z a0 EL) (hd : decode bytes pc = .ok (.dup2, 1)) (hp : pc' = pc + 1) (hc : x.category = 1) (hc' : y.category = 1)
    (kk : OWp p l e R s m args below meth c own Z EL ws P Q M N cells slots pc' L (x :: y :: x :: y :: rest)) : OWp p l e R s m args below meth c own Z EL ws P Q M N cells slots pc L (x :: y :: rest) := by
  subst hp; exact OWp.pure (fun T t h k => XT.dup2 h hk.1 rfl (hb hk.2.1 hd) rfl hc hc' k) kk
theorem OWp.pop {x : Value} (hk : OOk p bytes maxL ret nm meth c Z a0 EL) (hd : decode bytes pc = .ok (.pop, 1)) (hp : pc' = pc + 1) (hc : x.category = 1)
    (kk : OWp p l e R s m args below meth c own Z EL ws P Q M N cells slots pc' L rest) : OWp p l e R s m args below meth c own Z EL ws P Q M N cells slots pc L (x :: rest) := by
  subst hp; exact OWp.pure (fun T t h k => XS.pop h hk.1 rfl (hb hk.2.1 hd) rfl hc k) kk
theorem OWp.goto {o : Int} (hk : OOk p bytes maxL ret nm meth c Z a0 EL) (hd : decode bytes pc = .ok (.goto o, 3)) (ho : 0 ≤ (pc : Int) + o) (hp : ((pc : Int) + o).toNat = pc')
    (kk : OWp p l e R s m args below meth c own Z EL ws P Q M N cells slots pc' L S) : OWp p l e R s m args below meth c own Z EL ws P Q M N cells slots pc L S := by
  exact OWp.pure (fun T t h k => XS.goto h hk.1 rfl (pc0 := pc) rfl (hb hk.2.1 hd) ho hp k) kk
theorem OWp.ifYes {cd : ClassFile.Cond} {x : Int32} {o : Int} (hk : OOk p bytes maxL ret nm meth c Z a0 EL) (hd : decode bytes pc = .ok (.ifCond cd o, 3)) (hc : ifCond.holds cd x = true) (ho : 0 ≤ (pc : Int) + o) (hp : ((pc : Int) + o).toNat = pc')
    (kk : OWp p l e R s m args below meth c own Z EL ws P Q M N cells slots pc' L rest) : OWp p l e R s m args below meth c own Z EL ws P Q M N cells slots pc L (.int x :: rest) := by
  exact OWp.pure (fun T t h k => XS.ifYes h hk.1 rfl (pc0 := pc) rfl (hb hk.2.1 hd) rfl hc ho hp k) kk
theorem OWp.ifNo {cd : ClassFile.Cond} {x : Int32} {o : Int} (hk : OOk p bytes maxL ret nm meth c Z a0 EL) (hd : decode bytes pc = .ok (.ifCond cd o, 3)) (hc : ifCond.holds cd x = false) (hp : pc' = pc + 3)
    (kk : OWp p l e R s m args below meth c own Z EL ws P Q M N cells slots pc' L rest) : OWp p l e R s m args below meth c own Z EL ws P Q M N cells slots pc L (.int x :: rest) := by
  subst hp; exact OWp.pure (fun T t h k => XS.ifNo h hk.1 rfl (hb hk.2.1 hd) rfl hc k) kk
theorem OWp.icmpYes {cd : ClassFile.Cond} {x y : Int32} {o : Int} (hk : OOk p bytes maxL ret nm meth c Z a0 EL) (hd : decode bytes pc = .ok (.if_icmp cd o, 3)) (hc : if_icmp.holds cd x y = true) (ho : 0 ≤ (pc : Int) + o) (hp : ((pc : Int) + o).toNat = pc')
    (kk : OWp p l e R s m args below meth c own Z EL ws P Q M N cells slots pc' L rest) : OWp p l e R s m args below meth c own Z EL ws P Q M N cells slots pc L (.int y :: .int x :: rest) := by
  exact OWp.pure (fun T t h k => XS.icmpYes h hk.1 rfl (pc0 := pc) rfl (hb hk.2.1 hd) rfl hc ho hp k) kk
theorem OWp.icmpNo {cd : ClassFile.Cond} {x y : Int32} {o : Int} (hk : OOk p bytes maxL ret nm meth c Z a0 EL) (hd : decode bytes pc = .ok (.if_icmp cd o, 3)) (hc : if_icmp.holds cd x y = false) (hp : pc' = pc + 3)
    (kk : OWp p l e R s m args below meth c own Z EL ws P Q M N cells slots pc' L rest) : OWp p l e R s m args below meth c own Z EL ws P Q M N cells slots pc L (.int y :: .int x :: rest) := by
  subst hp; exact OWp.pure (fun T t h k => XS.icmpNo h hk.1 rfl (hb hk.2.1 hd) rfl hc k) kk
theorem OWp.nullYes {o : Int} (hk : OOk p bytes maxL ret nm meth c Z a0 EL) (hd : decode bytes pc = .ok (.ifnull o, 3)) (ho : 0 ≤ (pc : Int) + o) (hp : ((pc : Int) + o).toNat = pc')
    (kk : OWp p l e R s m args below meth c own Z EL ws P Q M N cells slots pc' L rest) : OWp p l e R s m args below meth c own Z EL ws P Q M N cells slots pc L (.null :: rest) := by
  exact OWp.pure (fun T t h k => XS.ifnullYes h hk.1 rfl (pc0 := pc) rfl (hb hk.2.1 hd) rfl ho hp k) kk
theorem OWp.nullNo {o : Int} {b : Addr} (hk : OOk p bytes maxL ret nm meth c Z a0 EL) (hd : decode bytes pc = .ok (.ifnull o, 3)) (hp : pc' = pc + 3)
    (kk : OWp p l e R s m args below meth c own Z EL ws P Q M N cells slots pc' L rest) : OWp p l e R s m args below meth c own Z EL ws P Q M N cells slots pc L (.ref b :: rest) := by
  subst hp; exact OWp.pure (fun T t h k => XS.ifnullNo h hk.1 rfl (hb hk.2.1 hd) rfl k) kk
theorem OWp.nonnullYes {o : Int} {b : Addr} (hk : OOk p bytes maxL ret nm meth c Z a0 EL) (hd : decode bytes pc = .ok (.ifnonnull o, 3)) (ho : 0 ≤ (pc : Int) + o) (hp : ((pc : Int) + o).toNat = pc')
    (kk : OWp p l e R s m args below meth c own Z EL ws P Q M N cells slots pc' L rest) : OWp p l e R s m args below meth c own Z EL ws P Q M N cells slots pc L (.ref b :: rest) := by
  exact OWp.pure (fun T t h k => XS.ifnonnullYes h hk.1 rfl (pc0 := pc) rfl (hb hk.2.1 hd) rfl ho hp k) kk
theorem OWp.nonnullNo {o : Int} (hk : OOk p bytes maxL ret nm meth c Z a0 EL) (hd : decode bytes pc = .ok (.ifnonnull o, 3)) (hp : pc' = pc + 3)
    (kk : OWp p l e R s m args below meth c own Z EL ws P Q M N cells slots pc' L rest) : OWp p l e R s m args below meth c own Z EL ws P Q M N cells slots pc L (.null :: rest) := by
  subst hp; exact OWp.pure (fun T t h k => XS.ifnonnullNo h hk.1 rfl (hb hk.2.1 hd) rfl k) kk
theorem OWp.acmpYes {cd : ClassFile.ACond} {x y : Value} {o : Int} (hk : OOk p bytes maxL ret nm meth c Z a0 EL) (hd : decode bytes pc = .ok (.if_acmp cd o, 3)) (h1 : x.isRef = true) (h2 : y.isRef = true) (hc : XT.acmp cd x y = true) (ho : 0 ≤ (pc : Int) + o) (hp : ((pc : Int) + o).toNat = pc')
    (kk : OWp p l e R s m args below meth c own Z EL ws P Q M N cells slots pc' L rest) : OWp p l e R s m args below meth c own Z EL ws P Q M N cells slots pc L (y :: x :: rest) := by
  exact OWp.pure (fun T t h k => XT.acmpYes h hk.1 rfl (pc0 := pc) rfl (hb hk.2.1 hd) rfl h1 h2 hc ho hp k) kk
theorem OWp.acmpNo {cd : ClassFile.ACond} {x y : Value} {o : Int} (hk : OOk p bytes maxL ret nm meth c Z a0 EL) (hd : decode bytes pc = .ok (.if_acmp cd o, 3)) (h1 : x.isRef = true) (h2 : y.isRef = true) (hc : XT.acmp cd x y = false) (hp : pc' = pc + 3)
    (kk : OWp p l e R s m args below meth c own Z EL ws P Q M N cells slots pc' L rest) : OWp p l e R s m args below meth c own Z EL ws P Q M N cells slots pc L (y :: x :: rest) := by
  subst hp; exact OWp.pure (fun T t h k => XT.acmpNo h hk.1 rfl (hb hk.2.1 hd) rfl h1 h2 hc k) kk
theorem OWp.lcmp {x y : Int64} (hk : OOk p bytes maxL ret nm meth c Z a0 EL) (hd : decode bytes pc = .ok (.lcmp, 1)) (hp : pc' = pc + 1)
    (kk : OWp p l e R s m args below meth c own Z EL ws P Q M N cells slots pc' L (.int (XT.cmpL x y) :: rest)) : OWp p l e R s m args below meth c own Z EL ws P Q M N cells slots pc L (.long y :: .long x :: rest) := by
  subst hp; exact OWp.pure (fun T t h k => XS.lcmp h hk.1 rfl (hb hk.2.1 hd) rfl k) kk
end Pure
/-! 3. steps that read the heap or the tables, and leave both as they were -/
theorem OWp.pureX (H : ∀ (T target : State) (vm0 : Vm) (locs : List Loc), Stand p l e R (s.setVm vm0) m args below meth c T locs cells slots → Z.Warmed39 vm0 → vm0.findClass own = some m.cls → (∀ q ∈ M ++ (N ++ P), T.heap[q.1]? = some q.2) →
      Steps p.tables e below (T.setTop (mkF m pc' L'.toArray S')) target → Steps p.tables e below (T.setTop (mkF m pc L.toArray S)) target)
    (k : OWp p l e R s m args below meth c own Z EL ws P Q M N cells slots pc' L' S') : OWp p l e R s m args below meth c own Z EL ws P Q M N cells slots pc L S := fun T hT => by
  obtain ⟨U, st, r⟩ := k T hT
  obtain ⟨vm0, k0, locs, X, -, -, hZ, ho, -, I⟩ := hT
  exact ⟨U, H T U vm0 locs X hZ ho (fun q hq => I.at hq) st, r⟩
/-- .. the tables may be warmer behind it -/
theorem OWp.pureT (H : ∀ (T : State) (vm0 : Vm) (locs : List Loc), Stand p l e R (s.setVm vm0) m args below meth c T locs cells slots → Z.Warmed39 vm0 → vm0.findClass own = some m.cls → Ext Z.heap T.heap → (∀ q ∈ M ++ (N ++ P), T.heap[q.1]? = some q.2) →
      ∃ T', Stand p l e R (s.setVm vm0) m args below meth c T' locs cells slots ∧ T'.heap = T.heap ∧ ∀ target, Steps p.tables e below (T'.setTop (mkF m pc' L'.toArray S')) target → Steps p.tables e below (T.setTop (mkF m pc L.toArray S)) target)
    (k : OWp p l e R s m args below meth c own Z EL ws P Q M N cells slots pc' L' S') : OWp p l e R s m args below meth c own Z EL ws P Q M N cells slots pc L S := fun T hT => by
  obtain ⟨vm0, k0, locs, X, hS, hk0, hZ, ho, hL, I⟩ := hT
  obtain ⟨T', X', eh, st⟩ := H T vm0 locs X hZ ho I.2.1 (fun q hq => I.at hq)
  obtain ⟨U, st', r⟩ := k T' ⟨vm0, k0, locs, X', hS, by rw [eh]; exact hk0, hZ, ho, hL, by rw [eh]; exact I⟩
  exact ⟨U, st _ st', r⟩
theorem OWp.irem {x y : Int32} (hk : OOk p bytes maxL ret nm meth c Z a0 EL) (hd : decode bytes pc = .ok (.irem, 1)) (hp : pc' = pc + 1) (hy : y ≠ 0)
    (kk : OWp p l e R s m args below meth c own Z EL ws P Q M N cells slots pc' L (.int (x % y) :: rest)) : OWp p l e R s m args below meth c own Z EL ws P Q M N cells slots pc L (.int y :: .int x :: rest) := by
  subst hp; exact OWp.pureX (fun T t vm0 locs X _ _ _ k => iremM X hk.1 rfl (hb hk.2.1 hd) rfl hy k) kk
theorem OWp.ldcI {index : Nat} {v : Int32} (hk : OOk p bytes maxL ret nm meth c Z a0 EL) (hd : decode bytes pc = .ok (.ldc index, 2)) (hp : pc' = pc + 2) (w : (Jvm.Cond.constant own index v).before a0 Z = true)
    (kk : OWp p l e R s m args below meth c own Z EL ws P Q M N cells slots pc' L (.int v :: S)) : OWp p l e R s m args below meth c own Z EL ws P Q M N cells slots pc L S := by
  subst hp; exact OWp.pureX (fun T t vm0 locs X hZ ho _ k => X.ldcI hk.1 (own := own) ho (mvT (s := s.setVm vm0) hZ w) (g := mkF m pc L.toArray S) rfl (hb hk.2.1 hd) k) kk
theorem OWp.ldc2J {index : Nat} {v : Int64} (hk : OOk p bytes maxL ret nm meth c Z a0 EL) (hd : decode bytes pc = .ok (.ldc2_w index, 3)) (hp : pc' = pc + 3) (w : (Jvm.Cond.constantLong own index v).before a0 Z = true)
    (kk : OWp p l e R s m args below meth c own Z EL ws P Q M N cells slots pc' L (.long v :: S)) : OWp p l e R s m args below meth c own Z EL ws P Q M N cells slots pc L S := by
  subst hp; exact OWp.pureX (fun T t vm0 locs X hZ ho _ k => X.ldc2J hk.1 (own := own) ho (mvT (s := s.setVm vm0) hZ w) (g := mkF m pc L.toArray S) rfl (hb hk.2.1 hd) k) kk
/-- a field of a cell, read through the tables of the start -/
def FC (Z : State) (cl : Cell) (C n d : String) (v : Value) : Prop := ∃ (cf : ClassId) (k : Class) (i : Nat) (f : Field), Z.fieldFound? C n d = some (cf, k, i, f) ∧ f.isStatic = false ∧ cl.vm ≠ .unknown ∧ cl.vm.isStatics = false ∧ Z.vm.assignable cl.cls cf = true ∧ cl.slots[f.slot]? = some v
/-- a cell that is exactly of class C -/
def EC (Z : State) (cl : Cell) (C : String) : Prop := ∃ k : Class, Z.vm.findClass C = some cl.cls ∧ Z.vm.classes[cl.cls]? = some k ∧ cl.vm.isStatics = false ∧ (k.kind = .ordinary → cl.slots.size = k.instanceTypes.size)
/-- an array's cell: its kind and its whole list -/
def AC (Z : State) (cl : Cell) (ty : FieldType) (vs : List Value) : Prop := Z.isArrayOf cl ty ∧ cl.vm ≠ .unknown ∧ cl.slots.toList = vs ∧ vs.length < 2147483648 ∧ ∀ v ∈ vs, fits ty v = true
section Cells
variable {h h' : Heap} {a : Addr} {cl : Cell} {C C' n d O : String} {v w : Value} {ty : FieldType} {vs : List Value}
theorem FC.fld (F : FC Z cl C n d v) (hh : h[a]? = some cl) : Fld Z h a C n d v := by obtain ⟨cf, k, i, f, r⟩ := F; exact ⟨cl, cf, k, i, f, hh, r⟩
theorem FC.of (F : Fld Z h a C n d v) (hh : h[a]? = some cl) : FC Z cl C n d v := by
  obtain ⟨cl', cf, k, i, f, q, r⟩ := F; cases hh.symm.trans q; exact ⟨cf, k, i, f, r⟩
theorem EC.exa (F : EC Z cl C) (hh : h[a]? = some cl) : Exa Z h a C := by obtain ⟨k, r1, r2⟩ := F; exact ⟨cl, k, hh, r1, r2⟩
theorem EC.of (F : Exa Z h a C) (hh : h[a]? = some cl) : EC Z cl C := by
  obtain ⟨cl', k, q, r⟩ := F; cases hh.symm.trans q; exact ⟨k, r⟩
theorem AC.arr (F : AC Z cl ty vs) (hh : h[a]? = some cl) : RoadKit.Arr Z h a cl ty := ⟨hh, F.1, F.2.1⟩
theorem AC.size (F : AC Z cl ty vs) : cl.slots.size = vs.length := by rw [← F.2.2.1]; simp
theorem AC.get (F : AC Z cl ty vs) (i : Nat) : cl.slots[i]? = vs[i]? := by rw [← F.2.2.1]; simp
theorem toNat_lt {j : Int32} {n : Nat} (h0 : ¬ j < 0) (hj : j.toNatClampNeg = n) : j.toInt = n := by rw [nat_of h0, hj]
theorem AC.inb (F : AC Z cl ty vs) {j : Int32} (h0 : ¬ j < 0) (hi : j.toNatClampNeg < vs.length) : ¬ (j < 0 ∨ cl.slots.size ≤ j.toNatClampNeg) := by
  rw [F.size]; intro q; rcases q with q | q
  · exact h0 q
  · omega
theorem AC.set (F : AC Z cl ty vs) {i : Nat} (hv : fits ty v = true) (hi : i < vs.length) : AC Z (cl.setSlot i v) ty (vs.set i v) := by
  obtain ⟨h1, h2, h3, h4, h5⟩ := F
  refine ⟨h1, h2, ?_, by simpa using h4, fun u hu => ?_⟩
  · subst h3; simp [Cell.setSlot]
  · rcases List.mem_or_eq_of_mem_set hu with hu | rfl
    · exact h5 u hu
    · exact hv
theorem AC.congr {n : Nat} {f g : Nat → Value} (F : AC Z cl ty (tab n f)) (h : ∀ j, j < n → f j = g j) : AC Z cl ty (tab n g) := by rw [← tab_congr h]; exact F
theorem AC.new {cA : ClassId} {z : Int32} (A : RoadKit.Arr Z h a (newA cA ty z) ty) (hz : ¬ z < 0) (hd : fits ty (defaultValue ty) = true) : AC Z (newA cA ty z) ty (List.replicate z.toNatClampNeg (defaultValue ty)) :=
  ⟨A.2.1, A.2.2, by simp [newA], by simp only [List.length_replicate]; exact (back32 hz).2, fun u hu => by rw [List.eq_of_mem_replicate hu]; exact hd⟩
/-- as the library's laws ask an array -/
theorem AC.arv (F : AC Z cl ty vs) (hh : h[a]? = some cl) {d : Value} : Arv Z h a cl.cls ty (Int32.ofNat vs.length) vs d := by
  have hl := F.2.2.2.1
  have hn : (Int32.ofNat vs.length).toNatClampNeg = vs.length := by
    rw [Int32.toNatClampNeg, Int32.toInt_ofNat_small (by simpa using hl)]; simp
  have h0 : ¬ Int32.ofNat vs.length < 0 := Int32.ofNat_not_neg (by simpa using hl)
  refine ⟨cl, F.arr hh, rfl, by rw [hn, F.size], h0, fun k hk => ?_, fun k hk => ?_⟩
  · rw [F.size] at hk
    rw [F.get k, List.getD_eq_getElem?_getD, List.getElem?_eq_getElem hk]; rfl
  · rw [F.size] at hk
    rw [List.getD_eq_getElem?_getD, List.getElem?_eq_getElem hk]
    exact F.2.2.2.2 _ (List.getElem_mem hk)
theorem FC.set (F : FC Z cl C n d w) : FC Z (cl.setSlot (RoadKit.slotOf Z C n d) v) C n d v := by
  obtain ⟨cf, k, i, f, h1, h2, h3, h4, h5, h6⟩ := F
  have e : RoadKit.slotOf Z C n d = f.slot := by simp [RoadKit.slotOf, h1]
  refine ⟨cf, k, i, f, h1, h2, h3, h4, h5, ?_⟩
  rw [e]; have := (Array.getElem?_eq_some_iff.mp h6).1; simp [Cell.setSlot, this]
theorem FC.other {sl : Nat} (F : FC Z cl C n d w) (hne : RoadKit.slotOf Z C n d ≠ sl) : FC Z (cl.setSlot sl v) C n d w := by
  obtain ⟨cf, k, i, f, h1, h2, h3, h4, h5, h6⟩ := F
  have e : RoadKit.slotOf Z C n d = f.slot := by simp [RoadKit.slotOf, h1]
  refine ⟨cf, k, i, f, h1, h2, h3, h4, h5, ?_⟩
  rw [e] at hne
  simp only [Cell.setSlot]; rw [Array.getElem?_setIfInBounds_ne (Ne.symm hne)]; exact h6
theorem EC.set {sl : Nat} (F : EC Z cl C) : EC Z (cl.setSlot sl v) C := by
  obtain ⟨k, h1, h2, h3, h4⟩ := F
  exact ⟨k, h1, h2, h3, fun q => by rw [sz_set]; exact h4 q⟩
end Cells
section Reads
variable {a : Addr} {cl : Cell} {ty : FieldType} {vs : List Value} {v : Value} {j : Int32} {index : Nat} {O n d R0 : String}
theorem OWp.getfield (hk : OOk p bytes maxL ret nm meth c Z a0 EL) (hd : decode bytes pc = .ok (.getfield index, 3)) (hp : pc' = pc + 3) (w : (Jvm.Cond.fieldLink own index O n d).before a0 Z = true) (hm : (a, cl) ∈ M ++ (N ++ P)) (F : FC Z cl O n d v)
    (kk : OWp p l e R s m args below meth c own Z EL ws P Q M N cells slots pc' L (v :: rest)) : OWp p l e R s m args below meth c own Z EL ws P Q M N cells slots pc L (.ref a :: rest) := by
  subst hp
  exact OWp.pureT (fun T vm0 locs X hZ ho _ hH => getF (s := s.setVm vm0) (own := own) X hk.1 hZ ho (host := "") (Or.inl w) Via.refl rfl (F.fld (hH _ hm)) (g := mkF m pc L.toArray (.ref a :: rest)) rfl rfl (hb hk.2.1 hd)) kk
theorem OWp.getfieldVia (hk : OOk p bytes maxL ret nm meth c Z a0 EL) (hd : decode bytes pc = .ok (.getfield index, 3)) (hp : pc' = pc + 3) (w : (Jvm.Cond.fieldLink own index R0 n d).before a0 Z = true) (w2 : (Jvm.Cond.sameField R0 O n d).before a0 Z = true) (hm : (a, cl) ∈ M ++ (N ++ P)) (F : FC Z cl O n d v)
    (kk : OWp p l e R s m args below meth c own Z EL ws P Q M N cells slots pc' L (v :: rest)) : OWp p l e R s m args below meth c own Z EL ws P Q M N cells slots pc L (.ref a :: rest) := by
  subst hp
  exact OWp.pureT (fun T vm0 locs X hZ ho _ hH => getF (s := s.setVm vm0) (own := own) X hk.1 hZ ho (host := "") (Or.inl w) (Via.of w2) rfl (F.fld (hH _ hm)) (g := mkF m pc L.toArray (.ref a :: rest)) rfl rfl (hb hk.2.1 hd)) kk
theorem OWp.getstatic (hk : OOk p bytes maxL ret nm meth c Z a0 EL) (hd : decode bytes pc = .ok (.getstatic index, 3)) (hp : pc' = pc + 3) (w : (Jvm.Cond.fieldLink own index O n d).before a0 Z = true) (F : Sta Z Z.heap O n d v)
    (kk : OWp p l e R s m args below meth c own Z EL ws P Q M N cells slots pc' L (v :: S)) : OWp p l e R s m args below meth c own Z EL ws P Q M N cells slots pc L S := by
  subst hp
  exact OWp.pureT (fun T vm0 locs X hZ ho hE hH => getS (s := s.setVm vm0) (own := own) X hk.1 hZ ho (host := "") w Via.refl rfl (Sta.ext hE F) (g := mkF m pc L.toArray S) rfl (hb hk.2.1 hd)) kk
theorem OWp.instY {K : String} (hk : OOk p bytes maxL ret nm meth c Z a0 EL) (hd : decode bytes pc = .ok (.instanceof index, 3)) (hp : pc' = pc + 3) (w : (Jvm.Cond.classLink own index K).before a0 Z = true) (hm : (a, cl) ∈ M ++ (N ++ P)) (F : EC Z cl K)
    (kk : OWp p l e R s m args below meth c own Z EL ws P Q M N cells slots pc' L (.int 1 :: rest)) : OWp p l e R s m args below meth c own Z EL ws P Q M N cells slots pc L (.ref a :: rest) := by
  subst hp
  exact OWp.pureT (fun T vm0 locs X hZ ho hE hH => RoadKit.instY (s := s.setVm vm0) (own := own) X hk.1 hZ ho w rfl (Ins.self (F.exa (hH _ hm))) (g := mkF m pc L.toArray (.ref a :: rest)) rfl rfl (hb hk.2.1 hd)) kk
theorem OWp.castY {K : String} (hk : OOk p bytes maxL ret nm meth c Z a0 EL) (hd : decode bytes pc = .ok (.checkcast index, 3)) (hp : pc' = pc + 3) (w : (Jvm.Cond.classLink own index K).before a0 Z = true) (hm : (a, cl) ∈ M ++ (N ++ P)) (F : EC Z cl K)
    (kk : OWp p l e R s m args below meth c own Z EL ws P Q M N cells slots pc' L (.ref a :: rest)) : OWp p l e R s m args below meth c own Z EL ws P Q M N cells slots pc L (.ref a :: rest) := by
  subst hp
  exact OWp.pureT (fun T vm0 locs X hZ ho hE hH => RoadKit.castY (s := s.setVm vm0) (own := own) X hk.1 hZ ho w rfl (Ins.self (F.exa (hH _ hm))) (g := mkF m pc L.toArray (.ref a :: rest)) rfl rfl (hb hk.2.1 hd)) kk
theorem ofNat_size (n : Nat) : n.toInt32 = Int32.ofNat n := rfl
theorem OWp.arraylength (hk : OOk p bytes maxL ret nm meth c Z a0 EL) (hd : decode bytes pc = .ok (.arraylength, 1)) (hp : pc' = pc + 1) (hm : (a, cl) ∈ M ++ (N ++ P)) (F : AC Z cl ty vs) {z : Int32} (hz : Int32.ofNat vs.length = z)
    (kk : OWp p l e R s m args below meth c own Z EL ws P Q M N cells slots pc' L (.int z :: rest)) : OWp p l e R s m args below meth c own Z EL ws P Q M N cells slots pc L (.ref a :: rest) := by
  subst hp hz
  exact OWp.pureX (fun T t vm0 locs X hZ ho hH k => X.arraylength hk.1 (hH _ hm) (State.isArrayOf_alike hZ.alike F.1) (g := mkF m pc L.toArray (.ref a :: rest)) rfl rfl (hb hk.2.1 hd) t (by rw [F.size]; exact k)) kk
theorem OWp.caload (hk : OOk p bytes maxL ret nm meth c Z a0 EL) (hd : decode bytes pc = .ok (.caload, 1)) (hp : pc' = pc + 1) (hm : (a, cl) ∈ M ++ (N ++ P)) (F : AC Z cl .char vs) (h0 : ¬ j < 0) (hv : vs[j.toNatClampNeg]? = some v)
    (kk : OWp p l e R s m args below meth c own Z EL ws P Q M N cells slots pc' L (v :: rest)) : OWp p l e R s m args below meth c own Z EL ws P Q M N cells slots pc L (.int j :: .ref a :: rest) := by
  subst hp
  exact OWp.pureX (fun T t vm0 locs X hZ ho hH k => X.caload hk.1 (hH _ hm) (State.isArrayOf_alike hZ.alike F.1) F.2.1 (F.inb h0 (List.getElem?_eq_some_iff.mp hv).1) (by rw [F.get]; exact hv) (g := mkF m pc L.toArray (.int j :: .ref a :: rest)) rfl rfl (hb hk.2.1 hd) t k) kk
theorem OWp.baload (hk : OOk p bytes maxL ret nm meth c Z a0 EL) (hd : decode bytes pc = .ok (.baload, 1)) (hp : pc' = pc + 1) (hm : (a, cl) ∈ M ++ (N ++ P)) (F : AC Z cl .byte vs) (h0 : ¬ j < 0) (hv : vs[j.toNatClampNeg]? = some v)
    (kk : OWp p l e R s m args below meth c own Z EL ws P Q M N cells slots pc' L (v :: rest)) : OWp p l e R s m args below meth c own Z EL ws P Q M N cells slots pc L (.int j :: .ref a :: rest) := by
  subst hp
  exact OWp.pureX (fun T t vm0 locs X hZ ho hH k => X.baloadBytes hk.1 (hH _ hm) (State.isArrayOf_alike hZ.alike F.1) F.2.1 (F.inb h0 (List.getElem?_eq_some_iff.mp hv).1) (by rw [F.get]; exact hv) (g := mkF m pc L.toArray (.int j :: .ref a :: rest)) rfl rfl (hb hk.2.1 hd) t k) kk
theorem OWp.initO (hk : OOk p bytes maxL ret nm meth c Z a0 EL) (hd : decode bytes pc = .ok (.invokespecial index, 3)) (hp : pc' = pc + 3) (w1 : (Jvm.Cond.methodLink own index Lib.objectInit).before a0 Z = true) (w2 : (Jvm.Cond.instanceMethod Lib.objectInit).before a0 Z = true)
    (w3 : (Jvm.Cond.code Lib.objectInit ⟨#[0xb1]⟩ 1 none).before a0 Z = true) (hsz : L.length = maxL) (hf : 1 ≤ R.frames) {W : Nat} (hW : (rest.map fun v => v.category).sum = W) (hl : W + 12 ≤ R.locals)
    (kk : OWp p l e R s m args below meth c own Z EL ws P Q M N cells slots pc' L rest) : OWp p l e R s m args below meth c own Z EL ws P Q M N cells slots pc L (.ref a :: rest) := by
  subst hp
  exact OWp.pureT (fun T vm0 locs X hZ ho hE hH => RoadKit.initO (s := s.setVm vm0) (own := own) X hk.1 hZ ho w1 w2 w3 rfl (g := mkF m pc L.toArray (.ref a :: rest)) rfl (by rw [hk.2.2.1]; simpa using hsz) rfl (hb hk.2.1 hd) hf (W := W) (by show 2 * 0 + _ ≤ _; omega) hl) kk
end Reads
/-! 4. steps that make or write cells -/
section Writes
variable {a : Addr} {cl : Cell} {ty : FieldType} {vs : List Value} {v : Value} {j x : Int32} {index i : Nat} {O n d C : String}
theorem OWp.newarray {aty : ArrayType} {z : Int32} {cap : Nat} (hk : OOk p bytes maxL ret nm meth c Z a0 EL) (hd : decode bytes pc = .ok (.newarray aty, 2)) (hp : pc' = pc + 2) (w : (Jvm.Cond.arrayClass (newarray.typeOf aty)).before a0 Z = true)
    (hz : ¬ z < 0) (hcap : z.toNatClampNeg ≤ cap) (hb8 : cap * 8 ≤ 536870912) (hc : cells + 1 ≤ R.cells) (hs : slots + cap ≤ R.slots) (hvs : List.replicate z.toNatClampNeg (defaultValue (newarray.typeOf aty)) = vs)
    (kk : ∀ a cl, AC Z cl (newarray.typeOf aty) vs → OWp p l e R s m args below meth c own Z EL ws P Q ((a, cl) :: M) N (cells + 1) (slots + cap) pc' L (.ref a :: rest)) :
    OWp p l e R s m args below meth c own Z EL ws P Q M N cells slots pc L (.int z :: rest) := fun T hT => by
  subst hp hvs
  obtain ⟨vm0, k0, locs, X, hS, hk0, hZ, ho, hL, I⟩ := hT
  obtain ⟨T', h', cA, X', e', E, A, st⟩ := newP (s := s.setVm vm0) X hk.1 hZ w rfl (g := mkF m pc L.toArray (.int z :: rest)) rfl (hb hk.2.1 hd) rfl hz hcap hb8 hc hs
  subst e'
  obtain ⟨U, st', r⟩ := kk _ _ (AC.new A hz (by cases aty <;> decide)) T' ⟨vm0, k0, locs, X', hS, Nat.le_trans hk0 E.1, hZ, ho, hL, I.alloc E A.1⟩
  exact ⟨U, st _ st', r⟩
theorem OWp.new {nf : Nat} (hk : OOk p bytes maxL ret nm meth c Z a0 EL) (hd : decode bytes pc = .ok (.new index, 3)) (hp : pc' = pc + 3) (w : (Jvm.Cond.classLink own index C).before a0 Z = true) (wi : (Jvm.Cond.instantiable C nf).before a0 Z = true) (wz : (Jvm.Cond.initialized C).before a0 Z = true)
    (hc : cells + 1 ≤ R.cells) (hs : slots + nf ≤ R.slots)
    (kk : ∀ a cl, EC Z cl C → (∀ {O nm d : String} {ty : FieldType}, Laid Z a0 C O nm d → parseFieldDescriptor d = some ty → FC Z cl O nm d (defaultValue ty)) → OWp p l e R s m args below meth c own Z EL ws P Q ((a, cl) :: M) N (cells + 1) (slots + nf) pc' L (.ref a :: S)) :
    OWp p l e R s m args below meth c own Z EL ws P Q M N cells slots pc L S := fun T hT => by
  subst hp
  obtain ⟨vm0, k0, locs, X, hS, hk0, hZ, ho, hL, I⟩ := hT
  obtain ⟨T', h', X', e', E, A, D, ⟨cell, hcell, -, -⟩, st⟩ := newO (s := s.setVm vm0) (own := own) X hk.1 hZ ho w wi wz rfl (g := mkF m pc L.toArray S) rfl (hb hk.2.1 hd) hc hs
  subst e'
  obtain ⟨U, st', r⟩ := kk _ cell (EC.of A hcell) (fun La ht => FC.of (D La ht) hcell) T' ⟨vm0, k0, locs, X', hS, Nat.le_trans hk0 E.1, hZ, ho, hL, I.alloc E hcell⟩
  exact ⟨U, st _ st', r⟩
theorem OWp.wrote {sl : Nat} (hi : M[i]? = some (a, cl)) (H : ∀ (T : State) (vm0 : Vm) (locs : List Loc), Stand p l e R (s.setVm vm0) m args below meth c T locs cells slots → Z.Warmed39 vm0 → vm0.findClass own = some m.cls → T.heap[a]? = some cl →
      ∃ T', Stand p l e R (s.setVm vm0) m args below meth c T' (locs ++ [⟨a, sl⟩]) cells slots ∧ Wr T.heap T'.heap a sl v ∧ ∀ target, Steps p.tables e below (T'.setTop (mkF m pc' L'.toArray S')) target → Steps p.tables e below (T.setTop (mkF m pc L.toArray S)) target)
    (kk : OWp p l e R s m args below meth c own Z EL ws P Q (M.set i (a, cl.setSlot sl v)) N cells slots pc' L' S') : OWp p l e R s m args below meth c own Z EL ws P Q M N cells slots pc L S := fun T hT => by
  obtain ⟨vm0, k0, locs, X, hS, hk0, hZ, ho, hL, I⟩ := hT
  obtain ⟨b1, -, -, b4⟩ := I.2.2.1 _ (List.mem_of_getElem? hi)
  obtain ⟨T', X', W, st⟩ := H T vm0 locs X hZ ho b1
  obtain ⟨U, st', r⟩ := kk T' ⟨vm0, k0, _, X', hS, by rw [W.size]; exact hk0, hZ, ho, fun y hy => by
    rcases List.mem_append.mp hy with hy | hy
    · exact hL y hy
    · cases List.mem_singleton.mp hy; exact b4, I.write hi W⟩
  exact ⟨U, st _ st', r⟩
theorem OWp.castore (hk : OOk p bytes maxL ret nm meth c Z a0 EL) (hd : decode bytes pc = .ok (.castore, 1)) (hp : pc' = pc + 1) (hi : M[i]? = some (a, cl)) (F : AC Z cl .char vs) (h0 : ¬ j < 0) {t : Nat} (ht : j.toNatClampNeg = t) (hlt : t < vs.length)
    (kk : ∀ cl', AC Z cl' .char (vs.set t (.int (nar .char x))) → OWp p l e R s m args below meth c own Z EL ws P Q (M.set i (a, cl')) N cells slots pc' L rest) :
    OWp p l e R s m args below meth c own Z EL ws P Q M N cells slots pc L (.int x :: .int j :: .ref a :: rest) := by
  subst hp ht
  refine OWp.wrote hi (fun T vm0 locs X hZ ho hh => ?_) (kk _ (F.set (fits_nar_char x) hlt))
  obtain ⟨T', h', X', e', W, st⟩ := stC (s := s.setVm vm0) X hk.1 hZ rfl (F.arr hh) (F.inb h0 hlt) (g := mkF m pc L.toArray (.int x :: .int j :: .ref a :: rest)) rfl rfl (hb hk.2.1 hd)
  subst e'
  exact ⟨T', X', W, st⟩
theorem OWp.bastore (hk : OOk p bytes maxL ret nm meth c Z a0 EL) (hd : decode bytes pc = .ok (.bastore, 1)) (hp : pc' = pc + 1) (hi : M[i]? = some (a, cl)) (F : AC Z cl .byte vs) (h0 : ¬ j < 0) {t : Nat} (ht : j.toNatClampNeg = t) (hlt : t < vs.length)
    (kk : ∀ cl', AC Z cl' .byte (vs.set t (.int x.toInt8.toInt32)) → OWp p l e R s m args below meth c own Z EL ws P Q (M.set i (a, cl')) N cells slots pc' L rest) :
    OWp p l e R s m args below meth c own Z EL ws P Q M N cells slots pc L (.int x :: .int j :: .ref a :: rest) := by
  subst hp ht
  refine OWp.wrote hi (fun T vm0 locs X hZ ho hh => ?_) (kk _ (F.set (fits_nar_byte x) hlt))
  obtain ⟨T', h', X', e', W, st⟩ := stB (s := s.setVm vm0) X hk.1 hZ rfl (F.arr hh) (F.inb h0 hlt) (g := mkF m pc L.toArray (.int x :: .int j :: .ref a :: rest)) rfl rfl (hb hk.2.1 hd)
  subst e'
  exact ⟨T', X', W, st⟩
theorem OWp.putfield {old : Value} {nf : Nat} (hk : OOk p bytes maxL ret nm meth c Z a0 EL) (hd : decode bytes pc = .ok (.putfield index, 3)) (hp : pc' = pc + 3) (w : (Jvm.Cond.fieldLink own index O n d).before a0 Z = true) (hi : M[i]? = some (a, cl)) (F : FC Z cl O n d old) (E : EC Z cl C)
    (La : (Jvm.Cond.lays C O n d).before a0 Z = true ∨ ((Jvm.Cond.laysFinal C O n d).before a0 Z = true ∧ own = O ∧ nm = "<init>")) (wi : (Jvm.Cond.instantiable C nf).before a0 Z = true) (hty : parseFieldDescriptor d = some ty) (hn : narrow ty v = v) (hf : fits ty v = true)
    (kk : ∀ cl', EC Z cl' C → FC Z cl' O n d v → (∀ {O' n' d' : String} {w' : Value}, FC Z cl O' n' d' w' → RoadKit.slotOf Z O' n' d' ≠ RoadKit.slotOf Z O n d → FC Z cl' O' n' d' w') → OWp p l e R s m args below meth c own Z EL ws P Q (M.set i (a, cl')) N cells slots pc' L rest) :
    OWp p l e R s m args below meth c own Z EL ws P Q M N cells slots pc L (v :: .ref a :: rest) := by
  subst hp
  refine OWp.wrote hi (fun T vm0 locs X hZ ho hh => ?_) (kk _ E.set F.set (fun G q => G.other q))
  obtain ⟨T', h', X', e', W, st⟩ := putF (s := s.setVm vm0) (own := own) X hk.1 hZ ho (host := "") (Or.inl w) Via.refl rfl (F.fld hh) (E.exa hh) (La.imp id fun q => ⟨q.1, q.2.1, hk.2.2.2.2.2.1.trans q.2.2⟩) wi hty hn hf (g := mkF m pc L.toArray (v :: .ref a :: rest)) rfl rfl (hb hk.2.1 hd)
  subst e'
  exact ⟨T', X', W, st⟩
theorem OWp.freeze (kk : OWp p l e R s m args below meth c own Z EL ws P Q M ((a, cl) :: N) cells slots pc L S) : OWp p l e R s m args below meth c own Z EL ws P Q ((a, cl) :: M) N cells slots pc L S := fun T hT => by
  obtain ⟨vm0, k0, locs, X, hS, hk0, hZ, ho, hL, I⟩ := hT
  exact kk T ⟨vm0, k0, locs, X, hS, hk0, hZ, ho, hL, I.freeze⟩
theorem OWp.perm {M' : Mem} (hp : M'.Perm M) (kk : OWp p l e R s m args below meth c own Z EL ws P Q M' N cells slots pc L S) : OWp p l e R s m args below meth c own Z EL ws P Q M N cells slots pc L S := fun T hT => by
  obtain ⟨vm0, k0, locs, X, hS, hk0, hZ, ho, hL, I⟩ := hT
  exact kk T ⟨vm0, k0, locs, X, hS, hk0, hZ, ho, hL, I.perm hp⟩
/-- frozen cells forgotten -/
theorem OWp.less {N' : Mem} (hn : ∀ q ∈ N', q ∈ N) (kk : OWp p l e R s m args below meth c own Z EL ws P Q M N' cells slots pc L S) : OWp p l e R s m args below meth c own Z EL ws P Q M N cells slots pc L S := fun T hT => by
  obtain ⟨vm0, k0, locs, X, hS, hk0, hZ, ho, hL, C, EZ, hM, hn', hN, hP⟩ := hT
  exact kk T ⟨vm0, k0, locs, X, hS, hk0, hZ, ho, hL, C, EZ, hM, hn', fun q hq => hN q (hn q hq), hP⟩
/-- more room booked than used -/
theorem OWp.more {cells' slots' : Nat} (hc : cells ≤ cells') (hs : slots ≤ slots') (kk : OWp p l e R s m args below meth c own Z EL ws P Q M N cells' slots' pc L S) : OWp p l e R s m args below meth c own Z EL ws P Q M N cells slots pc L S := fun T hT => by
  obtain ⟨vm0, k0, locs, X, r⟩ := hT
  exact kk T ⟨vm0, k0, locs, X.more hc hs, r⟩
end Writes
/-! 5. String constants -/
section Lits
variable {a : Addr} {index n : Nat} {text : String} {vs : List Value}
theorem OWp.ldcO (hk : OOk p bytes maxL ret nm meth c Z a0 EL) (hd : decode bytes pc = .ok (.ldc index, 2)) (hp : pc' = pc + 2) (w : (Jvm.Cond.stringLink own index text).before a0 Z = true) (wS : ∀ a ∈ Bundle.stringAtoms, a.before a0 Z = true)
    (hn : 4 * text.toList.length ≤ n) (hbig : n ≤ 536870912) (hc : cells + 2 ≤ R.cells) (hs : slots + (n + 4) ≤ R.slots)
    (kk : ∀ a, OWp p l e R s m args below meth c own Z EL ws P Q M N (cells + 2) (slots + (n + 4)) pc' L (.ref a :: S)) : OWp p l e R s m args below meth c own Z EL ws P Q M N cells slots pc L S := fun T hT => by
  subst hp
  obtain ⟨vm0, k0, locs, X, hS, hk0, hZ, ho, hL, I⟩ := hT
  obtain ⟨a, T', h', k1, X', e', E, hS', hk1, hZ', ho', C, -, st⟩ := ldcOH X hk.1 hZ ho w wS rfl hS hk0 hk.2.2.2.2.2.2 I.1.1 (g := mkF m pc L.toArray S) rfl (hb hk.2.1 hd) hn hbig hc hs
  subst e'
  obtain ⟨U, st', r⟩ := kk a T' ⟨T'.vm, k1, locs, X', hS', hk1, hZ', ho', hL, I.later C E⟩
  exact ⟨U, st _ st', r⟩
theorem AC.of_arv {h : Heap} {b : Addr} {k : ClassId} {ty : FieldType} {z : Int32} {d : Value} (F : Arv Z h b k ty z vs d) (hl : z.toNatClampNeg = vs.length) : ∃ ct, h[b]? = some ct ∧ AC Z ct ty vs := by
  obtain ⟨ct, A, -, hsz, hz, H, G⟩ := F
  have hlen : ct.slots.size = vs.length := hsz.trans hl
  refine ⟨ct, A.1, A.2.1, A.2.2, ?_, ?_, fun v hv => ?_⟩
  · refine List.ext_getElem? fun i => ?_
    by_cases hi : i < vs.length
    · have q := H i (by omega)
      rw [Array.getElem?_toList, q, List.getD_eq_getElem?_getD, List.getElem?_eq_getElem hi]; rfl
    · rw [List.getElem?_eq_none (by simpa [hlen] using hi), List.getElem?_eq_none (by omega)]
  · rw [← hl]; exact (back32 hz).2
  · obtain ⟨i, hi, rfl⟩ := List.getElem_of_mem hv
    have q := G i (by omega)
    rwa [List.getD_eq_getElem?_getD, List.getElem?_eq_getElem hi] at q
theorem OWp.ldcS (hk : OOk p bytes maxL ret nm meth c Z a0 EL) (hd : decode bytes pc = .ok (.ldc index, 2)) (hp : pc' = pc + 2) (w : (Jvm.Cond.stringLink own index text).before a0 Z = true) (wS : ∀ a ∈ Bundle.stringAtoms, a.before a0 Z = true) (hmem : (own, index) ∈ EL)
    (ht : (∀ c ∈ text.toList, c.toNat < 256) ∧ text.toList.map (fun c => Value.int (Jvm.Lit.byteI c.toNat.toUInt16)) = vs) (hlen : vs.length < 2147483648)
    (hn : 4 * text.toList.length ≤ n) (hbig : n ≤ 536870912) (hc : cells + 2 ≤ R.cells) (hs : slots + (n + 4) ≤ R.slots)
    (kk : ∀ a t cx ct, EC Z cx "java/lang/String" → FC Z cx "java/lang/String" "coder" "B" (.int 0) → FC Z cx "java/lang/String" "value" "[B" (.ref t) → AC Z ct .byte vs →
      OWp p l e R s m args below meth c own Z EL ws P Q M ((a, cx) :: (t, ct) :: N) (cells + 2) (slots + (n + 4)) pc' L (.ref a :: S)) : OWp p l e R s m args below meth c own Z EL ws P Q M N cells slots pc L S := fun T hT => by
  subst hp
  obtain ⟨vm0, k0, locs, X, hS, hk0, hZ, ho, hL, I⟩ := hT
  have hz : (Int32.ofNat vs.length).toNatClampNeg = vs.length := by
    rw [Int32.toNatClampNeg, Int32.toInt_ofNat_small (by simpa using hlen)]; simp
  obtain ⟨a, T', h', k1, b, k, X', e', E, hS', hk1, hZ', ho', q1, q2, q3, q4, q5, q6, C, -, hne, st⟩ := ldcCH X hk.1 hZ ho w wS rfl hS hk0 hk.2.2.2.2.2.2 hmem I.1.1 ht (z := Int32.ofNat vs.length) (Int32.ofNat_not_neg (by simpa using hlen)) hz (g := mkF m pc L.toArray S) rfl (hb hk.2.1 hd) hn hbig hc hs
  subst e'
  have J := I.later C E
  obtain ⟨cx, hcx, -⟩ : ∃ cx : Cell, T'.heap[a]? = some cx ∧ True := by obtain ⟨cx, -, h1, -⟩ := q1; exact ⟨cx, h1, trivial⟩
  obtain ⟨ct, hct, At⟩ := AC.of_arv q4 hz
  have book : ∀ y, (∀ x, Safe Z EL T'.vm T'.heap x → x ≠ y) → s.heap.size ≤ y ∨ y ∈ ws ∨ Bk Z EL s.vm s.heap y := fun y hy => by
    have hB : Bk Z EL T'.vm T'.heap y := Classical.byContradiction fun z => hy y z rfl
    exact (J.1.2.2 y hB).elim (fun z => Or.inr (Or.inr z)) Or.inl
  have nin : ∀ y, (∀ x, Safe Z EL T'.vm T'.heap x → x ≠ y) → y ∉ dom M := fun y hy z => by
    obtain ⟨q, hq, e⟩ := List.mem_map.mp z
    exact hy q.1 (J.2.2.1 q hq).2.1 e
  have J1 := J.learn hct (nin b fun x S => (hne x S).2) (book b fun x S => (hne x S).2)
  have J2 := J1.learn hcx (nin a fun x S => (hne x S).1) (book a fun x S => (hne x S).1)
  obtain ⟨U, st', r⟩ := kk a b cx ct (EC.of q1 hcx) (FC.of q2 hcx) (FC.of q3 hcx) At T' ⟨T'.vm, k1, locs, X', hS', hk1, hZ', ho', hL, J2⟩
  exact ⟨U, st _ st', r⟩
end Lits
/-! 6. calls by contract -/
section Calls
variable {y z : MethodName} {bytes' : ByteArray} {maxL' W : Nat} {ret' : Option FieldType} {rm : Room} {argsL : List Value} {Mi Mr Pc : Mem} {Qc : Option Value → Mem → Mem → Prop} {index : Nat} {a : Addr} {cl : Cell} {C : String} {as' : Array Value}
def OPost (Z : State) (EL : List (String × Nat)) (Mi : Mem) (Qc : Option Value → Mem → Mem → Prop) (rm : Room) (A : Pt) (_ : Array Value) (v : Option Value) (B : Pt) : Prop :=
  ∃ Lc, (∃ M N, Qc v M N ∧ OInv Z EL A.U.vm A.U.heap (dom Mi) B.U.vm B.U.heap M N []) ∧ OKp A.U.heap B.U.heap (dom Mi) ∧ (∀ y ∈ Lc, A.U.heap.size ≤ y.base ∨ y.base ∈ dom Mi) ∧ B.locs = A.locs ++ Lc ∧ B.cells = A.cells + rm.cells ∧ B.slots = A.slots + rm.slots
/-- who pays: a contract -/
theorem oback {vm0 : Vm} {len : Nat} {h : Heap} (hC : OCon l Z EL y bytes' maxL' ret' [] rm as' Mi Pc Qc) (hZ : Z.Warmed39 vm0) (wc : (Jvm.Cond.code y bytes' maxL' ret').before a0 Z = true) (wz : (Jvm.Cond.initialized y.cls).before a0 Z = true)
    (hf : rm.frames + 1 ≤ R.frames) (hl : W + (maxL' + 11) + rm.locals ≤ R.locals) (hEL : EW Z a0 EL) (I : OInv Z EL s.vm s.heap ws vm0 h (Mi ++ Mr) N P) (hp : ∀ q ∈ Pc, q ∈ Mr ++ (N ++ P)) :
    BackS l R p e below (s.setVm vm0) args y len W (fun A a => a = as' ∧ A.U.heap = h ∧ A.cells + rm.cells ≤ R.cells ∧ A.slots + rm.slots ≤ R.slots) (OPost Z EL Mi Qc rm) :=
  BackS.of_freeW (bytes := bytes') (maxL := maxL') (ret := ret') (E := fun _ first o t L k n => k = rm.cells ∧ n = rm.slots ∧ ∃ v, o = .returned v ∧ (∃ M N, Qc v M N ∧ OInv Z EL first.vm first.heap (dom Mi) t.vm t.heap M N []) ∧ OKp first.heap t.heap (dom Mi) ∧ (∀ y ∈ L, first.heap.size ≤ y.base ∨ y.base ∈ dom Mi)) hC hf hl
    (fun m meth c A a Y hp => have hU : Z.Warmed39 A.U.vm := wtrans (s := s.setVm vm0) hZ Y.warmed
      ⟨by show (Jvm.Cond.and _ .tt).before a A.U = true; rw [Cond.before_and, mv hU wc]; rfl, mv hU wc, mv hU wz, hp.2.2.1, hp.2.2.2⟩)
    (fun m meth c A a g mk Y hq => ⟨hq.1, wtrans (s := s.setVm vm0) hZ Y.warmed, by
      have J := I.hand (chat Y.warmed hZ hEL I.1.1) hp
      rw [← hq.2.1] at J
      exact J⟩) (fun _ _ _ _ _ _ _ _ _ => trivial)
    (fun _ _ _ _ ⟨v, L, h1, h2, h3, h4, h5⟩ => ⟨L, _, _, h5, rfl, rfl, v, h1, h2, h3, h4⟩)
    (fun m meth c A a g mk v t L k n Y hp _ _ ⟨e1, e2, v', e3, e4, e5, e6⟩ => by
      cases e3; subst e1 e2
      exact ⟨L, e4, e5, e6, rfl, rfl, rfl⟩)
/-- behind the call -/
theorem OWp.behind {T : State} {vm0 vm1 : Vm} {k0 : Nat} {locs : List Loc} {B : Pt} {v : Option Value} (hEL : EW Z a0 EL) (hS : s.Since vm0 k0) (hk0 : k0 ≤ T.heap.size) (hZ : Z.Warmed39 vm0) (ho : vm0.findClass own = some m.cls) (hL : ∀ y ∈ locs, s.heap.size ≤ y.base ∨ y.base ∈ ws) (I : OInv Z EL s.vm s.heap ws vm0 T.heap (Mi ++ Mr) N P)
    (hW1 : (s.setVm vm0).WarmedH vm1) (X' : Stand p l e R ((s.setVm vm0).setVm B.U.vm) m args below meth c B.U B.locs B.cells B.slots) (hS' : (s.setVm vm0).Since B.U.vm B.U.heap.size) (hgr : T.heap.size ≤ B.U.heap.size) (hpost : OPost Z EL Mi Qc rm ⟨T.setVm vm1, locs, cells, slots⟩ as' v B) :
    ∃ Mo No, Qc v Mo No ∧ OSt p l e R s m args below meth c own Z EL ws P B.U (Mo ++ Mr) (No ++ N) (cells + rm.cells) (slots + rm.slots) := by
  obtain ⟨X2, h2, hZ2, ho2⟩ := rebS hS hk0 X' hS' hgr hZ ho
  obtain ⟨Lc, ⟨Mo, No, hq, J⟩, K, hLc, l1, l2, l3⟩ := hpost
  refine ⟨Mo, No, hq, B.U.vm, _, B.locs, ?_, h2, Nat.le_refl _, hZ2, ho2, fun y hy => ?_, I.call (chat hW1 hZ hEL I.1.1) J K⟩
  · rw [← l2, ← l3]; exact X2
  · rw [l1] at hy
    rcases List.mem_append.mp hy with hy | hy
    · exact hL y hy
    · rcases hLc y hy with q | q
      · exact Or.inl (Nat.le_trans I.1.2.1 q)
      · obtain ⟨r, hr, e⟩ := List.mem_map.mp q
        have := (I.2.2.1 r (List.mem_append_left _ hr)).2.2.2
        rwa [e] at this
theorem OWp.callS (hk : OOk p bytes maxL ret nm meth c Z a0 EL) (hd : decode bytes pc = .ok (.invokestatic index, 3)) (hp : pc' = pc + 3) (w1 : (Jvm.Cond.methodLink own index y).before a0 Z = true) (w2 : (Jvm.Cond.static y).before a0 Z = true) (w3 : (Jvm.Cond.initialized y.cls).before a0 Z = true) (w4 : (Jvm.Cond.code y bytes' maxL' ret').before a0 Z = true)
    (hy : y.cls ≠ "java/lang/invoke/MethodHandle" ∧ y.cls ≠ "java/lang/invoke/VarHandle") (hC : OCon l Z EL y bytes' maxL' ret' [] rm argsL.toArray Mi Pc Qc) (hM : Mi ++ Mr = M) (hPc : ∀ q ∈ Pc, q ∈ Mr ++ (N ++ P)) (hsz : L.length = maxL) (hlen : ∀ sig, parseMethodDescriptor y.desc = some sig → argsL.length = sig.parameters.length) (hst : S = argsL.reverse ++ rest)
    (hW : (rest.map fun v => v.category).sum = W) (hf : rm.frames + 1 ≤ R.frames) (hl : W + (maxL' + 11) + rm.locals ≤ R.locals) (hc : cells + rm.cells ≤ R.cells) (hs : slots + rm.slots ≤ R.slots)
    (kk : ∀ v Mo No, Qc v Mo No → OWp p l e R s m args below meth c own Z EL ws P Q (Mo ++ Mr) (No ++ N) (cells + rm.cells) (slots + rm.slots) pc' L (v.toList ++ rest)) :
    OWp p l e R s m args below meth c own Z EL ws P Q M N cells slots pc L S := fun T hT => by
  subst hp hM
  obtain ⟨vm0, k0, locs, X, hS, hk0, hZ, ho, hL, I⟩ := hT
  obtain ⟨v, vm1, B, hW1, X', hS', hgr, hpost, st⟩ := callSS X hk.1 (own := own) ho (mvT (s := s.setVm vm0) hZ w1) (mvT (s := s.setVm vm0) hZ w2) (mvT (s := s.setVm vm0) hZ w3) (mvT (s := s.setVm vm0) hZ w4) hy (oback (W := W) (as' := argsL.toArray) hC hZ w4 w3 hf hl hk.2.2.2.2.2.2 I hPc)
    (g := mkF m pc L.toArray S) rfl (by rw [hk.2.2.1]; simpa using hsz) hlen hst (by show 2 * 0 + _ ≤ _; omega) (hb hk.2.1 hd) (fun _ _ => ⟨rfl, rfl, hc, hs⟩)
  obtain ⟨Mo, No, hq, hB⟩ := OWp.behind hk.2.2.2.2.2.2 hS hk0 hZ ho hL I hW1 X' hS' hgr hpost
  obtain ⟨U, st', r⟩ := kk v Mo No hq B.U hB
  exact ⟨U, st.trans st', r⟩
theorem OWp.callI (hk : OOk p bytes maxL ret nm meth c Z a0 EL) (hd : decode bytes pc = .ok (.invokespecial index, 3)) (hp : pc' = pc + 3) (hy1 : y.name = "<init>") (w1 : (Jvm.Cond.methodLink own index y).before a0 Z = true) (w2 : (Jvm.Cond.instanceMethod y).before a0 Z = true) (w3 : (Jvm.Cond.initialized y.cls).before a0 Z = true) (w4 : (Jvm.Cond.code y bytes' maxL' none).before a0 Z = true)
    (hy : y.cls ≠ "java/lang/invoke/MethodHandle" ∧ y.cls ≠ "java/lang/invoke/VarHandle") (hC : OCon l Z EL y bytes' maxL' none [] rm (.ref a :: argsL).toArray Mi Pc Qc) (hM : Mi ++ Mr = M) (hPc : ∀ q ∈ Pc, q ∈ Mr ++ (N ++ P)) (hsz : L.length = maxL) (hlen : ∀ sig, parseMethodDescriptor y.desc = some sig → argsL.length = sig.parameters.length) (hst : S = argsL.reverse ++ .ref a :: rest)
    (hW : (rest.map fun v => v.category).sum = W) (hf : rm.frames + 1 ≤ R.frames) (hl : W + (maxL' + 11) + rm.locals ≤ R.locals) (hc : cells + rm.cells ≤ R.cells) (hs : slots + rm.slots ≤ R.slots)
    (kk : ∀ v Mo No, Qc v Mo No → OWp p l e R s m args below meth c own Z EL ws P Q (Mo ++ Mr) (No ++ N) (cells + rm.cells) (slots + rm.slots) pc' L (v.toList ++ rest)) :
    OWp p l e R s m args below meth c own Z EL ws P Q M N cells slots pc L S := fun T hT => by
  subst hp hM
  obtain ⟨vm0, k0, locs, X, hS, hk0, hZ, ho, hL, I⟩ := hT
  obtain ⟨v, vm1, B, hW1, X', hS', hgr, hpost, st⟩ := X.specialBackS hk.1 (own := own) hy1 ho (mvT (s := s.setVm vm0) hZ w1) (mvT (s := s.setVm vm0) hZ w2) (mvT (s := s.setVm vm0) hZ w4) hy (oback (W := W) (as' := (.ref a :: argsL).toArray) hC hZ w4 w3 hf hl hk.2.2.2.2.2.2 I hPc)
    (g := mkF m pc L.toArray S) rfl (by rw [hk.2.2.1]; simpa using hsz) (Steps.refl _) (a := a) hlen hst (by show 2 * 0 + _ ≤ _; omega) (hb hk.2.1 hd) (fun _ _ => ⟨rfl, rfl, hc, hs⟩)
  obtain ⟨Mo, No, hq, hB⟩ := OWp.behind hk.2.2.2.2.2.2 hS hk0 hZ ho hL I hW1 X' hS' hgr hpost
  obtain ⟨U, st', r⟩ := kk v Mo No hq B.U hB
  exact ⟨U, st.trans st', r⟩
theorem OWp.callV (hk : OOk p bytes maxL ret nm meth c Z a0 EL) (hd : decode bytes pc = .ok (.invokevirtual index, 3)) (hp : pc' = pc + 3) (w1 : (Jvm.Cond.methodLink own index y).before a0 Z = true) (w2 : (Jvm.Cond.declares y).before a0 Z = true) (nf : ∀ vm0, Z.Warmed39 vm0 → NotFace (s.setVm vm0) y) (w5 : (Jvm.Cond.selects C y z).before a0 Z = true) (w6 : (Jvm.Cond.instanceMethod z).before a0 Z = true)
    (w3 : (Jvm.Cond.initialized z.cls).before a0 Z = true) (w4 : (Jvm.Cond.code z bytes' maxL' ret').before a0 Z = true) (hy : y.cls ≠ "java/lang/invoke/MethodHandle" ∧ y.cls ≠ "java/lang/invoke/VarHandle")
    (hm : (a, cl) ∈ M ++ (N ++ P)) (E : EC Z cl C)
    (hC : OCon l Z EL z bytes' maxL' ret' [] rm (.ref a :: argsL).toArray Mi Pc Qc) (hM : Mi ++ Mr = M) (hPc : ∀ q ∈ Pc, q ∈ Mr ++ (N ++ P)) (hsz : L.length = maxL) (hlen : ∀ sig, parseMethodDescriptor y.desc = some sig → argsL.length = sig.parameters.length) (hst : S = argsL.reverse ++ .ref a :: rest)
    (hW : (rest.map fun v => v.category).sum = W) (hf : rm.frames + 1 ≤ R.frames) (hl : W + (maxL' + 11) + rm.locals ≤ R.locals) (hc : cells + rm.cells ≤ R.cells) (hs : slots + rm.slots ≤ R.slots)
    (kk : ∀ v Mo No, Qc v Mo No → OWp p l e R s m args below meth c own Z EL ws P Q (Mo ++ Mr) (No ++ N) (cells + rm.cells) (slots + rm.slots) pc' L (v.toList ++ rest)) :
    OWp p l e R s m args below meth c own Z EL ws P Q M N cells slots pc L S := fun T hT => by
  subst hp hM
  obtain ⟨vm0, k0, locs, X, hS, hk0, hZ, ho, hL, I⟩ := hT
  obtain ⟨cB, kB, qa, qb, qc⟩ := isOf (s := s.setVm vm0) (T := T) hZ rfl (E.exa (I.at hm))
  obtain ⟨v, vm1, B, hW1, X', hS', hgr, hpost, st⟩ := X.virtualBackS hk.1 (own := own) ho (mvT (s := s.setVm vm0) hZ w1) (mvT (s := s.setVm vm0) hZ w2) (nf vm0 hZ) (mvT (s := s.setVm vm0) hZ w5) (mvT (s := s.setVm vm0) hZ w6) hy (oback (W := W) (as' := (.ref a :: argsL).toArray) hC hZ w4 w3 hf hl hk.2.2.2.2.2.2 I hPc) qa qc
    (g := mkF m pc L.toArray S) rfl (by rw [hk.2.2.1]; simpa using hsz) (Steps.refl _) hlen hst (by show 2 * 0 + _ ≤ _; omega) (hb hk.2.1 hd) (fun _ _ => ⟨rfl, rfl, hc, hs⟩)
  obtain ⟨Mo, No, hq, hB⟩ := OWp.behind hk.2.2.2.2.2.2 hS hk0 hZ ho hL I hW1 X' hS' hgr hpost
  obtain ⟨U, st', r⟩ := kk v Mo No hq B.U hB
  exact ⟨U, st.trans st', r⟩
theorem nfs {y : MethodName} (w : (Jvm.Cond.selects C y y).before a0 Z = true) : ∀ vm0, Z.Warmed39 vm0 → NotFace (s.setVm vm0) y := fun vm0 hZ => notFace_of_selects (args := #[]) (mvT (s := s.setVm vm0) hZ w)
/-- the class of a method that is selected is no interface -/
theorem nfs2 {y y' : MethodName} (w : (Jvm.Cond.selects C y' y').before a0 Z = true) (ec : y.cls = y'.cls) : ∀ vm0, Z.Warmed39 vm0 → NotFace (s.setVm vm0) y := fun vm0 hZ r0 h0 => by
  obtain ⟨c2, r2, m2, -, -, q3, -, kP, hkP, hkPi⟩ := Cond.selects_spec (args := #[]) (mvT (s := s.setVm vm0) hZ w)
  refine ⟨kP, ?_, hkPi⟩
  have e1 := findClass_of_methodNamed h0
  have e2 := findClass_of_methodNamed q3
  rw [ec] at e1
  rw [Option.some.inj (e1.symm.trans e2)]; exact hkP
theorem sameM {y y' : MethodName} {ret' : Option FieldType} (w : (Jvm.Cond.selects C y' y').before a0 Z = true) (ec : y.cls = y'.cls) (wi : (Jvm.Cond.instanceMethod y).before a0 Z = true) (hy : y.cls ≠ "java/lang/invoke/MethodHandle" ∧ y.cls ≠ "java/lang/invoke/VarHandle") : (Jvm.Cond.sameMethod y.cls y.cls y.name y.desc).before a0 Z = true := by
  obtain ⟨mk, methM, hnamed, hmethM, -, -⟩ := Cond.instanceMethod_spec wi
  obtain ⟨c2, r2, m2, -, -, q3, -, kP, hkP, hkPi⟩ := Cond.selects_spec w
  have e1 := findClass_of_methodNamed hnamed
  have e2 := findClass_of_methodNamed q3
  have e3 := State.methodFound?_of_named hnamed hy
  have e4 : Z.vm.classes[mk.cls]? = some kP := by rw [ec] at e1; rw [Option.some.inj (e1.symm.trans e2)]; exact hkP
  have e5 : Z.methodNamed? ⟨y.cls, y.name, y.desc⟩ = some mk := hnamed
  simp [Cond.before, Cond.holds, Cond.value, e1, e3, e5, e4, hkPi]
/-- invokevirtual of a private method -/
theorem OWp.callP (hk : OOk p bytes maxL ret nm meth c Z a0 EL) (hd : decode bytes pc = .ok (.invokevirtual index, 3)) (hp : pc' = pc + 3) (w1 : (Jvm.Cond.methodLink own index y).before a0 Z = true) (w2 : (Jvm.Cond.privateMethod y).before a0 Z = true) (w5 : (Jvm.Cond.selects C y y).before a0 Z = true) (w6 : (Jvm.Cond.instanceMethod y).before a0 Z = true)
    (w3 : (Jvm.Cond.initialized y.cls).before a0 Z = true) (w4 : (Jvm.Cond.code y bytes' maxL' ret').before a0 Z = true) (hy : y.cls ≠ "java/lang/invoke/MethodHandle" ∧ y.cls ≠ "java/lang/invoke/VarHandle")
    (hm : (a, cl) ∈ M ++ (N ++ P)) (E : EC Z cl C)
    (hC : OCon l Z EL y bytes' maxL' ret' [] rm (.ref a :: argsL).toArray Mi Pc Qc) (hM : Mi ++ Mr = M) (hPc : ∀ q ∈ Pc, q ∈ Mr ++ (N ++ P)) (hsz : L.length = maxL) (hlen : ∀ sig, parseMethodDescriptor y.desc = some sig → argsL.length = sig.parameters.length) (hst : S = argsL.reverse ++ .ref a :: rest)
    (hW : (rest.map fun v => v.category).sum = W) (hf : rm.frames + 1 ≤ R.frames) (hl : W + (maxL' + 11) + rm.locals ≤ R.locals) (hc : cells + rm.cells ≤ R.cells) (hs : slots + rm.slots ≤ R.slots)
    (kk : ∀ v Mo No, Qc v Mo No → OWp p l e R s m args below meth c own Z EL ws P Q (Mo ++ Mr) (No ++ N) (cells + rm.cells) (slots + rm.slots) pc' L (v.toList ++ rest)) :
    OWp p l e R s m args below meth c own Z EL ws P Q M N cells slots pc L S := fun T hT => by
  subst hp hM
  obtain ⟨vm0, k0, locs, X, hS, hk0, hZ, ho, hL, I⟩ := hT
  obtain ⟨cB, kB, qa, qb, qc⟩ := isOf (s := s.setVm vm0) (T := T) hZ rfl (E.exa (I.at hm))
  obtain ⟨cellB, hcellT, hclsB, hstatB⟩ := qc
  obtain ⟨mk, methM, hnamed, hmethM, hstM, habM⟩ := Cond.instanceMethod_spec (args := args) (mvT (s := s.setVm vm0) hZ w6)
  obtain ⟨methM', cM, hmethM', -, -, -, -, -, -, hsigM⟩ := Cond.code_spec (args := args) hnamed (mvT (s := s.setVm vm0) hZ w4)
  cases hmethM.symm.trans hmethM'
  obtain ⟨c2, r2, m2, -, -, q3, -, kP, hkP, hkPi⟩ := Cond.selects_spec (args := args) (mvT (s := s.setVm vm0) hZ w5)
  cases hnamed.symm.trans q3
  have hselP : selectMethod e.platform (s.setVm vm0).vm cellB.cls mk = .method mk := selectMethod_private hmethM (Cond.privateMethod_at (args := args) (mvT (s := s.setVm vm0) hZ w2) mk methM hnamed hmethM)
  obtain ⟨vm1, X1, hstep1⟩ := X.invokevirtual hk.1 (own := own) ho (mvT (s := s.setVm vm0) hZ w1) hnamed hmethM hstM hkP hkPi hy (a := a) (cell := cellB) hcellT (fun z h => by rw [h] at hstatB; cases hstatB) hselP hmethM habM hkP hkPi (g := mkF m pc L.toArray S) rfl (argsL := argsL) (rest := rest) (hlen _ hsigM) hst (hb hk.2.1 hd)
  obtain ⟨v, B, X', hS', hgr, hpost, hsteps⟩ := oback (len := 3) (W := W) (as' := (.ref a :: argsL).toArray) hC hZ w4 w3 hf hl hk.2.2.2.2.2.2 I hPc m meth c ⟨T.setVm vm1, locs, cells, slots⟩ { mkF m pc L.toArray S with stack := rest } (.invokevirtual index) mk (.ref a :: argsL).toArray X1 rfl (by rw [hk.2.2.1]; simpa using hsz) (hb hk.2.1 hd) (show 2 * 0 + (rest.map fun v => v.category).sum ≤ W by omega) (X1.named hnamed) ⟨rfl, rfl, hc, hs⟩
  have st := (Steps.refl _).trans ((hstep1 _ fun acts => by rw [doInvoke_state]; exact Steps.refl _).trans hsteps)
  obtain ⟨Mo, No, hq, hB⟩ := OWp.behind hk.2.2.2.2.2.2 hS hk0 hZ ho hL I X1.warmed X' hS' hgr hpost
  obtain ⟨U, st', r⟩ := kk v Mo No hq B.U hB
  exact ⟨U, st.trans st', r⟩
/-- invokespecial of the superclass's method -/
theorem OWp.callU (hk : OOk p bytes maxL ret nm meth c Z a0 EL) (hd : decode bytes pc = .ok (.invokespecial index, 3)) (hp : pc' = pc + 3) (w1 : (Jvm.Cond.methodLink own index y).before a0 Z = true) (w2 : (Jvm.Cond.sameMethod y.cls y.cls y.name y.desc).before a0 Z = true) (w5 : (Jvm.Cond.superclass own y.cls).before a0 Z = true) (w6 : (Jvm.Cond.instanceMethod y).before a0 Z = true) (hn : y.name ≠ "<init>")
    (w3 : (Jvm.Cond.initialized y.cls).before a0 Z = true) (w4 : (Jvm.Cond.code y bytes' maxL' ret').before a0 Z = true)
    (hm : (a, cl) ∈ M ++ (N ++ P)) (E : EC Z cl C)
    (hC : OCon l Z EL y bytes' maxL' ret' [] rm (.ref a :: argsL).toArray Mi Pc Qc) (hM : Mi ++ Mr = M) (hPc : ∀ q ∈ Pc, q ∈ Mr ++ (N ++ P)) (hsz : L.length = maxL) (hlen : ∀ sig, parseMethodDescriptor y.desc = some sig → argsL.length = sig.parameters.length) (hst : S = argsL.reverse ++ .ref a :: rest)
    (hW : (rest.map fun v => v.category).sum = W) (hf : rm.frames + 1 ≤ R.frames) (hl : W + (maxL' + 11) + rm.locals ≤ R.locals) (hc : cells + rm.cells ≤ R.cells) (hs : slots + rm.slots ≤ R.slots)
    (kk : ∀ v Mo No, Qc v Mo No → OWp p l e R s m args below meth c own Z EL ws P Q (Mo ++ Mr) (No ++ N) (cells + rm.cells) (slots + rm.slots) pc' L (v.toList ++ rest)) :
    OWp p l e R s m args below meth c own Z EL ws P Q M N cells slots pc L S := fun T hT => by
  subst hp hM
  obtain ⟨vm0, k0, locs, X, hS, hk0, hZ, ho, hL, I⟩ := hT
  obtain ⟨v, vm1, B, hW1, X', hS', hgr, hpost, st⟩ := superBackS (s := s.setVm vm0) X hk.1 hZ ho w1 w2 w6 w5 hn (oback (W := W) (as' := (.ref a :: argsL).toArray) hC hZ w4 w3 hf hl hk.2.2.2.2.2.2 I hPc) rfl (Ins.self (E.exa (I.at hm)))
    (g := mkF m pc L.toArray S) rfl (by rw [hk.2.2.1]; simpa using hsz) w4 hlen hst (by show 2 * 0 + _ ≤ _; omega) (hb hk.2.1 hd) (fun _ _ => ⟨rfl, rfl, hc, hs⟩)
  obtain ⟨Mo, No, hq, hB⟩ := OWp.behind hk.2.2.2.2.2.2 hS hk0 hZ ho hL I hW1 X' hS' hgr hpost
  obtain ⟨U, st', r⟩ := kk v Mo No hq B.U hB
  exact ⟨U, st.trans st', r⟩
end Calls
/-! 7. the end -/
section Ends
variable {v : Option Value} {M' N' : Mem} {w : Value} {x : Int32} {t : FieldType}
theorem OWp.leave (hk : OOk p bytes maxL ret nm meth c Z a0 EL) (hv : ret = none → v = none) (hQ : Q v M' N') (hm : M'.Sublist M) (hn : ∀ q ∈ N', q ∈ N) (hc : cells ≤ R.cells) (hs : slots ≤ R.slots)
    (H : ∀ (T : State) (vm0 : Vm) (locs : List Loc) (fs : List Frame), Stand p l e R (s.setVm vm0) m args below meth c T locs cells slots → (∀ (f : JFrame) (acts : List Action), f.method = m → f.locked = none → f.entered = [] → (doReturn e (T.setTop f) acts v).1 = T.setFrames fs) → Steps p.tables e below (T.setTop (mkF m pc L.toArray S)) (T.setFrames fs)) :
    OWp p l e R s m args below meth c own Z EL ws P Q M N cells slots pc L S := fun T hT => by
  obtain ⟨vm0, k0, locs, X, hS, hk0, hZ, ho, hL, I⟩ := hT
  obtain ⟨fs, h1, h2, h3, h4⟩ := X.leaveW hS hk0 (v := v) (fun q => hv (hk.2.2.2.1.symm.trans q)) hk.2.2.2.2.1
  refine ⟨T.setFrames fs, H T vm0 locs fs X h1, v, locs, h2, h3, ⟨M', N', hQ, ?_⟩, (show OKp s.heap T.heap ws from okp_of X hL), hL, h4.1, h4.2.1, h4.2.2.1, h4.2.2.2.mono hc hs⟩
  exact (I.later (chat X.warmed hZ hk.2.2.2.2.2.2 I.1.1) (ext_refl _)).sub hm hn
theorem OWp.ret0 (hk : OOk p bytes maxL none nm meth c Z a0 EL) (hd : decode bytes pc = .ok (.return_, 1)) (hQ : Q none M' N') (hm : M'.Sublist M) (hn : ∀ q ∈ N', q ∈ N) (hc : cells ≤ R.cells) (hs : slots ≤ R.slots) :
    OWp p l e R s m args below meth c own Z EL ws P Q M N cells slots pc L [] :=
  OWp.leave hk (fun _ => rfl) hQ hm hn hc hs fun T vm0 locs fs X h1 => X.returnOut hk.1 hk.2.2.2.1 (hb hk.2.1 hd) h1
theorem OWp.retI (hk : OOk p bytes maxL (some .int) nm meth c Z a0 EL) (hd : decode bytes pc = .ok (.ireturn, 1)) (hQ : Q (some (.int x)) M' N') (hm : M'.Sublist M) (hn : ∀ q ∈ N', q ∈ N) (hc : cells ≤ R.cells) (hs : slots ≤ R.slots) :
    OWp p l e R s m args below meth c own Z EL ws P Q M N cells slots pc L (.int x :: rest) :=
  OWp.leave hk (fun q => by cases q) hQ hm hn hc hs fun T vm0 locs fs X h1 => retOut X hk.1 hk.2.2.2.1 rfl (Or.inl ⟨rfl, Or.inl rfl, x, rfl⟩) (hb hk.2.1 hd) h1
theorem OWp.retN (hk : OOk p bytes maxL (some t) nm meth c Z a0 EL) (ht : t = .boolean ∨ t = .byte ∨ t = .char ∨ t = .short) (hd : decode bytes pc = .ok (.ireturn, 1)) (hQ : Q (some (.int (nar t x))) M' N') (hm : M'.Sublist M) (hn : ∀ q ∈ N', q ∈ N) (hc : cells ≤ R.cells) (hs : slots ≤ R.slots) :
    OWp p l e R s m args below meth c own Z EL ws P Q M N cells slots pc L (.int x :: rest) :=
  OWp.leave hk (fun q => by cases q) hQ hm hn hc hs fun T vm0 locs fs X h1 => RoadKit.retN X hk.1 hk.2.2.2.1 ht (hb hk.2.1 hd) h1
theorem OWp.retA (hk : OOk p bytes maxL (some t) nm meth c Z a0 EL) (ht : t.isReference = true) (hw : w.isRef = true) (hnw : narrow t w = w) (hd : decode bytes pc = .ok (.areturn, 1)) (hQ : Q (some w) M' N') (hm : M'.Sublist M) (hn : ∀ q ∈ N', q ∈ N) (hc : cells ≤ R.cells) (hs : slots ≤ R.slots) :
    OWp p l e R s m args below meth c own Z EL ws P Q M N cells slots pc L (w :: rest) :=
  OWp.leave hk (fun q => by cases q) hQ hm hn hc hs fun T vm0 locs fs X h1 => retOut X hk.1 hk.2.2.2.1 hnw (Or.inr (Or.inr (Or.inr (Or.inr ⟨rfl, ht, hw⟩)))) (hb hk.2.1 hd) h1
end Ends
/-! 8. System.arraycopy -/
section Copy
theorem OInv.put {vmS vm : Vm} {h0 h h' : Heap} {i : Nat} {a : Addr} {cl cl' : Cell} (I : OInv Z EL vmS h0 ws vm h M N P) (hi : M[i]? = some (a, cl)) (K : Keep h h' [a]) (hc : h'[a]? = some cl') : OInv Z EL vmS h0 ws vm h' (M.set i (a, cl')) N P := by
  obtain ⟨C, EZ, hM, hn, hN, hP⟩ := I
  obtain ⟨b1, b2, b3, b4⟩ := hM _ (List.mem_of_getElem? hi)
  have ne : ∀ {y : Addr} {cy : Cell}, y ≠ a → h[y]? = some cy → h'[y]? = some cy := fun {y cy} q r => K.2.1 y cy r fun z => q (List.mem_singleton.mp z)
  have hs : ∀ x ∈ [a], Safe Z EL vm h x := fun x hx => by cases List.mem_singleton.mp hx; exact b2
  have dm := dom_set (c' := cl') hi
  refine ⟨C.trans (CHr.keep K hs C.1), ⟨Nat.le_trans EZ.1 K.1, fun y cy q => ?_⟩, fun q hq => ?_, by rw [dm]; exact hn, fun q hq => ?_, fun q hq => ?_⟩
  · exact ne (Nat.ne_of_lt (Nat.lt_of_lt_of_le (lt_of q) b3)) (EZ.2 _ _ q)
  · rcases mem_set hn hi q hq with rfl | ⟨hq, e⟩
    · exact ⟨hc, Safe.keep K hs C.1 b2, b3, b4⟩
    · obtain ⟨a1, a2, a3, a4⟩ := hM q hq
      exact ⟨ne e a1, Safe.keep K hs C.1 a2, a3, a4⟩
  · obtain ⟨a1, a2, a3⟩ := hN q hq
    exact ⟨ne (fun z => a2 (by rw [z]; exact List.mem_map.mpr ⟨_, List.mem_of_getElem? hi, rfl⟩)) a1, by rw [dm]; exact a2, a3⟩
  · obtain ⟨a1, a2⟩ := hP q hq
    exact ⟨ne (fun z => a2 (by rw [z]; exact List.mem_map.mpr ⟨_, List.mem_of_getElem? hi, rfl⟩)) a1, by rw [dm]; exact a2⟩
/-- the places written, said by the cells' addresses alone -/
theorem restand {s' T : State} {locs : List Loc} (X : Stand p l e R s' m args below meth c T locs cells slots) (hK : OKp s'.heap T.heap ws) : ∃ L2, Stand p l e R s' m args below meth c T L2 cells slots ∧ ∀ y ∈ L2, y.base ∈ ws := by
  refine ⟨ws.flatMap fun a => (List.range ((T.heap[a]?.map fun q => q.slots.size).getD 0)).map fun i => (⟨a, i⟩ : Loc), { X with same := ?_ }, fun y hy => ?_⟩
  · obtain ⟨q1, q2, q3, q4, q5, q6⟩ := X.same
    refine ⟨q1, q2, q3, q4, q5, fun a ca ha => ?_⟩
    obtain ⟨c', r1, r2, r3, r4⟩ := q6 a ca ha
    refine ⟨c', r1, r2, r3, fun i hi => ?_⟩
    by_cases hw : a ∈ ws
    · have hlt : ¬ i < c'.slots.size := fun z => hi (List.mem_flatMap.mpr ⟨a, hw, List.mem_map.mpr ⟨i, List.mem_range.mpr (by
        have r1' : T.heap[a]? = some c' := r1
        rw [r1']; exact z), rfl⟩⟩)
      rw [Array.getElem?_eq_none (Nat.not_lt.mp hlt), Array.getElem?_eq_none (by rw [← r3]; exact Nat.not_lt.mp hlt)]
    · have e := hK.2 a ca ha hw
      have r1' : T.heap[a]? = some c' := r1
      rw [show c' = ca from Option.some.inj (r1'.symm.trans e)]
  · obtain ⟨a, ha, hb⟩ := List.mem_flatMap.mp hy
    obtain ⟨i, -, rfl⟩ := List.mem_map.mp hb
    exact ha
theorem OWp.arraycopy {index i : Nat} {a b : Addr} {ca cb : Cell} {ty : FieldType} {n1 n2 sp dp nn : Nat} {f g : Nat → Value} {W : Nat} (hk : OOk p bytes maxL ret nm meth c Z a0 EL) (hd : decode bytes pc = .ok (.invokestatic index, 3)) (hp : pc' = pc + 3)
    (w1 : (Jvm.Cond.methodLink own index Jvm.Stand.acN).before a0 Z = true) (w2 : (Jvm.Cond.native Jvm.Stand.acN).before a0 Z = true) (w3 : (Jvm.Cond.static Jvm.Stand.acN).before a0 Z = true) (w4 : (Jvm.Cond.initialized "java/lang/System").before a0 Z = true)
    (hm : (a, ca) ∈ M ++ (N ++ P)) (A : AC Z ca ty (tab n1 f)) (hi : M[i]? = some (b, cb)) (B : AC Z cb ty (tab n2 g)) (hty : refKind ty = false) (h1 : sp + nn ≤ n1) (h2 : dp + nn ≤ n2) (hsz : L.length = maxL) (hf : 1 ≤ R.frames) (hW : (rest.map fun v => v.category).sum = W) (hlo : W + (nativeFrameWords "java/lang/System" "arraycopy" 5 + 11) ≤ R.locals)
    (kk : ∀ cb', AC Z cb' ty (tab n2 fun j => if dp ≤ j ∧ j < dp + nn then f (sp + (j - dp)) else g j) → OWp p l e R s m args below meth c own Z EL ws P Q (M.set i (b, cb')) N cells slots pc' L rest) :
    OWp p l e R s m args below meth c own Z EL ws P Q M N cells slots pc L (.int (Int32.ofNat nn) :: .int (Int32.ofNat dp) :: .ref b :: .int (Int32.ofNat sp) :: .ref a :: rest) := fun T hT => by
  subst hp
  obtain ⟨vm0, k0, locs, X, hS, hk0, hZ, ho, hL, I⟩ := hT
  obtain ⟨b1, b2, b3, b4⟩ := I.2.2.1 _ (List.mem_of_getElem? hi)
  have l1 : n1 < 2147483648 := by have := A.2.2.2.1; rwa [tab_len] at this
  have l2 : n2 < 2147483648 := by have := B.2.2.2.1; rwa [tab_len] at this
  have A' : Arv Z T.heap a ca.cls ty (Int32.ofNat n1) (tab n1 f) (.int 0) := by have := A.arv (d := .int 0) (I.at hm); rwa [tab_len] at this
  have B' : Arv Z T.heap b cb.cls ty (Int32.ofNat n2) (tab n2 g) (.int 0) := by have := B.arv (d := .int 0) b1; rwa [tab_len] at this
  obtain ⟨T', h', L', X', e', -, K, B2, st⟩ := cpA (s := s.setVm vm0) (own := own) X hk.1 hZ ho w1 w2 w3 w4 rfl A' B' (Or.inl ⟨rfl, hty⟩) (sp := Int32.ofNat sp) (dp := Int32.ofNat dp) (nn := Int32.ofNat nn) (n_nn (by omega)) (n_nn (by omega)) (n_nn (by omega))
    (by rw [n_nat (by omega), n_nat (by omega), n_nat (by omega)]; exact h1) (by rw [n_nat (by omega), n_nat (by omega), n_nat (by omega)]; exact h2) rfl (by rw [n_nat (by omega), n_nat (by omega), tab_len]; exact h2) (n0 := 0) (fun _ _ => Nat.zero_le _) (Nat.zero_le _)
    (g := mkF m pc L.toArray (.int (Int32.ofNat nn) :: .int (Int32.ofNat dp) :: .ref b :: .int (Int32.ofNat sp) :: .ref a :: rest)) (rest := rest) rfl (by rw [hk.2.2.1]; simpa using hsz) rfl (hb hk.2.1 hd) hf (W := W) (by show 2 * 0 + _ ≤ _; omega) hlo
  subst e'
  rw [n_nat (show nn < 2147483648 by omega), n_nat (show dp < 2147483648 by omega), n_nat (show sp < 2147483648 by omega)] at B2
  have el : (tab n2 g).take dp ++ (List.range nn).map (fun i => (tab n1 f).getD (sp + i) (.int 0)) ++ (tab n2 g).drop (dp + nn) = tab n2 fun j => if dp ≤ j ∧ j < dp + nn then f (sp + (j - dp)) else g j := by
    refine List.ext_getElem? fun j => ?_
    by_cases hj : j < n2
    · rw [tab_get hj]
      by_cases c1 : j < dp
      · rw [List.getElem?_append_left (by simp [tab_len]; omega), List.getElem?_append_left (by simp [tab_len]; omega), List.getElem?_take, if_pos c1, tab_get hj, if_neg (by omega)]
      · by_cases c2 : j < dp + nn
        · rw [List.getElem?_append_left (by simp [tab_len]; omega), List.getElem?_append_right (by simp [tab_len]; omega)]
          have e1 : ((tab n2 g).take dp).length = dp := by simp [tab_len]; omega
          rw [e1, List.getElem?_map, List.getElem?_range (by omega), if_pos ⟨by omega, c2⟩]
          simp only [Option.map_some]
          rw [List.getD_eq_getElem?_getD, tab_get (by omega)]; rfl
        · have e1 : ((tab n2 g).take dp ++ (List.range nn).map (fun i => (tab n1 f).getD (sp + i) (.int 0))).length = dp + nn := by simp [tab_len]; omega
          rw [List.getElem?_append_right (by rw [e1]; omega), e1, List.getElem?_drop, show dp + nn + (j - (dp + nn)) = j by omega, tab_get hj, if_neg (by omega)]
    · rw [List.getElem?_eq_none (by simp [tab_len]; omega), List.getElem?_eq_none (by simp [tab_len]; omega)]
  rw [el] at B2
  obtain ⟨cb', hcb, AB⟩ := AC.of_arv B2 (by rw [n_nat l2, tab_len])
  have hK0 := okp_of X hL
  have hK1 : OKp s.heap T'.heap (b :: ws) := ⟨Nat.le_trans hK0.1 K.1, fun x cx q1 q2 => K.2.1 x cx (hK0.2 x cx q1 fun z => q2 (List.mem_cons_of_mem _ z)) fun z => q2 (by rw [List.mem_singleton.mp z]; exact List.mem_cons_self ..)⟩
  obtain ⟨L2, X2, hL2⟩ := restand (s' := s.setVm vm0) X' hK1
  obtain ⟨U, st', r⟩ := kk cb' AB T' ⟨vm0, k0, L2, X2, hS, Nat.le_trans hk0 K.1, hZ, ho, fun y hy => by
    rcases List.mem_cons.mp (hL2 y hy) with q | q
    · rw [q]; exact b4
    · exact Or.inr q, I.put hi K hcb⟩
  exact ⟨U, st _ st', r⟩
end Copy
end Walk
end Jvm.OwnKit
namespace Jvm.OwnKit
open Jvm Jvm.ClassFile Sem Op Lib Jvm.Free Jvm.Stand Jvm.LawKit Jvm.RoadKit Bundle
/-! what is known of a String: its chars -/
section StrDefs
def lo8 (c : Int32) : Int32 := c.toInt8.toInt32
def hi8 (c : Int32) : Int32 := (c >>> ((8 : Int32) &&& 31)).toInt8.toInt32
def lw8 (c : Int32) : Int32 := (c >>> ((0 : Int32) &&& 31)).toInt8.toInt32
def lat (cs : List Int32) : Bool := cs.all fun c => !decide (255 < c)
def cdOf (cs : List Int32) : Int32 := if lat cs then 0 else 1
def oWide (cs : List Int32) : List Value := tab (2 * cs.length) fun j => .int (if j % 2 = 0 then lw8 (cs.getD (j / 2) 0) else hi8 (cs.getD (j / 2) 0))
def oBytes (cs : List Int32) : List Value := if lat cs then tab cs.length (fun j => .int (lo8 (cs.getD j 0))) else oWide cs
def Chars (cs : List Int32) : Prop := (∀ c ∈ cs, ¬ c < 0 ∧ ¬ (65535 : Int32) < c) ∧ cs.length ≤ 4000
def SC (Z : State) (t : Addr) (cx ct : Cell) (cs : List Int32) : Prop :=
  EC Z cx "java/lang/String" ∧ FC Z cx "java/lang/String" "value" "[B" (.ref t) ∧ FC Z cx "java/lang/String" "coder" "B" (.int (cdOf cs)) ∧ AC Z ct .byte (oBytes cs) ∧ Chars cs
theorem lat_iff {cs : List Int32} : lat cs = true ↔ ∀ c ∈ cs, ¬ (255 : Int32) < c := by simp [lat]
theorem cd_cases (cs : List Int32) : (lat cs = true ∧ cdOf cs = 0) ∨ (lat cs = false ∧ cdOf cs = 1) := by
  cases h : lat cs
  · exact Or.inr ⟨rfl, by simp [cdOf, h]⟩
  · exact Or.inl ⟨rfl, by simp [cdOf, h]⟩
theorem nar_cd (cs : List Int32) : nar .byte (cdOf cs) = cdOf cs := by rcases cd_cases cs with ⟨-, h⟩ | ⟨-, h⟩ <;> rw [h] <;> decide
theorem bytes_len (cs : List Int32) : (oBytes cs).length = if lat cs then cs.length else 2 * cs.length := by
  unfold oBytes; split <;> simp [oWide, tab_len]
theorem bytes_lat {cs : List Int32} (h : lat cs = true) : oBytes cs = tab cs.length (fun j => .int (lo8 (cs.getD j 0))) := by simp [oBytes, h]
theorem bytes_wide {cs : List Int32} (h : lat cs = false) : oBytes cs = oWide cs := by simp [oBytes, h]
theorem getD_mem {cs : List Int32} {i : Nat} (hi : i < cs.length) : cs.getD i 0 ∈ cs := by
  rw [List.getD_eq_getElem?_getD, List.getElem?_eq_getElem hi]; exact List.getElem_mem hi
/-- length()'s shift -/
theorem shr_len (cs : List Int32) (h : cs.length ≤ 4000) : Int32.ofNat (oBytes cs).length >>> (cdOf cs &&& 31) = Int32.ofNat cs.length := by
  rw [bytes_len]
  rcases cd_cases cs with ⟨h1, h2⟩ | ⟨h1, h2⟩
  · rw [h2, h1, if_pos rfl]
    apply i_eq
    rw [c_ishr _ 0 0 (by decide)]; simp
  · rw [h2, h1, if_neg (by decide)]
    apply i_eq
    rw [c_ishr _ 1 1 (by decide), n_int (by omega), n_int (by omega)]; omega
theorem lo8_back {c : Int32} (h0 : ¬ c < 0) (h1 : ¬ (255 : Int32) < c) : (lo8 c &&& 255).toUInt32.toUInt16.toUInt32.toInt32 = c := by
  rw [i2c_mask]
  apply i_eq
  rw [c_mask _ 255 8 (by decide) (by decide)]
  have q := c_i2b c
  rw [i_lt] at h0 h1
  have e0 : (0 : Int32).toInt = 0 := by decide
  have e1 : (255 : Int32).toInt = 255 := by decide
  rw [e0] at h0; rw [e1] at h1
  have : (lo8 c).toInt = c.toInt8.toInt32.toInt := rfl
  rw [this]; omega
theorem nar_char_id {c : Int32} (h0 : ¬ c < 0) (h1 : ¬ (65535 : Int32) < c) : nar .char c = c := by
  apply i_eq
  have q := c_i2c c
  rw [i_lt] at h0 h1
  have e0 : (0 : Int32).toInt = 0 := by decide
  have e1 : (65535 : Int32).toInt = 65535 := by decide
  rw [e0] at h0; rw [e1] at h1
  show c.toUInt32.toUInt16.toUInt32.toInt32.toInt = _
  omega
theorem nar_bool01 {x : Int32} (h : x = 0 ∨ x = 1) : nar .boolean x = x := by rcases h with rfl | rfl <;> decide
theorem fits_cd (cs : List Int32) : fits .byte (.int (cdOf cs)) = true := by rcases cd_cases cs with ⟨-, h⟩ | ⟨-, h⟩ <;> rw [h] <;> decide
/-- coderFromArrayLen's answer -/
theorem cfl_val {cs : List Int32} {n : Nat} (hn : cs.length = n) (h4 : cs.length ≤ 4000) (h0 : 0 < n) : (XT.ushr (Int32.ofNat n - Int32.ofNat (oBytes cs).length) 31).toInt8.toInt32 = cdOf cs := by
  rw [bytes_len]
  rcases cd_cases cs with ⟨h1, h2⟩ | ⟨h1, h2⟩
  · rw [h2, h1, if_pos rfl, hn, Int32.sub_self]; decide
  · rw [h2, h1, if_neg (by decide)]
    have e : XT.ushr (Int32.ofNat n - Int32.ofNat (2 * cs.length)) 31 = 1 := by
      apply i_eq
      have q := c_isub (Int32.ofNat n) (Int32.ofNat (2 * cs.length))
      have r := rng32 (Int32.ofNat n - Int32.ofNat (2 * cs.length))
      rw [n_int (by omega), n_int (by omega)] at q
      have u := c_iushr (Int32.ofNat n - Int32.ofNat (2 * cs.length)) 31 31 (by decide) (by decide)
      have e1 : (1 : Int32).toInt = 1 := by decide
      show ((Int32.ofNat n - Int32.ofNat (2 * cs.length)).toUInt32 >>> ((31 : Int32) &&& 31).toUInt32).toInt32.toInt = _
      rw [u, e1]
      omega
    rw [e]; decide
theorem shl_1 (n : Nat) (h : n ≤ 100000) : Int32.ofNat n <<< ((1 : Int32) &&& 31) = Int32.ofNat (2 * n) := by
  apply i_eq
  have q := c_ishl (Int32.ofNat n) 1 1 (by decide)
  have r := rng32 (Int32.ofNat n <<< ((1 : Int32) &&& 31))
  rw [n_int (by omega)] at q
  rw [n_int (by omega)]
  omega
theorem wide_lo {cs : List Int32} {i : Nat} (hi : i < cs.length) : (oWide cs)[2 * i]? = some (.int (lw8 (cs.getD i 0))) := by
  unfold oWide; rw [tab_get (by omega), if_pos (by omega), show 2 * i / 2 = i by omega]
theorem wide_hi {cs : List Int32} {i : Nat} (hi : i < cs.length) : (oWide cs)[2 * i + 1]? = some (.int (hi8 (cs.getD i 0))) := by
  unfold oWide; rw [tab_get (by omega), if_neg (by omega), show (2 * i + 1) / 2 = i by omega]
theorem wide_back {c : Int32} (h0 : ¬ c < 0) (h1 : ¬ (65535 : Int32) < c) : (((lw8 c &&& 255) <<< ((0 : Int32) &&& 31)) ||| ((hi8 c &&& 255) <<< ((8 : Int32) &&& 31))).toUInt32.toUInt16.toUInt32.toInt32 = c := by
  have a1 := c_ishr c 0 0 (by decide)
  have a2 := c_i2b (c >>> ((0 : Int32) &&& 31))
  have a3 := c_mask (lw8 c) 255 8 (by decide) (by decide)
  have a4 := c_ishl (lw8 c &&& 255) 0 0 (by decide)
  have b1 := c_ishr c 8 8 (by decide)
  have b2 := c_i2b (c >>> ((8 : Int32) &&& 31))
  have b3 := c_mask (hi8 c) 255 8 (by decide) (by decide)
  have b4 := c_ishl (hi8 c &&& 255) 8 8 (by decide)
  have r1 := rng32 ((lw8 c &&& 255) <<< ((0 : Int32) &&& 31))
  have r2 := rng32 ((hi8 c &&& 255) <<< ((8 : Int32) &&& 31))
  have e1 : (lw8 c).toInt = (c >>> ((0 : Int32) &&& 31)).toInt8.toInt32.toInt := rfl
  have e2 : (hi8 c).toInt = (c >>> ((8 : Int32) &&& 31)).toInt8.toInt32.toInt := rfl
  have z0 : (0 : Int32).toInt = 0 := by decide
  have z1 : (65535 : Int32).toInt = 65535 := by decide
  rw [i_lt, z0] at h0
  rw [i_lt, z1] at h1
  have p8 : ((2 ^ 8 : Nat) : Int) = 256 := by decide
  have p0 : ((2 ^ 0 : Nat) : Int) = 1 := by decide
  rw [p0] at a1 a4
  rw [p8] at a3 b1 b3 b4
  have o := c_or' ((lw8 c &&& 255) <<< ((0 : Int32) &&& 31)) ((hi8 c &&& 255) <<< ((8 : Int32) &&& 31)) 8 (by decide) 256 (by decide) (by omega) (by omega) (by omega)
  have u := c_i2c (((lw8 c &&& 255) <<< ((0 : Int32) &&& 31)) ||| ((hi8 c &&& 255) <<< ((8 : Int32) &&& 31)))
  apply i_eq
  omega
theorem ch_nil : Chars [] := ⟨fun _ h => (nomatch h), by decide⟩
theorem ch_cons {cs : List Int32} (v : Int32) (h : Chars cs) (hl : cs.length < 4000) : Chars (nar .char v :: cs) := ⟨fun c hc => by
  rcases List.mem_cons.mp hc with rfl | hc
  · exact rng_char (fits_nar_char v)
  · exact h.1 c hc, hl⟩
theorem lt_65535 {c : Int32} (h : ¬ (255 : Int32) < c) : ¬ (65535 : Int32) < c := by
  rw [i_lt] at h ⊢
  have e1 : (255 : Int32).toInt = 255 := by decide
  have e2 : (65535 : Int32).toInt = 65535 := by decide
  omega
theorem msk_lat (v : Int32) : ¬ (v &&& 255).toUInt32.toUInt16.toUInt32.toInt32 < 0 ∧ ¬ (255 : Int32) < (v &&& 255).toUInt32.toUInt16.toUInt32.toInt32 := by
  rw [i2c_mask]
  have h := c_and v 255 (by decide)
  have e1 : (255 : Int32).toInt = 255 := by decide
  have e2 : (0 : Int32).toInt = 0 := by decide
  rw [i_lt, i_lt]; omega
theorem msk_nar (v : Int32) : ¬ (255 : Int32) < nar .char (v &&& 255).toUInt32.toUInt16.toUInt32.toInt32 := by
  rw [nar_char_id (msk_lat v).1 (lt_65535 (msk_lat v).2)]; exact (msk_lat v).2
theorem lo8_inj {x y : Int32} (h0 : ¬ x < 0) (h1 : ¬ (255 : Int32) < x) (k0 : ¬ y < 0) (k1 : ¬ (255 : Int32) < y) (h : lo8 x = lo8 y) : x = y := by
  rw [← lo8_back h0 h1, ← lo8_back k0 k1, h]
/-- r: where ch lies first among cs, or -1 -/
def IdxR (cs : List Int32) (ch r : Int32) : Prop := (r = -1 ∧ ∀ j, j < cs.length → ¬ cs.getD j 0 = ch) ∨ ∃ i, i < cs.length ∧ r = Int32.ofNat i ∧ cs.getD i 0 = ch ∧ ∀ j, j < i → ¬ cs.getD j 0 = ch
theorem shr_1 (n : Nat) (h : n ≤ 100000) : Int32.ofNat (2 * n) >>> ((1 : Int32) &&& 31) = Int32.ofNat n := by
  apply i_eq
  rw [c_ishr _ 1 1 (by decide), n_int (by omega), n_int (by omega)]; omega
theorem lt_65536 {c : Int32} (h : ¬ (65535 : Int32) < c) : c < 65536 := by
  rw [i_lt] at h ⊢
  have e1 : (65536 : Int32).toInt = 65536 := by decide
  have e2 : (65535 : Int32).toInt = 65535 := by decide
  omega
theorem lat_cons {c : Int32} {cs : List Int32} (h : ¬ (255 : Int32) < c) (hl : lat cs = true) : lat (c :: cs) = true := lat_iff.mpr fun q hq => by
  rcases List.mem_cons.mp hq with rfl | hq
  · exact h
  · exact lat_iff.mp hl q hq
theorem nar_nar (x : Int32) : nar .char (nar .char x) = nar .char x := nar_char_id (rng_char (fits_nar_char x)).1 (rng_char (fits_nar_char x)).2
theorem n_sub {a b : Nat} (h : a ≤ b) (hb : b < 2147483648) : Int32.ofNat b - Int32.ofNat a = Int32.ofNat (b - a) := by
  rw [← Int32.toInt_inj, n_int (by omega)]
  have q := c_isub (Int32.ofNat b) (Int32.ofNat a)
  rw [n_int hb, n_int (by omega)] at q
  have r := rng32 (Int32.ofNat b - Int32.ofNat a)
  omega
def subL (cs : List Int32) (a b : Nat) : List Int32 := (cs.drop a).take (b - a)
theorem subL_len {cs : List Int32} {a b : Nat} (hb : b ≤ cs.length) : (subL cs a b).length = b - a := by simp [subL]; omega
theorem subL_get {cs : List Int32} {a b j : Nat} (hj : j < b - a) : (subL cs a b).getD j 0 = cs.getD (a + j) 0 := by
  rw [List.getD_eq_getElem?_getD, List.getD_eq_getElem?_getD, subL, List.getElem?_take, if_pos hj, List.getElem?_drop]
theorem subL_mem {cs : List Int32} {a b : Nat} {c : Int32} (h : c ∈ subL cs a b) : c ∈ cs := List.mem_of_mem_drop (List.mem_of_mem_take h)
theorem subL_lat {cs : List Int32} {a b : Nat} (h : lat cs = true) : lat (subL cs a b) = true := lat_iff.mpr fun c hc => lat_iff.mp h c (subL_mem hc)
theorem subL_ch {cs : List Int32} {a b : Nat} (h : Chars cs) : Chars (subL cs a b) := ⟨fun c hc => h.1 c (subL_mem hc), by have := h.2; simp [subL]; omega⟩
theorem subL_all (cs : List Int32) : subL cs 0 cs.length = cs := by simp [subL]
end StrDefs
end Jvm.OwnKit
namespace Jvm.OwnKit
open Jvm Jvm.ClassFile Sem Op Lib Jvm.Free Jvm.Stand Jvm.LawKit Jvm.RoadKit Bundle
/-! what is known of a StringBuilder -/
section SbDefs
/-- a coder and its width -/
def CW (cd : Int32) (w : Nat) : Prop := (cd = 0 ∧ w = 1) ∨ (cd = 1 ∧ w = 2)
theorem shl_0 (x : Int32) : x <<< ((0 : Int32) &&& 31) = x := by
  apply i_eq
  have q := c_ishl x 0 0 (by decide)
  have r := rng32 (x <<< ((0 : Int32) &&& 31))
  have r' := rng32 x
  have p0 : ((2 ^ 0 : Nat) : Int) = 1 := by decide
  rw [p0] at q
  omega
theorem shr_0 (x : Int32) : x >>> ((0 : Int32) &&& 31) = x := by
  apply i_eq
  rw [c_ishr _ 0 0 (by decide)]
  have p0 : ((2 ^ 0 : Nat) : Int) = 1 := by decide
  rw [p0]; omega
theorem CW.shl {cd : Int32} {w k : Nat} (h : CW cd w) (hk : k ≤ 100000) : Int32.ofNat k <<< (cd &&& 31) = Int32.ofNat (w * k) := by
  rcases h with ⟨rfl, rfl⟩ | ⟨rfl, rfl⟩
  · rw [shl_0, Nat.one_mul]
  · exact shl_1 k hk
theorem CW.shr {cd : Int32} {w k : Nat} (h : CW cd w) (hk : k ≤ 100000) : Int32.ofNat (w * k) >>> (cd &&& 31) = Int32.ofNat k := by
  rcases h with ⟨rfl, rfl⟩ | ⟨rfl, rfl⟩
  · rw [shr_0, Nat.one_mul]
  · exact shr_1 k hk
theorem CW.w12 {cd : Int32} {w : Nat} (h : CW cd w) : w = 1 ∨ w = 2 := by
  rcases h with ⟨-, rfl⟩ | ⟨-, rfl⟩
  · exact Or.inl rfl
  · exact Or.inr rfl
theorem sub_pos {a b : Nat} (ha : a < 1000000000) (hb : b < 1000000000) : (0 : Int32) < Int32.ofNat a - Int32.ofNat b ↔ b < a := by
  rw [i_lt]
  have q := c_isub (Int32.ofNat a) (Int32.ofNat b)
  have r := rng32 (Int32.ofNat a - Int32.ofNat b)
  rw [n_int (by omega), n_int (by omega)] at q
  have e0 : (0 : Int32).toInt = 0 := by decide
  omega
/-- a builder's capacity behind ensureCapacityInternal -/
def grow (cap mn : Nat) : Nat := if mn ≤ cap then cap else cap + if mn - cap < cap + 2 then cap + 2 else mn - cap
theorem grow_ge (cap mn : Nat) : mn ≤ grow cap mn := by unfold grow; split <;> (try split) <;> omega
theorem grow_ge' (cap mn : Nat) : cap ≤ grow cap mn := by unfold grow; split <;> (try split) <;> omega
theorem max_n {b c : Nat} (hb : b < 2147483648) (hc : c < 2147483648) : (if Int32.ofNat b < Int32.ofNat c then Int32.ofNat c else Int32.ofNat b) = Int32.ofNat (if b < c then c else b) := by
  by_cases h : b < c
  · rw [if_pos h, if_pos ((n_lt hb hc).mpr h)]
  · rw [if_neg h, if_neg (fun q => h ((n_lt hb hc).mp q))]
def BC (Z : State) (csb : Cell) (t : Addr) (cd : Int32) (cnt : Nat) : Prop :=
  EC Z csb "java/lang/StringBuilder" ∧ FC Z csb "java/lang/AbstractStringBuilder" "value" "[B" (.ref t) ∧ FC Z csb "java/lang/AbstractStringBuilder" "coder" "B" (.int cd) ∧ FC Z csb "java/lang/AbstractStringBuilder" "count" "I" (.int (Int32.ofNat cnt))
def wOf (cs : List Int32) : Nat := if lat cs then 1 else 2
def oAt (cs : List Int32) (j : Nat) : Value := (oBytes cs).getD j (.int 0)
theorem cw_of (cs : List Int32) : CW (cdOf cs) (wOf cs) := by
  rcases cd_cases cs with ⟨h1, h2⟩ | ⟨h1, h2⟩
  · exact Or.inl ⟨h2, by simp [wOf, h1]⟩
  · exact Or.inr ⟨h2, by simp [wOf, h1]⟩
theorem oB_len (cs : List Int32) : (oBytes cs).length = wOf cs * cs.length := by
  rw [bytes_len, wOf]; split <;> omega
theorem oB_tab (cs : List Int32) : oBytes cs = tab (wOf cs * cs.length) (oAt cs) := by rw [← oB_len]; exact tab_list _ _
theorem oAt_lat {cs : List Int32} (h : lat cs = true) {j : Nat} (hj : j < cs.length) : oAt cs j = .int (lo8 (cs.getD j 0)) := by
  rw [oAt, bytes_lat h, List.getD_eq_getElem?_getD, tab_get hj]; rfl
theorem getD_app {cs ds : List Int32} {j : Nat} : (cs ++ ds).getD j 0 = if j < cs.length then cs.getD j 0 else ds.getD (j - cs.length) 0 := by
  by_cases h : j < cs.length
  · rw [if_pos h, List.getD_eq_getElem?_getD, List.getD_eq_getElem?_getD, List.getElem?_append_left h]
  · rw [if_neg h, List.getD_eq_getElem?_getD, List.getD_eq_getElem?_getD, List.getElem?_append_right (by omega)]
theorem lat_app {cs ds : List Int32} (h : lat cs = true) (h' : lat ds = true) : lat (cs ++ ds) = true := lat_iff.mpr fun c hc => by
  rcases List.mem_append.mp hc with q | q
  · exact lat_iff.mp h c q
  · exact lat_iff.mp h' c q
theorem ch_app {cs ds : List Int32} (h : Chars cs) (h' : Chars ds) (hl : cs.length + ds.length ≤ 4000) : Chars (cs ++ ds) := ⟨fun c hc => by
  rcases List.mem_append.mp hc with q | q
  · exact h.1 c q
  · exact h'.1 c q, by rw [List.length_append]; exact hl⟩
theorem oAt_app {cs ds : List Int32} (h : lat cs = true) (h' : lat ds = true) {j : Nat} (hj : j < cs.length + ds.length) : oAt (cs ++ ds) j = if j < cs.length then oAt cs j else oAt ds (j - cs.length) := by
  rw [oAt_lat (lat_app h h') (by rw [List.length_append]; exact hj), getD_app]
  by_cases q : j < cs.length
  · rw [if_pos q, if_pos q, oAt_lat h q]
  · rw [if_neg q, if_neg q, oAt_lat h' (by omega)]
/-- a builder of the chars cs, room for cap chars -/
def SBF (Z : State) (t : Addr) (csb ct : Cell) (cs : List Int32) (cap : Nat) : Prop :=
  BC Z csb t (cdOf cs) cs.length ∧ (∃ f, AC Z ct .byte (tab (wOf cs * cap) f) ∧ ∀ j, j < wOf cs * cs.length → f j = oAt cs j) ∧ cs.length ≤ cap ∧ cap ≤ 2000 ∧ Chars cs
theorem cd_lat {cs : List Int32} (h : lat cs = true) : cdOf cs = 0 := by simp [cdOf, h]
theorem w_lat {cs : List Int32} (h : lat cs = true) : wOf cs = 1 := by simp [wOf, h]
theorem byte2 (x : Int32) : x.toInt8.toInt32.toInt8.toInt32 = x.toInt8.toInt32 := by
  apply i_eq
  have a := c_i2b x
  have b := c_i2b x.toInt8.toInt32
  omega
end SbDefs
end Jvm.OwnKit
namespace Jvm.OwnKit
open Jvm Jvm.ClassFile Sem Op Lib Jvm.Free Jvm.Stand Jvm.LawKit Jvm.RoadKit Bundle
theorem ba_start {a : Array Value} {s : State} {t : Term} {d : Addr} {n : Nat} (hev : t.eval a s none [] s = some (.ref d)) (harr : (Jvm.Cond.arrayClass .byte).before a s = true) (hx : (Jvm.Cond.exactly t "[B").before a s = true) (hl : (Jvm.Cond.eq (.length t) (.int (Int32.ofNat n))).before a s = true) (hn : n < 2147483648) :
    ∃ D, s.heap[d]? = some D ∧ s.arrayAt? d = some D ∧ s.isArrayOf D .byte ∧ D.vm ≠ .unknown ∧ D.slots.size = n := by
  obtain ⟨d1, cB, D, kB, hev1, hfcB, hcellD, hkB, hstatD, hclsD, -⟩ := Cond.exactly_spec hx
  cases hev.symm.trans hev1
  have hl := Cond.eq_int hl rfl
  obtain ⟨d', D', hev', harrAt, hlen⟩ := Term.length_spec hl
  cases hev.symm.trans hev'
  obtain ⟨hcellD', hknD, -, -⟩ := State.arrayAt?_spec harrAt
  cases hcellD.symm.trans hcellD'
  have hsz : D.slots.size = n := by
    by_cases h31 : D.slots.size < 2 ^ 31
    · have e : (Term.length t).eval a s none [] s = some (.int (Int32.ofNat D.slots.size)) := by simp [Term.eval, hev, harrAt, h31]
      have := Option.some.inj (e.symm.trans hl)
      have h2 : Int32.ofNat D.slots.size = Int32.ofNat n := by simpa using this
      exact (n_inj (by omega) hn).mp h2
    · have e : (Term.length t).eval a s none [] s = none := by simp [Term.eval, hev, harrAt, h31]
      rw [e] at hl; cases hl
  obtain ⟨cB', kB', comp, hnameB, hkB', hkindB⟩ := Cond.arrayClass_spec harr
  have eBA : ("[" ++ FieldType.toString .byte) = "[B" := by decide
  rw [eBA] at hnameB
  cases hfcB.symm.trans hnameB
  cases hkB.symm.trans hkB'
  exact ⟨D, hcellD, harrAt, ⟨(fun q h => by rw [h] at hstatD; cases hstatD), kB, (by rw [hclsD]; exact hkB), comp, hkindB⟩, hknD, hsz⟩
/-- a byte[] of the start, its bytes by a formula -/
theorem ba_all {a : Array Value} {s : State} {t E : Term} {d : Addr} {n : Nat} {g : Nat → Int32} (hev : ∀ idx, t.eval a s none idx s = some (.ref d)) (harr : (Jvm.Cond.arrayClass .byte).before a s = true) (hx : (Jvm.Cond.exactly t "[B").before a s = true) (hl : (Jvm.Cond.eq (.length t) (.int (Int32.ofNat n))).before a s = true) (hn : n < 2147483648)
    (hall : (Jvm.Cond.all t (.eq (.elem t (.index 0)) E)).before a s = true) (hE : ∀ i, i < n → E.eval a s none [i] s = some (.int (g i))) (hg : ∀ i, i < n → fits .byte (.int (g i)) = true) : ∃ D, s.heap[d]? = some D ∧ AC s D .byte (tab n fun j => .int (g j)) := by
  obtain ⟨D, h1, h2, h3, h4, h5⟩ := ba_start (hev []) harr hx hl hn
  refine ⟨D, h1, h3, h4, ?_, by rw [tab_len]; exact hn, fun v hv => ?_⟩
  · refine List.ext_getElem? fun j => ?_
    by_cases hj : j < n
    · rw [tab_get hj]
      have q := Cond.all_elim (hev []) h2 (Cond.before_iff.mp hall) j (by omega)
      obtain ⟨a', j', cell, r1, r2, r3, r4, r5⟩ := Term.elem_spec (eqv_i (hE j hj) q)
      cases (hev [j]).symm.trans r1
      cases h2.symm.trans r3
      have : j' = Int32.ofNat j := by simpa [Term.eval] using r2.symm
      subst this
      rw [n_nat (by omega)] at r5
      simpa using r5
    · rw [List.getElem?_eq_none (by simp; omega), List.getElem?_eq_none (by rw [tab_len]; omega)]
  · obtain ⟨j, hj, rfl⟩ := List.getElem_of_mem hv
    rw [tab_len] at hj
    have := tab_get (f := fun j => Value.int (g j)) hj
    rw [List.getElem?_eq_getElem (by rw [tab_len]; exact hj)] at this
    rw [Option.some.inj this]; exact hg j hj
end Jvm.OwnKit
namespace Jvm.OwnKit
open Jvm Jvm.ClassFile Sem Op Lib Jvm.Free Jvm.Stand Jvm.LawKit Jvm.RoadKit Bundle
/-! decimal digits -/
theorem n_negI {a : Nat} (ha : a < 2147483648) : (-(Int32.ofNat a)).toInt = -(a : Int) := by
  have q := c_ineg (Int32.ofNat a)
  have r := rng32 (-(Int32.ofNat a))
  rw [n_int ha] at q
  omega
theorem neg_lt {a b : Nat} (ha : a < 2147483648) (hb : b < 2147483648) : -(Int32.ofNat a) < -(Int32.ofNat b) ↔ b < a := by
  rw [i_lt, n_negI ha, n_negI hb]; omega
theorem mul10 {q : Nat} (hq : q ≤ 200000000) : (10 : Int32) * -(Int32.ofNat q) = -(Int32.ofNat (10 * q)) := by
  apply i_eq
  have a := c_imul 10 (-(Int32.ofNat q))
  have r := rng32 ((10 : Int32) * -(Int32.ofNat q))
  have e : (10 : Int32).toInt = 10 := by decide
  rw [n_negI (by omega), e] at a
  rw [n_negI (by omega)]
  omega
theorem div100 {m : Nat} (hm : m < 2147483648) : -(Int32.ofNat m) / 100 = -(Int32.ofNat (m / 100)) := by
  apply i_eq
  have e : (100 : Int32).toInt = 100 := by decide
  have q := c_idiv (-(Int32.ofNat m)) 100 100 e (by decide)
  rw [n_negI hm] at q
  rw [n_negI (by omega)]
  rcases Nat.eq_zero_or_pos m with h | h
  · subst h; have := q.1 (by omega); rw [this]; rfl
  · have := q.2 (by omega); rw [this]; omega
theorem rem100 {m : Nat} (hm : m < 2147483648) : -(Int32.ofNat (m / 100)) * 100 - -(Int32.ofNat m) = Int32.ofNat (m % 100) := by
  apply i_eq
  have e : (100 : Int32).toInt = 100 := by decide
  have a := c_imul (-(Int32.ofNat (m / 100))) 100
  have r := rng32 (-(Int32.ofNat (m / 100)) * 100)
  rw [n_negI (by omega), e] at a
  have b := c_isub (-(Int32.ofNat (m / 100)) * 100) (-(Int32.ofNat m))
  have r2 := rng32 (-(Int32.ofNat (m / 100)) * 100 - -(Int32.ofNat m))
  rw [n_negI hm] at b
  rw [n_int (by omega)]
  omega
theorem b_small {v : Nat} (hv : v < 128) : (Int32.ofNat v).toInt8.toInt32 = Int32.ofNat v := by
  apply i_eq
  have q := c_i2b (Int32.ofNat v)
  rw [n_int (by omega)] at q ⊢
  omega
theorem n_mul (a b : Nat) : Int32.ofNat a * Int32.ofNat b = Int32.ofNat (a * b) := (Int32.ofNat_mul a b).symm
theorem n_mod {a b : Nat} (ha : a < 2147483648) (hb : b < 2147483648) : Int32.ofNat a % Int32.ofNat b = Int32.ofNat (a % b) := by
  apply i_eq
  have q := (c_irem (Int32.ofNat a) (Int32.ofNat b) b (n_int hb)).1 (by rw [n_int ha]; omega)
  have : a % b ≤ a := Nat.mod_le _ _
  rw [q, n_int ha, n_int (by omega)]; rfl
theorem n_div {a b : Nat} (ha : a < 2147483648) (hb : b < 2147483648) : Int32.ofNat a / Int32.ofNat b = Int32.ofNat (a / b) := by
  apply i_eq
  have hne : Int32.ofNat b ≠ -1 := fun z => by
    have := congrArg Int32.toInt z
    rw [n_int hb] at this
    have e : (-1 : Int32).toInt = -1 := by decide
    omega
  have q := (c_idiv (Int32.ofNat a) (Int32.ofNat b) b (n_int hb) hne).1 (by rw [n_int ha]; omega)
  have : a / b ≤ a := Nat.div_le_self _ _
  rw [q, n_int ha, n_int (by omega)]; rfl
/-- m has e digits -/
def DL (m e : Nat) : Prop := 1 ≤ e ∧ m < 10 ^ e ∧ (e = 1 ∨ 10 ^ (e - 1) ≤ m)
theorem DL.uniq {m e e' : Nat} (h : DL m e) (h' : DL m e') : e = e' := by
  have key : ∀ {e e' : Nat}, DL m e → DL m e' → ¬ e < e' := fun {e e'} h h' q => by
    rcases h'.2.2 with z | z
    · have := h.1; omega
    · have p : 10 ^ e ≤ 10 ^ (e' - 1) := Nat.pow_le_pow_right (by decide) (by omega)
      have := h.2.1; omega
  have a := key h h'
  have b := key h' h
  omega
theorem DL.step {m e : Nat} (h : DL m e) (hm : 100 ≤ m) : 3 ≤ e ∧ DL (m / 100) (e - 2) := by
  have h1 := h.1
  have h3 : 3 ≤ e := by
    by_cases q : e ≤ 2
    · have : 10 ^ e ≤ 10 ^ 2 := Nat.pow_le_pow_right (by decide) q
      have := h.2.1; omega
    · omega
  refine ⟨h3, by omega, ?_, ?_⟩
  · rw [Nat.div_lt_iff_lt_mul (by decide)]
    have : 10 ^ (e - 2) * 100 = 10 ^ e := by rw [show (100 : Nat) = 10 ^ 2 from rfl, ← Nat.pow_add]; congr 1; omega
    rw [this]; exact h.2.1
  · rcases h.2.2 with z | z
    · omega
    · refine Or.inr ((Nat.le_div_iff_mul_le (by decide)).mpr ?_)
      have : 10 ^ (e - 2 - 1) * 100 = 10 ^ (e - 1) := by rw [show (100 : Nat) = 10 ^ 2 from rfl, ← Nat.pow_add]; congr 1; omega
      rw [this]; exact z
theorem DL.last {m e : Nat} (h : DL m e) (hm : m < 100) : (e = 1 ∧ m < 10) ∨ (e = 2 ∧ 10 ≤ m) := by
  rcases h.2.2 with z | z
  · subst z; exact Or.inl ⟨rfl, h.2.1⟩
  · have h1 := h.1
    by_cases q : e = 1
    · subst q; exact Or.inl ⟨rfl, h.2.1⟩
    · by_cases q2 : e = 2
      · subst q2; exact Or.inr ⟨rfl, z⟩
      · have : 10 ^ 2 ≤ 10 ^ (e - 1) := Nat.pow_le_pow_right (by decide) (by omega)
        omega
theorem DL.le {m e b : Nat} (h : DL m e) (hm : m < 10 ^ b) (hb : 1 ≤ b) : e ≤ b := by
  rcases h.2.2 with z | z
  · omega
  · by_cases q : e ≤ b
    · exact q
    · have : 10 ^ b ≤ 10 ^ (e - 1) := Nat.pow_le_pow_right (by decide) (by omega)
      omega
/-- the decimal digits of n, d of them -/
def decL (n d : Nat) : List Int32 := (List.range d).map fun i => Int32.ofNat (48 + n / 10 ^ (d - 1 - i) % 10)
theorem decL_len (n d : Nat) : (decL n d).length = d := by simp [decL]
theorem decL_get {n d i : Nat} (hi : i < d) : (decL n d).getD i 0 = Int32.ofNat (48 + n / 10 ^ (d - 1 - i) % 10) := by
  rw [List.getD_eq_getElem?_getD, decL, List.getElem?_map, List.getElem?_range hi]; rfl
theorem decL_lat (n d : Nat) : lat (decL n d) = true := lat_iff.mpr fun c hc => by
  obtain ⟨i, -, rfl⟩ := List.mem_map.mp hc
  rw [show (255 : Int32) = Int32.ofNat 255 from rfl, n_lt (by omega) (by omega)]; omega
theorem decL_ch (n d : Nat) (hd : d ≤ 4000) : Chars (decL n d) := ⟨fun c hc => by
  obtain ⟨i, -, rfl⟩ := List.mem_map.mp hc
  exact ⟨n_nn (by omega), by rw [show (65535 : Int32) = Int32.ofNat 65535 from rfl, n_lt (by omega) (by omega)]; omega⟩, by rw [decL_len]; exact hd⟩
theorem st_idx {a : Array Value} {s : State} {C n d : String} {v : Value} (e : (Term.static C n d).eval a s none [] s = some v) : ∀ idx, (Term.static C n d).eval a s none idx s = some v := fun idx => by
  have h := e
  simp only [Term.eval] at h ⊢
  exact h
theorem dig_rem {a : Array Value} {s : State} {C n d : String} {ad : Addr} (e : (Term.static C n d).eval a s none [] s = some (.ref ad)) (harr : (Jvm.Cond.arrayClass .byte).before a s = true) (hx : (Jvm.Cond.exactly (.static C n d) "[B").before a s = true) (hl : (Jvm.Cond.eq (.length (.static C n d)) (.int 100)).before a s = true)
    (hall : (Jvm.Cond.all (.static C n d) (.eq (.elem (.static C n d) (.index 0)) (.add (.int 48) (.rem (.index 0) (.int 10))))).before a s = true) : ∃ D, s.heap[ad]? = some D ∧ AC s D .byte (tab 100 fun j => .int (Int32.ofNat (48 + j % 10))) :=
  ba_all (n := 100) (g := fun j => Int32.ofNat (48 + j % 10)) (st_idx e) harr hx hl (by decide) hall (fun i hi => by
    have e3 : (Term.add (.int 48) (.rem (.index 0) (.int 10))).eval a s none [i] s = some (Value.int (48 + Int32.ofNat i % 10)) := by simp [Term.eval]
    have e1 : Int32.ofNat i % 10 = Int32.ofNat (i % 10) := n_mod (b := 10) (by omega) (by decide)
    have e2 : (48 : Int32) + Int32.ofNat (i % 10) = Int32.ofNat (48 + i % 10) := n_add 48 _
    rw [e3, e1, e2]) fun i hi => by rw [← b_small (v := 48 + i % 10) (by omega)]; exact fits_nar_byte _
theorem dig_div {a : Array Value} {s : State} {C n d : String} {ad : Addr} (e : (Term.static C n d).eval a s none [] s = some (.ref ad)) (harr : (Jvm.Cond.arrayClass .byte).before a s = true) (hx : (Jvm.Cond.exactly (.static C n d) "[B").before a s = true) (hl : (Jvm.Cond.eq (.length (.static C n d)) (.int 100)).before a s = true)
    (hall : (Jvm.Cond.all (.static C n d) (.eq (.elem (.static C n d) (.index 0)) (.add (.int 48) (.div (.index 0) (.int 10))))).before a s = true) : ∃ D, s.heap[ad]? = some D ∧ AC s D .byte (tab 100 fun j => .int (Int32.ofNat (48 + j / 10))) :=
  ba_all (n := 100) (g := fun j => Int32.ofNat (48 + j / 10)) (st_idx e) harr hx hl (by decide) hall (fun i hi => by
    have e3 : (Term.add (.int 48) (.div (.index 0) (.int 10))).eval a s none [i] s = some (Value.int (48 + Int32.ofNat i / 10)) := by simp [Term.eval]
    have e1 : Int32.ofNat i / 10 = Int32.ofNat (i / 10) := n_div (b := 10) (by omega) (by decide)
    have e2 : (48 : Int32) + Int32.ofNat (i / 10) = Int32.ofNat (48 + i / 10) := n_add 48 _
    rw [e3, e1, e2]) fun i hi => by rw [← b_small (v := 48 + i / 10) (by omega)]; exact fits_nar_byte _
end Jvm.OwnKit
namespace Jvm.Pilot.@@N@@
open Jvm Jvm.ClassFile Sem Op Lib Jvm.Free Jvm.Stand Jvm.LawKit Jvm.RoadKit Bundle Jvm.OwnKit Jvm.Pilot.@@N@@.Jvm.D
abbrev kCap : Nat := 8
abbrev kSB : Nat := 8
theorem pd_0 : parseMethodDescriptor "()B" = some ⟨[], some .byte⟩ := by decide +kernel
theorem pd_1 : parseMethodDescriptor "([CI[BII)I" = some ⟨[(.array .char), .int, (.array .byte), .int, .int], some .int⟩ := by decide +kernel
theorem pd_2 : parseMethodDescriptor "([CII)[B" = some ⟨[(.array .char), .int, .int], some (.array .byte)⟩ := by decide +kernel
theorem pd_3 : parseMethodDescriptor "([BI)B" = some ⟨[(.array .byte), .int], some .byte⟩ := by decide +kernel
theorem pd_4 : parseMethodDescriptor "([CIILjava/lang/Void;)V" = some ⟨[(.array .char), .int, .int, (.object "java/lang/Void")], none⟩ := by decide +kernel
theorem pd_5 : parseMethodDescriptor "(IILjava/util/function/BiFunction;)I" = some ⟨[.int, .int, (.object "java/util/function/BiFunction")], some .int⟩ := by decide +kernel
theorem pd_6 : parseMethodDescriptor "(II)V" = some ⟨[.int, .int], none⟩ := by decide +kernel
theorem pd_7 : parseMethodDescriptor "()Z" = some ⟨[], some .boolean⟩ := by decide +kernel
theorem pd_8 : parseMethodDescriptor "([BI)C" = some ⟨[(.array .byte), .int], some .char⟩ := by decide +kernel
theorem pd_9 : parseMethodDescriptor "(IIILjava/util/function/BiFunction;)I" = some ⟨[.int, .int, .int, (.object "java/util/function/BiFunction")], some .int⟩ := by decide +kernel
theorem pd_10 : parseMethodDescriptor "(II)I" = some ⟨[.int, .int], some .int⟩ := by decide +kernel
theorem pd_11 : parseMethodDescriptor "([BII)[B" = some ⟨[(.array .byte), .int, .int], some (.array .byte)⟩ := by decide +kernel
theorem pd_12 : parseMethodDescriptor "([BB)V" = some ⟨[(.array .byte), .byte], none⟩ := by decide +kernel
theorem pd_13 : parseMethodDescriptor "()I" = some ⟨[], some .int⟩ := by decide +kernel
theorem pd_14 : parseMethodDescriptor "(III)V" = some ⟨[.int, .int, .int], none⟩ := by decide +kernel
theorem pd_15 : parseMethodDescriptor "([BII)Ljava/lang/String;" = some ⟨[(.array .byte), .int, .int], some (.object "java/lang/String")⟩ := by decide +kernel
theorem pd_16 : parseMethodDescriptor "(I)V" = some ⟨[.int], none⟩ := by decide +kernel
theorem pd_17 : parseMethodDescriptor "()[B" = some ⟨[], some (.array .byte)⟩ := by decide +kernel
theorem pd_18 : parseMethodDescriptor "(Ljava/lang/AbstractStringBuilder;Ljava/lang/Void;)V" = some ⟨[(.object "java/lang/AbstractStringBuilder"), (.object "java/lang/Void")], none⟩ := by decide +kernel
theorem pd_19 : parseMethodDescriptor "(Ljava/lang/StringBuilder;)V" = some ⟨[(.object "java/lang/StringBuilder")], none⟩ := by decide +kernel
theorem pd_20 : parseMethodDescriptor "(C)Z" = some ⟨[.char], some .boolean⟩ := by decide +kernel
theorem pd_21 : parseMethodDescriptor "(C)Ljava/lang/AbstractStringBuilder;" = some ⟨[.char], some (.object "java/lang/AbstractStringBuilder")⟩ := by decide +kernel
theorem pd_22 : parseMethodDescriptor "([BI[BII)I" = some ⟨[(.array .byte), .int, (.array .byte), .int, .int], some .int⟩ := by decide +kernel
theorem pd_23 : parseMethodDescriptor "(Ljava/lang/String;I)Z" = some ⟨[(.object "java/lang/String"), .int], some .boolean⟩ := by decide +kernel
theorem pd_24 : parseMethodDescriptor "(I)C" = some ⟨[.int], some .char⟩ := by decide +kernel
theorem pd_25 : parseMethodDescriptor "(Ljava/lang/Object;Ljava/lang/String;)Ljava/lang/Object;" = some ⟨[(.object "java/lang/Object"), (.object "java/lang/String")], some (.object "java/lang/Object")⟩ := by decide +kernel
theorem pd_26 : parseMethodDescriptor "(Ljava/lang/String;)V" = some ⟨[(.object "java/lang/String")], none⟩ := by decide +kernel
theorem pd_27 : parseMethodDescriptor "()Ljava/lang/String;" = some ⟨[], some (.object "java/lang/String")⟩ := by decide +kernel
theorem pd_28 : parseMethodDescriptor "(C)Ljava/lang/StringBuilder;" = some ⟨[.char], some (.object "java/lang/StringBuilder")⟩ := by decide +kernel
theorem pd_29 : parseMethodDescriptor "(II)Ljava/lang/String;" = some ⟨[.int, .int], some (.object "java/lang/String")⟩ := by decide +kernel
theorem pd_30 : parseMethodDescriptor "(Ljava/lang/String;)Z" = some ⟨[(.object "java/lang/String")], some .boolean⟩ := by decide +kernel
theorem pd_31 : parseMethodDescriptor "(Ljava/lang/String;)Lcom/example/idemnity/idemnity/IdempotencyKey;" = some ⟨[(.object "java/lang/String")], some (.object "com/example/idemnity/idemnity/IdempotencyKey")⟩ := by decide +kernel
theorem pd_32 : parseMethodDescriptor "(Ljava/lang/String;)Ljava/lang/String;" = some ⟨[(.object "java/lang/String")], some (.object "java/lang/String")⟩ := by decide +kernel
theorem pd_33 : parseMethodDescriptor "(II)C" = some ⟨[.int, .int], some .char⟩ := by decide +kernel
theorem pd_34 : parseMethodDescriptor "([C)V" = some ⟨[(.array .char)], none⟩ := by decide +kernel
theorem pd_35 : parseMethodDescriptor "([CIC)I" = some ⟨[(.array .char), .int, .char], some .int⟩ := by decide +kernel
theorem str_atoms {Z : State} {a0 : Array Value} (hw : ∀ d ∈ tables_1, d.before a0 Z = true) : ∀ a ∈ Bundle.stringAtoms, a.before a0 Z = true := fun d hd => by
  simp only [Bundle.stringAtoms, List.mem_cons, List.not_mem_nil, or_false] at hd
  rcases hd with rfl | rfl | rfl | rfl | rfl | rfl | rfl
  · exact (hw _ (List.mem_of_getElem? (i := 13) rfl))
  · exact (hw _ (List.mem_of_getElem? (i := 12) rfl))
  · exact (hw _ (List.mem_of_getElem? (i := 29) rfl))
  · exact (hw _ (List.mem_of_getElem? (i := 39) rfl))
  · exact (hw _ (List.mem_of_getElem? (i := 37) rfl))
  · exact (hw _ (List.mem_of_getElem? (i := 45) rfl))
  · exact (hw _ (List.mem_of_getElem? (i := 46) rfl))
theorem d_COD_0 : decode jdk_42_method_152_code 0 = .ok (.getstatic 38, 3) := by decide +kernel
theorem d_COD_3 : decode jdk_42_method_152_code 3 = .ok (.ifCond .eq 10, 3) := by decide +kernel
theorem d_COD_6 : decode jdk_42_method_152_code 6 = .ok (.aload_n 0, 1) := by decide +kernel
theorem d_COD_7 : decode jdk_42_method_152_code 7 = .ok (.getfield 15, 3) := by decide +kernel
theorem d_COD_10 : decode jdk_42_method_152_code 10 = .ok (.goto 4, 3) := by decide +kernel
theorem d_COD_13 : decode jdk_42_method_152_code 13 = .ok (.iconst 1, 1) := by decide +kernel
theorem d_COD_14 : decode jdk_42_method_152_code 14 = .ok (.ireturn, 1) := by decide +kernel
theorem pn_COD : plainFor (⟨"java/lang/String", "coder", "()B"⟩ : MethodName) = true := by first | exact plainFor_of_name (by first | (simp [plainName, overriddenIn]; done) | decide +kernel) | decide +kernel
theorem d_LEN_0 : decode jdk_42_method_54_code 0 = .ok (.aload_n 0, 1) := by decide +kernel
theorem d_LEN_1 : decode jdk_42_method_54_code 1 = .ok (.getfield 9, 3) := by decide +kernel
theorem d_LEN_4 : decode jdk_42_method_54_code 4 = .ok (.arraylength, 1) := by decide +kernel
theorem d_LEN_5 : decode jdk_42_method_54_code 5 = .ok (.aload_n 0, 1) := by decide +kernel
theorem d_LEN_6 : decode jdk_42_method_54_code 6 = .ok (.invokevirtual 335, 3) := by decide +kernel
theorem d_LEN_9 : decode jdk_42_method_54_code 9 = .ok (.ishr, 1) := by decide +kernel
theorem d_LEN_10 : decode jdk_42_method_54_code 10 = .ok (.ireturn, 1) := by decide +kernel
theorem pn_LEN : plainFor (⟨"java/lang/String", "length", "()I"⟩ : MethodName) = true := by first | exact plainFor_of_name (by first | (simp [plainName, overriddenIn]; done) | decide +kernel) | decide +kernel
section StrA
variable {l : Launch} {Z : State} {a0 : Array Value} {EL : List (String × Nat)} {zc : Int32} {x t : Addr} {cx ct : Cell} {cs : List Int32}
theorem c_COD (hw : ∀ d ∈ tables_1, d.before a0 Z = true) (hEL : EW Z a0 EL) (O2 : Sta Z Z.heap "java/lang/String" "COMPACT_STRINGS" "Z" (.int zc)) (hzc : ¬ zc = 0) (hs : SC Z t cx ct cs) :
    OCon l Z EL (⟨"java/lang/String", "coder", "()B"⟩ : MethodName) jdk_42_method_152_code 1 (some .byte) [] ({ frames := 0, cells := 0, slots := 0, locals := 0 } : Room) #[.ref x] [] [(x, cx), (t, ct)] (fun v M N => v = some (.int (cdOf cs)) ∧ M = [] ∧ N = []) := by
  refine OCon.of_wp (L0 := [.val (.ref x)]) pn_COD hEL (fun m => by first | (simp [entryFrame, mkF, argsToLocals, Value.category]; done) | rfl) ?_
  intro p e s m below meth c hk
  refine OWp.getstatic hk d_COD_0 (pc' := 3) rfl (hw _ (List.mem_of_getElem? (i := 24) rfl)) O2 ?_
  refine OWp.ifNo hk d_COD_3 (XT.i0_eq_f hzc) (pc' := 6) rfl ?_
  refine OWp.aload_n hk d_COD_6 (pc' := 7) rfl rfl rfl ?_
  refine OWp.getfield hk d_COD_7 (pc' := 10) rfl (hw _ (List.mem_of_getElem? (i := 36) rfl)) (by simp) hs.2.2.1 ?_
  refine OWp.goto hk d_COD_10 (by decide) (pc' := 14) rfl ?_
  exact OWp.retN hk (Or.inr (Or.inl rfl)) d_COD_14 ⟨by rw [nar_cd], rfl, rfl⟩ (List.Sublist.refl _) (fun _ h => h) (by decide) (by decide)
theorem c_LEN (hw : ∀ d ∈ tables_1, d.before a0 Z = true) (hEL : EW Z a0 EL) (O2 : Sta Z Z.heap "java/lang/String" "COMPACT_STRINGS" "Z" (.int zc)) (hzc : ¬ zc = 0) (hs : SC Z t cx ct cs) :
    OCon l Z EL (⟨"java/lang/String", "length", "()I"⟩ : MethodName) jdk_42_method_54_code 1 (some .int) [] ({ frames := 1, cells := 0, slots := 0, locals := 13 } : Room) #[.ref x] [] [(x, cx), (t, ct)] (fun v M N => v = some (.int (Int32.ofNat cs.length)) ∧ M = [] ∧ N = []) := by
  refine OCon.of_wp (L0 := [.val (.ref x)]) pn_LEN hEL (fun m => by first | (simp [entryFrame, mkF, argsToLocals, Value.category]; done) | rfl) ?_
  intro p e s m below meth c hk
  refine OWp.aload_n hk d_LEN_0 (pc' := 1) rfl rfl rfl ?_
  refine OWp.getfield hk d_LEN_1 (pc' := 4) rfl (hw _ (List.mem_of_getElem? (i := 38) rfl)) (by simp) hs.2.1 ?_
  refine OWp.arraylength hk d_LEN_4 (pc' := 5) rfl (by simp) hs.2.2.2.1 rfl ?_
  refine OWp.aload_n hk d_LEN_5 (pc' := 6) rfl rfl rfl ?_
  refine OWp.callV hk d_LEN_6 (pc' := 9) rfl (hw _ (List.mem_of_getElem? (i := 56) rfl)) (hw _ (List.mem_of_getElem? (i := 57) rfl)) (nfs (hw _ (List.mem_of_getElem? (i := 59) rfl))) (hw _ (List.mem_of_getElem? (i := 59) rfl)) (hw _ (List.mem_of_getElem? (i := 58) rfl)) (hw _ (List.mem_of_getElem? (i := 13) rfl)) (hw _ (List.mem_of_getElem? (i := 60) rfl)) (by decide) (by simp) hs.1 (c_COD hw hEL O2 hzc hs) rfl (by simp) rfl (lenOf pd_0 rfl) rfl (W := 1) rfl (by first | decide | (dsimp only; omega)) (by first | decide | (dsimp only; omega)) (by first | decide | (dsimp only; omega)) (by first | decide | (dsimp only; omega)) ?_
  rintro _ _ _ ⟨rfl, rfl, rfl⟩
  refine OWp.ishr hk d_LEN_9 (pc' := 10) rfl ?_
  exact OWp.retI hk d_LEN_10 ⟨by rw [shr_len _ hs.2.2.2.2.2], rfl, rfl⟩ (List.Sublist.refl _) (fun _ h => h) (by decide) (by decide)
end StrA
theorem d_CM5_0 : decode jdk_52_method_21_code 0 = .ok (.iconst 0, 1) := by decide +kernel
theorem d_CM5_1 : decode jdk_52_method_21_code 1 = .ok (.istore 5, 2) := by decide +kernel
theorem d_CM5_3 : decode jdk_52_method_21_code 3 = .ok (.iload 5, 2) := by decide +kernel
theorem d_CM5_5 : decode jdk_52_method_21_code 5 = .ok (.iload 4, 2) := by decide +kernel
theorem d_CM5_7 : decode jdk_52_method_21_code 7 = .ok (.if_icmp .ge 37, 3) := by decide +kernel
theorem d_CM5_10 : decode jdk_52_method_21_code 10 = .ok (.aload_n 0, 1) := by decide +kernel
theorem d_CM5_11 : decode jdk_52_method_21_code 11 = .ok (.iload_n 1, 1) := by decide +kernel
theorem d_CM5_12 : decode jdk_52_method_21_code 12 = .ok (.caload, 1) := by decide +kernel
theorem d_CM5_13 : decode jdk_52_method_21_code 13 = .ok (.istore 6, 2) := by decide +kernel
theorem d_CM5_15 : decode jdk_52_method_21_code 15 = .ok (.iload 6, 2) := by decide +kernel
theorem d_CM5_17 : decode jdk_52_method_21_code 17 = .ok (.sipush 255, 3) := by decide +kernel
theorem d_CM5_20 : decode jdk_52_method_21_code 20 = .ok (.if_icmp .le 6, 3) := by decide +kernel
theorem d_CM5_23 : decode jdk_52_method_21_code 23 = .ok (.iload 5, 2) := by decide +kernel
theorem d_CM5_25 : decode jdk_52_method_21_code 25 = .ok (.ireturn, 1) := by decide +kernel
theorem d_CM5_26 : decode jdk_52_method_21_code 26 = .ok (.aload_n 2, 1) := by decide +kernel
theorem d_CM5_27 : decode jdk_52_method_21_code 27 = .ok (.iload_n 3, 1) := by decide +kernel
theorem d_CM5_28 : decode jdk_52_method_21_code 28 = .ok (.iload 6, 2) := by decide +kernel
theorem d_CM5_30 : decode jdk_52_method_21_code 30 = .ok (.i2b, 1) := by decide +kernel
theorem d_CM5_31 : decode jdk_52_method_21_code 31 = .ok (.bastore, 1) := by decide +kernel
theorem d_CM5_32 : decode jdk_52_method_21_code 32 = .ok (.iinc 1 1, 3) := by decide +kernel
theorem d_CM5_35 : decode jdk_52_method_21_code 35 = .ok (.iinc 3 1, 3) := by decide +kernel
theorem d_CM5_38 : decode jdk_52_method_21_code 38 = .ok (.iinc 5 1, 3) := by decide +kernel
theorem d_CM5_41 : decode jdk_52_method_21_code 41 = .ok (.goto (-38), 3) := by decide +kernel
theorem d_CM5_44 : decode jdk_52_method_21_code 44 = .ok (.iload 4, 2) := by decide +kernel
theorem d_CM5_46 : decode jdk_52_method_21_code 46 = .ok (.ireturn, 1) := by decide +kernel
theorem pn_CM5 : plainFor (⟨"java/lang/StringUTF16", "compress", "([CI[BII)I"⟩ : MethodName) = true := by first | exact plainFor_of_name (by first | (simp [plainName, overriddenIn]; done) | decide +kernel) | decide +kernel
theorem d_CFL_0 : decode jdk_52_method_15_code 0 = .ok (.iload_n 1, 1) := by decide +kernel
theorem d_CFL_1 : decode jdk_52_method_15_code 1 = .ok (.aload_n 0, 1) := by decide +kernel
theorem d_CFL_2 : decode jdk_52_method_15_code 2 = .ok (.arraylength, 1) := by decide +kernel
theorem d_CFL_3 : decode jdk_52_method_15_code 3 = .ok (.isub, 1) := by decide +kernel
theorem d_CFL_4 : decode jdk_52_method_15_code 4 = .ok (.bipush 31, 2) := by decide +kernel
theorem d_CFL_6 : decode jdk_52_method_15_code 6 = .ok (.iushr, 1) := by decide +kernel
theorem d_CFL_7 : decode jdk_52_method_15_code 7 = .ok (.i2b, 1) := by decide +kernel
theorem d_CFL_8 : decode jdk_52_method_15_code 8 = .ok (.ireturn, 1) := by decide +kernel
theorem pn_CFL : plainFor (⟨"java/lang/StringUTF16", "coderFromArrayLen", "([BI)B"⟩ : MethodName) = true := by first | exact plainFor_of_name (by first | (simp [plainName, overriddenIn]; done) | decide +kernel) | decide +kernel
section StrCM5
variable {l : Launch} {Z : State} {a0 : Array Value} {EL : List (String × Nat)} {b d : Addr} {cb cd : Cell} {cs : List Int32} {n : Nat}
theorem c_CM5 (hw : ∀ d ∈ tables_1, d.before a0 Z = true) (hEL : EW Z a0 EL) (hA : AC Z cb .char (tab n fun j => .int (cs.getD j 0))) (hn : cs.length = n) (hcs : Chars cs) (hD : AC Z cd .byte (tab n fun _ => .int 0)) :
    OCon l Z EL (⟨"java/lang/StringUTF16", "compress", "([CI[BII)I"⟩ : MethodName) jdk_52_method_21_code 7 (some .int) [] ({ frames := 0, cells := 0, slots := 0, locals := 0 } : Room) #[.ref b, .int 0, .ref d, .int 0, .int (Int32.ofNat n)] [(d, cd)] [(b, cb)]
      (fun v M N => N = [] ∧ ∃ k cd', k ≤ n ∧ v = some (.int (Int32.ofNat k)) ∧ M = [(d, cd')] ∧ (k = n → lat cs = true ∧ AC Z cd' .byte (tab n fun j => .int (lo8 (cs.getD j 0)))) ∧ (k < n → (255 : Int32) < cs.getD k 0)) := by
  refine OCon.of_wp (L0 := [.val (.ref b), .val (.int 0), .val (.ref d), .val (.int 0), .val (.int (Int32.ofNat n)), .unset, .unset]) pn_CM5 hEL (fun m => by first | (simp [entryFrame, mkF, argsToLocals, Value.category]; done) | rfl) ?_
  intro p e s m below meth c hk
  have hn4 := hcs.2
  have loop : ∀ (k i : Nat) (cd' : Cell) (o6 : Slot), i + k = n → (∀ j, j < i → ¬ (255 : Int32) < cs.getD j 0) → AC Z cd' .byte (tab n fun j => if j < i then .int (lo8 (cs.getD j 0)) else .int 0) → o1 o6 = true →
      OWp p l e ({ frames := 0, cells := 0, slots := 0, locals := 0 } : Room) s m #[.ref b, .int 0, .ref d, .int 0, .int (Int32.ofNat n)] below meth c "java/lang/StringUTF16" Z EL (dom [(d, cd)]) [(b, cb)]
        (fun v M N => N = [] ∧ ∃ k cd', k ≤ n ∧ v = some (.int (Int32.ofNat k)) ∧ M = [(d, cd')] ∧ (k = n → lat cs = true ∧ AC Z cd' .byte (tab n fun j => .int (lo8 (cs.getD j 0)))) ∧ (k < n → (255 : Int32) < cs.getD k 0))
        [(d, cd')] [] 0 0 3 [.val (.ref b), .val (.int (Int32.ofNat i)), .val (.ref d), .val (.int (Int32.ofNat i)), .val (.int (Int32.ofNat n)), .val (.int (Int32.ofNat i)), o6] [] := by
    intro k
    induction k with
    | zero =>
      intro i cd' o6 hik hlo hD' ho6
      refine OWp.iload hk d_CM5_3 (pc' := 5) rfl rfl ?_
      refine OWp.iload hk d_CM5_5 (pc' := 7) rfl rfl ?_
      refine OWp.icmpYes hk d_CM5_7 (XT.ii_ge_t (by rw [n_lt (by omega) (by omega)]; omega)) (by decide) (pc' := 44) rfl ?_
      refine OWp.iload hk d_CM5_44 (pc' := 46) rfl rfl ?_
      have hlat : lat cs = true := lat_iff.mpr fun c hc => by
        obtain ⟨j, hj, rfl⟩ := List.getElem_of_mem hc
        have := hlo j (by omega)
        rwa [List.getD_eq_getElem?_getD, List.getElem?_eq_getElem hj] at this
      have hfin : AC Z cd' .byte (tab n fun j => .int (lo8 (cs.getD j 0))) := hD'.congr fun j hj => by rw [if_pos (by omega)]
      exact OWp.retI hk d_CM5_46 ⟨rfl, n, cd', Nat.le_refl _, rfl, rfl, fun _ => ⟨hlat, hfin⟩, fun q => absurd q (Nat.lt_irrefl _)⟩ (List.Sublist.refl _) (fun _ h => h) (by decide) (by decide)
    | succ k ih =>
      intro i cd' o6 hik hlo hD' ho6
      have hi : i < n := by omega
      have hc := hcs.1 _ (getD_mem (i := i) (by omega))
      refine OWp.iload hk d_CM5_3 (pc' := 5) rfl rfl ?_
      refine OWp.iload hk d_CM5_5 (pc' := 7) rfl rfl ?_
      refine OWp.icmpNo hk d_CM5_7 (XT.ii_ge_f (by rw [n_lt (by omega) (by omega)]; omega)) (pc' := 10) rfl ?_
      refine OWp.aload_n hk d_CM5_10 (pc' := 11) rfl rfl rfl ?_
      refine OWp.iload_n hk d_CM5_11 (pc' := 12) rfl rfl ?_
      refine OWp.caload hk d_CM5_12 (pc' := 13) rfl (by simp) hA (n_nn (by omega)) (by rw [n_nat (by omega)]; exact tab_get hi) ?_
      refine OWp.istore hk d_CM5_13 (pc' := 15) rfl ho6 (by simp only [List.set_cons_zero, List.set_cons_succ]; rfl) ?_
      refine OWp.iload hk d_CM5_15 (pc' := 17) rfl rfl ?_
      refine OWp.sipush hk d_CM5_17 (pc' := 20) rfl (z := 255) rfl ?_
      by_cases h255 : (255 : Int32) < cs.getD i 0
      · refine OWp.icmpNo hk d_CM5_20 (XT.ii_le_f h255) (pc' := 23) rfl ?_
        refine OWp.iload hk d_CM5_23 (pc' := 25) rfl rfl ?_
        exact OWp.retI hk d_CM5_25 ⟨rfl, i, cd', Nat.le_of_lt hi, rfl, rfl, fun q => absurd q (Nat.ne_of_lt hi), fun _ => h255⟩ (List.Sublist.refl _) (fun _ h => h) (by decide) (by decide)
      · refine OWp.icmpYes hk d_CM5_20 (XT.ii_le_t h255) (by decide) (pc' := 26) rfl ?_
        refine OWp.aload_n hk d_CM5_26 (pc' := 27) rfl rfl rfl ?_
        refine OWp.iload_n hk d_CM5_27 (pc' := 28) rfl rfl ?_
        refine OWp.iload hk d_CM5_28 (pc' := 30) rfl rfl ?_
        refine OWp.i2b hk d_CM5_30 (pc' := 31) rfl ?_
        refine OWp.bastore hk d_CM5_31 (pc' := 32) rfl (i := 0) rfl hD' (n_nn (by omega)) (n_nat (by omega)) (by rw [tab_len]; exact hi) ?_
        intro cd2 hD2
        simp only [List.nil_append, List.cons_append, List.set_cons_zero]
        refine OWp.iinc hk d_CM5_32 (pc' := 35) rfl rfl (z := 1) rfl (by simp only [List.set_cons_zero, List.set_cons_succ]; rfl) ?_
        refine OWp.iinc hk d_CM5_35 (pc' := 38) rfl rfl (z := 1) rfl (by simp only [List.set_cons_zero, List.set_cons_succ]; rfl) ?_
        refine OWp.iinc hk d_CM5_38 (pc' := 41) rfl rfl (z := 1) rfl (by simp only [List.set_cons_zero, List.set_cons_succ]; rfl) ?_
        refine OWp.goto hk d_CM5_41 (by decide) (pc' := 3) rfl ?_
        rw [n_succ]
        refine ih (i + 1) cd2 (.val (.int (cs.getD i 0))) (by omega) (fun j hj => ?_) ?_ rfl
        · by_cases e : j = i
          · subst e; exact h255
          · exact hlo j (by omega)
        · rw [tab_set] at hD2
          refine hD2.congr fun j hj => ?_
          by_cases e : j = i
          · subst e; simp [lo8]
          · simp only [e, if_false]
            by_cases q : j < i
            · rw [if_pos q, if_pos (by omega)]
            · rw [if_neg q, if_neg (by omega)]
  refine OWp.iconst hk d_CM5_0 (pc' := 1) rfl (z := 0) rfl ?_
  refine OWp.istore hk d_CM5_1 (pc' := 3) rfl rfl (by simp only [List.set_cons_zero, List.set_cons_succ]; rfl) ?_
  exact loop n 0 cd .unset (by omega) (fun j hj => absurd hj (Nat.not_lt_zero _)) (hD.congr fun j hj => by rw [if_neg (Nat.not_lt_zero _)]) rfl
theorem c_CFL (hw : ∀ d ∈ tables_1, d.before a0 Z = true) (hEL : EW Z a0 EL) {vs : List Value} {z : Int32} (hD : AC Z cd .byte vs) (hz : (XT.ushr (Int32.ofNat n - Int32.ofNat vs.length) 31).toInt8.toInt32 = z) (hz2 : nar .byte z = z) :
    OCon l Z EL (⟨"java/lang/StringUTF16", "coderFromArrayLen", "([BI)B"⟩ : MethodName) jdk_52_method_15_code 2 (some .byte) [] ({ frames := 0, cells := 0, slots := 0, locals := 0 } : Room) #[.ref d, .int (Int32.ofNat n)] [] [(d, cd)] (fun v M N => v = some (.int z) ∧ M = [] ∧ N = []) := by
  refine OCon.of_wp (L0 := [.val (.ref d), .val (.int (Int32.ofNat n))]) pn_CFL hEL (fun m => by first | (simp [entryFrame, mkF, argsToLocals, Value.category]; done) | rfl) ?_
  intro p e s m below meth c hk
  refine OWp.iload_n hk d_CFL_0 (pc' := 1) rfl rfl ?_
  refine OWp.aload_n hk d_CFL_1 (pc' := 2) rfl rfl rfl ?_
  refine OWp.arraylength hk d_CFL_2 (pc' := 3) rfl (by simp) hD rfl ?_
  refine OWp.isub hk d_CFL_3 (pc' := 4) rfl ?_
  refine OWp.bipush hk d_CFL_4 (pc' := 6) rfl (z := 31) rfl ?_
  refine OWp.iushr hk d_CFL_6 (pc' := 7) rfl ?_
  refine OWp.i2b hk d_CFL_7 (pc' := 8) rfl ?_
  exact OWp.retN hk (Or.inr (Or.inl rfl)) d_CFL_8 ⟨by rw [hz, hz2], rfl, rfl⟩ (List.Sublist.refl _) (fun _ h => h) (by decide) (by decide)
end StrCM5
theorem d_CM3_0 : decode jdk_52_method_16_code 0 = .ok (.iload_n 2, 1) := by decide +kernel
theorem d_CM3_1 : decode jdk_52_method_16_code 1 = .ok (.newarray .byte, 2) := by decide +kernel
theorem d_CM3_3 : decode jdk_52_method_16_code 3 = .ok (.astore_n 3, 1) := by decide +kernel
theorem d_CM3_4 : decode jdk_52_method_16_code 4 = .ok (.aload_n 0, 1) := by decide +kernel
theorem d_CM3_5 : decode jdk_52_method_16_code 5 = .ok (.iload_n 1, 1) := by decide +kernel
theorem d_CM3_6 : decode jdk_52_method_16_code 6 = .ok (.aload_n 3, 1) := by decide +kernel
theorem d_CM3_7 : decode jdk_52_method_16_code 7 = .ok (.iconst 0, 1) := by decide +kernel
theorem d_CM3_8 : decode jdk_52_method_16_code 8 = .ok (.iload_n 2, 1) := by decide +kernel
theorem d_CM3_9 : decode jdk_52_method_16_code 9 = .ok (.invokestatic 115, 3) := by decide +kernel
theorem d_CM3_12 : decode jdk_52_method_16_code 12 = .ok (.istore 4, 2) := by decide +kernel
theorem d_CM3_14 : decode jdk_52_method_16_code 14 = .ok (.iload 4, 2) := by decide +kernel
theorem d_CM3_16 : decode jdk_52_method_16_code 16 = .ok (.iload_n 2, 1) := by decide +kernel
theorem d_CM3_17 : decode jdk_52_method_16_code 17 = .ok (.if_icmp .eq 40, 3) := by decide +kernel
theorem d_CM3_20 : decode jdk_52_method_16_code 20 = .ok (.aload_n 0, 1) := by decide +kernel
theorem d_CM3_21 : decode jdk_52_method_16_code 21 = .ok (.iload_n 1, 1) := by decide +kernel
theorem d_CM3_22 : decode jdk_52_method_16_code 22 = .ok (.iload_n 2, 1) := by decide +kernel
theorem d_CM3_23 : decode jdk_52_method_16_code 23 = .ok (.invokestatic 119, 3) := by decide +kernel
theorem d_CM3_26 : decode jdk_52_method_16_code 26 = .ok (.astore 5, 2) := by decide +kernel
theorem d_CM3_28 : decode jdk_52_method_16_code 28 = .ok (.aload 5, 2) := by decide +kernel
theorem d_CM3_30 : decode jdk_52_method_16_code 30 = .ok (.iload 4, 2) := by decide +kernel
theorem d_CM3_32 : decode jdk_52_method_16_code 32 = .ok (.invokestatic 71, 3) := by decide +kernel
theorem d_CM3_35 : decode jdk_52_method_16_code 35 = .ok (.sipush 255, 3) := by decide +kernel
theorem d_CM3_38 : decode jdk_52_method_16_code 38 = .ok (.if_icmp .gt 16, 3) := by decide +kernel
theorem d_CM3_41 : decode jdk_52_method_16_code 41 = .ok (.aload 5, 2) := by decide +kernel
theorem d_CM3_43 : decode jdk_52_method_16_code 43 = .ok (.iconst 0, 1) := by decide +kernel
theorem d_CM3_44 : decode jdk_52_method_16_code 44 = .ok (.aload_n 3, 1) := by decide +kernel
theorem d_CM3_45 : decode jdk_52_method_16_code 45 = .ok (.iconst 0, 1) := by decide +kernel
theorem d_CM3_46 : decode jdk_52_method_16_code 46 = .ok (.iload_n 2, 1) := by decide +kernel
theorem d_CM3_47 : decode jdk_52_method_16_code 47 = .ok (.invokestatic 123, 3) := by decide +kernel
theorem d_CM3_50 : decode jdk_52_method_16_code 50 = .ok (.iload_n 2, 1) := by decide +kernel
theorem d_CM3_51 : decode jdk_52_method_16_code 51 = .ok (.if_icmp .eq 6, 3) := by decide +kernel
theorem d_CM3_54 : decode jdk_52_method_16_code 54 = .ok (.aload 5, 2) := by decide +kernel
theorem d_CM3_56 : decode jdk_52_method_16_code 56 = .ok (.areturn, 1) := by decide +kernel
theorem d_CM3_57 : decode jdk_52_method_16_code 57 = .ok (.aload_n 3, 1) := by decide +kernel
theorem d_CM3_58 : decode jdk_52_method_16_code 58 = .ok (.areturn, 1) := by decide +kernel
theorem pn_CM3 : plainFor (⟨"java/lang/StringUTF16", "compress", "([CII)[B"⟩ : MethodName) = true := by first | exact plainFor_of_name (by first | (simp [plainName, overriddenIn]; done) | decide +kernel) | decide +kernel
section StrCM3L
variable {l : Launch} {Z : State} {a0 : Array Value} {EL : List (String × Nat)} {zc : Int32} {b x : Addr} {cb cx : Cell} {cs : List Int32} {n : Nat}
theorem c_CM3L (hw : ∀ d ∈ tables_1, d.before a0 Z = true) (hEL : EW Z a0 EL) (hA : AC Z cb .char (tab n fun j => .int (cs.getD j 0))) (hn : cs.length = n) (hcs : Chars cs) (hl : lat cs = true) (hcap : n ≤ kCap) :
    OCon l Z EL (⟨"java/lang/StringUTF16", "compress", "([CII)[B"⟩ : MethodName) jdk_52_method_16_code 6 (some (.array .byte)) [] ({ frames := 1, cells := 1, slots := kCap, locals := 18 } : Room) #[.ref b, .int 0, .int (Int32.ofNat n)] [] [(b, cb)]
      (fun v M N => M = [] ∧ ∃ t ct, v = some (.ref t) ∧ N = [(t, ct)] ∧ AC Z ct .byte (oBytes cs)) := by
  refine OCon.of_wp (L0 := [.val (.ref b), .val (.int 0), .val (.int (Int32.ofNat n)), .unset, .unset, .unset]) pn_CM3 hEL (fun m => by first | (simp [entryFrame, mkF, argsToLocals, Value.category]; done) | rfl) ?_
  intro p e s m below meth c hk
  have hn4 := hcs.2
  refine OWp.iload_n hk d_CM3_0 (pc' := 1) rfl rfl ?_
  refine OWp.newarray hk d_CM3_1 (pc' := 3) rfl (hw _ (List.mem_of_getElem? (i := 29) rfl)) (n_nn (by omega)) (cap := kCap) (by rw [n_nat (by omega)]; exact hcap) (by decide) (by decide) (by decide) (vs := tab n fun _ => .int 0) (by rw [n_nat (by omega)]; exact tab_rep _ _) ?_
  intro d cd hD
  refine OWp.astore_n hk d_CM3_3 (pc' := 4) rfl (kn := 3) rfl rfl rfl (by simp only [List.set_cons_zero, List.set_cons_succ]; rfl) ?_
  refine OWp.aload_n hk d_CM3_4 (pc' := 5) rfl rfl rfl ?_
  refine OWp.iload_n hk d_CM3_5 (pc' := 6) rfl rfl ?_
  refine OWp.aload_n hk d_CM3_6 (pc' := 7) rfl rfl rfl ?_
  refine OWp.iconst hk d_CM3_7 (pc' := 8) rfl (z := 0) rfl ?_
  refine OWp.iload_n hk d_CM3_8 (pc' := 9) rfl rfl ?_
  refine OWp.callS hk d_CM3_9 (pc' := 12) rfl (hw _ (List.mem_of_getElem? (i := 30) rfl)) (hw _ (List.mem_of_getElem? (i := 31) rfl)) (hw _ (List.mem_of_getElem? (i := 27) rfl)) (hw _ (List.mem_of_getElem? (i := 32) rfl)) (by decide) (c_CM5 (cs := cs) hw hEL hA hn hcs hD) rfl (by simp) rfl (lenOf pd_1 rfl) rfl (W := 0) rfl (by first | decide | (dsimp only; omega)) (by first | decide | (dsimp only; omega)) (by first | decide | (dsimp only; omega)) (by first | decide | (dsimp only; omega)) ?_
  rintro _ _ _ ⟨rfl, k, cd2, hk1, rfl, rfl, hfull, hpart⟩
  have hkn : k = n := by
    rcases Nat.lt_or_eq_of_le hk1 with q | q
    · exact absurd (hpart q) (lat_iff.mp hl _ (getD_mem (by omega)))
    · exact q
  subst hkn
  refine OWp.istore hk d_CM3_12 (pc' := 14) rfl rfl (by simp only [List.set_cons_zero, List.set_cons_succ]; rfl) ?_
  refine OWp.iload hk d_CM3_14 (pc' := 16) rfl rfl ?_
  refine OWp.iload_n hk d_CM3_16 (pc' := 17) rfl rfl ?_
  refine OWp.icmpYes hk d_CM3_17 (XT.ii_eq_t rfl) (by decide) (pc' := 57) rfl ?_
  refine OWp.aload_n hk d_CM3_57 (pc' := 58) rfl rfl rfl ?_
  refine OWp.freeze ?_
  exact OWp.retA hk rfl rfl rfl d_CM3_58 ⟨rfl, d, cd2, rfl, rfl, by rw [bytes_lat hl, hn]; exact (hfull rfl).2⟩ (List.Sublist.refl _) (fun _ h => h) (by decide) (by decide)
end StrCM3L
theorem d_S4_0 : decode jdk_42_method_149_code 0 = .ok (.aload_n 0, 1) := by decide +kernel
theorem d_S4_1 : decode jdk_42_method_149_code 1 = .ok (.invokespecial 1, 3) := by decide +kernel
theorem d_S4_4 : decode jdk_42_method_149_code 4 = .ok (.iload_n 3, 1) := by decide +kernel
theorem d_S4_5 : decode jdk_42_method_149_code 5 = .ok (.ifCond .ne 22, 3) := by decide +kernel
theorem d_S4_8 : decode jdk_42_method_149_code 8 = .ok (.aload_n 0, 1) := by decide +kernel
theorem d_S4_9 : decode jdk_42_method_149_code 9 = .ok (.ldc 7, 2) := by decide +kernel
theorem d_S4_11 : decode jdk_42_method_149_code 11 = .ok (.getfield 9, 3) := by decide +kernel
theorem d_S4_14 : decode jdk_42_method_149_code 14 = .ok (.putfield 9, 3) := by decide +kernel
theorem d_S4_17 : decode jdk_42_method_149_code 17 = .ok (.aload_n 0, 1) := by decide +kernel
theorem d_S4_18 : decode jdk_42_method_149_code 18 = .ok (.ldc 7, 2) := by decide +kernel
theorem d_S4_20 : decode jdk_42_method_149_code 20 = .ok (.getfield 15, 3) := by decide +kernel
theorem d_S4_23 : decode jdk_42_method_149_code 23 = .ok (.putfield 15, 3) := by decide +kernel
theorem d_S4_26 : decode jdk_42_method_149_code 26 = .ok (.return_, 1) := by decide +kernel
theorem d_S4_27 : decode jdk_42_method_149_code 27 = .ok (.getstatic 38, 3) := by decide +kernel
theorem d_S4_30 : decode jdk_42_method_149_code 30 = .ok (.ifCond .eq 28, 3) := by decide +kernel
theorem d_S4_33 : decode jdk_42_method_149_code 33 = .ok (.aload_n 1, 1) := by decide +kernel
theorem d_S4_34 : decode jdk_42_method_149_code 34 = .ok (.iload_n 2, 1) := by decide +kernel
theorem d_S4_35 : decode jdk_42_method_149_code 35 = .ok (.iload_n 3, 1) := by decide +kernel
theorem d_S4_36 : decode jdk_42_method_149_code 36 = .ok (.invokestatic 177, 3) := by decide +kernel
theorem d_S4_39 : decode jdk_42_method_149_code 39 = .ok (.astore 5, 2) := by decide +kernel
theorem d_S4_41 : decode jdk_42_method_149_code 41 = .ok (.aload_n 0, 1) := by decide +kernel
theorem d_S4_42 : decode jdk_42_method_149_code 42 = .ok (.aload 5, 2) := by decide +kernel
theorem d_S4_44 : decode jdk_42_method_149_code 44 = .ok (.iload_n 3, 1) := by decide +kernel
theorem d_S4_45 : decode jdk_42_method_149_code 45 = .ok (.invokestatic 47, 3) := by decide +kernel
theorem d_S4_48 : decode jdk_42_method_149_code 48 = .ok (.putfield 15, 3) := by decide +kernel
theorem d_S4_51 : decode jdk_42_method_149_code 51 = .ok (.aload_n 0, 1) := by decide +kernel
theorem d_S4_52 : decode jdk_42_method_149_code 52 = .ok (.aload 5, 2) := by decide +kernel
theorem d_S4_54 : decode jdk_42_method_149_code 54 = .ok (.putfield 9, 3) := by decide +kernel
theorem d_S4_57 : decode jdk_42_method_149_code 57 = .ok (.return_, 1) := by decide +kernel
theorem d_S4_58 : decode jdk_42_method_149_code 58 = .ok (.aload_n 0, 1) := by decide +kernel
theorem d_S4_59 : decode jdk_42_method_149_code 59 = .ok (.iconst 1, 1) := by decide +kernel
theorem d_S4_60 : decode jdk_42_method_149_code 60 = .ok (.putfield 15, 3) := by decide +kernel
theorem d_S4_63 : decode jdk_42_method_149_code 63 = .ok (.aload_n 0, 1) := by decide +kernel
theorem d_S4_64 : decode jdk_42_method_149_code 64 = .ok (.aload_n 1, 1) := by decide +kernel
theorem d_S4_65 : decode jdk_42_method_149_code 65 = .ok (.iload_n 2, 1) := by decide +kernel
theorem d_S4_66 : decode jdk_42_method_149_code 66 = .ok (.iload_n 3, 1) := by decide +kernel
theorem d_S4_67 : decode jdk_42_method_149_code 67 = .ok (.invokestatic 180, 3) := by decide +kernel
theorem d_S4_70 : decode jdk_42_method_149_code 70 = .ok (.putfield 9, 3) := by decide +kernel
theorem d_S4_73 : decode jdk_42_method_149_code 73 = .ok (.return_, 1) := by decide +kernel
theorem pn_S4 : plainFor (⟨"java/lang/String", "<init>", "([CIILjava/lang/Void;)V"⟩ : MethodName) = true := by first | exact plainFor_of_name (by first | (simp [plainName, overriddenIn]; done) | decide +kernel) | decide +kernel
section StrS4
variable {l : Launch} {Z : State} {a0 : Array Value} {EL : List (String × Nat)} {zc : Int32} {b x : Addr} {cb cx : Cell} {cs : List Int32} {n : Nat} {rm3 : Room}
theorem c_S4 (hw : ∀ d ∈ tables_1, d.before a0 Z = true) (hEL : EW Z a0 EL) (O2 : Sta Z Z.heap "java/lang/String" "COMPACT_STRINGS" "Z" (.int zc)) (hzc : ¬ zc = 0) (hE : EC Z cx "java/lang/String") {v0 v1 : Value} (hV : FC Z cx "java/lang/String" "value" "[B" v0) (hC : FC Z cx "java/lang/String" "coder" "B" v1)
    (hA : AC Z cb .char (tab n fun j => .int (cs.getD j 0))) (hn : cs.length = n) (hcs : Chars cs) (h0 : 0 < n)
    (h3 : 0 < n → OCon l Z EL (⟨"java/lang/StringUTF16", "compress", "([CII)[B"⟩ : MethodName) jdk_52_method_16_code 6 (some (.array .byte)) [] rm3 #[.ref b, .int 0, .int (Int32.ofNat n)] [] [(b, cb)] (fun v M N => M = [] ∧ ∃ t ct, v = some (.ref t) ∧ N = [(t, ct)] ∧ AC Z ct .byte (oBytes cs))) :
    OCon l Z EL (⟨"java/lang/String", "<init>", "([CIILjava/lang/Void;)V"⟩ : MethodName) jdk_42_method_149_code 6 none [] ({ frames := rm3.frames + 1, cells := rm3.cells, slots := rm3.slots, locals := 17 + rm3.locals } : Room) #[.ref x, .ref b, .int 0, .int (Int32.ofNat n), .null] [(x, cx)] [(b, cb)]
      (fun v M N => v = none ∧ M = [] ∧ ∃ t cx' ct, N = [(x, cx'), (t, ct)] ∧ SC Z t cx' ct cs) := by
  refine OCon.of_wp (L0 := [.val (.ref x), .val (.ref b), .val (.int 0), .val (.int (Int32.ofNat n)), .val .null, .unset]) pn_S4 hEL (fun m => by first | (simp [entryFrame, mkF, argsToLocals, Value.category]; done) | rfl) ?_
  intro p e s m below meth c hk
  have hn4 := hcs.2
  refine OWp.aload_n hk d_S4_0 (pc' := 1) rfl rfl rfl ?_
  refine OWp.initO hk d_S4_1 (pc' := 4) rfl (hw _ (List.mem_of_getElem? (i := 21) rfl)) (hw _ (List.mem_of_getElem? (i := 22) rfl)) (hw _ (List.mem_of_getElem? (i := 23) rfl)) rfl (by first | decide | (dsimp only; omega)) (W := 0) rfl (by first | decide | (dsimp only; omega)) ?_
  refine OWp.iload_n hk d_S4_4 (pc' := 5) rfl rfl ?_
  refine OWp.ifYes hk d_S4_5 (XT.i0_ne_t (by rw [show (0 : Int32) = Int32.ofNat 0 from rfl, n_inj (by omega) (by omega)]; omega)) (by decide) (pc' := 27) rfl ?_
  refine OWp.getstatic hk d_S4_27 (pc' := 30) rfl (hw _ (List.mem_of_getElem? (i := 24) rfl)) O2 ?_
  refine OWp.ifNo hk d_S4_30 (XT.i0_eq_f hzc) (pc' := 33) rfl ?_
  refine OWp.aload_n hk d_S4_33 (pc' := 34) rfl rfl rfl ?_
  refine OWp.iload_n hk d_S4_34 (pc' := 35) rfl rfl ?_
  refine OWp.iload_n hk d_S4_35 (pc' := 36) rfl rfl ?_
  refine OWp.callS hk d_S4_36 (pc' := 39) rfl (hw _ (List.mem_of_getElem? (i := 25) rfl)) (hw _ (List.mem_of_getElem? (i := 26) rfl)) (hw _ (List.mem_of_getElem? (i := 27) rfl)) (hw _ (List.mem_of_getElem? (i := 28) rfl)) (by decide) (h3 h0) rfl (by simp) rfl (lenOf pd_2 rfl) rfl (W := 0) rfl (by first | decide | (dsimp only; omega)) (by first | decide | (dsimp only; omega)) (by first | decide | (dsimp only; omega)) (by first | decide | (dsimp only; omega)) ?_
  rintro _ _ _ ⟨rfl, t, ct, rfl, rfl, hT⟩
  refine OWp.astore hk d_S4_39 (pc' := 41) rfl rfl rfl (by simp only [List.set_cons_zero, List.set_cons_succ]; rfl) ?_
  refine OWp.aload_n hk d_S4_41 (pc' := 42) rfl rfl rfl ?_
  refine OWp.aload hk d_S4_42 (pc' := 44) rfl rfl rfl ?_
  refine OWp.iload_n hk d_S4_44 (pc' := 45) rfl rfl ?_
  refine OWp.callS hk d_S4_45 (pc' := 48) rfl (hw _ (List.mem_of_getElem? (i := 33) rfl)) (hw _ (List.mem_of_getElem? (i := 34) rfl)) (hw _ (List.mem_of_getElem? (i := 27) rfl)) (hw _ (List.mem_of_getElem? (i := 35) rfl)) (by decide) (c_CFL (n := n) hw hEL hT (z := cdOf cs) (cfl_val hn hcs.2 h0) (nar_cd cs)) rfl (by simp) rfl (lenOf pd_3 rfl) rfl (W := 1) rfl (by first | decide | (dsimp only; omega)) (by first | decide | (dsimp only; omega)) (by first | decide | (dsimp only; omega)) (by first | decide | (dsimp only; omega)) ?_
  rintro _ _ _ ⟨rfl, rfl, rfl⟩
  refine OWp.putfield hk d_S4_48 (pc' := 51) rfl (hw _ (List.mem_of_getElem? (i := 36) rfl)) (i := 0) rfl hC hE (Or.inr ⟨(hw _ (List.mem_of_getElem? (i := 37) rfl)), rfl, rfl⟩) (hw _ (List.mem_of_getElem? (i := 12) rfl)) (ty := .byte) (by decide) (congrArg Value.int (nar_cd cs)) (fits_cd cs) ?_
  intro cx2 hE2 hC2 hK2
  have hV2 := hK2 hV (slot_ne (Or.inr (hw _ (List.mem_of_getElem? (i := 39) rfl))) (Or.inr (hw _ (List.mem_of_getElem? (i := 37) rfl))) (by decide) (t := .array .byte) (by decide) (t' := .byte) (by decide))
  simp only [List.nil_append, List.cons_append, List.set_cons_zero]
  refine OWp.aload_n hk d_S4_51 (pc' := 52) rfl rfl rfl ?_
  refine OWp.aload hk d_S4_52 (pc' := 54) rfl rfl rfl ?_
  refine OWp.putfield hk d_S4_54 (pc' := 57) rfl (hw _ (List.mem_of_getElem? (i := 38) rfl)) (i := 0) rfl hV2 hE2 (Or.inr ⟨(hw _ (List.mem_of_getElem? (i := 39) rfl)), rfl, rfl⟩) (hw _ (List.mem_of_getElem? (i := 12) rfl)) (ty := .array .byte) (by decide) rfl rfl ?_
  intro cx3 hE3 hV3 hK3
  have hC3 := hK3 hC2 (slot_ne (Or.inr (hw _ (List.mem_of_getElem? (i := 37) rfl))) (Or.inr (hw _ (List.mem_of_getElem? (i := 39) rfl))) (by decide) (t := .byte) (by decide) (t' := .array .byte) (by decide))
  simp only [List.nil_append, List.cons_append, List.set_cons_zero]
  refine OWp.freeze ?_
  exact OWp.ret0 hk d_S4_57 ⟨rfl, rfl, t, cx3, ct, rfl, hE3, hV3, hC3, hT, hcs⟩ (List.Sublist.refl _) (fun _ h => h) (by dsimp only; omega) (by dsimp only; omega)
end StrS4
theorem d_S1_0 : decode jdk_42_method_3_code 0 = .ok (.aload_n 0, 1) := by decide +kernel
theorem d_S1_1 : decode jdk_42_method_3_code 1 = .ok (.aload_n 1, 1) := by decide +kernel
theorem d_S1_2 : decode jdk_42_method_3_code 2 = .ok (.iconst 0, 1) := by decide +kernel
theorem d_S1_3 : decode jdk_42_method_3_code 3 = .ok (.aload_n 1, 1) := by decide +kernel
theorem d_S1_4 : decode jdk_42_method_3_code 4 = .ok (.arraylength, 1) := by decide +kernel
theorem d_S1_5 : decode jdk_42_method_3_code 5 = .ok (.aconst_null, 1) := by decide +kernel
theorem d_S1_6 : decode jdk_42_method_3_code 6 = .ok (.invokespecial 27, 3) := by decide +kernel
theorem d_S1_9 : decode jdk_42_method_3_code 9 = .ok (.return_, 1) := by decide +kernel
theorem pn_S1 : plainFor (⟨"java/lang/String", "<init>", "([C)V"⟩ : MethodName) = true := by first | exact plainFor_of_name (by first | (simp [plainName, overriddenIn]; done) | decide +kernel) | decide +kernel
section StrS1
variable {l : Launch} {Z : State} {a0 : Array Value} {EL : List (String × Nat)} {b x : Addr} {cb cx : Cell} {n : Nat}
/-- the constructor of one argument hands on -/
theorem c_S1 (hw : ∀ d ∈ tables_1, d.before a0 Z = true) (hEL : EW Z a0 EL) {rm : Room} {vs : List Value} {Q : Option Value → Mem → Mem → Prop} (hA : AC Z cb .char vs) (hn : vs.length = n) (hQ : ∀ v M N, Q v M N → v = none ∧ M = [])
    (h4 : OCon l Z EL (⟨"java/lang/String", "<init>", "([CIILjava/lang/Void;)V"⟩ : MethodName) jdk_42_method_149_code 6 none [] rm #[.ref x, .ref b, .int 0, .int (Int32.ofNat n), .null] [(x, cx)] [(b, cb)] Q) :
    OCon l Z EL (⟨"java/lang/String", "<init>", "([C)V"⟩ : MethodName) jdk_42_method_3_code 2 none [] ({ frames := rm.frames + 1, cells := rm.cells, slots := rm.slots, locals := 17 + rm.locals } : Room) #[.ref x, .ref b] [(x, cx)] [(b, cb)] Q := by
  refine OCon.of_wp (L0 := [.val (.ref x), .val (.ref b)]) pn_S1 hEL (fun m => by first | (simp [entryFrame, mkF, argsToLocals, Value.category]; done) | rfl) ?_
  intro p e s m below meth c hk
  refine OWp.aload_n hk d_S1_0 (pc' := 1) rfl rfl rfl ?_
  refine OWp.aload_n hk d_S1_1 (pc' := 2) rfl rfl rfl ?_
  refine OWp.iconst hk d_S1_2 (pc' := 3) rfl (z := 0) rfl ?_
  refine OWp.aload_n hk d_S1_3 (pc' := 4) rfl rfl rfl ?_
  refine OWp.arraylength hk d_S1_4 (pc' := 5) rfl (by simp) hA (by rw [hn]) ?_
  refine OWp.aconst_null hk d_S1_5 (pc' := 6) rfl ?_
  refine OWp.callI hk d_S1_6 (pc' := 9) rfl rfl (hw _ (List.mem_of_getElem? (i := 17) rfl)) (hw _ (List.mem_of_getElem? (i := 18) rfl)) (hw _ (List.mem_of_getElem? (i := 13) rfl)) (hw _ (List.mem_of_getElem? (i := 20) rfl)) (by decide) h4 rfl (by simp) rfl (lenOf pd_4 rfl) rfl (W := 0) rfl (by first | decide | (dsimp only; omega)) (by first | decide | (dsimp only; omega)) (by first | decide | (dsimp only; omega)) (by first | decide | (dsimp only; omega)) ?_
  intro v M N q
  obtain ⟨rfl, rfl⟩ := hQ v M N q
  exact OWp.ret0 hk d_S1_9 q (List.Sublist.refl _) (fun _ h => by simpa using h) (by dsimp only; omega) (by dsimp only; omega)
end StrS1
section StrNewLN
variable {l : Launch} {Z : State} {a0 : Array Value} {EL : List (String × Nat)} {zc : Int32} {b x : Addr} {cb cx : Cell} {cs : List Int32}
set_option maxRecDepth 65536 in
theorem c_NEW (hw : ∀ d ∈ tables_1, d.before a0 Z = true) (hEL : EW Z a0 EL) (O2 : Sta Z Z.heap "java/lang/String" "COMPACT_STRINGS" "Z" (.int zc)) (hzc : ¬ zc = 0)
    (hE : EC Z cx "java/lang/String") {v0 v1 : Value} (hV : FC Z cx "java/lang/String" "value" "[B" v0) (hC : FC Z cx "java/lang/String" "coder" "B" v1) (hA : AC Z cb .char (cs.map Value.int)) (hcs : Chars cs) (hl : lat cs = true) (hcap : cs.length ≤ kCap) (h0 : 0 < cs.length) :
    OCon l Z EL (⟨"java/lang/String", "<init>", "([C)V"⟩ : MethodName) jdk_42_method_3_code 2 none [] ({ frames := 3, cells := 1, slots := kCap, locals := 52 } : Room) #[.ref x, .ref b] [(x, cx)] [(b, cb)]
      (fun v M N => v = none ∧ M = [] ∧ ∃ t cx' ct, N = [(x, cx'), (t, ct)] ∧ SC Z t cx' ct cs) := by
  have hA2 : AC Z cb .char (tab cs.length fun j => .int (cs.getD j 0)) := by rw [← map_tab]; exact hA
  exact c_S1 (rm := ({ frames := 2, cells := 1, slots := kCap, locals := 35 } : Room)) hw hEL hA2 (tab_len _ _) (fun _ _ _ q => ⟨q.1, q.2.1⟩) (c_S4 (rm3 := ({ frames := 1, cells := 1, slots := kCap, locals := 18 } : Room)) (cs := cs) hw hEL O2 hzc hE hV hC hA2 rfl hcs h0 (fun _ => c_CM3L (cs := cs) hw hEL hA2 rfl hcs hl hcap))
end StrNewLN
theorem d_ISL_0 : decode jdk_42_method_154_code 0 = .ok (.getstatic 38, 3) := by decide +kernel
theorem d_ISL_3 : decode jdk_42_method_154_code 3 = .ok (.ifCond .eq 14, 3) := by decide +kernel
theorem d_ISL_6 : decode jdk_42_method_154_code 6 = .ok (.aload_n 0, 1) := by decide +kernel
theorem d_ISL_7 : decode jdk_42_method_154_code 7 = .ok (.getfield 15, 3) := by decide +kernel
theorem d_ISL_10 : decode jdk_42_method_154_code 10 = .ok (.ifCond .ne 7, 3) := by decide +kernel
theorem d_ISL_13 : decode jdk_42_method_154_code 13 = .ok (.iconst 1, 1) := by decide +kernel
theorem d_ISL_14 : decode jdk_42_method_154_code 14 = .ok (.goto 4, 3) := by decide +kernel
theorem d_ISL_17 : decode jdk_42_method_154_code 17 = .ok (.iconst 0, 1) := by decide +kernel
theorem d_ISL_18 : decode jdk_42_method_154_code 18 = .ok (.ireturn, 1) := by decide +kernel
theorem pn_ISL : plainFor (⟨"java/lang/String", "isLatin1", "()Z"⟩ : MethodName) = true := by first | exact plainFor_of_name (by first | (simp [plainName, overriddenIn]; done) | decide +kernel) | decide +kernel
section StrISL
variable {l : Launch} {Z : State} {a0 : Array Value} {EL : List (String × Nat)} {zc : Int32} {x t : Addr} {cx ct : Cell} {cs : List Int32}
theorem c_ISL (hw : ∀ d ∈ tables_1, d.before a0 Z = true) (hEL : EW Z a0 EL) (O2 : Sta Z Z.heap "java/lang/String" "COMPACT_STRINGS" "Z" (.int zc)) (hzc : ¬ zc = 0) (hs : SC Z t cx ct cs) :
    OCon l Z EL (⟨"java/lang/String", "isLatin1", "()Z"⟩ : MethodName) jdk_42_method_154_code 1 (some .boolean) [] ({ frames := 0, cells := 0, slots := 0, locals := 0 } : Room) #[.ref x] [] [(x, cx), (t, ct)] (fun v M N => v = some (.int (if lat cs then 1 else 0)) ∧ M = [] ∧ N = []) := by
  refine OCon.of_wp (L0 := [.val (.ref x)]) pn_ISL hEL (fun m => by first | (simp [entryFrame, mkF, argsToLocals, Value.category]; done) | rfl) ?_
  intro p e s m below meth c hk
  refine OWp.getstatic hk d_ISL_0 (pc' := 3) rfl (hw _ (List.mem_of_getElem? (i := 24) rfl)) O2 ?_
  refine OWp.ifNo hk d_ISL_3 (XT.i0_eq_f hzc) (pc' := 6) rfl ?_
  refine OWp.aload_n hk d_ISL_6 (pc' := 7) rfl rfl rfl ?_
  refine OWp.getfield hk d_ISL_7 (pc' := 10) rfl (hw _ (List.mem_of_getElem? (i := 36) rfl)) (by simp) hs.2.2.1 ?_
  rcases cd_cases cs with ⟨h1, h2⟩ | ⟨h1, h2⟩
  · refine OWp.ifNo hk d_ISL_10 (XT.i0_ne_f h2) (pc' := 13) rfl ?_
    refine OWp.iconst hk d_ISL_13 (pc' := 14) rfl (z := 1) rfl ?_
    refine OWp.goto hk d_ISL_14 (by decide) (pc' := 18) rfl ?_
    exact OWp.retN hk (Or.inl rfl) d_ISL_18 ⟨by rw [h1]; rfl, rfl, rfl⟩ (List.Sublist.refl _) (fun _ h => h) (by decide) (by decide)
  · refine OWp.ifYes hk d_ISL_10 (XT.i0_ne_t (by rw [h2]; decide)) (by decide) (pc' := 17) rfl ?_
    refine OWp.iconst hk d_ISL_17 (pc' := 18) rfl (z := 0) rfl ?_
    exact OWp.retN hk (Or.inl rfl) d_ISL_18 ⟨by rw [h1]; rfl, rfl, rfl⟩ (List.Sublist.refl _) (fun _ h => h) (by decide) (by decide)
end StrISL
theorem d_PCI_0 : decode jdk_41_method_11_code 0 = .ok (.iload_n 0, 1) := by decide +kernel
theorem d_PCI_1 : decode jdk_41_method_11_code 1 = .ok (.ifCond .lt 8, 3) := by decide +kernel
theorem d_PCI_4 : decode jdk_41_method_11_code 4 = .ok (.iload_n 0, 1) := by decide +kernel
theorem d_PCI_5 : decode jdk_41_method_11_code 5 = .ok (.iload_n 1, 1) := by decide +kernel
theorem d_PCI_6 : decode jdk_41_method_11_code 6 = .ok (.if_icmp .lt 10, 3) := by decide +kernel
theorem d_PCI_9 : decode jdk_41_method_11_code 9 = .ok (.aload_n 2, 1) := by decide +kernel
theorem d_PCI_10 : decode jdk_41_method_11_code 10 = .ok (.iload_n 0, 1) := by decide +kernel
theorem d_PCI_11 : decode jdk_41_method_11_code 11 = .ok (.iload_n 1, 1) := by decide +kernel
theorem d_PCI_12 : decode jdk_41_method_11_code 12 = .ok (.invokestatic 95, 3) := by decide +kernel
theorem d_PCI_15 : decode jdk_41_method_11_code 15 = .ok (.athrow, 1) := by decide +kernel
theorem d_PCI_16 : decode jdk_41_method_11_code 16 = .ok (.iload_n 0, 1) := by decide +kernel
theorem d_PCI_17 : decode jdk_41_method_11_code 17 = .ok (.ireturn, 1) := by decide +kernel
theorem pn_PCI : plainFor (⟨"jdk/internal/util/Preconditions", "checkIndex", "(IILjava/util/function/BiFunction;)I"⟩ : MethodName) = true := by first | exact plainFor_of_name (by first | (simp [plainName, overriddenIn]; done) | decide +kernel) | decide +kernel
theorem d_CKI_0 : decode jdk_42_method_155_code 0 = .ok (.iload_n 0, 1) := by decide +kernel
theorem d_CKI_1 : decode jdk_42_method_155_code 1 = .ok (.iload_n 1, 1) := by decide +kernel
theorem d_CKI_2 : decode jdk_42_method_155_code 2 = .ok (.getstatic 1053, 3) := by decide +kernel
theorem d_CKI_5 : decode jdk_42_method_155_code 5 = .ok (.invokestatic 1059, 3) := by decide +kernel
theorem d_CKI_8 : decode jdk_42_method_155_code 8 = .ok (.pop, 1) := by decide +kernel
theorem d_CKI_9 : decode jdk_42_method_155_code 9 = .ok (.return_, 1) := by decide +kernel
theorem pn_CKI : plainFor (⟨"java/lang/String", "checkIndex", "(II)V"⟩ : MethodName) = true := by first | exact plainFor_of_name (by first | (simp [plainName, overriddenIn]; done) | decide +kernel) | decide +kernel
theorem d_LCA_0 : decode jdk_43_method_2_code 0 = .ok (.iload_n 1, 1) := by decide +kernel
theorem d_LCA_1 : decode jdk_43_method_2_code 1 = .ok (.aload_n 0, 1) := by decide +kernel
theorem d_LCA_2 : decode jdk_43_method_2_code 2 = .ok (.arraylength, 1) := by decide +kernel
theorem d_LCA_3 : decode jdk_43_method_2_code 3 = .ok (.invokestatic 9, 3) := by decide +kernel
theorem d_LCA_6 : decode jdk_43_method_2_code 6 = .ok (.aload_n 0, 1) := by decide +kernel
theorem d_LCA_7 : decode jdk_43_method_2_code 7 = .ok (.iload_n 1, 1) := by decide +kernel
theorem d_LCA_8 : decode jdk_43_method_2_code 8 = .ok (.baload, 1) := by decide +kernel
theorem d_LCA_9 : decode jdk_43_method_2_code 9 = .ok (.sipush 255, 3) := by decide +kernel
theorem d_LCA_12 : decode jdk_43_method_2_code 12 = .ok (.iand, 1) := by decide +kernel
theorem d_LCA_13 : decode jdk_43_method_2_code 13 = .ok (.i2c, 1) := by decide +kernel
theorem d_LCA_14 : decode jdk_43_method_2_code 14 = .ok (.ireturn, 1) := by decide +kernel
theorem pn_LCA : plainFor (⟨"java/lang/StringLatin1", "charAt", "([BI)C"⟩ : MethodName) = true := by first | exact plainFor_of_name (by first | (simp [plainName, overriddenIn]; done) | decide +kernel) | decide +kernel
theorem d_CHA_0 : decode jdk_42_method_56_code 0 = .ok (.aload_n 0, 1) := by decide +kernel
theorem d_CHA_1 : decode jdk_42_method_56_code 1 = .ok (.invokevirtual 492, 3) := by decide +kernel
theorem d_CHA_4 : decode jdk_42_method_56_code 4 = .ok (.ifCond .eq 12, 3) := by decide +kernel
theorem d_CHA_7 : decode jdk_42_method_56_code 7 = .ok (.aload_n 0, 1) := by decide +kernel
theorem d_CHA_8 : decode jdk_42_method_56_code 8 = .ok (.getfield 9, 3) := by decide +kernel
theorem d_CHA_11 : decode jdk_42_method_56_code 11 = .ok (.iload_n 1, 1) := by decide +kernel
theorem d_CHA_12 : decode jdk_42_method_56_code 12 = .ok (.invokestatic 495, 3) := by decide +kernel
theorem d_CHA_15 : decode jdk_42_method_56_code 15 = .ok (.ireturn, 1) := by decide +kernel
theorem d_CHA_16 : decode jdk_42_method_56_code 16 = .ok (.aload_n 0, 1) := by decide +kernel
theorem d_CHA_17 : decode jdk_42_method_56_code 17 = .ok (.getfield 9, 3) := by decide +kernel
theorem d_CHA_20 : decode jdk_42_method_56_code 20 = .ok (.iload_n 1, 1) := by decide +kernel
theorem d_CHA_21 : decode jdk_42_method_56_code 21 = .ok (.invokestatic 498, 3) := by decide +kernel
theorem d_CHA_24 : decode jdk_42_method_56_code 24 = .ok (.ireturn, 1) := by decide +kernel
theorem pn_CHA : plainFor (⟨"java/lang/String", "charAt", "(I)C"⟩ : MethodName) = true := by first | exact plainFor_of_name (by first | (simp [plainName, overriddenIn]; done) | decide +kernel) | decide +kernel
section StrCh
variable {l : Launch} {Z : State} {a0 : Array Value} {EL : List (String × Nat)} {zc : Int32} {x t : Addr} {cx ct : Cell} {cs : List Int32} {fm : Value} {i n : Nat}
theorem c_PCI (hw : ∀ d ∈ tables_1, d.before a0 Z = true) (hEL : EW Z a0 EL) (hf : fm.isRef = true) (hi : i < n) (hn : n < 2147483648) :
    OCon l Z EL (⟨"jdk/internal/util/Preconditions", "checkIndex", "(IILjava/util/function/BiFunction;)I"⟩ : MethodName) jdk_41_method_11_code 3 (some .int) [] ({ frames := 0, cells := 0, slots := 0, locals := 0 } : Room) #[.int (Int32.ofNat i), .int (Int32.ofNat n), fm] [] [] (fun v M N => v = some (.int (Int32.ofNat i)) ∧ M = [] ∧ N = []) := by
  refine OCon.of_wp (L0 := [.val (.int (Int32.ofNat i)), .val (.int (Int32.ofNat n)), .val fm]) pn_PCI hEL (fun m => by rcases ref_cases hf with rfl | ⟨_, rfl⟩ <;> first | (simp [entryFrame, mkF, argsToLocals, Value.category]; done) | rfl) ?_
  intro p e s m below meth c hk
  refine OWp.iload_n hk d_PCI_0 (pc' := 1) rfl rfl ?_
  refine OWp.ifNo hk d_PCI_1 (XT.i0_lt_f (n_nn (by omega))) (pc' := 4) rfl ?_
  refine OWp.iload_n hk d_PCI_4 (pc' := 5) rfl rfl ?_
  refine OWp.iload_n hk d_PCI_5 (pc' := 6) rfl rfl ?_
  refine OWp.icmpYes hk d_PCI_6 (XT.ii_lt_t ((n_lt (by omega) hn).mpr hi)) (by decide) (pc' := 16) rfl ?_
  refine OWp.iload_n hk d_PCI_16 (pc' := 17) rfl rfl ?_
  exact OWp.retI hk d_PCI_17 ⟨rfl, rfl, rfl⟩ (List.Sublist.refl _) (fun _ h => h) (by decide) (by decide)
theorem c_CKI (hw : ∀ d ∈ tables_1, d.before a0 Z = true) (hEL : EW Z a0 EL) (O4 : Sta Z Z.heap "jdk/internal/util/Preconditions" "SIOOBE_FORMATTER" "Ljava/util/function/BiFunction;" fm) (hf : fm.isRef = true) (hi : i < n) (hn : n < 2147483648) :
    OCon l Z EL (⟨"java/lang/String", "checkIndex", "(II)V"⟩ : MethodName) jdk_42_method_155_code 2 none [] ({ frames := 1, cells := 0, slots := 0, locals := 14 } : Room) #[.int (Int32.ofNat i), .int (Int32.ofNat n)] [] [] (fun v M N => v = none ∧ M = [] ∧ N = []) := by
  refine OCon.of_wp (L0 := [.val (.int (Int32.ofNat i)), .val (.int (Int32.ofNat n))]) pn_CKI hEL (fun m => by first | (simp [entryFrame, mkF, argsToLocals, Value.category]; done) | rfl) ?_
  intro p e s m below meth c hk
  refine OWp.iload_n hk d_CKI_0 (pc' := 1) rfl rfl ?_
  refine OWp.iload_n hk d_CKI_1 (pc' := 2) rfl rfl ?_
  refine OWp.getstatic hk d_CKI_2 (pc' := 5) rfl (hw _ (List.mem_of_getElem? (i := 78) rfl)) O4 ?_
  refine OWp.callS hk d_CKI_5 (pc' := 8) rfl (hw _ (List.mem_of_getElem? (i := 80) rfl)) (hw _ (List.mem_of_getElem? (i := 81) rfl)) (hw _ (List.mem_of_getElem? (i := 79) rfl)) (hw _ (List.mem_of_getElem? (i := 82) rfl)) (by decide) (c_PCI hw hEL hf hi hn) rfl (by simp) rfl (lenOf pd_5 rfl) rfl (W := 0) rfl (by first | decide | (dsimp only; omega)) (by first | decide | (dsimp only; omega)) (by first | decide | (dsimp only; omega)) (by first | decide | (dsimp only; omega)) ?_
  rintro _ _ _ ⟨rfl, rfl, rfl⟩
  refine OWp.pop hk d_CKI_8 (pc' := 9) rfl rfl ?_
  exact OWp.ret0 hk d_CKI_9 ⟨rfl, rfl, rfl⟩ (List.Sublist.refl _) (fun _ h => h) (by decide) (by decide)
theorem c_LCA (hw : ∀ d ∈ tables_1, d.before a0 Z = true) (hEL : EW Z a0 EL) (O4 : Sta Z Z.heap "jdk/internal/util/Preconditions" "SIOOBE_FORMATTER" "Ljava/util/function/BiFunction;" fm) (hf : fm.isRef = true) (hs : SC Z t cx ct cs) (hl : lat cs = true) (hi : i < cs.length) :
    OCon l Z EL (⟨"java/lang/StringLatin1", "charAt", "([BI)C"⟩ : MethodName) jdk_43_method_2_code 2 (some .char) [] ({ frames := 2, cells := 0, slots := 0, locals := 27 } : Room) #[.ref t, .int (Int32.ofNat i)] [] [(x, cx), (t, ct)] (fun v M N => v = some (.int (cs.getD i 0)) ∧ M = [] ∧ N = []) := by
  refine OCon.of_wp (L0 := [.val (.ref t), .val (.int (Int32.ofNat i))]) pn_LCA hEL (fun m => by first | (simp [entryFrame, mkF, argsToLocals, Value.category]; done) | rfl) ?_
  intro p e s m below meth c hk
  have hA := hs.2.2.2.1
  have hc4 := hs.2.2.2.2.2
  rw [bytes_lat hl] at hA
  have hc := hs.2.2.2.2.1 _ (getD_mem hi)
  have h255 := lat_iff.mp hl _ (getD_mem hi)
  refine OWp.iload_n hk d_LCA_0 (pc' := 1) rfl rfl ?_
  refine OWp.aload_n hk d_LCA_1 (pc' := 2) rfl rfl rfl ?_
  refine OWp.arraylength hk d_LCA_2 (pc' := 3) rfl (by simp) hA (z := Int32.ofNat cs.length) (by rw [tab_len]) ?_
  refine OWp.callS hk d_LCA_3 (pc' := 6) rfl (hw _ (List.mem_of_getElem? (i := 75) rfl)) (hw _ (List.mem_of_getElem? (i := 76) rfl)) (hw _ (List.mem_of_getElem? (i := 13) rfl)) (hw _ (List.mem_of_getElem? (i := 77) rfl)) (by decide) (c_CKI hw hEL O4 hf hi (by omega)) rfl (by simp) rfl (lenOf pd_6 rfl) rfl (W := 0) rfl (by first | decide | (dsimp only; omega)) (by first | decide | (dsimp only; omega)) (by first | decide | (dsimp only; omega)) (by first | decide | (dsimp only; omega)) ?_
  rintro _ _ _ ⟨rfl, rfl, rfl⟩
  refine OWp.aload_n hk d_LCA_6 (pc' := 7) rfl rfl rfl ?_
  refine OWp.iload_n hk d_LCA_7 (pc' := 8) rfl rfl ?_
  refine OWp.baload hk d_LCA_8 (pc' := 9) rfl (by simp) hA (n_nn (by omega)) (by rw [n_nat (by omega)]; exact tab_get hi) ?_
  refine OWp.sipush hk d_LCA_9 (pc' := 12) rfl (z := 255) rfl ?_
  refine OWp.iand hk d_LCA_12 (pc' := 13) rfl ?_
  refine OWp.i2c hk d_LCA_13 (pc' := 14) rfl ?_
  exact OWp.retN hk (Or.inr (Or.inr (Or.inl rfl))) d_LCA_14 ⟨by rw [lo8_back hc.1 h255, nar_char_id hc.1 hc.2], rfl, rfl⟩ (List.Sublist.refl _) (fun _ h => h) (by decide) (by decide)
theorem c_CHA (hw : ∀ d ∈ tables_1, d.before a0 Z = true) (hEL : EW Z a0 EL) (O2 : Sta Z Z.heap "java/lang/String" "COMPACT_STRINGS" "Z" (.int zc)) (hzc : ¬ zc = 0) (O4 : Sta Z Z.heap "jdk/internal/util/Preconditions" "SIOOBE_FORMATTER" "Ljava/util/function/BiFunction;" fm) (hf : fm.isRef = true) (hs : SC Z t cx ct cs) (hl : lat cs = true) (hi : i < cs.length) :
    OCon l Z EL (⟨"java/lang/String", "charAt", "(I)C"⟩ : MethodName) jdk_42_method_56_code 2 (some .char) [] ({ frames := 3, cells := 0, slots := 0, locals := 40 } : Room) #[.ref x, .int (Int32.ofNat i)] [] [(x, cx), (t, ct)] (fun v M N => v = some (.int (cs.getD i 0)) ∧ M = [] ∧ N = []) := by
  refine OCon.of_wp (L0 := [.val (.ref x), .val (.int (Int32.ofNat i))]) pn_CHA hEL (fun m => by first | (simp [entryFrame, mkF, argsToLocals, Value.category]; done) | rfl) ?_
  intro p e s m below meth c hk
  have hc := hs.2.2.2.2.1 _ (getD_mem hi)
  refine OWp.aload_n hk d_CHA_0 (pc' := 1) rfl rfl rfl ?_
  refine OWp.callV hk d_CHA_1 (pc' := 4) rfl (hw _ (List.mem_of_getElem? (i := 66) rfl)) (hw _ (List.mem_of_getElem? (i := 67) rfl)) (nfs (hw _ (List.mem_of_getElem? (i := 69) rfl))) (hw _ (List.mem_of_getElem? (i := 69) rfl)) (hw _ (List.mem_of_getElem? (i := 68) rfl)) (hw _ (List.mem_of_getElem? (i := 13) rfl)) (hw _ (List.mem_of_getElem? (i := 70) rfl)) (by decide) (by simp) hs.1 (c_ISL hw hEL O2 hzc hs) rfl (by simp) rfl (lenOf pd_7 rfl) rfl (W := 0) rfl (by first | decide | (dsimp only; omega)) (by first | decide | (dsimp only; omega)) (by first | decide | (dsimp only; omega)) (by first | decide | (dsimp only; omega)) ?_
  rintro _ _ _ ⟨rfl, rfl, rfl⟩
  refine OWp.ifNo hk d_CHA_4 (XT.i0_eq_f (by rw [hl]; decide)) (pc' := 7) rfl ?_
  refine OWp.aload_n hk d_CHA_7 (pc' := 8) rfl rfl rfl ?_
  refine OWp.getfield hk d_CHA_8 (pc' := 11) rfl (hw _ (List.mem_of_getElem? (i := 38) rfl)) (by simp) hs.2.1 ?_
  refine OWp.iload_n hk d_CHA_11 (pc' := 12) rfl rfl ?_
  refine OWp.callS hk d_CHA_12 (pc' := 15) rfl (hw _ (List.mem_of_getElem? (i := 71) rfl)) (hw _ (List.mem_of_getElem? (i := 72) rfl)) (hw _ (List.mem_of_getElem? (i := 73) rfl)) (hw _ (List.mem_of_getElem? (i := 74) rfl)) (by decide) (c_LCA (x := x) hw hEL O4 hf hs hl hi) rfl (by simp) rfl (lenOf pd_8 rfl) rfl (W := 0) rfl (by first | decide | (dsimp only; omega)) (by first | decide | (dsimp only; omega)) (by first | decide | (dsimp only; omega)) (by first | decide | (dsimp only; omega)) ?_
  rintro _ _ _ ⟨rfl, rfl, rfl⟩
  exact OWp.retN hk (Or.inr (Or.inr (Or.inl rfl))) d_CHA_15 ⟨by rw [nar_char_id hc.1 hc.2], rfl, rfl⟩ (List.Sublist.refl _) (fun _ h => h) (by decide) (by decide)
end StrCh
theorem d_CBE_0 : decode jdk_42_method_158_code 0 = .ok (.iload_n 0, 1) := by decide +kernel
theorem d_CBE_1 : decode jdk_42_method_158_code 1 = .ok (.iload_n 1, 1) := by decide +kernel
theorem d_CBE_2 : decode jdk_42_method_158_code 2 = .ok (.iload_n 2, 1) := by decide +kernel
theorem d_CBE_3 : decode jdk_42_method_158_code 3 = .ok (.getstatic 1053, 3) := by decide +kernel
theorem d_CBE_6 : decode jdk_42_method_158_code 6 = .ok (.invokestatic 1062, 3) := by decide +kernel
theorem d_CBE_9 : decode jdk_42_method_158_code 9 = .ok (.pop, 1) := by decide +kernel
theorem d_CBE_10 : decode jdk_42_method_158_code 10 = .ok (.return_, 1) := by decide +kernel
theorem pn_CBE : plainFor (⟨"java/lang/String", "checkBoundsBeginEnd", "(III)V"⟩ : MethodName) = true := by first | exact plainFor_of_name (by first | (simp [plainName, overriddenIn]; done) | decide +kernel) | decide +kernel
theorem d_PFT_0 : decode jdk_41_method_12_code 0 = .ok (.iload_n 0, 1) := by decide +kernel
theorem d_PFT_1 : decode jdk_41_method_12_code 1 = .ok (.ifCond .lt 13, 3) := by decide +kernel
theorem d_PFT_4 : decode jdk_41_method_12_code 4 = .ok (.iload_n 0, 1) := by decide +kernel
theorem d_PFT_5 : decode jdk_41_method_12_code 5 = .ok (.iload_n 1, 1) := by decide +kernel
theorem d_PFT_6 : decode jdk_41_method_12_code 6 = .ok (.if_icmp .gt 8, 3) := by decide +kernel
theorem d_PFT_9 : decode jdk_41_method_12_code 9 = .ok (.iload_n 1, 1) := by decide +kernel
theorem d_PFT_10 : decode jdk_41_method_12_code 10 = .ok (.iload_n 2, 1) := by decide +kernel
theorem d_PFT_11 : decode jdk_41_method_12_code 11 = .ok (.if_icmp .le 11, 3) := by decide +kernel
theorem d_PFT_14 : decode jdk_41_method_12_code 14 = .ok (.aload_n 3, 1) := by decide +kernel
theorem d_PFT_15 : decode jdk_41_method_12_code 15 = .ok (.iload_n 0, 1) := by decide +kernel
theorem d_PFT_16 : decode jdk_41_method_12_code 16 = .ok (.iload_n 1, 1) := by decide +kernel
theorem d_PFT_17 : decode jdk_41_method_12_code 17 = .ok (.iload_n 2, 1) := by decide +kernel
theorem d_PFT_18 : decode jdk_41_method_12_code 18 = .ok (.invokestatic 99, 3) := by decide +kernel
theorem d_PFT_21 : decode jdk_41_method_12_code 21 = .ok (.athrow, 1) := by decide +kernel
theorem d_PFT_22 : decode jdk_41_method_12_code 22 = .ok (.iload_n 0, 1) := by decide +kernel
theorem d_PFT_23 : decode jdk_41_method_12_code 23 = .ok (.ireturn, 1) := by decide +kernel
theorem pn_PFT : plainFor (⟨"jdk/internal/util/Preconditions", "checkFromToIndex", "(IIILjava/util/function/BiFunction;)I"⟩ : MethodName) = true := by first | exact plainFor_of_name (by first | (simp [plainName, overriddenIn]; done) | decide +kernel) | decide +kernel
section StrCBE
variable {l : Launch} {Z : State} {a0 : Array Value} {EL : List (String × Nat)} {a b n : Nat} {fm : Value}
theorem c_PFT (hw : ∀ d ∈ tables_1, d.before a0 Z = true) (hEL : EW Z a0 EL) (hf : fm.isRef = true) (hab : a ≤ b) (hbn : b ≤ n) (hn : n < 2147483648) :
    OCon l Z EL (⟨"jdk/internal/util/Preconditions", "checkFromToIndex", "(IIILjava/util/function/BiFunction;)I"⟩ : MethodName) jdk_41_method_12_code 4 (some .int) [] ({ frames := 0, cells := 0, slots := 0, locals := 0 } : Room) #[.int (Int32.ofNat a), .int (Int32.ofNat b), .int (Int32.ofNat n), fm] [] [] (fun v M N => v = some (.int (Int32.ofNat a)) ∧ M = [] ∧ N = []) := by
  refine OCon.of_wp (L0 := [.val (.int (Int32.ofNat a)), .val (.int (Int32.ofNat b)), .val (.int (Int32.ofNat n)), .val fm]) pn_PFT hEL (fun m => by rcases ref_cases hf with rfl | ⟨_, rfl⟩ <;> first | (simp [entryFrame, mkF, argsToLocals, Value.category]; done) | rfl) ?_
  intro p e s m below meth c hk
  refine OWp.iload_n hk d_PFT_0 (pc' := 1) rfl rfl ?_
  refine OWp.ifNo hk d_PFT_1 (XT.i0_lt_f (n_nn (by omega))) (pc' := 4) rfl ?_
  refine OWp.iload_n hk d_PFT_4 (pc' := 5) rfl rfl ?_
  refine OWp.iload_n hk d_PFT_5 (pc' := 6) rfl rfl ?_
  refine OWp.icmpNo hk d_PFT_6 (XT.ii_gt_f (by rw [n_lt (by omega) (by omega)]; omega)) (pc' := 9) rfl ?_
  refine OWp.iload_n hk d_PFT_9 (pc' := 10) rfl rfl ?_
  refine OWp.iload_n hk d_PFT_10 (pc' := 11) rfl rfl ?_
  refine OWp.icmpYes hk d_PFT_11 (XT.ii_le_t (by rw [n_lt (by omega) (by omega)]; omega)) (by decide) (pc' := 22) rfl ?_
  refine OWp.iload_n hk d_PFT_22 (pc' := 23) rfl rfl ?_
  exact OWp.retI hk d_PFT_23 ⟨rfl, rfl, rfl⟩ (List.Sublist.refl _) (fun _ h => h) (by decide) (by decide)
theorem c_CBE (hw : ∀ d ∈ tables_1, d.before a0 Z = true) (hEL : EW Z a0 EL) (O4 : Sta Z Z.heap "jdk/internal/util/Preconditions" "SIOOBE_FORMATTER" "Ljava/util/function/BiFunction;" fm) (hf : fm.isRef = true) (hab : a ≤ b) (hbn : b ≤ n) (hn : n < 2147483648) :
    OCon l Z EL (⟨"java/lang/String", "checkBoundsBeginEnd", "(III)V"⟩ : MethodName) jdk_42_method_158_code 3 none [] ({ frames := 1, cells := 0, slots := 0, locals := 15 } : Room) #[.int (Int32.ofNat a), .int (Int32.ofNat b), .int (Int32.ofNat n)] [] [] (fun v M N => v = none ∧ M = [] ∧ N = []) := by
  refine OCon.of_wp (L0 := [.val (.int (Int32.ofNat a)), .val (.int (Int32.ofNat b)), .val (.int (Int32.ofNat n))]) pn_CBE hEL (fun m => by first | (simp [entryFrame, mkF, argsToLocals, Value.category]; done) | rfl) ?_
  intro p e s m below meth c hk
  refine OWp.iload_n hk d_CBE_0 (pc' := 1) rfl rfl ?_
  refine OWp.iload_n hk d_CBE_1 (pc' := 2) rfl rfl ?_
  refine OWp.iload_n hk d_CBE_2 (pc' := 3) rfl rfl ?_
  refine OWp.getstatic hk d_CBE_3 (pc' := 6) rfl (hw _ (List.mem_of_getElem? (i := 78) rfl)) O4 ?_
  refine OWp.callS hk d_CBE_6 (pc' := 9) rfl (hw _ (List.mem_of_getElem? (i := 95) rfl)) (hw _ (List.mem_of_getElem? (i := 96) rfl)) (hw _ (List.mem_of_getElem? (i := 79) rfl)) (hw _ (List.mem_of_getElem? (i := 97) rfl)) (by decide) (c_PFT hw hEL hf hab hbn hn) rfl (by simp) rfl (lenOf pd_9 rfl) rfl (W := 0) rfl (by first | decide | (dsimp only; omega)) (by first | decide | (dsimp only; omega)) (by first | decide | (dsimp only; omega)) (by first | decide | (dsimp only; omega)) ?_
  rintro _ _ _ ⟨rfl, rfl, rfl⟩
  refine OWp.pop hk d_CBE_9 (pc' := 10) rfl rfl ?_
  exact OWp.ret0 hk d_CBE_10 ⟨rfl, rfl, rfl⟩ (List.Sublist.refl _) (fun _ h => h) (by decide) (by decide)
end StrCBE
theorem d_MIN_0 : decode jdk_29_method_69_code 0 = .ok (.iload_n 0, 1) := by decide +kernel
theorem d_MIN_1 : decode jdk_29_method_69_code 1 = .ok (.iload_n 1, 1) := by decide +kernel
theorem d_MIN_2 : decode jdk_29_method_69_code 2 = .ok (.if_icmp .gt 7, 3) := by decide +kernel
theorem d_MIN_5 : decode jdk_29_method_69_code 5 = .ok (.iload_n 0, 1) := by decide +kernel
theorem d_MIN_6 : decode jdk_29_method_69_code 6 = .ok (.goto 4, 3) := by decide +kernel
theorem d_MIN_9 : decode jdk_29_method_69_code 9 = .ok (.iload_n 1, 1) := by decide +kernel
theorem d_MIN_10 : decode jdk_29_method_69_code 10 = .ok (.ireturn, 1) := by decide +kernel
theorem pn_MIN : plainFor (⟨"java/lang/Math", "min", "(II)I"⟩ : MethodName) = true := by first | exact plainFor_of_name (by first | (simp [plainName, overriddenIn]; done) | decide +kernel) | decide +kernel
section strMin
variable {l : Launch} {Z : State} {a0 : Array Value} {EL : List (String × Nat)} {zc ch a b : Int32} {x t : Addr} {cx ct : Cell} {cs : List Int32} {n : Nat}
theorem c_MIN (hw : ∀ d ∈ tables_1, d.before a0 Z = true) (hEL : EW Z a0 EL) :
    OCon l Z EL (⟨"java/lang/Math", "min", "(II)I"⟩ : MethodName) jdk_29_method_69_code 2 (some .int) [] ({ frames := 0, cells := 0, slots := 0, locals := 0 } : Room) #[.int a, .int b] [] [] (fun v M N => v = some (.int (if b < a then b else a)) ∧ M = [] ∧ N = []) := by
  refine OCon.of_wp (L0 := [.val (.int a), .val (.int b)]) pn_MIN hEL (fun m => by first | (simp [entryFrame, mkF, argsToLocals, Value.category]; done) | rfl) ?_
  intro p e s m below meth c hk
  refine OWp.iload_n hk d_MIN_0 (pc' := 1) rfl rfl ?_
  refine OWp.iload_n hk d_MIN_1 (pc' := 2) rfl rfl ?_
  by_cases h : b < a
  · refine OWp.icmpYes hk d_MIN_2 (XT.ii_gt_t h) (by decide) (pc' := 9) rfl ?_
    refine OWp.iload_n hk d_MIN_9 (pc' := 10) rfl rfl ?_
    exact OWp.retI hk d_MIN_10 ⟨by rw [if_pos h], rfl, rfl⟩ (List.Sublist.refl _) (fun _ h => h) (by decide) (by decide)
  · refine OWp.icmpNo hk d_MIN_2 (XT.ii_gt_f h) (pc' := 5) rfl ?_
    refine OWp.iload_n hk d_MIN_5 (pc' := 6) rfl rfl ?_
    refine OWp.goto hk d_MIN_6 (by decide) (pc' := 10) rfl ?_
    exact OWp.retI hk d_MIN_10 ⟨by rw [if_neg h], rfl, rfl⟩ (List.Sublist.refl _) (fun _ h => h) (by decide) (by decide)
end strMin
theorem d_EMP_0 : decode jdk_42_method_55_code 0 = .ok (.aload_n 0, 1) := by decide +kernel
theorem d_EMP_1 : decode jdk_42_method_55_code 1 = .ok (.getfield 9, 3) := by decide +kernel
theorem d_EMP_4 : decode jdk_42_method_55_code 4 = .ok (.arraylength, 1) := by decide +kernel
theorem d_EMP_5 : decode jdk_42_method_55_code 5 = .ok (.ifCond .ne 7, 3) := by decide +kernel
theorem d_EMP_8 : decode jdk_42_method_55_code 8 = .ok (.iconst 1, 1) := by decide +kernel
theorem d_EMP_9 : decode jdk_42_method_55_code 9 = .ok (.goto 4, 3) := by decide +kernel
theorem d_EMP_12 : decode jdk_42_method_55_code 12 = .ok (.iconst 0, 1) := by decide +kernel
theorem d_EMP_13 : decode jdk_42_method_55_code 13 = .ok (.ireturn, 1) := by decide +kernel
theorem pn_EMP : plainFor (⟨"java/lang/String", "isEmpty", "()Z"⟩ : MethodName) = true := by first | exact plainFor_of_name (by first | (simp [plainName, overriddenIn]; done) | decide +kernel) | decide +kernel
section StrEmp
variable {l : Launch} {Z : State} {a0 : Array Value} {EL : List (String × Nat)} {x t : Addr} {cx ct : Cell} {cs : List Int32}
theorem c_EMP (hw : ∀ d ∈ tables_1, d.before a0 Z = true) (hEL : EW Z a0 EL) (hs : SC Z t cx ct cs) (h0 : 0 < cs.length) :
    OCon l Z EL (⟨"java/lang/String", "isEmpty", "()Z"⟩ : MethodName) jdk_42_method_55_code 1 (some .boolean) [] ({ frames := 0, cells := 0, slots := 0, locals := 0 } : Room) #[.ref x] [] [(x, cx), (t, ct)] (fun v M N => v = some (.int 0) ∧ M = [] ∧ N = []) := by
  refine OCon.of_wp (L0 := [.val (.ref x)]) pn_EMP hEL (fun m => by first | (simp [entryFrame, mkF, argsToLocals, Value.category]; done) | rfl) ?_
  intro p e s m below meth c hk
  have hb : ¬ Int32.ofNat (oBytes cs).length = 0 := by
    have hl := hs.2.2.2.2.2
    rw [show (0 : Int32) = Int32.ofNat 0 from rfl, bytes_len, n_inj (by split <;> omega) (by omega)]
    split <;> omega
  refine OWp.aload_n hk d_EMP_0 (pc' := 1) rfl rfl rfl ?_
  refine OWp.getfield hk d_EMP_1 (pc' := 4) rfl (hw _ (List.mem_of_getElem? (i := 38) rfl)) (by simp) hs.2.1 ?_
  refine OWp.arraylength hk d_EMP_4 (pc' := 5) rfl (by simp) hs.2.2.2.1 rfl ?_
  refine OWp.ifYes hk d_EMP_5 (XT.i0_ne_t hb) (by decide) (pc' := 12) rfl ?_
  refine OWp.iconst hk d_EMP_12 (pc' := 13) rfl (z := 0) rfl ?_
  exact OWp.retN hk (Or.inl rfl) d_EMP_13 ⟨rfl, rfl, rfl⟩ (List.Sublist.refl _) (fun _ h => h) (by decide) (by decide)
end StrEmp
theorem d_SBB_0 : decode jdk_42_method_151_code 0 = .ok (.aload_n 0, 1) := by decide +kernel
theorem d_SBB_1 : decode jdk_42_method_151_code 1 = .ok (.invokespecial 1, 3) := by decide +kernel
theorem d_SBB_4 : decode jdk_42_method_151_code 4 = .ok (.aload_n 0, 1) := by decide +kernel
theorem d_SBB_5 : decode jdk_42_method_151_code 5 = .ok (.aload_n 1, 1) := by decide +kernel
theorem d_SBB_6 : decode jdk_42_method_151_code 6 = .ok (.putfield 9, 3) := by decide +kernel
theorem d_SBB_9 : decode jdk_42_method_151_code 9 = .ok (.aload_n 0, 1) := by decide +kernel
theorem d_SBB_10 : decode jdk_42_method_151_code 10 = .ok (.iload_n 2, 1) := by decide +kernel
theorem d_SBB_11 : decode jdk_42_method_151_code 11 = .ok (.putfield 15, 3) := by decide +kernel
theorem d_SBB_14 : decode jdk_42_method_151_code 14 = .ok (.return_, 1) := by decide +kernel
theorem pn_SBB : plainFor (⟨"java/lang/String", "<init>", "([BB)V"⟩ : MethodName) = true := by first | exact plainFor_of_name (by first | (simp [plainName, overriddenIn]; done) | decide +kernel) | decide +kernel
section StrSBB
variable {l : Launch} {Z : State} {a0 : Array Value} {EL : List (String × Nat)} {zc c : Int32} {x t : Addr} {cx ct : Cell} {cs : List Int32}
/-- the private constructor over a byte[] and its coder -/
theorem c_SBB (hw : ∀ d ∈ tables_1, d.before a0 Z = true) (hEL : EW Z a0 EL) (hE : EC Z cx "java/lang/String") {v0 v1 : Value} (F_value : FC Z cx "java/lang/String" "value" "[B" v0) (F_coder : FC Z cx "java/lang/String" "coder" "B" v1) (hT : AC Z ct .byte (oBytes cs)) (hcs : Chars cs) (hc : c = cdOf cs) :
    OCon l Z EL (⟨"java/lang/String", "<init>", "([BB)V"⟩ : MethodName) jdk_42_method_151_code 3 none [] ({ frames := 1, cells := 0, slots := 0, locals := 12 } : Room) #[.ref x, .ref t, .int c] [(x, cx)] []
      (fun v M N => v = none ∧ M = [] ∧ ∃ cx', N = [(x, cx')] ∧ SC Z t cx' ct cs) := by
  subst hc
  refine OCon.of_wp (L0 := [.val (.ref x), .val (.ref t), .val (.int (cdOf cs))]) pn_SBB hEL (fun m => by first | (simp [entryFrame, mkF, argsToLocals, Value.category]; done) | rfl) ?_
  intro p e s m below meth c' hk
  refine OWp.aload_n hk d_SBB_0 (pc' := 1) rfl rfl rfl ?_
  refine OWp.initO hk d_SBB_1 (pc' := 4) rfl (hw _ (List.mem_of_getElem? (i := 21) rfl)) (hw _ (List.mem_of_getElem? (i := 22) rfl)) (hw _ (List.mem_of_getElem? (i := 23) rfl)) rfl (by first | decide | (dsimp only; omega)) (W := 0) rfl (by first | decide | (dsimp only; omega)) ?_
  refine OWp.aload_n hk d_SBB_4 (pc' := 5) rfl rfl rfl ?_
  refine OWp.aload_n hk d_SBB_5 (pc' := 6) rfl rfl rfl ?_
  refine OWp.putfield hk d_SBB_6 (pc' := 9) rfl (hw _ (List.mem_of_getElem? (i := 38) rfl)) (i := 0) rfl F_value hE (Or.inr ⟨(hw _ (List.mem_of_getElem? (i := 39) rfl)), rfl, rfl⟩) (hw _ (List.mem_of_getElem? (i := 12) rfl)) (ty := (.array .byte)) (by decide) rfl rfl ?_
  intro ck hE F_value hK
  have F_coder := hK F_coder (slot_ne (Or.inr (hw _ (List.mem_of_getElem? (i := 37) rfl))) (Or.inr (hw _ (List.mem_of_getElem? (i := 39) rfl))) (by decide) (t := .byte) (by decide) (t' := (.array .byte)) (by decide))
  simp only [List.nil_append, List.cons_append, List.set_cons_zero]
  refine OWp.aload_n hk d_SBB_9 (pc' := 10) rfl rfl rfl ?_
  refine OWp.iload_n hk d_SBB_10 (pc' := 11) rfl rfl ?_
  refine OWp.putfield hk d_SBB_11 (pc' := 14) rfl (hw _ (List.mem_of_getElem? (i := 36) rfl)) (i := 0) rfl F_coder hE (Or.inr ⟨(hw _ (List.mem_of_getElem? (i := 37) rfl)), rfl, rfl⟩) (hw _ (List.mem_of_getElem? (i := 12) rfl)) (ty := .byte) (by decide) (congrArg Value.int (nar_cd cs)) (fits_cd cs) ?_
  intro cx3 hE3 hC3 hK3
  have hV3 := hK3 F_value (slot_ne (Or.inr (hw _ (List.mem_of_getElem? (i := 39) rfl))) (Or.inr (hw _ (List.mem_of_getElem? (i := 37) rfl))) (by decide) (t := .array .byte) (by decide) (t' := .byte) (by decide))
  simp only [List.nil_append, List.cons_append, List.set_cons_zero]
  refine OWp.freeze ?_
  exact OWp.ret0 hk d_SBB_14 ⟨rfl, rfl, cx3, rfl, hE3, hV3, hC3, hT, hcs⟩ (List.Sublist.refl _) (fun _ h => h) (by decide) (by decide)
end StrSBB
theorem d_CHL_0 : decode jdk_65_method_131_code 0 = .ok (.iload_n 1, 1) := by decide +kernel
theorem d_CHL_1 : decode jdk_65_method_131_code 1 = .ok (.iload_n 0, 1) := by decide +kernel
theorem d_CHL_2 : decode jdk_65_method_131_code 2 = .ok (.if_icmp .ge 35, 3) := by decide +kernel
theorem d_CHL_5 : decode jdk_65_method_131_code 5 = .ok (.new 43, 3) := by decide +kernel
theorem d_CHL_8 : decode jdk_65_method_131_code 8 = .ok (.dup, 1) := by decide +kernel
theorem d_CHL_9 : decode jdk_65_method_131_code 9 = .ok (.new 45, 3) := by decide +kernel
theorem d_CHL_12 : decode jdk_65_method_131_code 12 = .ok (.dup, 1) := by decide +kernel
theorem d_CHL_13 : decode jdk_65_method_131_code 13 = .ok (.invokespecial 47, 3) := by decide +kernel
theorem d_CHL_16 : decode jdk_65_method_131_code 16 = .ok (.iload_n 0, 1) := by decide +kernel
theorem d_CHL_17 : decode jdk_65_method_131_code 17 = .ok (.invokevirtual 54, 3) := by decide +kernel
theorem d_CHL_20 : decode jdk_65_method_131_code 20 = .ok (.ldc_w 337, 3) := by decide +kernel
theorem d_CHL_23 : decode jdk_65_method_131_code 23 = .ok (.invokevirtual 50, 3) := by decide +kernel
theorem d_CHL_26 : decode jdk_65_method_131_code 26 = .ok (.iload_n 1, 1) := by decide +kernel
theorem d_CHL_27 : decode jdk_65_method_131_code 27 = .ok (.invokevirtual 54, 3) := by decide +kernel
theorem d_CHL_30 : decode jdk_65_method_131_code 30 = .ok (.invokevirtual 61, 3) := by decide +kernel
theorem d_CHL_33 : decode jdk_65_method_131_code 33 = .ok (.invokespecial 65, 3) := by decide +kernel
theorem d_CHL_36 : decode jdk_65_method_131_code 36 = .ok (.athrow, 1) := by decide +kernel
theorem d_CHL_37 : decode jdk_65_method_131_code 37 = .ok (.return_, 1) := by decide +kernel
theorem pn_CHL : plainFor (⟨"java/util/Arrays", "checkLength", "(II)V"⟩ : MethodName) = true := by first | exact plainFor_of_name (by first | (simp [plainName, overriddenIn]; done) | decide +kernel) | decide +kernel
theorem d_CRB_0 : decode jdk_65_method_133_code 0 = .ok (.iload_n 1, 1) := by decide +kernel
theorem d_CRB_1 : decode jdk_65_method_133_code 1 = .ok (.iload_n 2, 1) := by decide +kernel
theorem d_CRB_2 : decode jdk_65_method_133_code 2 = .ok (.invokestatic 343, 3) := by decide +kernel
theorem d_CRB_5 : decode jdk_65_method_133_code 5 = .ok (.iload_n 2, 1) := by decide +kernel
theorem d_CRB_6 : decode jdk_65_method_133_code 6 = .ok (.iload_n 1, 1) := by decide +kernel
theorem d_CRB_7 : decode jdk_65_method_133_code 7 = .ok (.isub, 1) := by decide +kernel
theorem d_CRB_8 : decode jdk_65_method_133_code 8 = .ok (.istore_n 3, 1) := by decide +kernel
theorem d_CRB_9 : decode jdk_65_method_133_code 9 = .ok (.iload_n 3, 1) := by decide +kernel
theorem d_CRB_10 : decode jdk_65_method_133_code 10 = .ok (.newarray .byte, 2) := by decide +kernel
theorem d_CRB_12 : decode jdk_65_method_133_code 12 = .ok (.astore 4, 2) := by decide +kernel
theorem d_CRB_14 : decode jdk_65_method_133_code 14 = .ok (.aload_n 0, 1) := by decide +kernel
theorem d_CRB_15 : decode jdk_65_method_133_code 15 = .ok (.iload_n 1, 1) := by decide +kernel
theorem d_CRB_16 : decode jdk_65_method_133_code 16 = .ok (.aload 4, 2) := by decide +kernel
theorem d_CRB_18 : decode jdk_65_method_133_code 18 = .ok (.iconst 0, 1) := by decide +kernel
theorem d_CRB_19 : decode jdk_65_method_133_code 19 = .ok (.aload_n 0, 1) := by decide +kernel
theorem d_CRB_20 : decode jdk_65_method_133_code 20 = .ok (.arraylength, 1) := by decide +kernel
theorem d_CRB_21 : decode jdk_65_method_133_code 21 = .ok (.iload_n 1, 1) := by decide +kernel
theorem d_CRB_22 : decode jdk_65_method_133_code 22 = .ok (.isub, 1) := by decide +kernel
theorem d_CRB_23 : decode jdk_65_method_133_code 23 = .ok (.iload_n 3, 1) := by decide +kernel
theorem d_CRB_24 : decode jdk_65_method_133_code 24 = .ok (.invokestatic 304, 3) := by decide +kernel
theorem d_CRB_27 : decode jdk_65_method_133_code 27 = .ok (.invokestatic 150, 3) := by decide +kernel
theorem d_CRB_30 : decode jdk_65_method_133_code 30 = .ok (.aload 4, 2) := by decide +kernel
theorem d_CRB_32 : decode jdk_65_method_133_code 32 = .ok (.areturn, 1) := by decide +kernel
theorem pn_CRB : plainFor (⟨"java/util/Arrays", "copyOfRangeByte", "([BII)[B"⟩ : MethodName) = true := by first | exact plainFor_of_name (by first | (simp [plainName, overriddenIn]; done) | decide +kernel) | decide +kernel
theorem d_COR_0 : decode jdk_65_method_132_code 0 = .ok (.iload_n 1, 1) := by decide +kernel
theorem d_COR_1 : decode jdk_65_method_132_code 1 = .ok (.ifCond .ne 9, 3) := by decide +kernel
theorem d_COR_4 : decode jdk_65_method_132_code 4 = .ok (.iload_n 2, 1) := by decide +kernel
theorem d_COR_5 : decode jdk_65_method_132_code 5 = .ok (.aload_n 0, 1) := by decide +kernel
theorem d_COR_6 : decode jdk_65_method_132_code 6 = .ok (.arraylength, 1) := by decide +kernel
theorem d_COR_7 : decode jdk_65_method_132_code 7 = .ok (.if_icmp .eq 10, 3) := by decide +kernel
theorem d_COR_10 : decode jdk_65_method_132_code 10 = .ok (.aload_n 0, 1) := by decide +kernel
theorem d_COR_11 : decode jdk_65_method_132_code 11 = .ok (.iload_n 1, 1) := by decide +kernel
theorem d_COR_12 : decode jdk_65_method_132_code 12 = .ok (.iload_n 2, 1) := by decide +kernel
theorem d_COR_13 : decode jdk_65_method_132_code 13 = .ok (.invokestatic 339, 3) := by decide +kernel
theorem d_COR_16 : decode jdk_65_method_132_code 16 = .ok (.areturn, 1) := by decide +kernel
theorem d_COR_17 : decode jdk_65_method_132_code 17 = .ok (.aload_n 0, 1) := by decide +kernel
theorem d_COR_18 : decode jdk_65_method_132_code 18 = .ok (.invokevirtual 310, 3) := by decide +kernel
theorem d_COR_21 : decode jdk_65_method_132_code 21 = .ok (.checkcast 311, 3) := by decide +kernel
theorem d_COR_24 : decode jdk_65_method_132_code 24 = .ok (.areturn, 1) := by decide +kernel
theorem pn_COR : plainFor (⟨"java/util/Arrays", "copyOfRange", "([BII)[B"⟩ : MethodName) = true := by first | exact plainFor_of_name (by first | (simp [plainName, overriddenIn]; done) | decide +kernel) | decide +kernel
section StrCOR
variable {l : Launch} {Z : State} {a0 : Array Value} {EL : List (String × Nat)} {zc : Int32} {x t : Addr} {cx ct : Cell} {cs : List Int32} {fm : Value} {a b n : Nat} {f : Nat → Value}
theorem c_CHL (hw : ∀ d ∈ tables_1, d.before a0 Z = true) (hEL : EW Z a0 EL) (hab : a ≤ b) (hb : b < 2147483648) :
    OCon l Z EL (⟨"java/util/Arrays", "checkLength", "(II)V"⟩ : MethodName) jdk_65_method_131_code 2 none [] ({ frames := 0, cells := 0, slots := 0, locals := 0 } : Room) #[.int (Int32.ofNat a), .int (Int32.ofNat b)] [] [] (fun v M N => v = none ∧ M = [] ∧ N = []) := by
  refine OCon.of_wp (L0 := [.val (.int (Int32.ofNat a)), .val (.int (Int32.ofNat b))]) pn_CHL hEL (fun m => by first | (simp [entryFrame, mkF, argsToLocals, Value.category]; done) | rfl) ?_
  intro p e s m below meth c hk
  refine OWp.iload_n hk d_CHL_0 (pc' := 1) rfl rfl ?_
  refine OWp.iload_n hk d_CHL_1 (pc' := 2) rfl rfl ?_
  refine OWp.icmpYes hk d_CHL_2 (XT.ii_ge_t (by rw [n_lt (by omega) (by omega)]; omega)) (by decide) (pc' := 37) rfl ?_
  exact OWp.ret0 hk d_CHL_37 ⟨rfl, rfl, rfl⟩ (List.Sublist.refl _) (fun _ h => h) (by decide) (by decide)
theorem c_CRB (hw : ∀ d ∈ tables_1, d.before a0 Z = true) (hEL : EW Z a0 EL) (hA : AC Z ct .byte (tab n f)) (hab : a ≤ b) (hbn : b ≤ n) (hcap : b - a ≤ kCap) :
    OCon l Z EL (⟨"java/util/Arrays", "copyOfRangeByte", "([BII)[B"⟩ : MethodName) jdk_65_method_133_code 5 (some (.array .byte)) [] ({ frames := 1, cells := 1, slots := kCap, locals := 18 } : Room) #[.ref t, .int (Int32.ofNat a), .int (Int32.ofNat b)] [] [(t, ct)] (fun v M N => M = [] ∧ ∃ u cu, v = some (.ref u) ∧ N = [(u, cu)] ∧ AC Z cu .byte (tab (b - a) fun j => f (a + j))) := by
  have hn : n < 2147483648 := by have := hA.2.2.2.1; rwa [tab_len] at this
  refine OCon.of_wp (L0 := [.val (.ref t), .val (.int (Int32.ofNat a)), .val (.int (Int32.ofNat b)), .unset, .unset]) pn_CRB hEL (fun m => by first | (simp [entryFrame, mkF, argsToLocals, Value.category]; done) | rfl) ?_
  intro p e s m below meth c hk
  refine OWp.iload_n hk d_CRB_0 (pc' := 1) rfl rfl ?_
  refine OWp.iload_n hk d_CRB_1 (pc' := 2) rfl rfl ?_
  refine OWp.callS hk d_CRB_2 (pc' := 5) rfl (hw _ (List.mem_of_getElem? (i := 109) rfl)) (hw _ (List.mem_of_getElem? (i := 110) rfl)) (hw _ (List.mem_of_getElem? (i := 104) rfl)) (hw _ (List.mem_of_getElem? (i := 111) rfl)) (by decide) (c_CHL hw hEL hab (by omega)) rfl (by simp) rfl (lenOf pd_6 rfl) rfl (W := 0) rfl (by first | decide | (dsimp only; omega)) (by first | decide | (dsimp only; omega)) (by first | decide | (dsimp only; omega)) (by first | decide | (dsimp only; omega)) ?_
  rintro _ _ _ ⟨rfl, rfl, rfl⟩
  refine OWp.iload_n hk d_CRB_5 (pc' := 6) rfl rfl ?_
  refine OWp.iload_n hk d_CRB_6 (pc' := 7) rfl rfl ?_
  refine OWp.isub hk d_CRB_7 (pc' := 8) rfl ?_
  rw [n_sub hab (by omega)]
  refine OWp.istore_n hk d_CRB_8 (pc' := 9) rfl (kn := 3) rfl rfl (by simp only [List.set_cons_zero, List.set_cons_succ]; rfl) ?_
  refine OWp.iload_n hk d_CRB_9 (pc' := 10) rfl rfl ?_
  refine OWp.newarray hk d_CRB_10 (pc' := 12) rfl (hw _ (List.mem_of_getElem? (i := 29) rfl)) (n_nn (by omega)) (cap := kCap) (by rw [n_nat (by omega)]; exact hcap) (by decide) (by decide) (by decide) (vs := tab (b - a) fun _ => .int 0) (by rw [n_nat (by omega)]; exact tab_rep _ _) ?_
  intro d cd hD
  refine OWp.astore hk d_CRB_12 (pc' := 14) rfl rfl rfl (by simp only [List.set_cons_zero, List.set_cons_succ]; rfl) ?_
  refine OWp.aload_n hk d_CRB_14 (pc' := 15) rfl rfl rfl ?_
  refine OWp.iload_n hk d_CRB_15 (pc' := 16) rfl rfl ?_
  refine OWp.aload hk d_CRB_16 (pc' := 18) rfl rfl rfl ?_
  refine OWp.iconst hk d_CRB_18 (pc' := 19) rfl (z := 0) rfl ?_
  refine OWp.aload_n hk d_CRB_19 (pc' := 20) rfl rfl rfl ?_
  refine OWp.arraylength hk d_CRB_20 (pc' := 21) rfl (by simp) hA (z := Int32.ofNat n) (by rw [tab_len]) ?_
  refine OWp.iload_n hk d_CRB_21 (pc' := 22) rfl rfl ?_
  refine OWp.isub hk d_CRB_22 (pc' := 23) rfl ?_
  rw [n_sub (show a ≤ n by omega) (by omega)]
  refine OWp.iload_n hk d_CRB_23 (pc' := 24) rfl rfl ?_
  refine OWp.callS hk d_CRB_24 (pc' := 27) rfl (hw _ (List.mem_of_getElem? (i := 112) rfl)) (hw _ (List.mem_of_getElem? (i := 113) rfl)) (hw _ (List.mem_of_getElem? (i := 114) rfl)) (hw _ (List.mem_of_getElem? (i := 115) rfl)) (by decide) (c_MIN hw hEL) rfl (by simp) rfl (lenOf pd_10 rfl) rfl (W := 4) rfl (by first | decide | (dsimp only; omega)) (by first | decide | (dsimp only; omega)) (by first | decide | (dsimp only; omega)) (by first | decide | (dsimp only; omega)) ?_
  rintro _ _ _ ⟨rfl, rfl, rfl⟩
  have hmin : (if Int32.ofNat (b - a) < Int32.ofNat (n - a) then Int32.ofNat (b - a) else Int32.ofNat (n - a)) = Int32.ofNat (b - a) := by
    split
    · rfl
    · rename_i q; rw [n_lt (by omega) (by omega)] at q; rw [show n - a = b - a by omega]
  rw [hmin]
  refine OWp.arraycopy hk d_CRB_27 (pc' := 30) rfl (hw _ (List.mem_of_getElem? (i := 116) rfl)) (hw _ (List.mem_of_getElem? (i := 119) rfl)) (hw _ (List.mem_of_getElem? (i := 117) rfl)) (hw _ (List.mem_of_getElem? (i := 118) rfl)) (by simp) (sp := a) (dp := 0) (nn := b - a) hA (i := 0) rfl hD rfl (by omega) (by omega) rfl (by first | decide | (dsimp only; omega)) (W := 0) rfl (by first | decide | (dsimp only; omega)) ?_
  intro cd2 hD2
  simp only [List.nil_append, List.cons_append, List.set_cons_zero]
  refine OWp.aload hk d_CRB_30 (pc' := 32) rfl rfl rfl ?_
  refine OWp.freeze ?_
  exact OWp.retA hk rfl rfl rfl d_CRB_32 ⟨rfl, d, cd2, rfl, rfl, hD2.congr fun j hj => by rw [if_pos ⟨Nat.zero_le _, by omega⟩, Nat.sub_zero]⟩ (List.Sublist.refl _) (fun _ h => h) (by decide) (by decide)
theorem c_COR (hw : ∀ d ∈ tables_1, d.before a0 Z = true) (hEL : EW Z a0 EL) (hA : AC Z ct .byte (tab n f)) (hab : a ≤ b) (hbn : b ≤ n) (hcap : b - a ≤ kCap) (hne : ¬ (a = 0 ∧ b = n)) :
    OCon l Z EL (⟨"java/util/Arrays", "copyOfRange", "([BII)[B"⟩ : MethodName) jdk_65_method_132_code 3 (some (.array .byte)) [] ({ frames := 2, cells := 1, slots := kCap, locals := 34 } : Room) #[.ref t, .int (Int32.ofNat a), .int (Int32.ofNat b)] [] [(t, ct)] (fun v M N => M = [] ∧ ∃ u cu, v = some (.ref u) ∧ N = [(u, cu)] ∧ AC Z cu .byte (tab (b - a) fun j => f (a + j))) := by
  have hn : n < 2147483648 := by have := hA.2.2.2.1; rwa [tab_len] at this
  refine OCon.of_wp (L0 := [.val (.ref t), .val (.int (Int32.ofNat a)), .val (.int (Int32.ofNat b))]) pn_COR hEL (fun m => by first | (simp [entryFrame, mkF, argsToLocals, Value.category]; done) | rfl) ?_
  intro p e s m below meth c hk
  have tail : OWp p l e ({ frames := 2, cells := 1, slots := kCap, locals := 34 } : Room) s m #[.ref t, .int (Int32.ofNat a), .int (Int32.ofNat b)] below meth c "java/util/Arrays" Z EL (dom []) [(t, ct)] (fun v M N => M = [] ∧ ∃ u cu, v = some (.ref u) ∧ N = [(u, cu)] ∧ AC Z cu .byte (tab (b - a) fun j => f (a + j))) [] [] 0 0 10 [.val (.ref t), .val (.int (Int32.ofNat a)), .val (.int (Int32.ofNat b))] [] := by
    refine OWp.aload_n hk d_COR_10 (pc' := 11) rfl rfl rfl ?_
    refine OWp.iload_n hk d_COR_11 (pc' := 12) rfl rfl ?_
    refine OWp.iload_n hk d_COR_12 (pc' := 13) rfl rfl ?_
    refine OWp.callS hk d_COR_13 (pc' := 16) rfl (hw _ (List.mem_of_getElem? (i := 106) rfl)) (hw _ (List.mem_of_getElem? (i := 107) rfl)) (hw _ (List.mem_of_getElem? (i := 104) rfl)) (hw _ (List.mem_of_getElem? (i := 108) rfl)) (by decide) (c_CRB hw hEL hA hab hbn hcap) rfl (by simp) rfl (lenOf pd_11 rfl) rfl (W := 0) rfl (by first | decide | (dsimp only; omega)) (by first | decide | (dsimp only; omega)) (by first | decide | (dsimp only; omega)) (by first | decide | (dsimp only; omega)) ?_
    rintro _ _ _ ⟨rfl, u, cu, rfl, rfl, hU⟩
    exact OWp.retA hk rfl rfl rfl d_COR_16 ⟨rfl, u, cu, rfl, rfl, hU⟩ (List.Sublist.refl _) (fun _ h => by simpa using h) (by decide) (by decide)
  refine OWp.iload_n hk d_COR_0 (pc' := 1) rfl rfl ?_
  by_cases h0 : a = 0
  · refine OWp.ifNo hk d_COR_1 (XT.i0_ne_f (by rw [h0]; rfl)) (pc' := 4) rfl ?_
    refine OWp.iload_n hk d_COR_4 (pc' := 5) rfl rfl ?_
    refine OWp.aload_n hk d_COR_5 (pc' := 6) rfl rfl rfl ?_
    refine OWp.arraylength hk d_COR_6 (pc' := 7) rfl (by simp) hA (z := Int32.ofNat n) (by rw [tab_len]) ?_
    refine OWp.icmpNo hk d_COR_7 (XT.ii_eq_f (by rw [n_inj (by omega) (by omega)]; exact fun q => hne ⟨h0, q⟩)) (pc' := 10) rfl ?_
    exact tail
  · refine OWp.ifYes hk d_COR_1 (XT.i0_ne_t (by rw [show (0 : Int32) = Int32.ofNat 0 from rfl, n_inj (by omega) (by omega)]; exact h0)) (by decide) (pc' := 10) rfl ?_
    exact tail
end StrCOR
theorem d_LNS_0 : decode jdk_43_method_47_code 0 = .ok (.iload_n 2, 1) := by decide +kernel
theorem d_LNS_1 : decode jdk_43_method_47_code 1 = .ok (.ifCond .ne 6, 3) := by decide +kernel
theorem d_LNS_4 : decode jdk_43_method_47_code 4 = .ok (.ldc 151, 2) := by decide +kernel
theorem d_LNS_6 : decode jdk_43_method_47_code 6 = .ok (.areturn, 1) := by decide +kernel
theorem d_LNS_7 : decode jdk_43_method_47_code 7 = .ok (.new 1, 3) := by decide +kernel
theorem d_LNS_10 : decode jdk_43_method_47_code 10 = .ok (.dup, 1) := by decide +kernel
theorem d_LNS_11 : decode jdk_43_method_47_code 11 = .ok (.aload_n 0, 1) := by decide +kernel
theorem d_LNS_12 : decode jdk_43_method_47_code 12 = .ok (.iload_n 1, 1) := by decide +kernel
theorem d_LNS_13 : decode jdk_43_method_47_code 13 = .ok (.iload_n 1, 1) := by decide +kernel
theorem d_LNS_14 : decode jdk_43_method_47_code 14 = .ok (.iload_n 2, 1) := by decide +kernel
theorem d_LNS_15 : decode jdk_43_method_47_code 15 = .ok (.iadd, 1) := by decide +kernel
theorem d_LNS_16 : decode jdk_43_method_47_code 16 = .ok (.invokestatic 232, 3) := by decide +kernel
theorem d_LNS_19 : decode jdk_43_method_47_code 19 = .ok (.iconst 0, 1) := by decide +kernel
theorem d_LNS_20 : decode jdk_43_method_47_code 20 = .ok (.invokespecial 112, 3) := by decide +kernel
theorem d_LNS_23 : decode jdk_43_method_47_code 23 = .ok (.areturn, 1) := by decide +kernel
theorem pn_LNS : plainFor (⟨"java/lang/StringLatin1", "newString", "([BII)Ljava/lang/String;"⟩ : MethodName) = true := by first | exact plainFor_of_name (by first | (simp [plainName, overriddenIn]; done) | decide +kernel) | decide +kernel
theorem d_SUB_0 : decode jdk_42_method_92_code 0 = .ok (.aload_n 0, 1) := by decide +kernel
theorem d_SUB_1 : decode jdk_42_method_92_code 1 = .ok (.invokevirtual 505, 3) := by decide +kernel
theorem d_SUB_4 : decode jdk_42_method_92_code 4 = .ok (.istore_n 3, 1) := by decide +kernel
theorem d_SUB_5 : decode jdk_42_method_92_code 5 = .ok (.iload_n 1, 1) := by decide +kernel
theorem d_SUB_6 : decode jdk_42_method_92_code 6 = .ok (.iload_n 2, 1) := by decide +kernel
theorem d_SUB_7 : decode jdk_42_method_92_code 7 = .ok (.iload_n 3, 1) := by decide +kernel
theorem d_SUB_8 : decode jdk_42_method_92_code 8 = .ok (.invokestatic 521, 3) := by decide +kernel
theorem d_SUB_11 : decode jdk_42_method_92_code 11 = .ok (.iload_n 1, 1) := by decide +kernel
theorem d_SUB_12 : decode jdk_42_method_92_code 12 = .ok (.ifCond .ne 10, 3) := by decide +kernel
theorem d_SUB_15 : decode jdk_42_method_92_code 15 = .ok (.iload_n 2, 1) := by decide +kernel
theorem d_SUB_16 : decode jdk_42_method_92_code 16 = .ok (.iload_n 3, 1) := by decide +kernel
theorem d_SUB_17 : decode jdk_42_method_92_code 17 = .ok (.if_icmp .ne 5, 3) := by decide +kernel
theorem d_SUB_20 : decode jdk_42_method_92_code 20 = .ok (.aload_n 0, 1) := by decide +kernel
theorem d_SUB_21 : decode jdk_42_method_92_code 21 = .ok (.areturn, 1) := by decide +kernel
theorem d_SUB_22 : decode jdk_42_method_92_code 22 = .ok (.iload_n 2, 1) := by decide +kernel
theorem d_SUB_23 : decode jdk_42_method_92_code 23 = .ok (.iload_n 1, 1) := by decide +kernel
theorem d_SUB_24 : decode jdk_42_method_92_code 24 = .ok (.isub, 1) := by decide +kernel
theorem d_SUB_25 : decode jdk_42_method_92_code 25 = .ok (.istore 4, 2) := by decide +kernel
theorem d_SUB_27 : decode jdk_42_method_92_code 27 = .ok (.aload_n 0, 1) := by decide +kernel
theorem d_SUB_28 : decode jdk_42_method_92_code 28 = .ok (.invokevirtual 492, 3) := by decide +kernel
theorem d_SUB_31 : decode jdk_42_method_92_code 31 = .ok (.ifCond .eq 16, 3) := by decide +kernel
theorem d_SUB_34 : decode jdk_42_method_92_code 34 = .ok (.aload_n 0, 1) := by decide +kernel
theorem d_SUB_35 : decode jdk_42_method_92_code 35 = .ok (.getfield 9, 3) := by decide +kernel
theorem d_SUB_38 : decode jdk_42_method_92_code 38 = .ok (.iload_n 1, 1) := by decide +kernel
theorem d_SUB_39 : decode jdk_42_method_92_code 39 = .ok (.iload 4, 2) := by decide +kernel
theorem d_SUB_41 : decode jdk_42_method_92_code 41 = .ok (.invokestatic 685, 3) := by decide +kernel
theorem d_SUB_44 : decode jdk_42_method_92_code 44 = .ok (.goto 13, 3) := by decide +kernel
theorem d_SUB_47 : decode jdk_42_method_92_code 47 = .ok (.aload_n 0, 1) := by decide +kernel
theorem d_SUB_48 : decode jdk_42_method_92_code 48 = .ok (.getfield 9, 3) := by decide +kernel
theorem d_SUB_51 : decode jdk_42_method_92_code 51 = .ok (.iload_n 1, 1) := by decide +kernel
theorem d_SUB_52 : decode jdk_42_method_92_code 52 = .ok (.iload 4, 2) := by decide +kernel
theorem d_SUB_54 : decode jdk_42_method_92_code 54 = .ok (.invokestatic 689, 3) := by decide +kernel
theorem d_SUB_57 : decode jdk_42_method_92_code 57 = .ok (.areturn, 1) := by decide +kernel
theorem pn_SUB : plainFor (⟨"java/lang/String", "substring", "(II)Ljava/lang/String;"⟩ : MethodName) = true := by first | exact plainFor_of_name (by first | (simp [plainName, overriddenIn]; done) | decide +kernel) | decide +kernel
section StrSubN
variable {l : Launch} {Z : State} {a0 : Array Value} {EL : List (String × Nat)} {zc : Int32} {x t : Addr} {cx ct : Cell} {cs : List Int32} {fm : Value} {a b n : Nat} {f : Nat → Value}
theorem c_LNS (hw : ∀ d ∈ tables_1, d.before a0 Z = true) (hEL : EW Z a0 EL) (hlt : a < b) (hA : AC Z ct .byte (oBytes cs)) (hl : lat cs = true) (hcs : Chars cs) (hab : a ≤ b) (hbn : b ≤ cs.length) (hcap : b - a ≤ kCap) (hne : ¬ (a = 0 ∧ b = cs.length)) :
    OCon l Z EL (⟨"java/lang/StringLatin1", "newString", "([BII)Ljava/lang/String;"⟩ : MethodName) jdk_43_method_47_code 3 (some (.object "java/lang/String")) [] ({ frames := 3, cells := 2, slots := kCap + 4, locals := 50 } : Room) #[.ref t, .int (Int32.ofNat a), .int (Int32.ofNat (b - a))] [] [(t, ct)] (fun v M N => M = [] ∧ ∃ y u cy cu, v = some (.ref y) ∧ N = [(y, cy), (u, cu)] ∧ SC Z u cy cu (subL cs a b)) := by
  have hc4 := hcs.2
  refine OCon.of_wp (L0 := [.val (.ref t), .val (.int (Int32.ofNat a)), .val (.int (Int32.ofNat (b - a)))]) pn_LNS hEL (fun m => by first | (simp [entryFrame, mkF, argsToLocals, Value.category]; done) | rfl) ?_
  intro p e s m below meth c hk
  rw [bytes_lat hl] at hA
  refine OWp.iload_n hk d_LNS_0 (pc' := 1) rfl rfl ?_
  have h0 : ¬ b - a = 0 := by omega
  · refine OWp.ifYes hk d_LNS_1 (XT.i0_ne_t (by rw [show (0 : Int32) = Int32.ofNat 0 from rfl, n_inj (by omega) (by omega)]; exact h0)) (by decide) (pc' := 7) rfl ?_
    refine OWp.new hk d_LNS_7 (pc' := 10) rfl (hw _ (List.mem_of_getElem? (i := 101) rfl)) (hw _ (List.mem_of_getElem? (i := 12) rfl)) (hw _ (List.mem_of_getElem? (i := 13) rfl)) (by decide) (by decide) ?_
    intro x cx hE hD
    have hV : FC Z cx "java/lang/String" "value" "[B" .null := hD (Or.inr (hw _ (List.mem_of_getElem? (i := 39) rfl))) (ty := .array .byte) (by decide)
    have hC : FC Z cx "java/lang/String" "coder" "B" (.int 0) := hD (Or.inr (hw _ (List.mem_of_getElem? (i := 37) rfl))) (ty := .byte) (by decide)
    refine OWp.dup hk d_LNS_10 (pc' := 11) rfl rfl ?_
    refine OWp.aload_n hk d_LNS_11 (pc' := 12) rfl rfl rfl ?_
    refine OWp.iload_n hk d_LNS_12 (pc' := 13) rfl rfl ?_
    refine OWp.iload_n hk d_LNS_13 (pc' := 14) rfl rfl ?_
    refine OWp.iload_n hk d_LNS_14 (pc' := 15) rfl rfl ?_
    refine OWp.iadd hk d_LNS_15 (pc' := 16) rfl ?_
    rw [n_add, show a + (b - a) = b by omega]
    refine OWp.callS hk d_LNS_16 (pc' := 19) rfl (hw _ (List.mem_of_getElem? (i := 102) rfl)) (hw _ (List.mem_of_getElem? (i := 103) rfl)) (hw _ (List.mem_of_getElem? (i := 104) rfl)) (hw _ (List.mem_of_getElem? (i := 105) rfl)) (by decide) (c_COR hw hEL hA hab hbn hcap hne) rfl (by simp) rfl (lenOf pd_11 rfl) rfl (W := 2) rfl (by first | decide | (dsimp only; omega)) (by first | decide | (dsimp only; omega)) (by first | decide | (dsimp only; omega)) (by first | decide | (dsimp only; omega)) ?_
    rintro _ _ _ ⟨rfl, u, cu, rfl, rfl, hU⟩
    refine OWp.iconst hk d_LNS_19 (pc' := 20) rfl (z := 0) rfl ?_
    have hU2 : AC Z cu .byte (oBytes (subL cs a b)) := by
      rw [bytes_lat (subL_lat hl), subL_len hbn]
      exact hU.congr fun j hj => by rw [subL_get hj]
    refine OWp.callI hk d_LNS_20 (pc' := 23) rfl rfl (hw _ (List.mem_of_getElem? (i := 120) rfl)) (hw _ (List.mem_of_getElem? (i := 121) rfl)) (hw _ (List.mem_of_getElem? (i := 13) rfl)) (hw _ (List.mem_of_getElem? (i := 122) rfl)) (by decide) (c_SBB hw hEL hE hV hC hU2 (subL_ch hcs) (by simp [cdOf, subL_lat hl])) rfl (by simp) rfl (lenOf pd_12 rfl) rfl (W := 1) rfl (by first | decide | (dsimp only; omega)) (by first | decide | (dsimp only; omega)) (by first | decide | (dsimp only; omega)) (by first | decide | (dsimp only; omega)) ?_
    rintro _ _ _ ⟨rfl, rfl, cx2, rfl, hS⟩
    exact OWp.retA hk rfl rfl rfl d_LNS_23 ⟨rfl, x, u, cx2, cu, rfl, rfl, hS⟩ (List.Sublist.refl _) (fun _ h => by simpa using h) (by decide) (by decide)
theorem c_SUB (hw : ∀ d ∈ tables_1, d.before a0 Z = true) (hEL : EW Z a0 EL) (O2 : Sta Z Z.heap "java/lang/String" "COMPACT_STRINGS" "Z" (.int zc)) (hzc : ¬ zc = 0) (O4 : Sta Z Z.heap "jdk/internal/util/Preconditions" "SIOOBE_FORMATTER" "Ljava/util/function/BiFunction;" fm) (hf : fm.isRef = true) (hlt : a < b) (hs : SC Z t cx ct cs) (hl : lat cs = true) (hab : a ≤ b) (hbn : b ≤ cs.length) (hcap : b - a ≤ kCap) :
    OCon l Z EL (⟨"java/lang/String", "substring", "(II)Ljava/lang/String;"⟩ : MethodName) jdk_42_method_92_code 5 (some (.object "java/lang/String")) [] ({ frames := 4, cells := 2, slots := kCap + 4, locals := 64 } : Room) #[.ref x, .int (Int32.ofNat a), .int (Int32.ofNat b)] [] [(x, cx), (t, ct)]
      (fun v M N => M = [] ∧ ∃ y u cy cu, v = some (.ref y) ∧ SC Z u cy cu (subL cs a b) ∧ ((N = [] ∧ y = x ∧ u = t ∧ cy = cx ∧ cu = ct) ∨ N = [(y, cy), (u, cu)])) := by
  have hc4 := hs.2.2.2.2.2
  refine OCon.of_wp (L0 := [.val (.ref x), .val (.int (Int32.ofNat a)), .val (.int (Int32.ofNat b)), .unset, .unset]) pn_SUB hEL (fun m => by first | (simp [entryFrame, mkF, argsToLocals, Value.category]; done) | rfl) ?_
  intro p e s m below meth c hk
  refine OWp.aload_n hk d_SUB_0 (pc' := 1) rfl rfl rfl ?_
  refine OWp.callV hk d_SUB_1 (pc' := 4) rfl (hw _ (List.mem_of_getElem? (i := 91) rfl)) (hw _ (List.mem_of_getElem? (i := 52) rfl)) (nfs (hw _ (List.mem_of_getElem? (i := 54) rfl))) (hw _ (List.mem_of_getElem? (i := 54) rfl)) (hw _ (List.mem_of_getElem? (i := 53) rfl)) (hw _ (List.mem_of_getElem? (i := 13) rfl)) (hw _ (List.mem_of_getElem? (i := 55) rfl)) (by decide) (by simp) hs.1 (c_LEN hw hEL O2 hzc hs) rfl (by simp) rfl (lenOf pd_13 rfl) rfl (W := 0) rfl (by first | decide | (dsimp only; omega)) (by first | decide | (dsimp only; omega)) (by first | decide | (dsimp only; omega)) (by first | decide | (dsimp only; omega)) ?_
  rintro _ _ _ ⟨rfl, rfl, rfl⟩
  refine OWp.istore_n hk d_SUB_4 (pc' := 5) rfl (kn := 3) rfl rfl (by simp only [List.set_cons_zero, List.set_cons_succ]; rfl) ?_
  refine OWp.iload_n hk d_SUB_5 (pc' := 6) rfl rfl ?_
  refine OWp.iload_n hk d_SUB_6 (pc' := 7) rfl rfl ?_
  refine OWp.iload_n hk d_SUB_7 (pc' := 8) rfl rfl ?_
  refine OWp.callS hk d_SUB_8 (pc' := 11) rfl (hw _ (List.mem_of_getElem? (i := 92) rfl)) (hw _ (List.mem_of_getElem? (i := 93) rfl)) (hw _ (List.mem_of_getElem? (i := 13) rfl)) (hw _ (List.mem_of_getElem? (i := 94) rfl)) (by decide) (c_CBE hw hEL O4 hf hab hbn (by omega)) rfl (by simp) rfl (lenOf pd_14 rfl) rfl (W := 0) rfl (by first | decide | (dsimp only; omega)) (by first | decide | (dsimp only; omega)) (by first | decide | (dsimp only; omega)) (by first | decide | (dsimp only; omega)) ?_
  rintro _ _ _ ⟨rfl, rfl, rfl⟩
  have tail : ¬ (a = 0 ∧ b = cs.length) → OWp p l e ({ frames := 4, cells := 2, slots := kCap + 4, locals := 64 } : Room) s m #[.ref x, .int (Int32.ofNat a), .int (Int32.ofNat b)] below meth c "java/lang/String" Z EL (dom []) [(x, cx), (t, ct)] (fun v M N => M = [] ∧ ∃ y u cy cu, v = some (.ref y) ∧ SC Z u cy cu (subL cs a b) ∧ ((N = [] ∧ y = x ∧ u = t ∧ cy = cx ∧ cu = ct) ∨ N = [(y, cy), (u, cu)])) [] [] 0 0 22 [.val (.ref x), .val (.int (Int32.ofNat a)), .val (.int (Int32.ofNat b)), .val (.int (Int32.ofNat cs.length)), .unset] [] := by
    intro hne
    refine OWp.iload_n hk d_SUB_22 (pc' := 23) rfl rfl ?_
    refine OWp.iload_n hk d_SUB_23 (pc' := 24) rfl rfl ?_
    refine OWp.isub hk d_SUB_24 (pc' := 25) rfl ?_
    rw [n_sub hab (by omega)]
    refine OWp.istore hk d_SUB_25 (pc' := 27) rfl rfl (by simp only [List.set_cons_zero, List.set_cons_succ]; rfl) ?_
    refine OWp.aload_n hk d_SUB_27 (pc' := 28) rfl rfl rfl ?_
    refine OWp.callV hk d_SUB_28 (pc' := 31) rfl (hw _ (List.mem_of_getElem? (i := 66) rfl)) (hw _ (List.mem_of_getElem? (i := 67) rfl)) (nfs (hw _ (List.mem_of_getElem? (i := 69) rfl))) (hw _ (List.mem_of_getElem? (i := 69) rfl)) (hw _ (List.mem_of_getElem? (i := 68) rfl)) (hw _ (List.mem_of_getElem? (i := 13) rfl)) (hw _ (List.mem_of_getElem? (i := 70) rfl)) (by decide) (by simp) hs.1 (c_ISL hw hEL O2 hzc hs) rfl (by simp) rfl (lenOf pd_7 rfl) rfl (W := 0) rfl (by first | decide | (dsimp only; omega)) (by first | decide | (dsimp only; omega)) (by first | decide | (dsimp only; omega)) (by first | decide | (dsimp only; omega)) ?_
    rintro _ _ _ ⟨rfl, rfl, rfl⟩
    refine OWp.ifNo hk d_SUB_31 (XT.i0_eq_f (by rw [hl]; decide)) (pc' := 34) rfl ?_
    refine OWp.aload_n hk d_SUB_34 (pc' := 35) rfl rfl rfl ?_
    refine OWp.getfield hk d_SUB_35 (pc' := 38) rfl (hw _ (List.mem_of_getElem? (i := 38) rfl)) (by simp) hs.2.1 ?_
    refine OWp.iload_n hk d_SUB_38 (pc' := 39) rfl rfl ?_
    refine OWp.iload hk d_SUB_39 (pc' := 41) rfl rfl ?_
    refine OWp.callS hk d_SUB_41 (pc' := 44) rfl (hw _ (List.mem_of_getElem? (i := 98) rfl)) (hw _ (List.mem_of_getElem? (i := 99) rfl)) (hw _ (List.mem_of_getElem? (i := 73) rfl)) (hw _ (List.mem_of_getElem? (i := 100) rfl)) (by decide) (c_LNS hw hEL hlt hs.2.2.2.1 hl hs.2.2.2.2 hab hbn hcap hne) rfl (by simp) rfl (lenOf pd_15 rfl) rfl (W := 0) rfl (by first | decide | (dsimp only; omega)) (by first | decide | (dsimp only; omega)) (by first | decide | (dsimp only; omega)) (by first | decide | (dsimp only; omega)) ?_
    rintro _ _ _ ⟨rfl, y, u, cy, cu, rfl, rfl, hS⟩
    refine OWp.goto hk d_SUB_44 (by decide) (pc' := 57) rfl ?_
    exact OWp.retA hk rfl rfl rfl d_SUB_57 ⟨rfl, y, u, cy, cu, rfl, hS, Or.inr rfl⟩ (List.Sublist.refl _) (fun _ h => by simpa using h) (by decide) (by decide)
  refine OWp.iload_n hk d_SUB_11 (pc' := 12) rfl rfl ?_
  by_cases h0 : a = 0
  · refine OWp.ifNo hk d_SUB_12 (XT.i0_ne_f (by rw [h0]; rfl)) (pc' := 15) rfl ?_
    refine OWp.iload_n hk d_SUB_15 (pc' := 16) rfl rfl ?_
    refine OWp.iload_n hk d_SUB_16 (pc' := 17) rfl rfl ?_
    by_cases h1 : b = cs.length
    · refine OWp.icmpNo hk d_SUB_17 (XT.ii_ne_f (by rw [h1])) (pc' := 20) rfl ?_
      refine OWp.aload_n hk d_SUB_20 (pc' := 21) rfl rfl rfl ?_
      exact OWp.retA hk rfl rfl rfl d_SUB_21 ⟨rfl, x, t, cx, ct, rfl, by rw [h0, h1, subL_all]; exact hs, Or.inl ⟨rfl, rfl, rfl, rfl, rfl⟩⟩ (List.Sublist.refl _) (fun _ h => h) (by decide) (by decide)
    · refine OWp.icmpYes hk d_SUB_17 (XT.ii_ne_t (by rw [n_inj (by omega) (by omega)]; exact h1)) (by decide) (pc' := 22) rfl ?_
      exact tail fun q => h1 q.2
  · refine OWp.ifYes hk d_SUB_12 (XT.i0_ne_t (by rw [show (0 : Int32) = Int32.ofNat 0 from rfl, n_inj (by omega) (by omega)]; exact h0)) (by decide) (pc' := 22) rfl ?_
    exact tail fun q => h0 q.1
end StrSubN
theorem d_ASBI_0 : decode jdk_68_method_2_code 0 = .ok (.aload_n 0, 1) := by decide +kernel
theorem d_ASBI_1 : decode jdk_68_method_2_code 1 = .ok (.invokespecial 3, 3) := by decide +kernel
theorem d_ASBI_4 : decode jdk_68_method_2_code 4 = .ok (.getstatic 18, 3) := by decide +kernel
theorem d_ASBI_7 : decode jdk_68_method_2_code 7 = .ok (.ifCond .eq 18, 3) := by decide +kernel
theorem d_ASBI_10 : decode jdk_68_method_2_code 10 = .ok (.aload_n 0, 1) := by decide +kernel
theorem d_ASBI_11 : decode jdk_68_method_2_code 11 = .ok (.iload_n 1, 1) := by decide +kernel
theorem d_ASBI_12 : decode jdk_68_method_2_code 12 = .ok (.newarray .byte, 2) := by decide +kernel
theorem d_ASBI_14 : decode jdk_68_method_2_code 14 = .ok (.putfield 15, 3) := by decide +kernel
theorem d_ASBI_17 : decode jdk_68_method_2_code 17 = .ok (.aload_n 0, 1) := by decide +kernel
theorem d_ASBI_18 : decode jdk_68_method_2_code 18 = .ok (.iconst 0, 1) := by decide +kernel
theorem d_ASBI_19 : decode jdk_68_method_2_code 19 = .ok (.putfield 22, 3) := by decide +kernel
theorem d_ASBI_22 : decode jdk_68_method_2_code 22 = .ok (.goto 16, 3) := by decide +kernel
theorem d_ASBI_25 : decode jdk_68_method_2_code 25 = .ok (.aload_n 0, 1) := by decide +kernel
theorem d_ASBI_26 : decode jdk_68_method_2_code 26 = .ok (.iload_n 1, 1) := by decide +kernel
theorem d_ASBI_27 : decode jdk_68_method_2_code 27 = .ok (.invokestatic 26, 3) := by decide +kernel
theorem d_ASBI_30 : decode jdk_68_method_2_code 30 = .ok (.putfield 15, 3) := by decide +kernel
theorem d_ASBI_33 : decode jdk_68_method_2_code 33 = .ok (.aload_n 0, 1) := by decide +kernel
theorem d_ASBI_34 : decode jdk_68_method_2_code 34 = .ok (.iconst 1, 1) := by decide +kernel
theorem d_ASBI_35 : decode jdk_68_method_2_code 35 = .ok (.putfield 22, 3) := by decide +kernel
theorem d_ASBI_38 : decode jdk_68_method_2_code 38 = .ok (.return_, 1) := by decide +kernel
theorem pn_ASBI : plainFor (⟨"java/lang/AbstractStringBuilder", "<init>", "(I)V"⟩ : MethodName) = true := by first | exact plainFor_of_name (by first | (simp [plainName, overriddenIn]; done) | decide +kernel) | decide +kernel
section StrSBI
variable {l : Launch} {Z : State} {a0 : Array Value} {EL : List (String × Nat)} {zc cd : Int32} {x t : Addr} {csb ct : Cell} {n : Nat} {v0 v1 : Value}
theorem c_ASBI (hw : ∀ d ∈ tables_1, d.before a0 Z = true) (hEL : EW Z a0 EL) (O2 : Sta Z Z.heap "java/lang/String" "COMPACT_STRINGS" "Z" (.int zc)) (hzc : ¬ zc = 0) (hE : EC Z csb "java/lang/StringBuilder") (F_value : FC Z csb "java/lang/AbstractStringBuilder" "value" "[B" v0) (F_coder : FC Z csb "java/lang/AbstractStringBuilder" "coder" "B" v1) (F_count : FC Z csb "java/lang/AbstractStringBuilder" "count" "I" (.int 0)) (hn : n ≤ kSB) (h0 : n ≤ 2000) :
    OCon l Z EL (⟨"java/lang/AbstractStringBuilder", "<init>", "(I)V"⟩ : MethodName) jdk_68_method_2_code 2 none [] ({ frames := 1, cells := 1, slots := kSB, locals := 14 } : Room) #[.ref x, .int (Int32.ofNat n)] [(x, csb)] []
      (fun v M N => v = none ∧ N = [] ∧ ∃ csb' t ct, M = [(x, csb'), (t, ct)] ∧ SBF Z t csb' ct [] n) := by
  refine OCon.of_wp (L0 := [.val (.ref x), .val (.int (Int32.ofNat n))]) pn_ASBI hEL (fun m => by first | (simp [entryFrame, mkF, argsToLocals, Value.category]; done) | rfl) ?_
  intro p e s m below meth c' hk
  refine OWp.aload_n hk d_ASBI_0 (pc' := 1) rfl rfl rfl ?_
  refine OWp.initO hk d_ASBI_1 (pc' := 4) rfl (hw _ (List.mem_of_getElem? (i := 183) rfl)) (hw _ (List.mem_of_getElem? (i := 22) rfl)) (hw _ (List.mem_of_getElem? (i := 23) rfl)) rfl (by first | decide | (dsimp only; omega)) (W := 0) rfl (by first | decide | (dsimp only; omega)) ?_
  refine OWp.getstatic hk d_ASBI_4 (pc' := 7) rfl (hw _ (List.mem_of_getElem? (i := 184) rfl)) O2 ?_
  refine OWp.ifNo hk d_ASBI_7 (XT.i0_eq_f hzc) (pc' := 10) rfl ?_
  refine OWp.aload_n hk d_ASBI_10 (pc' := 11) rfl rfl rfl ?_
  refine OWp.iload_n hk d_ASBI_11 (pc' := 12) rfl rfl ?_
  refine OWp.newarray hk d_ASBI_12 (pc' := 14) rfl (hw _ (List.mem_of_getElem? (i := 29) rfl)) (n_nn (by omega)) (cap := kSB) (by rw [n_nat (by omega)]; exact hn) (by decide) (by decide) (by decide) (vs := tab n fun _ => .int 0) (by rw [n_nat (by omega)]; exact tab_rep _ _) ?_
  intro u cu hU
  refine OWp.perm (M' := [(x, csb), (u, cu)]) (List.Perm.swap ..) ?_
  refine OWp.putfield hk d_ASBI_14 (pc' := 17) rfl (hw _ (List.mem_of_getElem? (i := 185) rfl)) (i := 0) rfl F_value hE (Or.inl (hw _ (List.mem_of_getElem? (i := 186) rfl))) (hw _ (List.mem_of_getElem? (i := 172) rfl)) (ty := (.array .byte)) (by decide) rfl rfl ?_
  intro ck hE F_value hK
  have F_coder := hK F_coder (slot_ne (Or.inl (hw _ (List.mem_of_getElem? (i := 188) rfl))) (Or.inl (hw _ (List.mem_of_getElem? (i := 186) rfl))) (by decide) (t := .byte) (by decide) (t' := (.array .byte)) (by decide))
  have F_count := hK F_count (slot_ne (Or.inl (hw _ (List.mem_of_getElem? (i := 200) rfl))) (Or.inl (hw _ (List.mem_of_getElem? (i := 186) rfl))) (by decide) (t := .int) (by decide) (t' := (.array .byte)) (by decide))
  simp only [List.nil_append, List.cons_append, List.set_cons_zero]
  refine OWp.aload_n hk d_ASBI_17 (pc' := 18) rfl rfl rfl ?_
  refine OWp.iconst hk d_ASBI_18 (pc' := 19) rfl (z := 0) rfl ?_
  refine OWp.putfield hk d_ASBI_19 (pc' := 22) rfl (hw _ (List.mem_of_getElem? (i := 187) rfl)) (i := 0) rfl F_coder hE (Or.inl (hw _ (List.mem_of_getElem? (i := 188) rfl))) (hw _ (List.mem_of_getElem? (i := 172) rfl)) (ty := .byte) (by decide) rfl rfl ?_
  intro ck hE F_coder hK
  have F_value := hK F_value (slot_ne (Or.inl (hw _ (List.mem_of_getElem? (i := 186) rfl))) (Or.inl (hw _ (List.mem_of_getElem? (i := 188) rfl))) (by decide) (t := (.array .byte)) (by decide) (t' := .byte) (by decide))
  have F_count := hK F_count (slot_ne (Or.inl (hw _ (List.mem_of_getElem? (i := 200) rfl))) (Or.inl (hw _ (List.mem_of_getElem? (i := 188) rfl))) (by decide) (t := .int) (by decide) (t' := .byte) (by decide))
  simp only [List.nil_append, List.cons_append, List.set_cons_zero]
  refine OWp.goto hk d_ASBI_22 (by decide) (pc' := 38) rfl ?_
  exact OWp.ret0 hk d_ASBI_38 (M' := [(x, ck), (u, cu)]) (N' := []) ⟨rfl, rfl, ck, u, cu, rfl, ⟨hE, F_value, F_coder, F_count⟩, ⟨_, by rw [show wOf [] * n = n from Nat.one_mul n]; exact hU, fun j hj => absurd hj (Nat.not_lt_zero _)⟩, Nat.zero_le _, h0, ch_nil⟩ (List.Sublist.refl _) (by simp) (by decide) (by decide)
end StrSBI
theorem d_SBN_0 : decode jdk_67_method_2_code 0 = .ok (.aload_n 0, 1) := by decide +kernel
theorem d_SBN_1 : decode jdk_67_method_2_code 1 = .ok (.iload_n 1, 1) := by decide +kernel
theorem d_SBN_2 : decode jdk_67_method_2_code 2 = .ok (.invokespecial 1, 3) := by decide +kernel
theorem d_SBN_5 : decode jdk_67_method_2_code 5 = .ok (.return_, 1) := by decide +kernel
theorem pn_SBN : plainFor (⟨"java/lang/StringBuilder", "<init>", "(I)V"⟩ : MethodName) = true := by first | exact plainFor_of_name (by first | (simp [plainName, overriddenIn]; done) | decide +kernel) | decide +kernel
section StrSBN
variable {l : Launch} {Z : State} {a0 : Array Value} {EL : List (String × Nat)} {zc : Int32} {x : Addr} {csb : Cell} {n : Nat} {v0 v1 : Value}
theorem c_SBN (hw : ∀ d ∈ tables_1, d.before a0 Z = true) (hEL : EW Z a0 EL) (O2 : Sta Z Z.heap "java/lang/String" "COMPACT_STRINGS" "Z" (.int zc)) (hzc : ¬ zc = 0) (hE : EC Z csb "java/lang/StringBuilder") (F_value : FC Z csb "java/lang/AbstractStringBuilder" "value" "[B" v0) (F_coder : FC Z csb "java/lang/AbstractStringBuilder" "coder" "B" v1) (F_count : FC Z csb "java/lang/AbstractStringBuilder" "count" "I" (.int 0)) (hn : n ≤ kSB) (h0 : n ≤ 2000) :
    OCon l Z EL (⟨"java/lang/StringBuilder", "<init>", "(I)V"⟩ : MethodName) jdk_67_method_2_code 2 none [] ({ frames := 2, cells := 1, slots := kSB, locals := 27 } : Room) #[.ref x, .int (Int32.ofNat n)] [(x, csb)] []
      (fun v M N => v = none ∧ N = [] ∧ ∃ csb' t ct, M = [(x, csb'), (t, ct)] ∧ SBF Z t csb' ct [] n) := by
  refine OCon.of_wp (L0 := [.val (.ref x), .val (.int (Int32.ofNat n))]) pn_SBN hEL (fun m => by first | (simp [entryFrame, mkF, argsToLocals, Value.category]; done) | rfl) ?_
  intro p e s m below meth c hk
  refine OWp.aload_n hk d_SBN_0 (pc' := 1) rfl rfl rfl ?_
  refine OWp.iload_n hk d_SBN_1 (pc' := 2) rfl rfl ?_
  refine OWp.callI hk d_SBN_2 (pc' := 5) rfl rfl (hw _ (List.mem_of_getElem? (i := 177) rfl)) (hw _ (List.mem_of_getElem? (i := 178) rfl)) (hw _ (List.mem_of_getElem? (i := 181) rfl)) (hw _ (List.mem_of_getElem? (i := 182) rfl)) (by decide) (c_ASBI hw hEL O2 hzc hE F_value F_coder F_count hn h0) rfl (by simp) rfl (lenOf pd_16 rfl) rfl (W := 0) rfl (by first | decide | (dsimp only; omega)) (by first | decide | (dsimp only; omega)) (by first | decide | (dsimp only; omega)) (by first | decide | (dsimp only; omega)) ?_
  rintro _ _ _ ⟨rfl, rfl, csb2, t2, ct2, rfl, hB2⟩
  exact OWp.ret0 hk d_SBN_5 (M' := [(x, csb2), (t2, ct2)]) (N' := []) ⟨rfl, rfl, csb2, t2, ct2, rfl, hB2⟩ (List.Sublist.refl _) (by simp) (by decide) (by decide)
end StrSBN
theorem d_ECI_0 : decode jdk_68_method_9_code 0 = .ok (.aload_n 0, 1) := by decide +kernel
theorem d_ECI_1 : decode jdk_68_method_9_code 1 = .ok (.getfield 15, 3) := by decide +kernel
theorem d_ECI_4 : decode jdk_68_method_9_code 4 = .ok (.arraylength, 1) := by decide +kernel
theorem d_ECI_5 : decode jdk_68_method_9_code 5 = .ok (.aload_n 0, 1) := by decide +kernel
theorem d_ECI_6 : decode jdk_68_method_9_code 6 = .ok (.getfield 22, 3) := by decide +kernel
theorem d_ECI_9 : decode jdk_68_method_9_code 9 = .ok (.ishr, 1) := by decide +kernel
theorem d_ECI_10 : decode jdk_68_method_9_code 10 = .ok (.istore_n 2, 1) := by decide +kernel
theorem d_ECI_11 : decode jdk_68_method_9_code 11 = .ok (.iload_n 1, 1) := by decide +kernel
theorem d_ECI_12 : decode jdk_68_method_9_code 12 = .ok (.iload_n 2, 1) := by decide +kernel
theorem d_ECI_13 : decode jdk_68_method_9_code 13 = .ok (.isub, 1) := by decide +kernel
theorem d_ECI_14 : decode jdk_68_method_9_code 14 = .ok (.ifCond .le 24, 3) := by decide +kernel
theorem d_ECI_17 : decode jdk_68_method_9_code 17 = .ok (.aload_n 0, 1) := by decide +kernel
theorem d_ECI_18 : decode jdk_68_method_9_code 18 = .ok (.aload_n 0, 1) := by decide +kernel
theorem d_ECI_19 : decode jdk_68_method_9_code 19 = .ok (.getfield 15, 3) := by decide +kernel
theorem d_ECI_22 : decode jdk_68_method_9_code 22 = .ok (.aload_n 0, 1) := by decide +kernel
theorem d_ECI_23 : decode jdk_68_method_9_code 23 = .ok (.iload_n 1, 1) := by decide +kernel
theorem d_ECI_24 : decode jdk_68_method_9_code 24 = .ok (.invokevirtual 104, 3) := by decide +kernel
theorem d_ECI_27 : decode jdk_68_method_9_code 27 = .ok (.aload_n 0, 1) := by decide +kernel
theorem d_ECI_28 : decode jdk_68_method_9_code 28 = .ok (.getfield 22, 3) := by decide +kernel
theorem d_ECI_31 : decode jdk_68_method_9_code 31 = .ok (.ishl, 1) := by decide +kernel
theorem d_ECI_32 : decode jdk_68_method_9_code 32 = .ok (.invokestatic 108, 3) := by decide +kernel
theorem d_ECI_35 : decode jdk_68_method_9_code 35 = .ok (.putfield 15, 3) := by decide +kernel
theorem d_ECI_38 : decode jdk_68_method_9_code 38 = .ok (.return_, 1) := by decide +kernel
theorem pn_ECI : plainFor (⟨"java/lang/AbstractStringBuilder", "ensureCapacityInternal", "(I)V"⟩ : MethodName) = true := by first | exact plainFor_of_name (by first | (simp [plainName, overriddenIn]; done) | decide +kernel) | decide +kernel
section StrECI0
variable {l : Launch} {Z : State} {a0 : Array Value} {EL : List (String × Nat)} {cd : Int32} {x t : Addr} {csb ct : Cell} {w cap mn cnt : Nat} {f : Nat → Value}
/-- room enough already -/
theorem c_ECI0 (hw : ∀ d ∈ tables_1, d.before a0 Z = true) (hEL : EW Z a0 EL) (hcw : CW cd w) (hB : BC Z csb t cd cnt) (hA : AC Z ct .byte (tab (w * cap) f)) (hc : cap ≤ 2000) (hm : mn ≤ cap) :
    OCon l Z EL (⟨"java/lang/AbstractStringBuilder", "ensureCapacityInternal", "(I)V"⟩ : MethodName) jdk_68_method_9_code 3 none [] ({ frames := 0, cells := 0, slots := 0, locals := 0 } : Room) #[.ref x, .int (Int32.ofNat mn)] [] [(x, csb), (t, ct)] (fun v M N => v = none ∧ M = [] ∧ N = []) := by
  refine OCon.of_wp (L0 := [.val (.ref x), .val (.int (Int32.ofNat mn)), .unset]) pn_ECI hEL (fun m => by first | (simp [entryFrame, mkF, argsToLocals, Value.category]; done) | rfl) ?_
  intro p e s m below meth c' hk
  refine OWp.aload_n hk d_ECI_0 (pc' := 1) rfl rfl rfl ?_
  refine OWp.getfield hk d_ECI_1 (pc' := 4) rfl (hw _ (List.mem_of_getElem? (i := 185) rfl)) (by simp) hB.2.1 ?_
  refine OWp.arraylength hk d_ECI_4 (pc' := 5) rfl (by simp) hA (z := Int32.ofNat (w * cap)) (by rw [tab_len]) ?_
  refine OWp.aload_n hk d_ECI_5 (pc' := 6) rfl rfl rfl ?_
  refine OWp.getfield hk d_ECI_6 (pc' := 9) rfl (hw _ (List.mem_of_getElem? (i := 187) rfl)) (by simp) hB.2.2.1 ?_
  refine OWp.ishr hk d_ECI_9 (pc' := 10) rfl ?_
  rw [hcw.shr (by omega)]
  refine OWp.istore_n hk d_ECI_10 (pc' := 11) rfl (kn := 2) rfl rfl (by simp only [List.set_cons_zero, List.set_cons_succ]; rfl) ?_
  refine OWp.iload_n hk d_ECI_11 (pc' := 12) rfl rfl ?_
  refine OWp.iload_n hk d_ECI_12 (pc' := 13) rfl rfl ?_
  refine OWp.isub hk d_ECI_13 (pc' := 14) rfl ?_
  refine OWp.ifYes hk d_ECI_14 (XT.i0_le_t (by rw [sub_pos (by omega) (by omega)]; omega)) (by decide) (pc' := 38) rfl ?_
  exact OWp.ret0 hk d_ECI_38 ⟨rfl, rfl, rfl⟩ (List.Sublist.refl _) (fun _ h => h) (by decide) (by decide)
end StrECI0
theorem d_CEN_0 : decode jdk_43_method_3_code 0 = .ok (.iload_n 0, 1) := by decide +kernel
theorem d_CEN_1 : decode jdk_43_method_3_code 1 = .ok (.sipush 255, 3) := by decide +kernel
theorem d_CEN_4 : decode jdk_43_method_3_code 4 = .ok (.if_icmp .gt 7, 3) := by decide +kernel
theorem d_CEN_7 : decode jdk_43_method_3_code 7 = .ok (.iconst 1, 1) := by decide +kernel
theorem d_CEN_8 : decode jdk_43_method_3_code 8 = .ok (.goto 4, 3) := by decide +kernel
theorem d_CEN_11 : decode jdk_43_method_3_code 11 = .ok (.iconst 0, 1) := by decide +kernel
theorem d_CEN_12 : decode jdk_43_method_3_code 12 = .ok (.ireturn, 1) := by decide +kernel
theorem pn_CEN : plainFor (⟨"java/lang/StringLatin1", "canEncode", "(C)Z"⟩ : MethodName) = true := by first | exact plainFor_of_name (by first | (simp [plainName, overriddenIn]; done) | decide +kernel) | decide +kernel
section StrCEN
variable {l : Launch} {Z : State} {a0 : Array Value} {EL : List (String × Nat)} {zc c : Int32} {x t : Addr} {cx ct : Cell} {cs : List Int32}
theorem c_CEN (hw : ∀ d ∈ tables_1, d.before a0 Z = true) (hEL : EW Z a0 EL) (h1 : ¬ (255 : Int32) < c) :
    OCon l Z EL (⟨"java/lang/StringLatin1", "canEncode", "(C)Z"⟩ : MethodName) jdk_43_method_3_code 1 (some .boolean) [] ({ frames := 0, cells := 0, slots := 0, locals := 0 } : Room) #[.int c] [] [] (fun v M N => v = some (.int 1) ∧ M = [] ∧ N = []) := by
  refine OCon.of_wp (L0 := [.val (.int c)]) pn_CEN hEL (fun m => by first | (simp [entryFrame, mkF, argsToLocals, Value.category]; done) | rfl) ?_
  intro p e s m below meth c' hk
  refine OWp.iload_n hk d_CEN_0 (pc' := 1) rfl rfl ?_
  refine OWp.sipush hk d_CEN_1 (pc' := 4) rfl (z := 255) rfl ?_
  refine OWp.icmpNo hk d_CEN_4 (XT.ii_gt_f h1) (pc' := 7) rfl ?_
  refine OWp.iconst hk d_CEN_7 (pc' := 8) rfl (z := 1) rfl ?_
  refine OWp.goto hk d_CEN_8 (by decide) (pc' := 12) rfl ?_
  exact OWp.retN hk (Or.inl rfl) d_CEN_12 ⟨rfl, rfl, rfl⟩ (List.Sublist.refl _) (fun _ h => h) (by decide) (by decide)
end StrCEN
theorem d_ISLB_0 : decode jdk_68_method_68_code 0 = .ok (.getstatic 18, 3) := by decide +kernel
theorem d_ISLB_3 : decode jdk_68_method_68_code 3 = .ok (.ifCond .eq 14, 3) := by decide +kernel
theorem d_ISLB_6 : decode jdk_68_method_68_code 6 = .ok (.aload_n 0, 1) := by decide +kernel
theorem d_ISLB_7 : decode jdk_68_method_68_code 7 = .ok (.getfield 22, 3) := by decide +kernel
theorem d_ISLB_10 : decode jdk_68_method_68_code 10 = .ok (.ifCond .ne 7, 3) := by decide +kernel
theorem d_ISLB_13 : decode jdk_68_method_68_code 13 = .ok (.iconst 1, 1) := by decide +kernel
theorem d_ISLB_14 : decode jdk_68_method_68_code 14 = .ok (.goto 4, 3) := by decide +kernel
theorem d_ISLB_17 : decode jdk_68_method_68_code 17 = .ok (.iconst 0, 1) := by decide +kernel
theorem d_ISLB_18 : decode jdk_68_method_68_code 18 = .ok (.ireturn, 1) := by decide +kernel
theorem pn_ISLB : plainFor (⟨"java/lang/AbstractStringBuilder", "isLatin1", "()Z"⟩ : MethodName) = true := by first | exact plainFor_of_name (by first | (simp [plainName, overriddenIn]; done) | decide +kernel) | decide +kernel
section StrISLB
variable {l : Launch} {Z : State} {a0 : Array Value} {EL : List (String × Nat)} {zc cd : Int32} {x t y : Addr} {csb ct cy : Cell} {cs : List Int32} {n w k cap cnt : Nat} {f : Nat → Value} {v0 v1 : Value}
theorem c_ISLB (hw : ∀ d ∈ tables_1, d.before a0 Z = true) (hEL : EW Z a0 EL) (O2 : Sta Z Z.heap "java/lang/String" "COMPACT_STRINGS" "Z" (.int zc)) (hzc : ¬ zc = 0) (hB : BC Z csb t 0 cnt) :
    OCon l Z EL (⟨"java/lang/AbstractStringBuilder", "isLatin1", "()Z"⟩ : MethodName) jdk_68_method_68_code 1 (some .boolean) [] ({ frames := 0, cells := 0, slots := 0, locals := 0 } : Room) #[.ref x] [] [(x, csb)] (fun v M N => v = some (.int 1) ∧ M = [] ∧ N = []) := by
  refine OCon.of_wp (L0 := [.val (.ref x)]) pn_ISLB hEL (fun m => by first | (simp [entryFrame, mkF, argsToLocals, Value.category]; done) | rfl) ?_
  intro p e s m below meth c hk
  refine OWp.getstatic hk d_ISLB_0 (pc' := 3) rfl (hw _ (List.mem_of_getElem? (i := 184) rfl)) O2 ?_
  refine OWp.ifNo hk d_ISLB_3 (XT.i0_eq_f hzc) (pc' := 6) rfl ?_
  refine OWp.aload_n hk d_ISLB_6 (pc' := 7) rfl rfl rfl ?_
  refine OWp.getfield hk d_ISLB_7 (pc' := 10) rfl (hw _ (List.mem_of_getElem? (i := 187) rfl)) (by simp) hB.2.2.1 ?_
  refine OWp.ifNo hk d_ISLB_10 (XT.i0_ne_f rfl) (pc' := 13) rfl ?_
  refine OWp.iconst hk d_ISLB_13 (pc' := 14) rfl (z := 1) rfl ?_
  refine OWp.goto hk d_ISLB_14 (by decide) (pc' := 18) rfl ?_
  exact OWp.retN hk (Or.inl rfl) d_ISLB_18 ⟨rfl, rfl, rfl⟩ (List.Sublist.refl _) (fun _ h => h) (by decide) (by decide)
end StrISLB
theorem d_GV_0 : decode jdk_68_method_64_code 0 = .ok (.aload_n 0, 1) := by decide +kernel
theorem d_GV_1 : decode jdk_68_method_64_code 1 = .ok (.getfield 15, 3) := by decide +kernel
theorem d_GV_4 : decode jdk_68_method_64_code 4 = .ok (.areturn, 1) := by decide +kernel
theorem pn_GV : plainFor (⟨"java/lang/AbstractStringBuilder", "getValue", "()[B"⟩ : MethodName) = true := by first | exact plainFor_of_name (by first | (simp [plainName, overriddenIn]; done) | decide +kernel) | decide +kernel
theorem d_ABL_0 : decode jdk_68_method_6_code 0 = .ok (.aload_n 0, 1) := by decide +kernel
theorem d_ABL_1 : decode jdk_68_method_6_code 1 = .ok (.getfield 79, 3) := by decide +kernel
theorem d_ABL_4 : decode jdk_68_method_6_code 4 = .ok (.ireturn, 1) := by decide +kernel
theorem pn_ABL : plainFor (⟨"java/lang/AbstractStringBuilder", "length", "()I"⟩ : MethodName) = true := by first | exact plainFor_of_name (by first | (simp [plainName, overriddenIn]; done) | decide +kernel) | decide +kernel
theorem d_SBLN_0 : decode jdk_67_method_93_code 0 = .ok (.aload_n 0, 1) := by decide +kernel
theorem d_SBLN_1 : decode jdk_67_method_93_code 1 = .ok (.invokespecial 343, 3) := by decide +kernel
theorem d_SBLN_4 : decode jdk_67_method_93_code 4 = .ok (.ireturn, 1) := by decide +kernel
theorem pn_SBLN : plainFor (⟨"java/lang/StringBuilder", "length", "()I"⟩ : MethodName) = true := by first | exact plainFor_of_name (by first | (simp [plainName, overriddenIn]; done) | decide +kernel) | decide +kernel
theorem d_S2B_0 : decode jdk_42_method_150_code 0 = .ok (.aload_n 0, 1) := by decide +kernel
theorem d_S2B_1 : decode jdk_42_method_150_code 1 = .ok (.invokespecial 1, 3) := by decide +kernel
theorem d_S2B_4 : decode jdk_42_method_150_code 4 = .ok (.aload_n 1, 1) := by decide +kernel
theorem d_S2B_5 : decode jdk_42_method_150_code 5 = .ok (.invokevirtual 552, 3) := by decide +kernel
theorem d_S2B_8 : decode jdk_42_method_150_code 8 = .ok (.astore_n 3, 1) := by decide +kernel
theorem d_S2B_9 : decode jdk_42_method_150_code 9 = .ok (.aload_n 1, 1) := by decide +kernel
theorem d_S2B_10 : decode jdk_42_method_150_code 10 = .ok (.invokevirtual 549, 3) := by decide +kernel
theorem d_S2B_13 : decode jdk_42_method_150_code 13 = .ok (.istore 4, 2) := by decide +kernel
theorem d_S2B_15 : decode jdk_42_method_150_code 15 = .ok (.aload_n 1, 1) := by decide +kernel
theorem d_S2B_16 : decode jdk_42_method_150_code 16 = .ok (.invokevirtual 1047, 3) := by decide +kernel
theorem d_S2B_19 : decode jdk_42_method_150_code 19 = .ok (.ifCond .eq 22, 3) := by decide +kernel
theorem d_S2B_22 : decode jdk_42_method_150_code 22 = .ok (.aload_n 0, 1) := by decide +kernel
theorem d_S2B_23 : decode jdk_42_method_150_code 23 = .ok (.iconst 0, 1) := by decide +kernel
theorem d_S2B_24 : decode jdk_42_method_150_code 24 = .ok (.putfield 15, 3) := by decide +kernel
theorem d_S2B_27 : decode jdk_42_method_150_code 27 = .ok (.aload_n 0, 1) := by decide +kernel
theorem d_S2B_28 : decode jdk_42_method_150_code 28 = .ok (.aload_n 3, 1) := by decide +kernel
theorem d_S2B_29 : decode jdk_42_method_150_code 29 = .ok (.iconst 0, 1) := by decide +kernel
theorem d_S2B_30 : decode jdk_42_method_150_code 30 = .ok (.iload 4, 2) := by decide +kernel
theorem d_S2B_32 : decode jdk_42_method_150_code 32 = .ok (.invokestatic 54, 3) := by decide +kernel
theorem d_S2B_35 : decode jdk_42_method_150_code 35 = .ok (.putfield 9, 3) := by decide +kernel
theorem d_S2B_38 : decode jdk_42_method_150_code 38 = .ok (.goto 59, 3) := by decide +kernel
theorem d_S2B_41 : decode jdk_42_method_150_code 41 = .ok (.getstatic 38, 3) := by decide +kernel
theorem d_S2B_44 : decode jdk_42_method_150_code 44 = .ok (.ifCond .eq 35, 3) := by decide +kernel
theorem d_S2B_47 : decode jdk_42_method_150_code 47 = .ok (.aload_n 1, 1) := by decide +kernel
theorem d_S2B_48 : decode jdk_42_method_150_code 48 = .ok (.getfield 1048, 3) := by decide +kernel
theorem d_S2B_51 : decode jdk_42_method_150_code 51 = .ok (.ifCond .eq 28, 3) := by decide +kernel
theorem d_S2B_54 : decode jdk_42_method_150_code 54 = .ok (.aload_n 0, 1) := by decide +kernel
theorem d_S2B_55 : decode jdk_42_method_150_code 55 = .ok (.aload_n 3, 1) := by decide +kernel
theorem d_S2B_56 : decode jdk_42_method_150_code 56 = .ok (.iconst 0, 1) := by decide +kernel
theorem d_S2B_57 : decode jdk_42_method_150_code 57 = .ok (.iload 4, 2) := by decide +kernel
theorem d_S2B_59 : decode jdk_42_method_150_code 59 = .ok (.invokestatic 1051, 3) := by decide +kernel
theorem d_S2B_62 : decode jdk_42_method_150_code 62 = .ok (.putfield 9, 3) := by decide +kernel
theorem d_S2B_65 : decode jdk_42_method_150_code 65 = .ok (.aload_n 0, 1) := by decide +kernel
theorem d_S2B_66 : decode jdk_42_method_150_code 66 = .ok (.aload_n 0, 1) := by decide +kernel
theorem d_S2B_67 : decode jdk_42_method_150_code 67 = .ok (.getfield 9, 3) := by decide +kernel
theorem d_S2B_70 : decode jdk_42_method_150_code 70 = .ok (.iload 4, 2) := by decide +kernel
theorem d_S2B_72 : decode jdk_42_method_150_code 72 = .ok (.invokestatic 47, 3) := by decide +kernel
theorem d_S2B_75 : decode jdk_42_method_150_code 75 = .ok (.putfield 15, 3) := by decide +kernel
theorem d_S2B_78 : decode jdk_42_method_150_code 78 = .ok (.return_, 1) := by decide +kernel
theorem d_S2B_79 : decode jdk_42_method_150_code 79 = .ok (.aload_n 0, 1) := by decide +kernel
theorem d_S2B_80 : decode jdk_42_method_150_code 80 = .ok (.iconst 1, 1) := by decide +kernel
theorem d_S2B_81 : decode jdk_42_method_150_code 81 = .ok (.putfield 15, 3) := by decide +kernel
theorem d_S2B_84 : decode jdk_42_method_150_code 84 = .ok (.aload_n 0, 1) := by decide +kernel
theorem d_S2B_85 : decode jdk_42_method_150_code 85 = .ok (.aload_n 3, 1) := by decide +kernel
theorem d_S2B_86 : decode jdk_42_method_150_code 86 = .ok (.iconst 0, 1) := by decide +kernel
theorem d_S2B_87 : decode jdk_42_method_150_code 87 = .ok (.iload 4, 2) := by decide +kernel
theorem d_S2B_89 : decode jdk_42_method_150_code 89 = .ok (.iconst 1, 1) := by decide +kernel
theorem d_S2B_90 : decode jdk_42_method_150_code 90 = .ok (.ishl, 1) := by decide +kernel
theorem d_S2B_91 : decode jdk_42_method_150_code 91 = .ok (.invokestatic 54, 3) := by decide +kernel
theorem d_S2B_94 : decode jdk_42_method_150_code 94 = .ok (.putfield 9, 3) := by decide +kernel
theorem d_S2B_97 : decode jdk_42_method_150_code 97 = .ok (.return_, 1) := by decide +kernel
theorem pn_S2B : plainFor (⟨"java/lang/String", "<init>", "(Ljava/lang/AbstractStringBuilder;Ljava/lang/Void;)V"⟩ : MethodName) = true := by first | exact plainFor_of_name (by first | (simp [plainName, overriddenIn]; done) | decide +kernel) | decide +kernel
theorem d_S1B_0 : decode jdk_42_method_53_code 0 = .ok (.aload_n 0, 1) := by decide +kernel
theorem d_S1B_1 : decode jdk_42_method_53_code 1 = .ok (.aload_n 1, 1) := by decide +kernel
theorem d_S1B_2 : decode jdk_42_method_53_code 2 = .ok (.aconst_null, 1) := by decide +kernel
theorem d_S1B_3 : decode jdk_42_method_53_code 3 = .ok (.invokespecial 489, 3) := by decide +kernel
theorem d_S1B_6 : decode jdk_42_method_53_code 6 = .ok (.return_, 1) := by decide +kernel
theorem pn_S1B : plainFor (⟨"java/lang/String", "<init>", "(Ljava/lang/StringBuilder;)V"⟩ : MethodName) = true := by first | exact plainFor_of_name (by first | (simp [plainName, overriddenIn]; done) | decide +kernel) | decide +kernel
theorem d_TS_0 : decode jdk_67_method_42_code 0 = .ok (.new 18, 3) := by decide +kernel
theorem d_TS_3 : decode jdk_67_method_42_code 3 = .ok (.dup, 1) := by decide +kernel
theorem d_TS_4 : decode jdk_67_method_42_code 4 = .ok (.aload_n 0, 1) := by decide +kernel
theorem d_TS_5 : decode jdk_67_method_42_code 5 = .ok (.invokespecial 137, 3) := by decide +kernel
theorem d_TS_8 : decode jdk_67_method_42_code 8 = .ok (.areturn, 1) := by decide +kernel
theorem pn_TS : plainFor (⟨"java/lang/StringBuilder", "toString", "()Ljava/lang/String;"⟩ : MethodName) = true := by first | exact plainFor_of_name (by first | (simp [plainName, overriddenIn]; done) | decide +kernel) | decide +kernel
section StrSBT
variable {l : Launch} {Z : State} {a0 : Array Value} {EL : List (String × Nat)} {zc cd : Int32} {x t y : Addr} {csb ct cy : Cell} {cs : List Int32} {n w k cap cnt : Nat} {f : Nat → Value} {v0 v1 : Value}
theorem c_GV (hw : ∀ d ∈ tables_1, d.before a0 Z = true) (hEL : EW Z a0 EL) (hB : BC Z csb t cd cnt) :
    OCon l Z EL (⟨"java/lang/AbstractStringBuilder", "getValue", "()[B"⟩ : MethodName) jdk_68_method_64_code 1 (some (.array .byte)) [] ({ frames := 0, cells := 0, slots := 0, locals := 0 } : Room) #[.ref x] [] [(x, csb)] (fun v M N => v = some (.ref t) ∧ M = [] ∧ N = []) := by
  refine OCon.of_wp (L0 := [.val (.ref x)]) pn_GV hEL (fun m => by first | (simp [entryFrame, mkF, argsToLocals, Value.category]; done) | rfl) ?_
  intro p e s m below meth c hk
  refine OWp.aload_n hk d_GV_0 (pc' := 1) rfl rfl rfl ?_
  refine OWp.getfield hk d_GV_1 (pc' := 4) rfl (hw _ (List.mem_of_getElem? (i := 185) rfl)) (by simp) hB.2.1 ?_
  exact OWp.retA hk rfl rfl rfl d_GV_4 ⟨rfl, rfl, rfl⟩ (List.Sublist.refl _) (fun _ h => h) (by decide) (by decide)
theorem c_ABL (hw : ∀ d ∈ tables_1, d.before a0 Z = true) (hEL : EW Z a0 EL) (hB : BC Z csb t cd cnt) :
    OCon l Z EL (⟨"java/lang/AbstractStringBuilder", "length", "()I"⟩ : MethodName) jdk_68_method_6_code 1 (some .int) [] ({ frames := 0, cells := 0, slots := 0, locals := 0 } : Room) #[.ref x] [] [(x, csb)] (fun v M N => v = some (.int (Int32.ofNat cnt)) ∧ M = [] ∧ N = []) := by
  refine OCon.of_wp (L0 := [.val (.ref x)]) pn_ABL hEL (fun m => by first | (simp [entryFrame, mkF, argsToLocals, Value.category]; done) | rfl) ?_
  intro p e s m below meth c hk
  refine OWp.aload_n hk d_ABL_0 (pc' := 1) rfl rfl rfl ?_
  refine OWp.getfield hk d_ABL_1 (pc' := 4) rfl (hw _ (List.mem_of_getElem? (i := 199) rfl)) (by simp) hB.2.2.2 ?_
  exact OWp.retI hk d_ABL_4 ⟨rfl, rfl, rfl⟩ (List.Sublist.refl _) (fun _ h => h) (by decide) (by decide)
theorem c_SBLN (hw : ∀ d ∈ tables_1, d.before a0 Z = true) (hEL : EW Z a0 EL) (hB : BC Z csb t cd cnt) :
    OCon l Z EL (⟨"java/lang/StringBuilder", "length", "()I"⟩ : MethodName) jdk_67_method_93_code 1 (some .int) [] ({ frames := 1, cells := 0, slots := 0, locals := 12 } : Room) #[.ref x] [] [(x, csb)] (fun v M N => v = some (.int (Int32.ofNat cnt)) ∧ M = [] ∧ N = []) := by
  refine OCon.of_wp (L0 := [.val (.ref x)]) pn_SBLN hEL (fun m => by first | (simp [entryFrame, mkF, argsToLocals, Value.category]; done) | rfl) ?_
  intro p e s m below meth c hk
  refine OWp.aload_n hk d_SBLN_0 (pc' := 1) rfl rfl rfl ?_
  refine OWp.callU hk d_SBLN_1 (pc' := 4) rfl (hw _ (List.mem_of_getElem? (i := 237) rfl)) (sameM (ret' := none) (hw _ (List.mem_of_getElem? (i := 204) rfl)) rfl (hw _ (List.mem_of_getElem? (i := 233) rfl)) (by decide)) (hw _ (List.mem_of_getElem? (i := 196) rfl)) (hw _ (List.mem_of_getElem? (i := 233) rfl)) (by decide) (hw _ (List.mem_of_getElem? (i := 181) rfl)) (hw _ (List.mem_of_getElem? (i := 238) rfl)) (by simp) hB.1 (c_ABL hw hEL hB) rfl (by simp) rfl (lenOf pd_13 rfl) rfl (W := 0) rfl (by first | decide | (dsimp only; omega)) (by first | decide | (dsimp only; omega)) (by first | decide | (dsimp only; omega)) (by first | decide | (dsimp only; omega)) ?_
  rintro _ _ _ ⟨rfl, rfl, rfl⟩
  exact OWp.retI hk d_SBLN_4 ⟨rfl, rfl, rfl⟩ (List.Sublist.refl _) (fun _ h => h) (by decide) (by decide)
theorem c_S2B (hw : ∀ d ∈ tables_1, d.before a0 Z = true) (hEL : EW Z a0 EL) (O2 : Sta Z Z.heap "java/lang/String" "COMPACT_STRINGS" "Z" (.int zc)) (hzc : ¬ zc = 0) (hE : EC Z cy "java/lang/String") (F_value : FC Z cy "java/lang/String" "value" "[B" v0) (F_coder : FC Z cy "java/lang/String" "coder" "B" v1) (hB : SBF Z t csb ct cs cap) (hl : lat cs = true) (hne : ¬ cs.length = cap) (hcap : cs.length ≤ kCap) :
    OCon l Z EL (⟨"java/lang/String", "<init>", "(Ljava/lang/AbstractStringBuilder;Ljava/lang/Void;)V"⟩ : MethodName) jdk_42_method_150_code 5 none [] ({ frames := 3, cells := 1, slots := kCap, locals := 49 } : Room) #[.ref y, .ref x, .null] [(y, cy)] [(x, csb), (t, ct)]
      (fun v M N => v = none ∧ M = [] ∧ ∃ u cy' cu, N = [(y, cy'), (u, cu)] ∧ SC Z u cy' cu cs) := by
  refine OCon.of_wp (L0 := [.val (.ref y), .val (.ref x), .val .null, .unset, .unset]) pn_S2B hEL (fun m => by first | (simp [entryFrame, mkF, argsToLocals, Value.category]; done) | rfl) ?_
  intro p e s m below meth c hk
  obtain ⟨hB0, ⟨f, hA, hf⟩, hle, hc2, hch⟩ := hB
  rw [w_lat hl] at hA hf
  rw [cd_lat hl] at hB0
  refine OWp.aload_n hk d_S2B_0 (pc' := 1) rfl rfl rfl ?_
  refine OWp.initO hk d_S2B_1 (pc' := 4) rfl (hw _ (List.mem_of_getElem? (i := 21) rfl)) (hw _ (List.mem_of_getElem? (i := 22) rfl)) (hw _ (List.mem_of_getElem? (i := 23) rfl)) rfl (by first | decide | (dsimp only; omega)) (W := 0) rfl (by first | decide | (dsimp only; omega)) ?_
  refine OWp.aload_n hk d_S2B_4 (pc' := 5) rfl rfl rfl ?_
  refine OWp.callV hk d_S2B_5 (pc' := 8) rfl (hw _ (List.mem_of_getElem? (i := 226) rfl)) (hw _ (List.mem_of_getElem? (i := 227) rfl)) (nfs (hw _ (List.mem_of_getElem? (i := 229) rfl))) (hw _ (List.mem_of_getElem? (i := 229) rfl)) (hw _ (List.mem_of_getElem? (i := 228) rfl)) (hw _ (List.mem_of_getElem? (i := 181) rfl)) (hw _ (List.mem_of_getElem? (i := 230) rfl)) (by decide) (by simp) hB0.1 (c_GV hw hEL hB0) rfl (by simp) rfl (lenOf pd_17 rfl) rfl (W := 0) rfl (by first | decide | (dsimp only; omega)) (by first | decide | (dsimp only; omega)) (by first | decide | (dsimp only; omega)) (by first | decide | (dsimp only; omega)) ?_
  rintro _ _ _ ⟨rfl, rfl, rfl⟩
  refine OWp.astore_n hk d_S2B_8 (pc' := 9) rfl (kn := 3) rfl rfl rfl (by simp only [List.set_cons_zero, List.set_cons_succ]; rfl) ?_
  refine OWp.aload_n hk d_S2B_9 (pc' := 10) rfl rfl rfl ?_
  refine OWp.callV hk d_S2B_10 (pc' := 13) rfl (hw _ (List.mem_of_getElem? (i := 231) rfl)) (hw _ (List.mem_of_getElem? (i := 232) rfl)) (nfs2 (hw _ (List.mem_of_getElem? (i := 204) rfl)) rfl) (hw _ (List.mem_of_getElem? (i := 234) rfl)) (hw _ (List.mem_of_getElem? (i := 235) rfl)) (hw _ (List.mem_of_getElem? (i := 173) rfl)) (hw _ (List.mem_of_getElem? (i := 236) rfl)) (by decide) (by simp) hB0.1 (c_SBLN hw hEL hB0) rfl (by simp) rfl (lenOf pd_13 rfl) rfl (W := 0) rfl (by first | decide | (dsimp only; omega)) (by first | decide | (dsimp only; omega)) (by first | decide | (dsimp only; omega)) (by first | decide | (dsimp only; omega)) ?_
  rintro _ _ _ ⟨rfl, rfl, rfl⟩
  refine OWp.istore hk d_S2B_13 (pc' := 15) rfl rfl (by simp only [List.set_cons_zero, List.set_cons_succ]; rfl) ?_
  refine OWp.aload_n hk d_S2B_15 (pc' := 16) rfl rfl rfl ?_
  refine OWp.callV hk d_S2B_16 (pc' := 19) rfl (hw _ (List.mem_of_getElem? (i := 239) rfl)) (hw _ (List.mem_of_getElem? (i := 207) rfl)) (nfs (hw _ (List.mem_of_getElem? (i := 209) rfl))) (hw _ (List.mem_of_getElem? (i := 209) rfl)) (hw _ (List.mem_of_getElem? (i := 208) rfl)) (hw _ (List.mem_of_getElem? (i := 181) rfl)) (hw _ (List.mem_of_getElem? (i := 210) rfl)) (by decide) (by simp) hB0.1 (c_ISLB hw hEL O2 hzc hB0) rfl (by simp) rfl (lenOf pd_7 rfl) rfl (W := 0) rfl (by first | decide | (dsimp only; omega)) (by first | decide | (dsimp only; omega)) (by first | decide | (dsimp only; omega)) (by first | decide | (dsimp only; omega)) ?_
  rintro _ _ _ ⟨rfl, rfl, rfl⟩
  refine OWp.ifNo hk d_S2B_19 (XT.i0_eq_f (by decide)) (pc' := 22) rfl ?_
  refine OWp.aload_n hk d_S2B_22 (pc' := 23) rfl rfl rfl ?_
  refine OWp.iconst hk d_S2B_23 (pc' := 24) rfl (z := 0) rfl ?_
  refine OWp.putfield hk d_S2B_24 (pc' := 27) rfl (hw _ (List.mem_of_getElem? (i := 36) rfl)) (i := 0) rfl F_coder hE (Or.inr ⟨(hw _ (List.mem_of_getElem? (i := 37) rfl)), rfl, rfl⟩) (hw _ (List.mem_of_getElem? (i := 12) rfl)) (ty := .byte) (by decide) rfl rfl ?_
  intro ck hE F_coder hK
  have F_value := hK F_value (slot_ne (Or.inr (hw _ (List.mem_of_getElem? (i := 39) rfl))) (Or.inr (hw _ (List.mem_of_getElem? (i := 37) rfl))) (by decide) (t := (.array .byte)) (by decide) (t' := .byte) (by decide))
  simp only [List.nil_append, List.cons_append, List.set_cons_zero]
  refine OWp.aload_n hk d_S2B_27 (pc' := 28) rfl rfl rfl ?_
  refine OWp.aload_n hk d_S2B_28 (pc' := 29) rfl rfl rfl ?_
  refine OWp.iconst hk d_S2B_29 (pc' := 30) rfl (z := 0) rfl ?_
  refine OWp.iload hk d_S2B_30 (pc' := 32) rfl rfl ?_
  refine OWp.callS hk d_S2B_32 (pc' := 35) rfl (hw _ (List.mem_of_getElem? (i := 240) rfl)) (hw _ (List.mem_of_getElem? (i := 103) rfl)) (hw _ (List.mem_of_getElem? (i := 104) rfl)) (hw _ (List.mem_of_getElem? (i := 105) rfl)) (by decide) (c_COR (a := 0) (b := cs.length) (n := 1 * cap) hw hEL hA (Nat.zero_le _) (by omega) (by omega) (by omega)) rfl (by simp) rfl (lenOf pd_11 rfl) rfl (W := 1) rfl (by first | decide | (dsimp only; omega)) (by first | decide | (dsimp only; omega)) (by first | decide | (dsimp only; omega)) (by first | decide | (dsimp only; omega)) ?_
  rintro _ _ _ ⟨rfl, u, cu, rfl, rfl, hU⟩
  refine OWp.putfield hk d_S2B_35 (pc' := 38) rfl (hw _ (List.mem_of_getElem? (i := 38) rfl)) (i := 0) rfl F_value hE (Or.inr ⟨(hw _ (List.mem_of_getElem? (i := 39) rfl)), rfl, rfl⟩) (hw _ (List.mem_of_getElem? (i := 12) rfl)) (ty := (.array .byte)) (by decide) rfl rfl ?_
  intro ck hE F_value hK
  have F_coder := hK F_coder (slot_ne (Or.inr (hw _ (List.mem_of_getElem? (i := 37) rfl))) (Or.inr (hw _ (List.mem_of_getElem? (i := 39) rfl))) (by decide) (t := .byte) (by decide) (t' := (.array .byte)) (by decide))
  simp only [List.nil_append, List.cons_append, List.set_cons_zero]
  refine OWp.goto hk d_S2B_38 (by decide) (pc' := 97) rfl ?_
  refine OWp.freeze ?_
  exact OWp.ret0 hk d_S2B_97 (N' := [(y, ck), (u, cu)]) ⟨rfl, rfl, u, ck, cu, rfl, hE, F_value, by rw [cd_lat hl]; exact F_coder, by
    rw [bytes_lat hl]
    have hU' := hU
    rw [Nat.sub_zero] at hU'
    exact hU'.congr fun j hj => by rw [Nat.zero_add, hf j (by omega), oAt_lat hl hj], hch⟩ (List.nil_sublist _) (by simp) (by decide) (by decide)
theorem c_S1B (hw : ∀ d ∈ tables_1, d.before a0 Z = true) (hEL : EW Z a0 EL) (O2 : Sta Z Z.heap "java/lang/String" "COMPACT_STRINGS" "Z" (.int zc)) (hzc : ¬ zc = 0) (hE : EC Z cy "java/lang/String") (F_value : FC Z cy "java/lang/String" "value" "[B" v0) (F_coder : FC Z cy "java/lang/String" "coder" "B" v1) (hB : SBF Z t csb ct cs cap) (hl : lat cs = true) (hne : ¬ cs.length = cap) (hcap : cs.length ≤ kCap) :
    OCon l Z EL (⟨"java/lang/String", "<init>", "(Ljava/lang/StringBuilder;)V"⟩ : MethodName) jdk_42_method_53_code 2 none [] ({ frames := 4, cells := 1, slots := kCap, locals := 65 } : Room) #[.ref y, .ref x] [(y, cy)] [(x, csb), (t, ct)]
      (fun v M N => v = none ∧ M = [] ∧ ∃ u cy' cu, N = [(y, cy'), (u, cu)] ∧ SC Z u cy' cu cs) := by
  refine OCon.of_wp (L0 := [.val (.ref y), .val (.ref x)]) pn_S1B hEL (fun m => by first | (simp [entryFrame, mkF, argsToLocals, Value.category]; done) | rfl) ?_
  intro p e s m below meth c hk
  refine OWp.aload_n hk d_S1B_0 (pc' := 1) rfl rfl rfl ?_
  refine OWp.aload_n hk d_S1B_1 (pc' := 2) rfl rfl rfl ?_
  refine OWp.aconst_null hk d_S1B_2 (pc' := 3) rfl ?_
  refine OWp.callI hk d_S1B_3 (pc' := 6) rfl rfl (hw _ (List.mem_of_getElem? (i := 223) rfl)) (hw _ (List.mem_of_getElem? (i := 224) rfl)) (hw _ (List.mem_of_getElem? (i := 13) rfl)) (hw _ (List.mem_of_getElem? (i := 225) rfl)) (by decide) (c_S2B hw hEL O2 hzc hE F_value F_coder hB hl hne hcap) rfl (by simp) rfl (lenOf pd_18 rfl) rfl (W := 0) rfl (by first | decide | (dsimp only; omega)) (by first | decide | (dsimp only; omega)) (by first | decide | (dsimp only; omega)) (by first | decide | (dsimp only; omega)) ?_
  rintro _ _ _ ⟨rfl, rfl, u, cy', cu, rfl, hS⟩
  exact OWp.ret0 hk d_S1B_6 (N' := [(y, cy'), (u, cu)]) ⟨rfl, rfl, u, cy', cu, rfl, hS⟩ (List.nil_sublist _) (by simp) (by decide) (by decide)
theorem c_TS (hw : ∀ d ∈ tables_1, d.before a0 Z = true) (hEL : EW Z a0 EL) (O2 : Sta Z Z.heap "java/lang/String" "COMPACT_STRINGS" "Z" (.int zc)) (hzc : ¬ zc = 0) (hB : SBF Z t csb ct cs cap) (hl : lat cs = true) (hne : ¬ cs.length = cap) (hcap : cs.length ≤ kCap) :
    OCon l Z EL (⟨"java/lang/StringBuilder", "toString", "()Ljava/lang/String;"⟩ : MethodName) jdk_67_method_42_code 1 (some (.object "java/lang/String")) [] ({ frames := 5, cells := 2, slots := kCap + 4, locals := 79 } : Room) #[.ref x] [] [(x, csb), (t, ct)]
      (fun v M N => M = [] ∧ ∃ y u cy cu, v = some (.ref y) ∧ N = [(y, cy), (u, cu)] ∧ SC Z u cy cu cs) := by
  refine OCon.of_wp (L0 := [.val (.ref x)]) pn_TS hEL (fun m => by first | (simp [entryFrame, mkF, argsToLocals, Value.category]; done) | rfl) ?_
  intro p e s m below meth c hk
  refine OWp.new hk d_TS_0 (pc' := 3) rfl (hw _ (List.mem_of_getElem? (i := 219) rfl)) (hw _ (List.mem_of_getElem? (i := 12) rfl)) (hw _ (List.mem_of_getElem? (i := 13) rfl)) (by decide) (by decide) ?_
  intro y cy hE hD
  have hV : FC Z cy "java/lang/String" "value" "[B" .null := hD (Or.inr (hw _ (List.mem_of_getElem? (i := 39) rfl))) (ty := .array .byte) (by decide)
  have hC : FC Z cy "java/lang/String" "coder" "B" (.int 0) := hD (Or.inr (hw _ (List.mem_of_getElem? (i := 37) rfl))) (ty := .byte) (by decide)
  refine OWp.dup hk d_TS_3 (pc' := 4) rfl rfl ?_
  refine OWp.aload_n hk d_TS_4 (pc' := 5) rfl rfl rfl ?_
  refine OWp.callI hk d_TS_5 (pc' := 8) rfl rfl (hw _ (List.mem_of_getElem? (i := 220) rfl)) (hw _ (List.mem_of_getElem? (i := 221) rfl)) (hw _ (List.mem_of_getElem? (i := 13) rfl)) (hw _ (List.mem_of_getElem? (i := 222) rfl)) (by decide) (c_S1B hw hEL O2 hzc hE hV hC hB hl hne hcap) rfl (by simp) rfl (lenOf pd_19 rfl) rfl (W := 1) rfl (by first | decide | (dsimp only; omega)) (by first | decide | (dsimp only; omega)) (by first | decide | (dsimp only; omega)) (by first | decide | (dsimp only; omega)) ?_
  rintro _ _ _ ⟨rfl, rfl, u, cy', cu, rfl, hS⟩
  exact OWp.retA hk rfl rfl rfl d_TS_8 (M' := []) (N' := [(y, cy'), (u, cu)]) ⟨rfl, y, u, cy', cu, rfl, rfl, hS⟩ (List.nil_sublist _) (by simp) (by decide) (by decide)
end StrSBT
theorem d_APC_0 : decode jdk_68_method_31_code 0 = .ok (.aload_n 0, 1) := by decide +kernel
theorem d_APC_1 : decode jdk_68_method_31_code 1 = .ok (.aload_n 0, 1) := by decide +kernel
theorem d_APC_2 : decode jdk_68_method_31_code 2 = .ok (.getfield 79, 3) := by decide +kernel
theorem d_APC_5 : decode jdk_68_method_31_code 5 = .ok (.iconst 1, 1) := by decide +kernel
theorem d_APC_6 : decode jdk_68_method_31_code 6 = .ok (.iadd, 1) := by decide +kernel
theorem d_APC_7 : decode jdk_68_method_31_code 7 = .ok (.invokevirtual 100, 3) := by decide +kernel
theorem d_APC_10 : decode jdk_68_method_31_code 10 = .ok (.aload_n 0, 1) := by decide +kernel
theorem d_APC_11 : decode jdk_68_method_31_code 11 = .ok (.invokevirtual 83, 3) := by decide +kernel
theorem d_APC_14 : decode jdk_68_method_31_code 14 = .ok (.ifCond .eq 31, 3) := by decide +kernel
theorem d_APC_17 : decode jdk_68_method_31_code 17 = .ok (.iload_n 1, 1) := by decide +kernel
theorem d_APC_18 : decode jdk_68_method_31_code 18 = .ok (.invokestatic 191, 3) := by decide +kernel
theorem d_APC_21 : decode jdk_68_method_31_code 21 = .ok (.ifCond .eq 24, 3) := by decide +kernel
theorem d_APC_24 : decode jdk_68_method_31_code 24 = .ok (.aload_n 0, 1) := by decide +kernel
theorem d_APC_25 : decode jdk_68_method_31_code 25 = .ok (.getfield 15, 3) := by decide +kernel
theorem d_APC_28 : decode jdk_68_method_31_code 28 = .ok (.aload_n 0, 1) := by decide +kernel
theorem d_APC_29 : decode jdk_68_method_31_code 29 = .ok (.dup, 1) := by decide +kernel
theorem d_APC_30 : decode jdk_68_method_31_code 30 = .ok (.getfield 79, 3) := by decide +kernel
theorem d_APC_33 : decode jdk_68_method_31_code 33 = .ok (.dup_x1, 1) := by decide +kernel
theorem d_APC_34 : decode jdk_68_method_31_code 34 = .ok (.iconst 1, 1) := by decide +kernel
theorem d_APC_35 : decode jdk_68_method_31_code 35 = .ok (.iadd, 1) := by decide +kernel
theorem d_APC_36 : decode jdk_68_method_31_code 36 = .ok (.putfield 79, 3) := by decide +kernel
theorem d_APC_39 : decode jdk_68_method_31_code 39 = .ok (.iload_n 1, 1) := by decide +kernel
theorem d_APC_40 : decode jdk_68_method_31_code 40 = .ok (.i2b, 1) := by decide +kernel
theorem d_APC_41 : decode jdk_68_method_31_code 41 = .ok (.bastore, 1) := by decide +kernel
theorem d_APC_42 : decode jdk_68_method_31_code 42 = .ok (.goto 33, 3) := by decide +kernel
theorem d_APC_45 : decode jdk_68_method_31_code 45 = .ok (.aload_n 0, 1) := by decide +kernel
theorem d_APC_46 : decode jdk_68_method_31_code 46 = .ok (.invokevirtual 83, 3) := by decide +kernel
theorem d_APC_49 : decode jdk_68_method_31_code 49 = .ok (.ifCond .eq 7, 3) := by decide +kernel
theorem d_APC_52 : decode jdk_68_method_31_code 52 = .ok (.aload_n 0, 1) := by decide +kernel
theorem d_APC_53 : decode jdk_68_method_31_code 53 = .ok (.invokevirtual 195, 3) := by decide +kernel
theorem d_APC_56 : decode jdk_68_method_31_code 56 = .ok (.aload_n 0, 1) := by decide +kernel
theorem d_APC_57 : decode jdk_68_method_31_code 57 = .ok (.getfield 15, 3) := by decide +kernel
theorem d_APC_60 : decode jdk_68_method_31_code 60 = .ok (.aload_n 0, 1) := by decide +kernel
theorem d_APC_61 : decode jdk_68_method_31_code 61 = .ok (.dup, 1) := by decide +kernel
theorem d_APC_62 : decode jdk_68_method_31_code 62 = .ok (.getfield 79, 3) := by decide +kernel
theorem d_APC_65 : decode jdk_68_method_31_code 65 = .ok (.dup_x1, 1) := by decide +kernel
theorem d_APC_66 : decode jdk_68_method_31_code 66 = .ok (.iconst 1, 1) := by decide +kernel
theorem d_APC_67 : decode jdk_68_method_31_code 67 = .ok (.iadd, 1) := by decide +kernel
theorem d_APC_68 : decode jdk_68_method_31_code 68 = .ok (.putfield 79, 3) := by decide +kernel
theorem d_APC_71 : decode jdk_68_method_31_code 71 = .ok (.iload_n 1, 1) := by decide +kernel
theorem d_APC_72 : decode jdk_68_method_31_code 72 = .ok (.invokestatic 197, 3) := by decide +kernel
theorem d_APC_75 : decode jdk_68_method_31_code 75 = .ok (.aload_n 0, 1) := by decide +kernel
theorem d_APC_76 : decode jdk_68_method_31_code 76 = .ok (.areturn, 1) := by decide +kernel
theorem pn_APC : plainFor (⟨"java/lang/AbstractStringBuilder", "append", "(C)Ljava/lang/AbstractStringBuilder;"⟩ : MethodName) = true := by first | exact plainFor_of_name (by first | (simp [plainName, overriddenIn]; done) | decide +kernel) | decide +kernel
theorem d_SAC_0 : decode jdk_67_method_14_code 0 = .ok (.aload_n 0, 1) := by decide +kernel
theorem d_SAC_1 : decode jdk_67_method_14_code 1 = .ok (.iload_n 1, 1) := by decide +kernel
theorem d_SAC_2 : decode jdk_67_method_14_code 2 = .ok (.invokespecial 50, 3) := by decide +kernel
theorem d_SAC_5 : decode jdk_67_method_14_code 5 = .ok (.pop, 1) := by decide +kernel
theorem d_SAC_6 : decode jdk_67_method_14_code 6 = .ok (.aload_n 0, 1) := by decide +kernel
theorem d_SAC_7 : decode jdk_67_method_14_code 7 = .ok (.areturn, 1) := by decide +kernel
theorem pn_SAC : plainFor (⟨"java/lang/StringBuilder", "append", "(C)Ljava/lang/StringBuilder;"⟩ : MethodName) = true := by first | exact plainFor_of_name (by first | (simp [plainName, overriddenIn]; done) | decide +kernel) | decide +kernel
section StrAPC
variable {l : Launch} {Z : State} {a0 : Array Value} {EL : List (String × Nat)} {zc ch : Int32} {x t : Addr} {csb ct : Cell} {cs : List Int32} {cap : Nat}
/-- append(char) within the room that is there, Latin-1 -/
theorem c_APC (hw : ∀ d ∈ tables_1, d.before a0 Z = true) (hEL : EW Z a0 EL) (O2 : Sta Z Z.heap "java/lang/String" "COMPACT_STRINGS" "Z" (.int zc)) (hzc : ¬ zc = 0) (hB : SBF Z t csb ct cs cap) (hl : lat cs = true) (h0 : ¬ ch < 0) (h1 : ¬ (255 : Int32) < ch) (hlt : cs.length < cap) :
    OCon l Z EL (⟨"java/lang/AbstractStringBuilder", "append", "(C)Ljava/lang/AbstractStringBuilder;"⟩ : MethodName) jdk_68_method_31_code 2 (some (.object "java/lang/AbstractStringBuilder")) [] ({ frames := 1, cells := 0, slots := 0, locals := 14 } : Room) #[.ref x, .int ch] [(x, csb), (t, ct)] []
      (fun v M N => v = some (.ref x) ∧ N = [] ∧ ∃ csb' ct', M = [(x, csb'), (t, ct')] ∧ SBF Z t csb' ct' (cs ++ [ch]) cap) := by
  refine OCon.of_wp (L0 := [.val (.ref x), .val (.int ch)]) pn_APC hEL (fun m => by first | (simp [entryFrame, mkF, argsToLocals, Value.category]; done) | rfl) ?_
  intro p e s m below meth c hk
  obtain ⟨hB0, ⟨f, hA, hf⟩, hle, hc2, hch⟩ := hB
  rw [w_lat hl] at hA hf
  rw [cd_lat hl] at hB0
  have hl1 : lat [ch] = true := lat_cons h1 rfl
  have hch1 : Chars [ch] := ⟨fun q hq => by rw [List.mem_singleton.mp hq]; exact ⟨h0, lt_65535 h1⟩, by simp⟩
  refine OWp.aload_n hk d_APC_0 (pc' := 1) rfl rfl rfl ?_
  refine OWp.aload_n hk d_APC_1 (pc' := 2) rfl rfl rfl ?_
  refine OWp.getfield hk d_APC_2 (pc' := 5) rfl (hw _ (List.mem_of_getElem? (i := 199) rfl)) (by simp) hB0.2.2.2 ?_
  refine OWp.iconst hk d_APC_5 (pc' := 6) rfl (z := 1) rfl ?_
  refine OWp.iadd hk d_APC_6 (pc' := 7) rfl ?_
  rw [n_succ]
  refine OWp.callP hk d_APC_7 (pc' := 10) rfl (hw _ (List.mem_of_getElem? (i := 201) rfl)) (hw _ (List.mem_of_getElem? (i := 203) rfl)) (hw _ (List.mem_of_getElem? (i := 204) rfl)) (hw _ (List.mem_of_getElem? (i := 202) rfl)) (hw _ (List.mem_of_getElem? (i := 181) rfl)) (hw _ (List.mem_of_getElem? (i := 205) rfl)) (by decide) (by simp) hB0.1 (c_ECI0 hw hEL (Or.inl ⟨rfl, rfl⟩) hB0 hA hc2 hlt) rfl (by simp) rfl (lenOf pd_16 rfl) rfl (W := 0) rfl (by first | decide | (dsimp only; omega)) (by first | decide | (dsimp only; omega)) (by first | decide | (dsimp only; omega)) (by first | decide | (dsimp only; omega)) ?_
  rintro _ _ _ ⟨rfl, rfl, rfl⟩
  refine OWp.aload_n hk d_APC_10 (pc' := 11) rfl rfl rfl ?_
  refine OWp.callV hk d_APC_11 (pc' := 14) rfl (hw _ (List.mem_of_getElem? (i := 206) rfl)) (hw _ (List.mem_of_getElem? (i := 207) rfl)) (nfs (hw _ (List.mem_of_getElem? (i := 209) rfl))) (hw _ (List.mem_of_getElem? (i := 209) rfl)) (hw _ (List.mem_of_getElem? (i := 208) rfl)) (hw _ (List.mem_of_getElem? (i := 181) rfl)) (hw _ (List.mem_of_getElem? (i := 210) rfl)) (by decide) (by simp) hB0.1 (c_ISLB hw hEL O2 hzc hB0) rfl (by simp) rfl (lenOf pd_7 rfl) rfl (W := 0) rfl (by first | decide | (dsimp only; omega)) (by first | decide | (dsimp only; omega)) (by first | decide | (dsimp only; omega)) (by first | decide | (dsimp only; omega)) ?_
  rintro _ _ _ ⟨rfl, rfl, rfl⟩
  refine OWp.ifNo hk d_APC_14 (XT.i0_eq_f (by decide)) (pc' := 17) rfl ?_
  refine OWp.iload_n hk d_APC_17 (pc' := 18) rfl rfl ?_
  refine OWp.callS hk d_APC_18 (pc' := 21) rfl (hw _ (List.mem_of_getElem? (i := 211) rfl)) (hw _ (List.mem_of_getElem? (i := 212) rfl)) (hw _ (List.mem_of_getElem? (i := 73) rfl)) (hw _ (List.mem_of_getElem? (i := 213) rfl)) (by decide) (c_CEN hw hEL h1) rfl (by simp) rfl (lenOf pd_20 rfl) rfl (W := 0) rfl (by first | decide | (dsimp only; omega)) (by first | decide | (dsimp only; omega)) (by first | decide | (dsimp only; omega)) (by first | decide | (dsimp only; omega)) ?_
  rintro _ _ _ ⟨rfl, rfl, rfl⟩
  refine OWp.ifNo hk d_APC_21 (XT.i0_eq_f (by decide)) (pc' := 24) rfl ?_
  refine OWp.aload_n hk d_APC_24 (pc' := 25) rfl rfl rfl ?_
  refine OWp.getfield hk d_APC_25 (pc' := 28) rfl (hw _ (List.mem_of_getElem? (i := 185) rfl)) (by simp) hB0.2.1 ?_
  refine OWp.aload_n hk d_APC_28 (pc' := 29) rfl rfl rfl ?_
  refine OWp.dup hk d_APC_29 (pc' := 30) rfl rfl ?_
  refine OWp.getfield hk d_APC_30 (pc' := 33) rfl (hw _ (List.mem_of_getElem? (i := 199) rfl)) (by simp) hB0.2.2.2 ?_
  refine OWp.dup_x1 hk d_APC_33 (pc' := 34) rfl rfl rfl ?_
  refine OWp.iconst hk d_APC_34 (pc' := 35) rfl (z := 1) rfl ?_
  refine OWp.iadd hk d_APC_35 (pc' := 36) rfl ?_
  rw [n_succ]
  obtain ⟨hE, F_value, F_coder, F_count⟩ := hB0
  refine OWp.putfield hk d_APC_36 (pc' := 39) rfl (hw _ (List.mem_of_getElem? (i := 199) rfl)) (i := 0) rfl F_count hE (Or.inl (hw _ (List.mem_of_getElem? (i := 200) rfl))) (hw _ (List.mem_of_getElem? (i := 172) rfl)) (ty := .int) (by decide) rfl rfl ?_
  intro ck hE F_count hK
  have F_value := hK F_value (slot_ne (Or.inl (hw _ (List.mem_of_getElem? (i := 186) rfl))) (Or.inl (hw _ (List.mem_of_getElem? (i := 200) rfl))) (by decide) (t := (.array .byte)) (by decide) (t' := .int) (by decide))
  have F_coder := hK F_coder (slot_ne (Or.inl (hw _ (List.mem_of_getElem? (i := 188) rfl))) (Or.inl (hw _ (List.mem_of_getElem? (i := 200) rfl))) (by decide) (t := .byte) (by decide) (t' := .int) (by decide))
  simp only [List.nil_append, List.cons_append, List.set_cons_zero]
  refine OWp.iload_n hk d_APC_39 (pc' := 40) rfl rfl ?_
  refine OWp.i2b hk d_APC_40 (pc' := 41) rfl ?_
  refine OWp.bastore hk d_APC_41 (pc' := 42) rfl (i := 1) rfl hA (n_nn (by omega)) (t := cs.length) (n_nat (by omega)) (by rw [tab_len]; omega) ?_
  intro ct2 hA2
  simp only [List.set_cons_zero, List.set_cons_succ]
  rw [tab_set] at hA2
  refine OWp.goto hk d_APC_42 (by decide) (pc' := 75) rfl ?_
  refine OWp.aload_n hk d_APC_75 (pc' := 76) rfl rfl rfl ?_
  have hlen : (cs ++ [ch]).length = cs.length + 1 := by rw [List.length_append]; rfl
  exact OWp.retA hk rfl rfl rfl d_APC_76 (M' := [(x, ck), (t, ct2)]) (N' := []) ⟨rfl, rfl, ck, ct2, rfl, ⟨by rw [cd_lat (lat_app hl hl1), hlen]; exact ⟨hE, F_value, F_coder, F_count⟩, ⟨_, by rw [w_lat (lat_app hl hl1)]; exact hA2, fun j hj => by
    rw [w_lat (lat_app hl hl1), Nat.one_mul, hlen] at hj
    rw [oAt_app hl hl1 hj]
    by_cases q : j < cs.length
    · rw [if_pos q, if_neg (by omega), hf j (by omega)]
    · rw [if_neg q, if_pos (by omega), oAt_lat hl1 (by simp; omega), show j - cs.length = 0 by omega]
      show Value.int _ = Value.int (lo8 ch)
      rw [byte2]; rfl⟩, by rw [hlen]; exact hlt, hc2, ch_app hch hch1 (by simp; omega)⟩⟩ (List.Sublist.refl _) (by simp) (by decide) (by decide)
theorem c_SAC (hw : ∀ d ∈ tables_1, d.before a0 Z = true) (hEL : EW Z a0 EL) (O2 : Sta Z Z.heap "java/lang/String" "COMPACT_STRINGS" "Z" (.int zc)) (hzc : ¬ zc = 0) (hB : SBF Z t csb ct cs cap) (hl : lat cs = true) (h0 : ¬ ch < 0) (h1 : ¬ (255 : Int32) < ch) (hlt : cs.length < cap) :
    OCon l Z EL (⟨"java/lang/StringBuilder", "append", "(C)Ljava/lang/StringBuilder;"⟩ : MethodName) jdk_67_method_14_code 2 (some (.object "java/lang/StringBuilder")) [] ({ frames := 2, cells := 0, slots := 0, locals := 27 } : Room) #[.ref x, .int ch] [(x, csb), (t, ct)] []
      (fun v M N => v = some (.ref x) ∧ N = [] ∧ ∃ csb' ct', M = [(x, csb'), (t, ct')] ∧ SBF Z t csb' ct' (cs ++ [ch]) cap) := by
  refine OCon.of_wp (L0 := [.val (.ref x), .val (.int ch)]) pn_SAC hEL (fun m => by first | (simp [entryFrame, mkF, argsToLocals, Value.category]; done) | rfl) ?_
  intro p e s m below meth c hk
  refine OWp.aload_n hk d_SAC_0 (pc' := 1) rfl rfl rfl ?_
  refine OWp.iload_n hk d_SAC_1 (pc' := 2) rfl rfl ?_
  refine OWp.callU hk d_SAC_2 (pc' := 5) rfl (hw _ (List.mem_of_getElem? (i := 194) rfl)) (sameM (ret' := none) (hw _ (List.mem_of_getElem? (i := 204) rfl)) rfl (hw _ (List.mem_of_getElem? (i := 195) rfl)) (by decide)) (hw _ (List.mem_of_getElem? (i := 196) rfl)) (hw _ (List.mem_of_getElem? (i := 195) rfl)) (by decide) (hw _ (List.mem_of_getElem? (i := 181) rfl)) (hw _ (List.mem_of_getElem? (i := 198) rfl)) (by simp) hB.1.1 (c_APC hw hEL O2 hzc hB hl h0 h1 hlt) rfl (by simp) rfl (lenOf pd_21 rfl) rfl (W := 0) rfl (by first | decide | (dsimp only; omega)) (by first | decide | (dsimp only; omega)) (by first | decide | (dsimp only; omega)) (by first | decide | (dsimp only; omega)) ?_
  rintro _ _ _ ⟨rfl, rfl, csb2, ct2, rfl, hB2⟩
  refine OWp.pop hk d_SAC_5 (pc' := 6) rfl rfl ?_
  refine OWp.aload_n hk d_SAC_6 (pc' := 7) rfl rfl rfl ?_
  exact OWp.retA hk rfl rfl rfl d_SAC_7 (M' := [(x, csb2), (t, ct2)]) (N' := []) ⟨rfl, rfl, csb2, ct2, rfl, hB2⟩ (List.Sublist.refl _) (by simp) (by decide) (by decide)
end StrAPC
theorem d_MIS_0 : decode jdk_48_method_14_code 0 = .ok (.iconst 0, 1) := by decide +kernel
theorem d_MIS_1 : decode jdk_48_method_14_code 1 = .ok (.istore 5, 2) := by decide +kernel
theorem d_MIS_3 : decode jdk_48_method_14_code 3 = .ok (.iload 4, 2) := by decide +kernel
theorem d_MIS_5 : decode jdk_48_method_14_code 5 = .ok (.bipush 7, 2) := by decide +kernel
theorem d_MIS_7 : decode jdk_48_method_14_code 7 = .ok (.if_icmp .le 63, 3) := by decide +kernel
theorem d_MIS_10 : decode jdk_48_method_14_code 10 = .ok (.aload_n 0, 1) := by decide +kernel
theorem d_MIS_11 : decode jdk_48_method_14_code 11 = .ok (.iload_n 1, 1) := by decide +kernel
theorem d_MIS_12 : decode jdk_48_method_14_code 12 = .ok (.baload, 1) := by decide +kernel
theorem d_MIS_13 : decode jdk_48_method_14_code 13 = .ok (.aload_n 2, 1) := by decide +kernel
theorem d_MIS_14 : decode jdk_48_method_14_code 14 = .ok (.iload_n 3, 1) := by decide +kernel
theorem d_MIS_15 : decode jdk_48_method_14_code 15 = .ok (.baload, 1) := by decide +kernel
theorem d_MIS_16 : decode jdk_48_method_14_code 16 = .ok (.if_icmp .eq 5, 3) := by decide +kernel
theorem d_MIS_19 : decode jdk_48_method_14_code 19 = .ok (.iconst 0, 1) := by decide +kernel
theorem d_MIS_20 : decode jdk_48_method_14_code 20 = .ok (.ireturn, 1) := by decide +kernel
theorem d_MIS_21 : decode jdk_48_method_14_code 21 = .ok (.getstatic 126, 3) := by decide +kernel
theorem d_MIS_24 : decode jdk_48_method_14_code 24 = .ok (.iload_n 1, 1) := by decide +kernel
theorem d_MIS_25 : decode jdk_48_method_14_code 25 = .ok (.iadd, 1) := by decide +kernel
theorem d_MIS_26 : decode jdk_48_method_14_code 26 = .ok (.istore 6, 2) := by decide +kernel
theorem d_MIS_28 : decode jdk_48_method_14_code 28 = .ok (.getstatic 126, 3) := by decide +kernel
theorem d_MIS_31 : decode jdk_48_method_14_code 31 = .ok (.iload_n 3, 1) := by decide +kernel
theorem d_MIS_32 : decode jdk_48_method_14_code 32 = .ok (.iadd, 1) := by decide +kernel
theorem d_MIS_33 : decode jdk_48_method_14_code 33 = .ok (.istore 7, 2) := by decide +kernel
theorem d_MIS_35 : decode jdk_48_method_14_code 35 = .ok (.aload_n 0, 1) := by decide +kernel
theorem d_MIS_36 : decode jdk_48_method_14_code 36 = .ok (.iload 6, 2) := by decide +kernel
theorem d_MIS_38 : decode jdk_48_method_14_code 38 = .ok (.i2l, 1) := by decide +kernel
theorem d_MIS_39 : decode jdk_48_method_14_code 39 = .ok (.aload_n 2, 1) := by decide +kernel
theorem d_MIS_40 : decode jdk_48_method_14_code 40 = .ok (.iload 7, 2) := by decide +kernel
theorem d_MIS_42 : decode jdk_48_method_14_code 42 = .ok (.i2l, 1) := by decide +kernel
theorem d_MIS_43 : decode jdk_48_method_14_code 43 = .ok (.iload 4, 2) := by decide +kernel
theorem d_MIS_45 : decode jdk_48_method_14_code 45 = .ok (.getstatic 129, 3) := by decide +kernel
theorem d_MIS_48 : decode jdk_48_method_14_code 48 = .ok (.invokestatic 122, 3) := by decide +kernel
theorem d_MIS_51 : decode jdk_48_method_14_code 51 = .ok (.istore 5, 2) := by decide +kernel
theorem d_MIS_53 : decode jdk_48_method_14_code 53 = .ok (.iload 5, 2) := by decide +kernel
theorem d_MIS_55 : decode jdk_48_method_14_code 55 = .ok (.ifCond .lt 6, 3) := by decide +kernel
theorem d_MIS_58 : decode jdk_48_method_14_code 58 = .ok (.iload 5, 2) := by decide +kernel
theorem d_MIS_60 : decode jdk_48_method_14_code 60 = .ok (.ireturn, 1) := by decide +kernel
theorem d_MIS_61 : decode jdk_48_method_14_code 61 = .ok (.iload 4, 2) := by decide +kernel
theorem d_MIS_63 : decode jdk_48_method_14_code 63 = .ok (.iload 5, 2) := by decide +kernel
theorem d_MIS_65 : decode jdk_48_method_14_code 65 = .ok (.iconst (-1), 1) := by decide +kernel
theorem d_MIS_66 : decode jdk_48_method_14_code 66 = .ok (.ixor, 1) := by decide +kernel
theorem d_MIS_67 : decode jdk_48_method_14_code 67 = .ok (.isub, 1) := by decide +kernel
theorem d_MIS_68 : decode jdk_48_method_14_code 68 = .ok (.istore 5, 2) := by decide +kernel
theorem d_MIS_70 : decode jdk_48_method_14_code 70 = .ok (.iload 5, 2) := by decide +kernel
theorem d_MIS_72 : decode jdk_48_method_14_code 72 = .ok (.iload 4, 2) := by decide +kernel
theorem d_MIS_74 : decode jdk_48_method_14_code 74 = .ok (.if_icmp .ge 27, 3) := by decide +kernel
theorem d_MIS_77 : decode jdk_48_method_14_code 77 = .ok (.aload_n 0, 1) := by decide +kernel
theorem d_MIS_78 : decode jdk_48_method_14_code 78 = .ok (.iload_n 1, 1) := by decide +kernel
theorem d_MIS_79 : decode jdk_48_method_14_code 79 = .ok (.iload 5, 2) := by decide +kernel
theorem d_MIS_81 : decode jdk_48_method_14_code 81 = .ok (.iadd, 1) := by decide +kernel
theorem d_MIS_82 : decode jdk_48_method_14_code 82 = .ok (.baload, 1) := by decide +kernel
theorem d_MIS_83 : decode jdk_48_method_14_code 83 = .ok (.aload_n 2, 1) := by decide +kernel
theorem d_MIS_84 : decode jdk_48_method_14_code 84 = .ok (.iload_n 3, 1) := by decide +kernel
theorem d_MIS_85 : decode jdk_48_method_14_code 85 = .ok (.iload 5, 2) := by decide +kernel
theorem d_MIS_87 : decode jdk_48_method_14_code 87 = .ok (.iadd, 1) := by decide +kernel
theorem d_MIS_88 : decode jdk_48_method_14_code 88 = .ok (.baload, 1) := by decide +kernel
theorem d_MIS_89 : decode jdk_48_method_14_code 89 = .ok (.if_icmp .eq 6, 3) := by decide +kernel
theorem d_MIS_92 : decode jdk_48_method_14_code 92 = .ok (.iload 5, 2) := by decide +kernel
theorem d_MIS_94 : decode jdk_48_method_14_code 94 = .ok (.ireturn, 1) := by decide +kernel
theorem d_MIS_95 : decode jdk_48_method_14_code 95 = .ok (.iinc 5 1, 3) := by decide +kernel
theorem d_MIS_98 : decode jdk_48_method_14_code 98 = .ok (.goto (-28), 3) := by decide +kernel
theorem d_MIS_101 : decode jdk_48_method_14_code 101 = .ok (.iconst (-1), 1) := by decide +kernel
theorem d_MIS_102 : decode jdk_48_method_14_code 102 = .ok (.ireturn, 1) := by decide +kernel
theorem pn_MIS : plainFor (⟨"jdk/internal/util/ArraysSupport", "mismatch", "([BI[BII)I"⟩ : MethodName) = true := by first | exact plainFor_of_name (by first | (simp [plainName, overriddenIn]; done) | decide +kernel) | decide +kernel
theorem d_SW2_0 : decode jdk_42_method_75_code 0 = .ok (.iload_n 2, 1) := by decide +kernel
theorem d_SW2_1 : decode jdk_42_method_75_code 1 = .ok (.ifCond .lt 16, 3) := by decide +kernel
theorem d_SW2_4 : decode jdk_42_method_75_code 4 = .ok (.iload_n 2, 1) := by decide +kernel
theorem d_SW2_5 : decode jdk_42_method_75_code 5 = .ok (.aload_n 0, 1) := by decide +kernel
theorem d_SW2_6 : decode jdk_42_method_75_code 6 = .ok (.invokevirtual 505, 3) := by decide +kernel
theorem d_SW2_9 : decode jdk_42_method_75_code 9 = .ok (.aload_n 1, 1) := by decide +kernel
theorem d_SW2_10 : decode jdk_42_method_75_code 10 = .ok (.invokevirtual 505, 3) := by decide +kernel
theorem d_SW2_13 : decode jdk_42_method_75_code 13 = .ok (.isub, 1) := by decide +kernel
theorem d_SW2_14 : decode jdk_42_method_75_code 14 = .ok (.if_icmp .le 5, 3) := by decide +kernel
theorem d_SW2_17 : decode jdk_42_method_75_code 17 = .ok (.iconst 0, 1) := by decide +kernel
theorem d_SW2_18 : decode jdk_42_method_75_code 18 = .ok (.ireturn, 1) := by decide +kernel
theorem d_SW2_19 : decode jdk_42_method_75_code 19 = .ok (.aload_n 0, 1) := by decide +kernel
theorem d_SW2_20 : decode jdk_42_method_75_code 20 = .ok (.getfield 9, 3) := by decide +kernel
theorem d_SW2_23 : decode jdk_42_method_75_code 23 = .ok (.astore_n 3, 1) := by decide +kernel
theorem d_SW2_24 : decode jdk_42_method_75_code 24 = .ok (.aload_n 1, 1) := by decide +kernel
theorem d_SW2_25 : decode jdk_42_method_75_code 25 = .ok (.getfield 9, 3) := by decide +kernel
theorem d_SW2_28 : decode jdk_42_method_75_code 28 = .ok (.astore 4, 2) := by decide +kernel
theorem d_SW2_30 : decode jdk_42_method_75_code 30 = .ok (.iconst 0, 1) := by decide +kernel
theorem d_SW2_31 : decode jdk_42_method_75_code 31 = .ok (.istore 5, 2) := by decide +kernel
theorem d_SW2_33 : decode jdk_42_method_75_code 33 = .ok (.aload 4, 2) := by decide +kernel
theorem d_SW2_35 : decode jdk_42_method_75_code 35 = .ok (.arraylength, 1) := by decide +kernel
theorem d_SW2_36 : decode jdk_42_method_75_code 36 = .ok (.istore 6, 2) := by decide +kernel
theorem d_SW2_38 : decode jdk_42_method_75_code 38 = .ok (.aload_n 0, 1) := by decide +kernel
theorem d_SW2_39 : decode jdk_42_method_75_code 39 = .ok (.invokevirtual 335, 3) := by decide +kernel
theorem d_SW2_42 : decode jdk_42_method_75_code 42 = .ok (.istore 7, 2) := by decide +kernel
theorem d_SW2_44 : decode jdk_42_method_75_code 44 = .ok (.iload 7, 2) := by decide +kernel
theorem d_SW2_46 : decode jdk_42_method_75_code 46 = .ok (.aload_n 1, 1) := by decide +kernel
theorem d_SW2_47 : decode jdk_42_method_75_code 47 = .ok (.invokevirtual 335, 3) := by decide +kernel
theorem d_SW2_50 : decode jdk_42_method_75_code 50 = .ok (.if_icmp .ne 32, 3) := by decide +kernel
theorem d_SW2_53 : decode jdk_42_method_75_code 53 = .ok (.iload 7, 2) := by decide +kernel
theorem d_SW2_55 : decode jdk_42_method_75_code 55 = .ok (.iconst 1, 1) := by decide +kernel
theorem d_SW2_56 : decode jdk_42_method_75_code 56 = .ok (.if_icmp .ne 7, 3) := by decide +kernel
theorem d_SW2_59 : decode jdk_42_method_75_code 59 = .ok (.iload_n 2, 1) := by decide +kernel
theorem d_SW2_60 : decode jdk_42_method_75_code 60 = .ok (.iconst 1, 1) := by decide +kernel
theorem d_SW2_61 : decode jdk_42_method_75_code 61 = .ok (.ishl, 1) := by decide +kernel
theorem d_SW2_62 : decode jdk_42_method_75_code 62 = .ok (.istore_n 2, 1) := by decide +kernel
theorem d_SW2_63 : decode jdk_42_method_75_code 63 = .ok (.aload_n 3, 1) := by decide +kernel
theorem d_SW2_64 : decode jdk_42_method_75_code 64 = .ok (.iload_n 2, 1) := by decide +kernel
theorem d_SW2_65 : decode jdk_42_method_75_code 65 = .ok (.aload 4, 2) := by decide +kernel
theorem d_SW2_67 : decode jdk_42_method_75_code 67 = .ok (.iconst 0, 1) := by decide +kernel
theorem d_SW2_68 : decode jdk_42_method_75_code 68 = .ok (.iload 6, 2) := by decide +kernel
theorem d_SW2_70 : decode jdk_42_method_75_code 70 = .ok (.invokestatic 607, 3) := by decide +kernel
theorem d_SW2_73 : decode jdk_42_method_75_code 73 = .ok (.ifCond .ge 7, 3) := by decide +kernel
theorem d_SW2_76 : decode jdk_42_method_75_code 76 = .ok (.iconst 1, 1) := by decide +kernel
theorem d_SW2_77 : decode jdk_42_method_75_code 77 = .ok (.goto 4, 3) := by decide +kernel
theorem d_SW2_80 : decode jdk_42_method_75_code 80 = .ok (.iconst 0, 1) := by decide +kernel
theorem d_SW2_81 : decode jdk_42_method_75_code 81 = .ok (.ireturn, 1) := by decide +kernel
theorem d_SW2_82 : decode jdk_42_method_75_code 82 = .ok (.iload 7, 2) := by decide +kernel
theorem d_SW2_84 : decode jdk_42_method_75_code 84 = .ok (.ifCond .ne 5, 3) := by decide +kernel
theorem d_SW2_87 : decode jdk_42_method_75_code 87 = .ok (.iconst 0, 1) := by decide +kernel
theorem d_SW2_88 : decode jdk_42_method_75_code 88 = .ok (.ireturn, 1) := by decide +kernel
theorem d_SW2_89 : decode jdk_42_method_75_code 89 = .ok (.iload 5, 2) := by decide +kernel
theorem d_SW2_91 : decode jdk_42_method_75_code 91 = .ok (.iload 6, 2) := by decide +kernel
theorem d_SW2_93 : decode jdk_42_method_75_code 93 = .ok (.if_icmp .ge 28, 3) := by decide +kernel
theorem d_SW2_96 : decode jdk_42_method_75_code 96 = .ok (.aload_n 3, 1) := by decide +kernel
theorem d_SW2_97 : decode jdk_42_method_75_code 97 = .ok (.iload_n 2, 1) := by decide +kernel
theorem d_SW2_98 : decode jdk_42_method_75_code 98 = .ok (.iinc 2 1, 3) := by decide +kernel
theorem d_SW2_101 : decode jdk_42_method_75_code 101 = .ok (.invokestatic 360, 3) := by decide +kernel
theorem d_SW2_104 : decode jdk_42_method_75_code 104 = .ok (.aload 4, 2) := by decide +kernel
theorem d_SW2_106 : decode jdk_42_method_75_code 106 = .ok (.iload 5, 2) := by decide +kernel
theorem d_SW2_108 : decode jdk_42_method_75_code 108 = .ok (.iinc 5 1, 3) := by decide +kernel
theorem d_SW2_111 : decode jdk_42_method_75_code 111 = .ok (.baload, 1) := by decide +kernel
theorem d_SW2_112 : decode jdk_42_method_75_code 112 = .ok (.sipush 255, 3) := by decide +kernel
theorem d_SW2_115 : decode jdk_42_method_75_code 115 = .ok (.iand, 1) := by decide +kernel
theorem d_SW2_116 : decode jdk_42_method_75_code 116 = .ok (.if_icmp .eq (-27), 3) := by decide +kernel
theorem d_SW2_119 : decode jdk_42_method_75_code 119 = .ok (.iconst 0, 1) := by decide +kernel
theorem d_SW2_120 : decode jdk_42_method_75_code 120 = .ok (.ireturn, 1) := by decide +kernel
theorem d_SW2_121 : decode jdk_42_method_75_code 121 = .ok (.iconst 1, 1) := by decide +kernel
theorem d_SW2_122 : decode jdk_42_method_75_code 122 = .ok (.ireturn, 1) := by decide +kernel
theorem pn_SW2 : plainFor (⟨"java/lang/String", "startsWith", "(Ljava/lang/String;I)Z"⟩ : MethodName) = true := by first | exact plainFor_of_name (by first | (simp [plainName, overriddenIn]; done) | decide +kernel) | decide +kernel
theorem d_SW1_0 : decode jdk_42_method_76_code 0 = .ok (.aload_n 0, 1) := by decide +kernel
theorem d_SW1_1 : decode jdk_42_method_76_code 1 = .ok (.aload_n 1, 1) := by decide +kernel
theorem d_SW1_2 : decode jdk_42_method_76_code 2 = .ok (.iconst 0, 1) := by decide +kernel
theorem d_SW1_3 : decode jdk_42_method_76_code 3 = .ok (.invokevirtual 624, 3) := by decide +kernel
theorem d_SW1_6 : decode jdk_42_method_76_code 6 = .ok (.ireturn, 1) := by decide +kernel
theorem pn_SW1 : plainFor (⟨"java/lang/String", "startsWith", "(Ljava/lang/String;)Z"⟩ : MethodName) = true := by first | exact plainFor_of_name (by first | (simp [plainName, overriddenIn]; done) | decide +kernel) | decide +kernel
section StrSW
variable {l : Launch} {Z : State} {a0 : Array Value} {EL : List (String × Nat)} {zc ch : Int32} {x t y u : Addr} {cx ct cy cu : Cell} {cs : List Int32} {n : Nat} {f g : Nat → Value} {b1 b2 : Int32}
/-- mismatch over one byte -/
theorem c_MIS (hw : ∀ d ∈ tables_1, d.before a0 Z = true) (hEL : EW Z a0 EL) (hA : AC Z ct .byte (tab n f)) (hB : AC Z cu .byte (tab 1 g)) (hn : 0 < n) (hf : f 0 = .int b1) (hg : g 0 = .int b2) :
    OCon l Z EL (⟨"jdk/internal/util/ArraysSupport", "mismatch", "([BI[BII)I"⟩ : MethodName) jdk_48_method_14_code 8 (some .int) [] ({ frames := 0, cells := 0, slots := 0, locals := 0 } : Room) #[.ref t, .int 0, .ref u, .int 0, .int 1] [] [(t, ct), (u, cu)] (fun v M N => v = some (.int (if b1 = b2 then -1 else 0)) ∧ M = [] ∧ N = []) := by
  refine OCon.of_wp (L0 := [.val (.ref t), .val (.int 0), .val (.ref u), .val (.int 0), .val (.int 1), .unset, .unset, .unset]) pn_MIS hEL (fun m => by first | (simp [entryFrame, mkF, argsToLocals, Value.category]; done) | rfl) ?_
  intro p e s m below meth c hk
  refine OWp.iconst hk d_MIS_0 (pc' := 1) rfl (z := 0) rfl ?_
  refine OWp.istore hk d_MIS_1 (pc' := 3) rfl rfl (by simp only [List.set_cons_zero, List.set_cons_succ]; rfl) ?_
  refine OWp.iload hk d_MIS_3 (pc' := 5) rfl rfl ?_
  refine OWp.bipush hk d_MIS_5 (pc' := 7) rfl (z := 7) rfl ?_
  refine OWp.icmpYes hk d_MIS_7 (XT.ii_le_t (by decide)) (by decide) (pc' := 70) rfl ?_
  refine OWp.iload hk d_MIS_70 (pc' := 72) rfl rfl ?_
  refine OWp.iload hk d_MIS_72 (pc' := 74) rfl rfl ?_
  refine OWp.icmpNo hk d_MIS_74 (XT.ii_ge_f (by decide)) (pc' := 77) rfl ?_
  refine OWp.aload_n hk d_MIS_77 (pc' := 78) rfl rfl rfl ?_
  refine OWp.iload_n hk d_MIS_78 (pc' := 79) rfl rfl ?_
  refine OWp.iload hk d_MIS_79 (pc' := 81) rfl rfl ?_
  refine OWp.iadd hk d_MIS_81 (pc' := 82) rfl ?_
  refine OWp.baload hk d_MIS_82 (pc' := 83) rfl (by simp) hA (by decide) (show (tab n f)[0]? = some (.int b1) by rw [tab_get hn, hf]) ?_
  refine OWp.aload_n hk d_MIS_83 (pc' := 84) rfl rfl rfl ?_
  refine OWp.iload_n hk d_MIS_84 (pc' := 85) rfl rfl ?_
  refine OWp.iload hk d_MIS_85 (pc' := 87) rfl rfl ?_
  refine OWp.iadd hk d_MIS_87 (pc' := 88) rfl ?_
  refine OWp.baload hk d_MIS_88 (pc' := 89) rfl (by simp) hB (by decide) (show (tab 1 g)[0]? = some (.int b2) by rw [tab_get (by decide), hg]) ?_
  by_cases h : b1 = b2
  · refine OWp.icmpYes hk d_MIS_89 (XT.ii_eq_t h) (by decide) (pc' := 95) rfl ?_
    refine OWp.iinc hk d_MIS_95 (pc' := 98) rfl rfl (z := 1) rfl (by simp only [List.set_cons_zero, List.set_cons_succ]; rfl) ?_
    refine OWp.goto hk d_MIS_98 (by decide) (pc' := 70) rfl ?_
    refine OWp.iload hk d_MIS_70 (pc' := 72) rfl rfl ?_
    refine OWp.iload hk d_MIS_72 (pc' := 74) rfl rfl ?_
    refine OWp.icmpYes hk d_MIS_74 (XT.ii_ge_t (by decide)) (by decide) (pc' := 101) rfl ?_
    refine OWp.iconst hk d_MIS_101 (pc' := 102) rfl (z := -1) rfl ?_
    exact OWp.retI hk d_MIS_102 ⟨by rw [if_pos h], rfl, rfl⟩ (List.Sublist.refl _) (fun _ h => h) (by decide) (by decide)
  · refine OWp.icmpNo hk d_MIS_89 (XT.ii_eq_f h) (pc' := 92) rfl ?_
    refine OWp.iload hk d_MIS_92 (pc' := 94) rfl rfl ?_
    exact OWp.retI hk d_MIS_94 ⟨by rw [if_neg h], rfl, rfl⟩ (List.Sublist.refl _) (fun _ h => h) (by decide) (by decide)
/-- startsWith of a String of one char, both Latin-1 -/
theorem c_SW2 (hw : ∀ d ∈ tables_1, d.before a0 Z = true) (hEL : EW Z a0 EL) (O2 : Sta Z Z.heap "java/lang/String" "COMPACT_STRINGS" "Z" (.int zc)) (hzc : ¬ zc = 0) (hs : SC Z t cx ct cs) (hl : lat cs = true) (h0 : 0 < cs.length) (hs' : SC Z u cy cu [ch]) (hl' : lat [ch] = true) :
    OCon l Z EL (⟨"java/lang/String", "startsWith", "(Ljava/lang/String;I)Z"⟩ : MethodName) jdk_42_method_75_code 8 (some .boolean) [] ({ frames := 2, cells := 0, slots := 0, locals := 27 } : Room) #[.ref x, .ref y, .int 0] [] [(x, cx), (t, ct), (y, cy), (u, cu)] (fun v M N => v = some (.int (if cs.getD 0 0 = ch then 1 else 0)) ∧ M = [] ∧ N = []) := by
  refine OCon.of_wp (L0 := [.val (.ref x), .val (.ref y), .val (.int 0), .unset, .unset, .unset, .unset, .unset]) pn_SW2 hEL (fun m => by first | (simp [entryFrame, mkF, argsToLocals, Value.category]; done) | rfl) ?_
  intro p e s m below meth c hk
  have hc4 := hs.2.2.2.2.2
  have hA := hs.2.2.2.1
  have hB := hs'.2.2.2.1
  rw [bytes_lat hl] at hA
  rw [bytes_lat hl'] at hB
  have c0 := hs.2.2.2.2.1 _ (getD_mem h0)
  have d0 := lat_iff.mp hl _ (getD_mem h0)
  have c1 := hs'.2.2.2.2.1 ch (by simp)
  have d1 := lat_iff.mp hl' ch (by simp)
  refine OWp.iload_n hk d_SW2_0 (pc' := 1) rfl rfl ?_
  refine OWp.ifNo hk d_SW2_1 (XT.i0_lt_f (by decide)) (pc' := 4) rfl ?_
  refine OWp.iload_n hk d_SW2_4 (pc' := 5) rfl rfl ?_
  refine OWp.aload_n hk d_SW2_5 (pc' := 6) rfl rfl rfl ?_
  refine OWp.callV hk d_SW2_6 (pc' := 9) rfl (hw _ (List.mem_of_getElem? (i := 91) rfl)) (hw _ (List.mem_of_getElem? (i := 52) rfl)) (nfs (hw _ (List.mem_of_getElem? (i := 54) rfl))) (hw _ (List.mem_of_getElem? (i := 54) rfl)) (hw _ (List.mem_of_getElem? (i := 53) rfl)) (hw _ (List.mem_of_getElem? (i := 13) rfl)) (hw _ (List.mem_of_getElem? (i := 55) rfl)) (by decide) (by simp) hs.1 (c_LEN hw hEL O2 hzc hs) rfl (by simp) rfl (lenOf pd_13 rfl) rfl (W := 1) rfl (by first | decide | (dsimp only; omega)) (by first | decide | (dsimp only; omega)) (by first | decide | (dsimp only; omega)) (by first | decide | (dsimp only; omega)) ?_
  rintro _ _ _ ⟨rfl, rfl, rfl⟩
  refine OWp.aload_n hk d_SW2_9 (pc' := 10) rfl rfl rfl ?_
  refine OWp.callV hk d_SW2_10 (pc' := 13) rfl (hw _ (List.mem_of_getElem? (i := 91) rfl)) (hw _ (List.mem_of_getElem? (i := 52) rfl)) (nfs (hw _ (List.mem_of_getElem? (i := 54) rfl))) (hw _ (List.mem_of_getElem? (i := 54) rfl)) (hw _ (List.mem_of_getElem? (i := 53) rfl)) (hw _ (List.mem_of_getElem? (i := 13) rfl)) (hw _ (List.mem_of_getElem? (i := 55) rfl)) (by decide) (by simp) hs'.1 (c_LEN hw hEL O2 hzc hs') rfl (by simp) rfl (lenOf pd_13 rfl) rfl (W := 2) rfl (by first | decide | (dsimp only; omega)) (by first | decide | (dsimp only; omega)) (by first | decide | (dsimp only; omega)) (by first | decide | (dsimp only; omega)) ?_
  rintro _ _ _ ⟨rfl, rfl, rfl⟩
  refine OWp.isub hk d_SW2_13 (pc' := 14) rfl ?_
  rw [show Int32.ofNat cs.length - Int32.ofNat [ch].length = Int32.ofNat (cs.length - 1) from n_sub (a := 1) h0 (by omega)]
  refine OWp.icmpYes hk d_SW2_14 (XT.ii_le_t (by rw [show (0 : Int32) = Int32.ofNat 0 from rfl, n_lt (by omega) (by omega)]; omega)) (by decide) (pc' := 19) rfl ?_
  refine OWp.aload_n hk d_SW2_19 (pc' := 20) rfl rfl rfl ?_
  refine OWp.getfield hk d_SW2_20 (pc' := 23) rfl (hw _ (List.mem_of_getElem? (i := 38) rfl)) (by simp) hs.2.1 ?_
  refine OWp.astore_n hk d_SW2_23 (pc' := 24) rfl (kn := 3) rfl rfl rfl (by simp only [List.set_cons_zero, List.set_cons_succ]; rfl) ?_
  refine OWp.aload_n hk d_SW2_24 (pc' := 25) rfl rfl rfl ?_
  refine OWp.getfield hk d_SW2_25 (pc' := 28) rfl (hw _ (List.mem_of_getElem? (i := 38) rfl)) (by simp) hs'.2.1 ?_
  refine OWp.astore hk d_SW2_28 (pc' := 30) rfl rfl rfl (by simp only [List.set_cons_zero, List.set_cons_succ]; rfl) ?_
  refine OWp.iconst hk d_SW2_30 (pc' := 31) rfl (z := 0) rfl ?_
  refine OWp.istore hk d_SW2_31 (pc' := 33) rfl rfl (by simp only [List.set_cons_zero, List.set_cons_succ]; rfl) ?_
  refine OWp.aload hk d_SW2_33 (pc' := 35) rfl rfl rfl ?_
  refine OWp.arraylength hk d_SW2_35 (pc' := 36) rfl (by simp) hB (z := 1) rfl ?_
  refine OWp.istore hk d_SW2_36 (pc' := 38) rfl rfl (by simp only [List.set_cons_zero, List.set_cons_succ]; rfl) ?_
  refine OWp.aload_n hk d_SW2_38 (pc' := 39) rfl rfl rfl ?_
  refine OWp.callV hk d_SW2_39 (pc' := 42) rfl (hw _ (List.mem_of_getElem? (i := 56) rfl)) (hw _ (List.mem_of_getElem? (i := 57) rfl)) (nfs (hw _ (List.mem_of_getElem? (i := 59) rfl))) (hw _ (List.mem_of_getElem? (i := 59) rfl)) (hw _ (List.mem_of_getElem? (i := 58) rfl)) (hw _ (List.mem_of_getElem? (i := 13) rfl)) (hw _ (List.mem_of_getElem? (i := 60) rfl)) (by decide) (by simp) hs.1 (c_COD hw hEL O2 hzc hs) rfl (by simp) rfl (lenOf pd_0 rfl) rfl (W := 0) rfl (by first | decide | (dsimp only; omega)) (by first | decide | (dsimp only; omega)) (by first | decide | (dsimp only; omega)) (by first | decide | (dsimp only; omega)) ?_
  rintro _ _ _ ⟨rfl, rfl, rfl⟩
  refine OWp.istore hk d_SW2_42 (pc' := 44) rfl rfl (by simp only [List.set_cons_zero, List.set_cons_succ]; rfl) ?_
  refine OWp.iload hk d_SW2_44 (pc' := 46) rfl rfl ?_
  refine OWp.aload_n hk d_SW2_46 (pc' := 47) rfl rfl rfl ?_
  refine OWp.callV hk d_SW2_47 (pc' := 50) rfl (hw _ (List.mem_of_getElem? (i := 56) rfl)) (hw _ (List.mem_of_getElem? (i := 57) rfl)) (nfs (hw _ (List.mem_of_getElem? (i := 59) rfl))) (hw _ (List.mem_of_getElem? (i := 59) rfl)) (hw _ (List.mem_of_getElem? (i := 58) rfl)) (hw _ (List.mem_of_getElem? (i := 13) rfl)) (hw _ (List.mem_of_getElem? (i := 60) rfl)) (by decide) (by simp) hs'.1 (c_COD hw hEL O2 hzc hs') rfl (by simp) rfl (lenOf pd_0 rfl) rfl (W := 1) rfl (by first | decide | (dsimp only; omega)) (by first | decide | (dsimp only; omega)) (by first | decide | (dsimp only; omega)) (by first | decide | (dsimp only; omega)) ?_
  rintro _ _ _ ⟨rfl, rfl, rfl⟩
  refine OWp.icmpNo hk d_SW2_50 (XT.ii_ne_f (by simp [cdOf, hl, hl'])) (pc' := 53) rfl ?_
  refine OWp.iload hk d_SW2_53 (pc' := 55) rfl rfl ?_
  refine OWp.iconst hk d_SW2_55 (pc' := 56) rfl (z := 1) rfl ?_
  refine OWp.icmpYes hk d_SW2_56 (XT.ii_ne_t (by simp [cdOf, hl])) (by decide) (pc' := 63) rfl ?_
  refine OWp.aload_n hk d_SW2_63 (pc' := 64) rfl rfl rfl ?_
  refine OWp.iload_n hk d_SW2_64 (pc' := 65) rfl rfl ?_
  refine OWp.aload hk d_SW2_65 (pc' := 67) rfl rfl rfl ?_
  refine OWp.iconst hk d_SW2_67 (pc' := 68) rfl (z := 0) rfl ?_
  refine OWp.iload hk d_SW2_68 (pc' := 70) rfl rfl ?_
  refine OWp.callS hk d_SW2_70 (pc' := 73) rfl (hw _ (List.mem_of_getElem? (i := 134) rfl)) (hw _ (List.mem_of_getElem? (i := 135) rfl)) (hw _ (List.mem_of_getElem? (i := 136) rfl)) (hw _ (List.mem_of_getElem? (i := 137) rfl)) (by decide) (c_MIS hw hEL hA hB h0 rfl rfl) rfl (by simp) rfl (lenOf pd_22 rfl) rfl (W := 0) rfl (by first | decide | (dsimp only; omega)) (by first | decide | (dsimp only; omega)) (by first | decide | (dsimp only; omega)) (by first | decide | (dsimp only; omega)) ?_
  rintro _ _ _ ⟨rfl, rfl, rfl⟩
  by_cases h : cs.getD 0 0 = ch
  · refine OWp.ifNo hk d_SW2_73 (XT.i0_ge_f (by rw [if_pos (show lo8 (cs.getD 0 0) = lo8 ([ch].getD 0 0) by rw [h]; rfl)]; decide)) (pc' := 76) rfl ?_
    refine OWp.iconst hk d_SW2_76 (pc' := 77) rfl (z := 1) rfl ?_
    refine OWp.goto hk d_SW2_77 (by decide) (pc' := 81) rfl ?_
    exact OWp.retN hk (Or.inl rfl) d_SW2_81 ⟨by rw [if_pos h]; rfl, rfl, rfl⟩ (List.Sublist.refl _) (fun _ h => h) (by decide) (by decide)
  · refine OWp.ifYes hk d_SW2_73 (XT.i0_ge_t (by rw [if_neg (show ¬ lo8 (cs.getD 0 0) = lo8 ([ch].getD 0 0) from fun z => h (lo8_inj c0.1 d0 c1.1 d1 z))]; decide)) (by decide) (pc' := 80) rfl ?_
    refine OWp.iconst hk d_SW2_80 (pc' := 81) rfl (z := 0) rfl ?_
    exact OWp.retN hk (Or.inl rfl) d_SW2_81 ⟨by rw [if_neg h]; rfl, rfl, rfl⟩ (List.Sublist.refl _) (fun _ h => h) (by decide) (by decide)
theorem c_SW1 (hw : ∀ d ∈ tables_1, d.before a0 Z = true) (hEL : EW Z a0 EL) (O2 : Sta Z Z.heap "java/lang/String" "COMPACT_STRINGS" "Z" (.int zc)) (hzc : ¬ zc = 0) (hs : SC Z t cx ct cs) (hl : lat cs = true) (h0 : 0 < cs.length) (hs' : SC Z u cy cu [ch]) (hl' : lat [ch] = true) :
    OCon l Z EL (⟨"java/lang/String", "startsWith", "(Ljava/lang/String;)Z"⟩ : MethodName) jdk_42_method_76_code 2 (some .boolean) [] ({ frames := 3, cells := 0, slots := 0, locals := 46 } : Room) #[.ref x, .ref y] [] [(x, cx), (t, ct), (y, cy), (u, cu)] (fun v M N => v = some (.int (if cs.getD 0 0 = ch then 1 else 0)) ∧ M = [] ∧ N = []) := by
  refine OCon.of_wp (L0 := [.val (.ref x), .val (.ref y)]) pn_SW1 hEL (fun m => by first | (simp [entryFrame, mkF, argsToLocals, Value.category]; done) | rfl) ?_
  intro p e s m below meth c hk
  refine OWp.aload_n hk d_SW1_0 (pc' := 1) rfl rfl rfl ?_
  refine OWp.aload_n hk d_SW1_1 (pc' := 2) rfl rfl rfl ?_
  refine OWp.iconst hk d_SW1_2 (pc' := 3) rfl (z := 0) rfl ?_
  refine OWp.callV hk d_SW1_3 (pc' := 6) rfl (hw _ (List.mem_of_getElem? (i := 129) rfl)) (hw _ (List.mem_of_getElem? (i := 130) rfl)) (nfs (hw _ (List.mem_of_getElem? (i := 132) rfl))) (hw _ (List.mem_of_getElem? (i := 132) rfl)) (hw _ (List.mem_of_getElem? (i := 131) rfl)) (hw _ (List.mem_of_getElem? (i := 13) rfl)) (hw _ (List.mem_of_getElem? (i := 133) rfl)) (by decide) (by simp) hs.1 (c_SW2 hw hEL O2 hzc hs hl h0 hs' hl') rfl (by simp) rfl (lenOf pd_23 rfl) rfl (W := 0) rfl (by first | decide | (dsimp only; omega)) (by first | decide | (dsimp only; omega)) (by first | decide | (dsimp only; omega)) (by first | decide | (dsimp only; omega)) ?_
  rintro _ _ _ ⟨rfl, rfl, rfl⟩
  exact OWp.retN hk (Or.inl rfl) d_SW1_6 ⟨by split <;> rfl, rfl, rfl⟩ (List.Sublist.refl _) (fun _ h => h) (by decide) (by decide)
end StrSW
--PART2
--CUT
theorem d_VIS_0 : decode method_2_code 0 = .ok (.bipush 33, 2) := by decide +kernel
theorem d_VIS_2 : decode method_2_code 2 = .ok (.iload_n 0, 1) := by decide +kernel
theorem d_VIS_3 : decode method_2_code 3 = .ok (.bipush 94, 2) := by decide +kernel
theorem d_VIS_5 : decode method_2_code 5 = .ok (.irem, 1) := by decide +kernel
theorem d_VIS_6 : decode method_2_code 6 = .ok (.iadd, 1) := by decide +kernel
theorem d_VIS_7 : decode method_2_code 7 = .ok (.i2c, 1) := by decide +kernel
theorem d_VIS_8 : decode method_2_code 8 = .ok (.ireturn, 1) := by decide +kernel
theorem pn_VIS : plainFor (⟨"com/example/idemnity/idemnity/IdempotencyKeyFromHeaderPinLaw", "vis", "(I)C"⟩ : MethodName) = true := by first | exact plainFor_of_name (by first | (simp [plainName, overriddenIn]; done) | decide +kernel) | decide +kernel
theorem d_DRAW_0 : decode method_3_code 0 = .ok (.iload_n 0, 1) := by decide +kernel
theorem d_DRAW_1 : decode method_3_code 1 = .ok (.bipush 8, 2) := by decide +kernel
theorem d_DRAW_3 : decode method_3_code 3 = .ok (.iload_n 1, 1) := by decide +kernel
theorem d_DRAW_4 : decode method_3_code 4 = .ok (.imul, 1) := by decide +kernel
theorem d_DRAW_5 : decode method_3_code 5 = .ok (.iushr, 1) := by decide +kernel
theorem d_DRAW_6 : decode method_3_code 6 = .ok (.sipush 255, 3) := by decide +kernel
theorem d_DRAW_9 : decode method_3_code 9 = .ok (.iand, 1) := by decide +kernel
theorem d_DRAW_10 : decode method_3_code 10 = .ok (.invokestatic 7, 3) := by decide +kernel
theorem d_DRAW_13 : decode method_3_code 13 = .ok (.ireturn, 1) := by decide +kernel
theorem pn_DRAW : plainFor (⟨"com/example/idemnity/idemnity/IdempotencyKeyFromHeaderPinLaw", "draw", "(II)C"⟩ : MethodName) = true := by first | exact plainFor_of_name (by first | (simp [plainName, overriddenIn]; done) | decide +kernel) | decide +kernel
theorem d_PAD_0 : decode method_4_code 0 = .ok (.iload_n 0, 1) := by decide +kernel
theorem d_PAD_1 : decode method_4_code 1 = .ok (.bipush 16, 2) := by decide +kernel
theorem d_PAD_3 : decode method_4_code 3 = .ok (.iload_n 1, 1) := by decide +kernel
theorem d_PAD_4 : decode method_4_code 4 = .ok (.iadd, 1) := by decide +kernel
theorem d_PAD_5 : decode method_4_code 5 = .ok (.iushr, 1) := by decide +kernel
theorem d_PAD_6 : decode method_4_code 6 = .ok (.iconst 1, 1) := by decide +kernel
theorem d_PAD_7 : decode method_4_code 7 = .ok (.iand, 1) := by decide +kernel
theorem d_PAD_8 : decode method_4_code 8 = .ok (.ifCond .eq 8, 3) := by decide +kernel
theorem d_PAD_11 : decode method_4_code 11 = .ok (.bipush 9, 2) := by decide +kernel
theorem d_PAD_13 : decode method_4_code 13 = .ok (.goto 5, 3) := by decide +kernel
theorem d_PAD_16 : decode method_4_code 16 = .ok (.bipush 32, 2) := by decide +kernel
theorem d_PAD_18 : decode method_4_code 18 = .ok (.ireturn, 1) := by decide +kernel
theorem pn_PAD : plainFor (⟨"com/example/idemnity/idemnity/IdempotencyKeyFromHeaderPinLaw", "pad", "(II)C"⟩ : MethodName) = true := by first | exact plainFor_of_name (by first | (simp [plainName, overriddenIn]; done) | decide +kernel) | decide +kernel
theorem d_ESC_0 : decode method_5_code 0 = .ok (.iload_n 0, 1) := by decide +kernel
theorem d_ESC_1 : decode method_5_code 1 = .ok (.bipush 34, 2) := by decide +kernel
theorem d_ESC_3 : decode method_5_code 3 = .ok (.if_icmp .eq 9, 3) := by decide +kernel
theorem d_ESC_6 : decode method_5_code 6 = .ok (.iload_n 0, 1) := by decide +kernel
theorem d_ESC_7 : decode method_5_code 7 = .ok (.bipush 92, 2) := by decide +kernel
theorem d_ESC_9 : decode method_5_code 9 = .ok (.if_icmp .ne 7, 3) := by decide +kernel
theorem d_ESC_12 : decode method_5_code 12 = .ok (.iconst 1, 1) := by decide +kernel
theorem d_ESC_13 : decode method_5_code 13 = .ok (.goto 4, 3) := by decide +kernel
theorem d_ESC_16 : decode method_5_code 16 = .ok (.iconst 0, 1) := by decide +kernel
theorem d_ESC_17 : decode method_5_code 17 = .ok (.ireturn, 1) := by decide +kernel
theorem pn_ESC : plainFor (⟨"com/example/idemnity/idemnity/IdempotencyKeyFromHeaderPinLaw", "esc", "(C)Z"⟩ : MethodName) = true := by first | exact plainFor_of_name (by first | (simp [plainName, overriddenIn]; done) | decide +kernel) | decide +kernel
theorem d_PQ_0 : decode method_6_code 0 = .ok (.iload_n 1, 1) := by decide +kernel
theorem d_PQ_1 : decode method_6_code 1 = .ok (.istore_n 3, 1) := by decide +kernel
theorem d_PQ_2 : decode method_6_code 2 = .ok (.iload_n 2, 1) := by decide +kernel
theorem d_PQ_3 : decode method_6_code 3 = .ok (.invokestatic 13, 3) := by decide +kernel
theorem d_PQ_6 : decode method_6_code 6 = .ok (.ifCond .eq 12, 3) := by decide +kernel
theorem d_PQ_9 : decode method_6_code 9 = .ok (.aload_n 0, 1) := by decide +kernel
theorem d_PQ_10 : decode method_6_code 10 = .ok (.iload_n 3, 1) := by decide +kernel
theorem d_PQ_11 : decode method_6_code 11 = .ok (.bipush 92, 2) := by decide +kernel
theorem d_PQ_13 : decode method_6_code 13 = .ok (.castore, 1) := by decide +kernel
theorem d_PQ_14 : decode method_6_code 14 = .ok (.iload_n 3, 1) := by decide +kernel
theorem d_PQ_15 : decode method_6_code 15 = .ok (.iconst 1, 1) := by decide +kernel
theorem d_PQ_16 : decode method_6_code 16 = .ok (.iadd, 1) := by decide +kernel
theorem d_PQ_17 : decode method_6_code 17 = .ok (.istore_n 3, 1) := by decide +kernel
theorem d_PQ_18 : decode method_6_code 18 = .ok (.aload_n 0, 1) := by decide +kernel
theorem d_PQ_19 : decode method_6_code 19 = .ok (.iload_n 3, 1) := by decide +kernel
theorem d_PQ_20 : decode method_6_code 20 = .ok (.iload_n 2, 1) := by decide +kernel
theorem d_PQ_21 : decode method_6_code 21 = .ok (.castore, 1) := by decide +kernel
theorem d_PQ_22 : decode method_6_code 22 = .ok (.iload_n 3, 1) := by decide +kernel
theorem d_PQ_23 : decode method_6_code 23 = .ok (.iconst 1, 1) := by decide +kernel
theorem d_PQ_24 : decode method_6_code 24 = .ok (.iadd, 1) := by decide +kernel
theorem d_PQ_25 : decode method_6_code 25 = .ok (.ireturn, 1) := by decide +kernel
theorem pn_PQ : plainFor (⟨"com/example/idemnity/idemnity/IdempotencyKeyFromHeaderPinLaw", "putQuoted", "([CIC)I"⟩ : MethodName) = true := by first | exact plainFor_of_name (by first | (simp [plainName, overriddenIn]; done) | decide +kernel) | decide +kernel
theorem d_IST_0 : decode prog_9_method_5_code 0 = .ok (.iload_n 0, 1) := by decide +kernel
theorem d_IST_1 : decode prog_9_method_5_code 1 = .ok (.bipush 32, 2) := by decide +kernel
theorem d_IST_3 : decode prog_9_method_5_code 3 = .ok (.if_icmp .eq 9, 3) := by decide +kernel
theorem d_IST_6 : decode prog_9_method_5_code 6 = .ok (.iload_n 0, 1) := by decide +kernel
theorem d_IST_7 : decode prog_9_method_5_code 7 = .ok (.bipush 9, 2) := by decide +kernel
theorem d_IST_9 : decode prog_9_method_5_code 9 = .ok (.if_icmp .ne 7, 3) := by decide +kernel
theorem d_IST_12 : decode prog_9_method_5_code 12 = .ok (.iconst 1, 1) := by decide +kernel
theorem d_IST_13 : decode prog_9_method_5_code 13 = .ok (.goto 4, 3) := by decide +kernel
theorem d_IST_16 : decode prog_9_method_5_code 16 = .ok (.iconst 0, 1) := by decide +kernel
theorem d_IST_17 : decode prog_9_method_5_code 17 = .ok (.ireturn, 1) := by decide +kernel
theorem pn_IST : plainFor (⟨"com/example/idemnity/idemnity/IdempotencyKey", "isSpaceOrTab", "(C)Z"⟩ : MethodName) = true := by first | exact plainFor_of_name (by first | (simp [plainName, overriddenIn]; done) | decide +kernel) | decide +kernel
theorem d_RNN_0 : decode jdk_31_method_11_code 0 = .ok (.aload_n 0, 1) := by decide +kernel
theorem d_RNN_1 : decode jdk_31_method_11_code 1 = .ok (.ifnonnull 12, 3) := by decide +kernel
theorem d_RNN_4 : decode jdk_31_method_11_code 4 = .ok (.new 84, 3) := by decide +kernel
theorem d_RNN_7 : decode jdk_31_method_11_code 7 = .ok (.dup, 1) := by decide +kernel
theorem d_RNN_8 : decode jdk_31_method_11_code 8 = .ok (.aload_n 1, 1) := by decide +kernel
theorem d_RNN_9 : decode jdk_31_method_11_code 9 = .ok (.invokespecial 87, 3) := by decide +kernel
theorem d_RNN_12 : decode jdk_31_method_11_code 12 = .ok (.athrow, 1) := by decide +kernel
theorem d_RNN_13 : decode jdk_31_method_11_code 13 = .ok (.aload_n 0, 1) := by decide +kernel
theorem d_RNN_14 : decode jdk_31_method_11_code 14 = .ok (.areturn, 1) := by decide +kernel
theorem pn_RNN : plainFor (⟨"java/util/Objects", "requireNonNull", "(Ljava/lang/Object;Ljava/lang/String;)Ljava/lang/Object;"⟩ : MethodName) = true := by first | exact plainFor_of_name (by first | (simp [plainName, overriddenIn]; done) | decide +kernel) | decide +kernel
theorem d_KI_0 : decode prog_9_method_1_code 0 = .ok (.aload_n 0, 1) := by decide +kernel
theorem d_KI_1 : decode prog_9_method_1_code 1 = .ok (.invokespecial 1, 3) := by decide +kernel
theorem d_KI_4 : decode prog_9_method_1_code 4 = .ok (.aload_n 0, 1) := by decide +kernel
theorem d_KI_5 : decode prog_9_method_1_code 5 = .ok (.aload_n 1, 1) := by decide +kernel
theorem d_KI_6 : decode prog_9_method_1_code 6 = .ok (.putfield 7, 3) := by decide +kernel
theorem d_KI_9 : decode prog_9_method_1_code 9 = .ok (.return_, 1) := by decide +kernel
theorem pn_KI : plainFor (⟨"com/example/idemnity/idemnity/IdempotencyKey", "<init>", "(Ljava/lang/String;)V"⟩ : MethodName) = true := by first | exact plainFor_of_name (by first | (simp [plainName, overriddenIn]; done) | decide +kernel) | decide +kernel
theorem d_GVL_0 : decode prog_9_method_6_code 0 = .ok (.aload_n 0, 1) := by decide +kernel
theorem d_GVL_1 : decode prog_9_method_6_code 1 = .ok (.getfield 7, 3) := by decide +kernel
theorem d_GVL_4 : decode prog_9_method_6_code 4 = .ok (.areturn, 1) := by decide +kernel
theorem pn_GVL : plainFor (⟨"com/example/idemnity/idemnity/IdempotencyKey", "getValue", "()Ljava/lang/String;"⟩ : MethodName) = true := by first | exact plainFor_of_name (by first | (simp [plainName, overriddenIn]; done) | decide +kernel) | decide +kernel
theorem d_OFK_0 : decode prog_9_method_2_code 0 = .ok (.aload_n 0, 1) := by decide +kernel
theorem d_OFK_1 : decode prog_9_method_2_code 1 = .ok (.ldc 13, 2) := by decide +kernel
theorem d_OFK_3 : decode prog_9_method_2_code 3 = .ok (.invokestatic 15, 3) := by decide +kernel
theorem d_OFK_6 : decode prog_9_method_2_code 6 = .ok (.pop, 1) := by decide +kernel
theorem d_OFK_7 : decode prog_9_method_2_code 7 = .ok (.aload_n 0, 1) := by decide +kernel
theorem d_OFK_8 : decode prog_9_method_2_code 8 = .ok (.invokevirtual 21, 3) := by decide +kernel
theorem d_OFK_11 : decode prog_9_method_2_code 11 = .ok (.ifCond .eq 13, 3) := by decide +kernel
theorem d_OFK_14 : decode prog_9_method_2_code 14 = .ok (.new 27, 3) := by decide +kernel
theorem d_OFK_17 : decode prog_9_method_2_code 17 = .ok (.dup, 1) := by decide +kernel
theorem d_OFK_18 : decode prog_9_method_2_code 18 = .ok (.ldc 29, 2) := by decide +kernel
theorem d_OFK_20 : decode prog_9_method_2_code 20 = .ok (.invokespecial 31, 3) := by decide +kernel
theorem d_OFK_23 : decode prog_9_method_2_code 23 = .ok (.athrow, 1) := by decide +kernel
theorem d_OFK_24 : decode prog_9_method_2_code 24 = .ok (.aload_n 0, 1) := by decide +kernel
theorem d_OFK_25 : decode prog_9_method_2_code 25 = .ok (.invokevirtual 34, 3) := by decide +kernel
theorem d_OFK_28 : decode prog_9_method_2_code 28 = .ok (.sipush 255, 3) := by decide +kernel
theorem d_OFK_31 : decode prog_9_method_2_code 31 = .ok (.if_icmp .le 20, 3) := by decide +kernel
theorem d_OFK_34 : decode prog_9_method_2_code 34 = .ok (.new 27, 3) := by decide +kernel
theorem d_OFK_37 : decode prog_9_method_2_code 37 = .ok (.dup, 1) := by decide +kernel
theorem d_OFK_38 : decode prog_9_method_2_code 38 = .ok (.aload_n 0, 1) := by decide +kernel
theorem d_OFK_39 : decode prog_9_method_2_code 39 = .ok (.invokevirtual 34, 3) := by decide +kernel
theorem d_OFK_42 : decode prog_9_method_2_code 42 = .ok (.invokedynamic 38, 5) := by decide +kernel
theorem d_OFK_47 : decode prog_9_method_2_code 47 = .ok (.invokespecial 31, 3) := by decide +kernel
theorem d_OFK_50 : decode prog_9_method_2_code 50 = .ok (.athrow, 1) := by decide +kernel
theorem d_OFK_51 : decode prog_9_method_2_code 51 = .ok (.iconst 0, 1) := by decide +kernel
theorem d_OFK_52 : decode prog_9_method_2_code 52 = .ok (.istore_n 1, 1) := by decide +kernel
theorem d_OFK_53 : decode prog_9_method_2_code 53 = .ok (.iload_n 1, 1) := by decide +kernel
theorem d_OFK_54 : decode prog_9_method_2_code 54 = .ok (.aload_n 0, 1) := by decide +kernel
theorem d_OFK_55 : decode prog_9_method_2_code 55 = .ok (.invokevirtual 34, 3) := by decide +kernel
theorem d_OFK_58 : decode prog_9_method_2_code 58 = .ok (.if_icmp .ge 78, 3) := by decide +kernel
theorem d_OFK_61 : decode prog_9_method_2_code 61 = .ok (.aload_n 0, 1) := by decide +kernel
theorem d_OFK_62 : decode prog_9_method_2_code 62 = .ok (.iload_n 1, 1) := by decide +kernel
theorem d_OFK_63 : decode prog_9_method_2_code 63 = .ok (.invokevirtual 42, 3) := by decide +kernel
theorem d_OFK_66 : decode prog_9_method_2_code 66 = .ok (.istore_n 2, 1) := by decide +kernel
theorem d_OFK_67 : decode prog_9_method_2_code 67 = .ok (.iload_n 2, 1) := by decide +kernel
theorem d_OFK_68 : decode prog_9_method_2_code 68 = .ok (.bipush 33, 2) := by decide +kernel
theorem d_OFK_70 : decode prog_9_method_2_code 70 = .ok (.if_icmp .lt 9, 3) := by decide +kernel
theorem d_OFK_73 : decode prog_9_method_2_code 73 = .ok (.iload_n 2, 1) := by decide +kernel
theorem d_OFK_74 : decode prog_9_method_2_code 74 = .ok (.bipush 126, 2) := by decide +kernel
theorem d_OFK_76 : decode prog_9_method_2_code 76 = .ok (.if_icmp .le 54, 3) := by decide +kernel
theorem d_OFK_79 : decode prog_9_method_2_code 79 = .ok (.new 27, 3) := by decide +kernel
theorem d_OFK_82 : decode prog_9_method_2_code 82 = .ok (.dup, 1) := by decide +kernel
theorem d_OFK_83 : decode prog_9_method_2_code 83 = .ok (.ldc 46, 2) := by decide +kernel
theorem d_OFK_85 : decode prog_9_method_2_code 85 = .ok (.iconst 4, 1) := by decide +kernel
theorem d_OFK_86 : decode prog_9_method_2_code 86 = .ok (.anewarray 2, 3) := by decide +kernel
theorem d_OFK_89 : decode prog_9_method_2_code 89 = .ok (.dup, 1) := by decide +kernel
theorem d_OFK_90 : decode prog_9_method_2_code 90 = .ok (.iconst 0, 1) := by decide +kernel
theorem d_OFK_91 : decode prog_9_method_2_code 91 = .ok (.aload_n 0, 1) := by decide +kernel
theorem d_OFK_92 : decode prog_9_method_2_code 92 = .ok (.iload_n 1, 1) := by decide +kernel
theorem d_OFK_93 : decode prog_9_method_2_code 93 = .ok (.invokevirtual 48, 3) := by decide +kernel
theorem d_OFK_96 : decode prog_9_method_2_code 96 = .ok (.invokestatic 52, 3) := by decide +kernel
theorem d_OFK_99 : decode prog_9_method_2_code 99 = .ok (.aastore, 1) := by decide +kernel
theorem d_OFK_100 : decode prog_9_method_2_code 100 = .ok (.dup, 1) := by decide +kernel
theorem d_OFK_101 : decode prog_9_method_2_code 101 = .ok (.iconst 1, 1) := by decide +kernel
theorem d_OFK_102 : decode prog_9_method_2_code 102 = .ok (.iload_n 1, 1) := by decide +kernel
theorem d_OFK_103 : decode prog_9_method_2_code 103 = .ok (.invokestatic 52, 3) := by decide +kernel
theorem d_OFK_106 : decode prog_9_method_2_code 106 = .ok (.aastore, 1) := by decide +kernel
theorem d_OFK_107 : decode prog_9_method_2_code 107 = .ok (.dup, 1) := by decide +kernel
theorem d_OFK_108 : decode prog_9_method_2_code 108 = .ok (.iconst 2, 1) := by decide +kernel
theorem d_OFK_109 : decode prog_9_method_2_code 109 = .ok (.bipush 33, 2) := by decide +kernel
theorem d_OFK_111 : decode prog_9_method_2_code 111 = .ok (.invokestatic 52, 3) := by decide +kernel
theorem d_OFK_114 : decode prog_9_method_2_code 114 = .ok (.aastore, 1) := by decide +kernel
theorem d_OFK_115 : decode prog_9_method_2_code 115 = .ok (.dup, 1) := by decide +kernel
theorem d_OFK_116 : decode prog_9_method_2_code 116 = .ok (.iconst 3, 1) := by decide +kernel
theorem d_OFK_117 : decode prog_9_method_2_code 117 = .ok (.bipush 126, 2) := by decide +kernel
theorem d_OFK_119 : decode prog_9_method_2_code 119 = .ok (.invokestatic 52, 3) := by decide +kernel
theorem d_OFK_122 : decode prog_9_method_2_code 122 = .ok (.aastore, 1) := by decide +kernel
theorem d_OFK_123 : decode prog_9_method_2_code 123 = .ok (.invokestatic 58, 3) := by decide +kernel
theorem d_OFK_126 : decode prog_9_method_2_code 126 = .ok (.invokespecial 31, 3) := by decide +kernel
theorem d_OFK_129 : decode prog_9_method_2_code 129 = .ok (.athrow, 1) := by decide +kernel
theorem d_OFK_130 : decode prog_9_method_2_code 130 = .ok (.iinc 1 1, 3) := by decide +kernel
theorem d_OFK_133 : decode prog_9_method_2_code 133 = .ok (.goto (-80), 3) := by decide +kernel
theorem d_OFK_136 : decode prog_9_method_2_code 136 = .ok (.new 8, 3) := by decide +kernel
theorem d_OFK_139 : decode prog_9_method_2_code 139 = .ok (.dup, 1) := by decide +kernel
theorem d_OFK_140 : decode prog_9_method_2_code 140 = .ok (.aload_n 0, 1) := by decide +kernel
theorem d_OFK_141 : decode prog_9_method_2_code 141 = .ok (.invokespecial 62, 3) := by decide +kernel
theorem d_OFK_144 : decode prog_9_method_2_code 144 = .ok (.areturn, 1) := by decide +kernel
theorem pn_OFK : plainFor (⟨"com/example/idemnity/idemnity/IdempotencyKey", "of", "(Ljava/lang/String;)Lcom/example/idemnity/idemnity/IdempotencyKey;"⟩ : MethodName) = true := by first | exact plainFor_of_name (by first | (simp [plainName, overriddenIn]; done) | decide +kernel) | decide +kernel
theorem d_UNQ_0 : decode prog_9_method_4_code 0 = .ok (.new 87, 3) := by decide +kernel
theorem d_UNQ_3 : decode prog_9_method_4_code 3 = .ok (.dup, 1) := by decide +kernel
theorem d_UNQ_4 : decode prog_9_method_4_code 4 = .ok (.aload_n 0, 1) := by decide +kernel
theorem d_UNQ_5 : decode prog_9_method_4_code 5 = .ok (.invokevirtual 34, 3) := by decide +kernel
theorem d_UNQ_8 : decode prog_9_method_4_code 8 = .ok (.invokespecial 89, 3) := by decide +kernel
theorem d_UNQ_11 : decode prog_9_method_4_code 11 = .ok (.astore_n 1, 1) := by decide +kernel
theorem d_UNQ_12 : decode prog_9_method_4_code 12 = .ok (.iconst 1, 1) := by decide +kernel
theorem d_UNQ_13 : decode prog_9_method_4_code 13 = .ok (.istore_n 2, 1) := by decide +kernel
theorem d_UNQ_14 : decode prog_9_method_4_code 14 = .ok (.iconst 0, 1) := by decide +kernel
theorem d_UNQ_15 : decode prog_9_method_4_code 15 = .ok (.istore_n 3, 1) := by decide +kernel
theorem d_UNQ_16 : decode prog_9_method_4_code 16 = .ok (.iload_n 3, 1) := by decide +kernel
theorem d_UNQ_17 : decode prog_9_method_4_code 17 = .ok (.ifCond .ne 113, 3) := by decide +kernel
theorem d_UNQ_20 : decode prog_9_method_4_code 20 = .ok (.iload_n 2, 1) := by decide +kernel
theorem d_UNQ_21 : decode prog_9_method_4_code 21 = .ok (.aload_n 0, 1) := by decide +kernel
theorem d_UNQ_22 : decode prog_9_method_4_code 22 = .ok (.invokevirtual 34, 3) := by decide +kernel
theorem d_UNQ_25 : decode prog_9_method_4_code 25 = .ok (.if_icmp .ge 105, 3) := by decide +kernel
theorem d_UNQ_28 : decode prog_9_method_4_code 28 = .ok (.aload_n 0, 1) := by decide +kernel
theorem d_UNQ_29 : decode prog_9_method_4_code 29 = .ok (.iload_n 2, 1) := by decide +kernel
theorem d_UNQ_30 : decode prog_9_method_4_code 30 = .ok (.invokevirtual 42, 3) := by decide +kernel
theorem d_UNQ_33 : decode prog_9_method_4_code 33 = .ok (.istore 4, 2) := by decide +kernel
theorem d_UNQ_35 : decode prog_9_method_4_code 35 = .ok (.iload 4, 2) := by decide +kernel
theorem d_UNQ_37 : decode prog_9_method_4_code 37 = .ok (.bipush 92, 2) := by decide +kernel
theorem d_UNQ_39 : decode prog_9_method_4_code 39 = .ok (.if_icmp .ne 63, 3) := by decide +kernel
theorem d_UNQ_42 : decode prog_9_method_4_code 42 = .ok (.iload_n 2, 1) := by decide +kernel
theorem d_UNQ_43 : decode prog_9_method_4_code 43 = .ok (.iconst 1, 1) := by decide +kernel
theorem d_UNQ_44 : decode prog_9_method_4_code 44 = .ok (.iadd, 1) := by decide +kernel
theorem d_UNQ_45 : decode prog_9_method_4_code 45 = .ok (.aload_n 0, 1) := by decide +kernel
theorem d_UNQ_46 : decode prog_9_method_4_code 46 = .ok (.invokevirtual 34, 3) := by decide +kernel
theorem d_UNQ_49 : decode prog_9_method_4_code 49 = .ok (.if_icmp .ge 13, 3) := by decide +kernel
theorem d_UNQ_52 : decode prog_9_method_4_code 52 = .ok (.aload_n 0, 1) := by decide +kernel
theorem d_UNQ_53 : decode prog_9_method_4_code 53 = .ok (.iload_n 2, 1) := by decide +kernel
theorem d_UNQ_54 : decode prog_9_method_4_code 54 = .ok (.iconst 1, 1) := by decide +kernel
theorem d_UNQ_55 : decode prog_9_method_4_code 55 = .ok (.iadd, 1) := by decide +kernel
theorem d_UNQ_56 : decode prog_9_method_4_code 56 = .ok (.invokevirtual 42, 3) := by decide +kernel
theorem d_UNQ_59 : decode prog_9_method_4_code 59 = .ok (.goto 4, 3) := by decide +kernel
theorem d_UNQ_62 : decode prog_9_method_4_code 62 = .ok (.iconst 0, 1) := by decide +kernel
theorem d_UNQ_63 : decode prog_9_method_4_code 63 = .ok (.istore 5, 2) := by decide +kernel
theorem d_UNQ_65 : decode prog_9_method_4_code 65 = .ok (.iload 5, 2) := by decide +kernel
theorem d_UNQ_67 : decode prog_9_method_4_code 67 = .ok (.bipush 34, 2) := by decide +kernel
theorem d_UNQ_69 : decode prog_9_method_4_code 69 = .ok (.if_icmp .eq 20, 3) := by decide +kernel
theorem d_UNQ_72 : decode prog_9_method_4_code 72 = .ok (.iload 5, 2) := by decide +kernel
theorem d_UNQ_74 : decode prog_9_method_4_code 74 = .ok (.bipush 92, 2) := by decide +kernel
theorem d_UNQ_76 : decode prog_9_method_4_code 76 = .ok (.if_icmp .eq 13, 3) := by decide +kernel
theorem d_UNQ_79 : decode prog_9_method_4_code 79 = .ok (.new 27, 3) := by decide +kernel
theorem d_UNQ_82 : decode prog_9_method_4_code 82 = .ok (.dup, 1) := by decide +kernel
theorem d_UNQ_83 : decode prog_9_method_4_code 83 = .ok (.ldc 92, 2) := by decide +kernel
theorem d_UNQ_85 : decode prog_9_method_4_code 85 = .ok (.invokespecial 31, 3) := by decide +kernel
theorem d_UNQ_88 : decode prog_9_method_4_code 88 = .ok (.athrow, 1) := by decide +kernel
theorem d_UNQ_89 : decode prog_9_method_4_code 89 = .ok (.aload_n 1, 1) := by decide +kernel
theorem d_UNQ_90 : decode prog_9_method_4_code 90 = .ok (.iload 5, 2) := by decide +kernel
theorem d_UNQ_92 : decode prog_9_method_4_code 92 = .ok (.invokevirtual 94, 3) := by decide +kernel
theorem d_UNQ_95 : decode prog_9_method_4_code 95 = .ok (.pop, 1) := by decide +kernel
theorem d_UNQ_96 : decode prog_9_method_4_code 96 = .ok (.iinc 2 2, 3) := by decide +kernel
theorem d_UNQ_99 : decode prog_9_method_4_code 99 = .ok (.goto 28, 3) := by decide +kernel
theorem d_UNQ_102 : decode prog_9_method_4_code 102 = .ok (.iload 4, 2) := by decide +kernel
theorem d_UNQ_104 : decode prog_9_method_4_code 104 = .ok (.bipush 34, 2) := by decide +kernel
theorem d_UNQ_106 : decode prog_9_method_4_code 106 = .ok (.if_icmp .ne 11, 3) := by decide +kernel
theorem d_UNQ_109 : decode prog_9_method_4_code 109 = .ok (.iconst 1, 1) := by decide +kernel
theorem d_UNQ_110 : decode prog_9_method_4_code 110 = .ok (.istore_n 3, 1) := by decide +kernel
theorem d_UNQ_111 : decode prog_9_method_4_code 111 = .ok (.iinc 2 1, 3) := by decide +kernel
theorem d_UNQ_114 : decode prog_9_method_4_code 114 = .ok (.goto 13, 3) := by decide +kernel
theorem d_UNQ_117 : decode prog_9_method_4_code 117 = .ok (.aload_n 1, 1) := by decide +kernel
theorem d_UNQ_118 : decode prog_9_method_4_code 118 = .ok (.iload 4, 2) := by decide +kernel
theorem d_UNQ_120 : decode prog_9_method_4_code 120 = .ok (.invokevirtual 94, 3) := by decide +kernel
theorem d_UNQ_123 : decode prog_9_method_4_code 123 = .ok (.pop, 1) := by decide +kernel
theorem d_UNQ_124 : decode prog_9_method_4_code 124 = .ok (.iinc 2 1, 3) := by decide +kernel
theorem d_UNQ_127 : decode prog_9_method_4_code 127 = .ok (.goto (-111), 3) := by decide +kernel
theorem d_UNQ_130 : decode prog_9_method_4_code 130 = .ok (.iload_n 3, 1) := by decide +kernel
theorem d_UNQ_131 : decode prog_9_method_4_code 131 = .ok (.ifCond .ne 13, 3) := by decide +kernel
theorem d_UNQ_134 : decode prog_9_method_4_code 134 = .ok (.new 27, 3) := by decide +kernel
theorem d_UNQ_137 : decode prog_9_method_4_code 137 = .ok (.dup, 1) := by decide +kernel
theorem d_UNQ_138 : decode prog_9_method_4_code 138 = .ok (.ldc 98, 2) := by decide +kernel
theorem d_UNQ_140 : decode prog_9_method_4_code 140 = .ok (.invokespecial 31, 3) := by decide +kernel
theorem d_UNQ_143 : decode prog_9_method_4_code 143 = .ok (.athrow, 1) := by decide +kernel
theorem d_UNQ_144 : decode prog_9_method_4_code 144 = .ok (.iload_n 2, 1) := by decide +kernel
theorem d_UNQ_145 : decode prog_9_method_4_code 145 = .ok (.aload_n 0, 1) := by decide +kernel
theorem d_UNQ_146 : decode prog_9_method_4_code 146 = .ok (.invokevirtual 34, 3) := by decide +kernel
theorem d_UNQ_149 : decode prog_9_method_4_code 149 = .ok (.if_icmp .ge 13, 3) := by decide +kernel
theorem d_UNQ_152 : decode prog_9_method_4_code 152 = .ok (.new 27, 3) := by decide +kernel
theorem d_UNQ_155 : decode prog_9_method_4_code 155 = .ok (.dup, 1) := by decide +kernel
theorem d_UNQ_156 : decode prog_9_method_4_code 156 = .ok (.ldc 100, 2) := by decide +kernel
theorem d_UNQ_158 : decode prog_9_method_4_code 158 = .ok (.invokespecial 31, 3) := by decide +kernel
theorem d_UNQ_161 : decode prog_9_method_4_code 161 = .ok (.athrow, 1) := by decide +kernel
theorem d_UNQ_162 : decode prog_9_method_4_code 162 = .ok (.aload_n 1, 1) := by decide +kernel
theorem d_UNQ_163 : decode prog_9_method_4_code 163 = .ok (.invokevirtual 102, 3) := by decide +kernel
theorem d_UNQ_166 : decode prog_9_method_4_code 166 = .ok (.areturn, 1) := by decide +kernel
theorem pn_UNQ : plainFor (⟨"com/example/idemnity/idemnity/IdempotencyKey", "unquote", "(Ljava/lang/String;)Ljava/lang/String;"⟩ : MethodName) = true := by first | exact plainFor_of_name (by first | (simp [plainName, overriddenIn]; done) | decide +kernel) | decide +kernel
theorem d_FH_0 : decode prog_9_method_3_code 0 = .ok (.aload_n 0, 1) := by decide +kernel
theorem d_FH_1 : decode prog_9_method_3_code 1 = .ok (.ldc 63, 2) := by decide +kernel
theorem d_FH_3 : decode prog_9_method_3_code 3 = .ok (.invokestatic 15, 3) := by decide +kernel
theorem d_FH_6 : decode prog_9_method_3_code 6 = .ok (.pop, 1) := by decide +kernel
theorem d_FH_7 : decode prog_9_method_3_code 7 = .ok (.iconst 0, 1) := by decide +kernel
theorem d_FH_8 : decode prog_9_method_3_code 8 = .ok (.istore_n 1, 1) := by decide +kernel
theorem d_FH_9 : decode prog_9_method_3_code 9 = .ok (.aload_n 0, 1) := by decide +kernel
theorem d_FH_10 : decode prog_9_method_3_code 10 = .ok (.invokevirtual 34, 3) := by decide +kernel
theorem d_FH_13 : decode prog_9_method_3_code 13 = .ok (.istore_n 2, 1) := by decide +kernel
theorem d_FH_14 : decode prog_9_method_3_code 14 = .ok (.iload_n 1, 1) := by decide +kernel
theorem d_FH_15 : decode prog_9_method_3_code 15 = .ok (.iload_n 2, 1) := by decide +kernel
theorem d_FH_16 : decode prog_9_method_3_code 16 = .ok (.if_icmp .ge 20, 3) := by decide +kernel
theorem d_FH_19 : decode prog_9_method_3_code 19 = .ok (.aload_n 0, 1) := by decide +kernel
theorem d_FH_20 : decode prog_9_method_3_code 20 = .ok (.iload_n 1, 1) := by decide +kernel
theorem d_FH_21 : decode prog_9_method_3_code 21 = .ok (.invokevirtual 42, 3) := by decide +kernel
theorem d_FH_24 : decode prog_9_method_3_code 24 = .ok (.invokestatic 65, 3) := by decide +kernel
theorem d_FH_27 : decode prog_9_method_3_code 27 = .ok (.ifCond .eq 9, 3) := by decide +kernel
theorem d_FH_30 : decode prog_9_method_3_code 30 = .ok (.iinc 1 1, 3) := by decide +kernel
theorem d_FH_33 : decode prog_9_method_3_code 33 = .ok (.goto (-19), 3) := by decide +kernel
theorem d_FH_36 : decode prog_9_method_3_code 36 = .ok (.iload_n 2, 1) := by decide +kernel
theorem d_FH_37 : decode prog_9_method_3_code 37 = .ok (.iload_n 1, 1) := by decide +kernel
theorem d_FH_38 : decode prog_9_method_3_code 38 = .ok (.if_icmp .le 22, 3) := by decide +kernel
theorem d_FH_41 : decode prog_9_method_3_code 41 = .ok (.aload_n 0, 1) := by decide +kernel
theorem d_FH_42 : decode prog_9_method_3_code 42 = .ok (.iload_n 2, 1) := by decide +kernel
theorem d_FH_43 : decode prog_9_method_3_code 43 = .ok (.iconst 1, 1) := by decide +kernel
theorem d_FH_44 : decode prog_9_method_3_code 44 = .ok (.isub, 1) := by decide +kernel
theorem d_FH_45 : decode prog_9_method_3_code 45 = .ok (.invokevirtual 42, 3) := by decide +kernel
theorem d_FH_48 : decode prog_9_method_3_code 48 = .ok (.invokestatic 65, 3) := by decide +kernel
theorem d_FH_51 : decode prog_9_method_3_code 51 = .ok (.ifCond .eq 9, 3) := by decide +kernel
theorem d_FH_54 : decode prog_9_method_3_code 54 = .ok (.iinc 2 (-1), 3) := by decide +kernel
theorem d_FH_57 : decode prog_9_method_3_code 57 = .ok (.goto (-21), 3) := by decide +kernel
theorem d_FH_60 : decode prog_9_method_3_code 60 = .ok (.aload_n 0, 1) := by decide +kernel
theorem d_FH_61 : decode prog_9_method_3_code 61 = .ok (.iload_n 1, 1) := by decide +kernel
theorem d_FH_62 : decode prog_9_method_3_code 62 = .ok (.iload_n 2, 1) := by decide +kernel
theorem d_FH_63 : decode prog_9_method_3_code 63 = .ok (.invokevirtual 69, 3) := by decide +kernel
theorem d_FH_66 : decode prog_9_method_3_code 66 = .ok (.astore_n 3, 1) := by decide +kernel
theorem d_FH_67 : decode prog_9_method_3_code 67 = .ok (.aload_n 3, 1) := by decide +kernel
theorem d_FH_68 : decode prog_9_method_3_code 68 = .ok (.ldc 73, 2) := by decide +kernel
theorem d_FH_70 : decode prog_9_method_3_code 70 = .ok (.invokevirtual 75, 3) := by decide +kernel
theorem d_FH_73 : decode prog_9_method_3_code 73 = .ok (.ifCond .eq 10, 3) := by decide +kernel
theorem d_FH_76 : decode prog_9_method_3_code 76 = .ok (.aload_n 3, 1) := by decide +kernel
theorem d_FH_77 : decode prog_9_method_3_code 77 = .ok (.invokestatic 79, 3) := by decide +kernel
theorem d_FH_80 : decode prog_9_method_3_code 80 = .ok (.goto 4, 3) := by decide +kernel
theorem d_FH_83 : decode prog_9_method_3_code 83 = .ok (.aload_n 3, 1) := by decide +kernel
theorem d_FH_84 : decode prog_9_method_3_code 84 = .ok (.invokestatic 83, 3) := by decide +kernel
theorem d_FH_87 : decode prog_9_method_3_code 87 = .ok (.areturn, 1) := by decide +kernel
theorem pn_FH : plainFor (⟨"com/example/idemnity/idemnity/IdempotencyKey", "fromHeader", "(Ljava/lang/String;)Lcom/example/idemnity/idemnity/IdempotencyKey;"⟩ : MethodName) = true := by first | exact plainFor_of_name (by first | (simp [plainName, overriddenIn]; done) | decide +kernel) | decide +kernel
theorem pn_law : plainFor (⟨"com/example/idemnity/idemnity/IdempotencyKeyFromHeaderPinLaw", "law", "(III)Z"⟩ : MethodName) = true := by first | exact plainFor_of_name (by first | (simp [plainName, overriddenIn]; done) | decide +kernel) | decide +kernel
section Plain
def sp (c : Int32) : Prop := c = 32 ∨ c = 9
def VC (c : Int32) : Prop := ¬ c < 33 ∧ ¬ (126 : Int32) < c
def isE (c : Int32) : Prop := c = 34 ∨ c = 92
instance (c : Int32) : Decidable (isE c) := inferInstanceAs (Decidable (c = 34 ∨ c = 92))
instance (c : Int32) : Decidable (sp c) := inferInstanceAs (Decidable (c = 32 ∨ c = 9))
def encC (c : Int32) : List Int32 := if isE c then [92, c] else [c]
def encL : List Int32 → List Int32
  | [] => []
  | c :: r => encC c ++ encL r
theorem VC.rng {c : Int32} (h : VC c) : ¬ c < 0 ∧ ¬ (255 : Int32) < c := by
  obtain ⟨h1, h2⟩ := h
  rw [i_lt] at h1 h2
  have e1 : (33 : Int32).toInt = 33 := by decide
  have e2 : (126 : Int32).toInt = 126 := by decide
  have e3 : (0 : Int32).toInt = 0 := by decide
  have e4 : (255 : Int32).toInt = 255 := by decide
  rw [i_lt, i_lt]; omega
theorem VC.nar {c : Int32} (h : VC c) : nar .char c = c := nar_char_id h.rng.1 (lt_65535 h.rng.2)
theorem VC.nsp {c : Int32} (h : VC c) : ¬ sp c := fun q => by
  rcases q with rfl | rfl
  · exact h.1 (by decide)
  · exact h.1 (by decide)
theorem vc_n {v : Nat} (h1 : 33 ≤ v) (h2 : v ≤ 126) : VC (Int32.ofNat v) := by
  constructor
  · rw [show (33 : Int32) = Int32.ofNat 33 from rfl, n_lt (by omega) (by omega)]; omega
  · rw [show (126 : Int32) = Int32.ofNat 126 from rfl, n_lt (by omega) (by omega)]; omega
theorem sp_rng {c : Int32} (h : sp c) : ¬ c < 0 ∧ ¬ (255 : Int32) < c := by rcases h with rfl | rfl <;> decide
theorem sp_nar {c : Int32} (h : sp c) : nar .char c = c := by rcases h with rfl | rfl <;> decide
theorem encC_len (c : Int32) : (encC c).length = 1 + if isE c then 1 else 0 := by unfold encC; split <;> rfl
theorem encL_app (V W : List Int32) : encL (V ++ W) = encL V ++ encL W := by
  induction V with
  | nil => rfl
  | cons c r ih => show encC c ++ encL (r ++ W) = encC c ++ encL r ++ encL W; rw [ih, List.append_assoc]
theorem encL_le (V : List Int32) : V.length ≤ (encL V).length := by
  induction V with
  | nil => exact Nat.le_refl _
  | cons c r ih => show r.length + 1 ≤ (encC c ++ encL r).length; rw [List.length_append, encC_len]; omega
theorem encL_vc {V : List Int32} (h : ∀ c ∈ V, VC c) : ∀ c ∈ encL V, VC c := by
  induction V with
  | nil => intro c hc; cases hc
  | cons d r ih =>
    intro c hc
    rcases List.mem_append.mp (show c ∈ encC d ++ encL r from hc) with q | q
    · unfold encC at q
      split at q
      · rcases List.mem_cons.mp q with rfl | q
        · exact ⟨by decide, by decide⟩
        · rw [List.mem_singleton.mp q]; exact h d (List.mem_cons_self ..)
      · rw [List.mem_singleton.mp q]; exact h d (List.mem_cons_self ..)
    · exact ih (fun c hc => h c (List.mem_cons_of_mem _ hc)) c q
theorem xget (V1 V2 : List Int32) (j : Nat) : (34 :: (encL (V1 ++ V2) ++ [34]) : List Int32).getD (1 + (encL V1).length + j) 0 = (encL V2 ++ [34]).getD j 0 := by
  have e : (34 :: (encL (V1 ++ V2) ++ [34]) : List Int32) = (34 :: encL V1) ++ (encL V2 ++ [34]) := by rw [encL_app]; simp
  rw [e, getD_app, if_neg (by simp; omega)]
  congr 1
  simp; omega
theorem xlen (V1 V2 : List Int32) : (34 :: (encL (V1 ++ V2) ++ [34]) : List Int32).length = 2 + (encL V1).length + (encL V2).length := by rw [encL_app]; simp; omega
theorem ext_getD {xs ys : List Int32} (h : xs.length = ys.length) (hg : ∀ j, j < xs.length → xs.getD j 0 = ys.getD j 0) : xs = ys := by
  refine List.ext_getElem? fun j => ?_
  by_cases hj : j < xs.length
  · have := hg j hj
    rw [List.getD_eq_getElem?_getD, List.getD_eq_getElem?_getD, List.getElem?_eq_getElem hj, List.getElem?_eq_getElem (h ▸ hj)] at this
    rw [List.getElem?_eq_getElem hj, List.getElem?_eq_getElem (h ▸ hj)]
    exact congrArg some this
  · rw [List.getElem?_eq_none (by omega), List.getElem?_eq_none (by omega)]
/-- the buffer g: the chars Y from ld on, elsewhere the pads -/
def GI (qs : List Int32) (ld : Nat) (g : Nat → Value) (Y : List Int32) : Prop := ∀ j, j < 8 → g j = .int (if ld ≤ j ∧ j < ld + Y.length then Y.getD (j - ld) 0 else qs.getD j 0)
theorem GI.app {qs : List Int32} {ld : Nat} {g g' : Nat → Value} {Y C : List Int32} (h : GI qs ld g Y) (hg : ∀ j, j < 8 → g' j = if ld + Y.length ≤ j ∧ j < ld + Y.length + C.length then .int (C.getD (j - (ld + Y.length)) 0) else g j) : GI qs ld g' (Y ++ C) := fun j hj => by
  rw [hg j hj, List.length_append, getD_app]
  by_cases q : ld + Y.length ≤ j ∧ j < ld + Y.length + C.length
  · rw [if_pos q, if_pos (by omega), if_neg (by omega), show j - ld - Y.length = j - (ld + Y.length) by omega]
  · rw [if_neg q, h j hj]
    by_cases q2 : ld ≤ j ∧ j < ld + Y.length
    · rw [if_pos q2, if_pos (by omega), if_pos (by omega)]
    · rw [if_neg q2, if_neg (by omega)]
theorem GI.put {qs : List Int32} {ld p : Nat} {g : Nat → Value} {Y : List Int32} {c : Int32} (h : GI qs ld g Y) (hp : p = ld + Y.length) : GI qs ld (fun j => if j = p then .int c else g j) (Y ++ [c]) := h.app fun j hj => by
  by_cases q : j = p
  · rw [if_pos q, if_pos (by simp; omega), show j - (ld + Y.length) = 0 by omega]; rfl
  · rw [if_neg q, if_neg (by simp; omega)]
theorem msk_n (i : Int32) {b : Nat} (hb : b < 2147483648) : ∃ k : Nat, k ≤ b ∧ i &&& Int32.ofNat b = Int32.ofNat k := by
  have h := c_and i (Int32.ofNat b) (by rw [n_int hb]; omega)
  rw [n_int hb] at h
  exact ⟨(i &&& Int32.ofNat b).toInt.toNat, by omega, i_eq (by rw [n_int (by omega)]; omega)⟩
end Plain
section Own
variable {l : Launch} {Z : State} {a0 : Array Value} {EL : List (String × Nat)} {zc : Int32} {x t a y z u k b : Addr} {cx ct cy cu ck cb : Cell} {cs X V : List Int32} {fm v0 : Value} {r q n am ax : Nat} {g : Nat → Value} {ch : Int32}
theorem c_VIS (hw : ∀ d ∈ tables_1, d.before a0 Z = true) (hEL : EW Z a0 EL) (hr : r ≤ 255) :
    OCon l Z EL (⟨"com/example/idemnity/idemnity/IdempotencyKeyFromHeaderPinLaw", "vis", "(I)C"⟩ : MethodName) method_2_code 1 (some .char) [] ({ frames := 0, cells := 0, slots := 0, locals := 0 } : Room) #[.int (Int32.ofNat r)] [] [] (fun v M N => M = [] ∧ N = [] ∧ ∃ c, v = some (.int c) ∧ VC c) := by
  refine OCon.of_wp (L0 := [.val (.int (Int32.ofNat r))]) pn_VIS hEL (fun m => by first | (simp [entryFrame, mkF, argsToLocals, Value.category]; done) | rfl) ?_
  intro p e s m below meth c hk
  have e1 : Int32.ofNat r % 94 = Int32.ofNat (r % 94) := n_mod (b := 94) (by omega) (by decide)
  have e2 : (33 : Int32) + Int32.ofNat (r % 94) = Int32.ofNat (33 + r % 94) := n_add 33 _
  have hv : VC (Int32.ofNat (33 + r % 94)) := vc_n (by omega) (by omega)
  refine OWp.bipush hk d_VIS_0 (pc' := 2) rfl (z := 33) rfl ?_
  refine OWp.iload_n hk d_VIS_2 (pc' := 3) rfl rfl ?_
  refine OWp.bipush hk d_VIS_3 (pc' := 5) rfl (z := 94) rfl ?_
  refine OWp.irem hk d_VIS_5 (pc' := 6) rfl (by decide) ?_
  rw [e1]
  refine OWp.iadd hk d_VIS_6 (pc' := 7) rfl ?_
  rw [e2]
  refine OWp.i2c hk d_VIS_7 (pc' := 8) rfl ?_
  exact OWp.retN hk (Or.inr (Or.inr (Or.inl rfl))) d_VIS_8 ⟨rfl, rfl, Int32.ofNat (33 + r % 94), by
    have h2 : nar .char (Int32.ofNat (33 + r % 94)) = Int32.ofNat (33 + r % 94) := hv.nar
    show some (Value.int (nar .char (nar .char (Int32.ofNat (33 + r % 94))))) = _
    rw [h2, h2], hv⟩ (List.Sublist.refl _) (fun _ h => h) (by decide) (by decide)
theorem c_DRAW (hw : ∀ d ∈ tables_1, d.before a0 Z = true) (hEL : EW Z a0 EL) (q0 q1 : Int32) :
    OCon l Z EL (⟨"com/example/idemnity/idemnity/IdempotencyKeyFromHeaderPinLaw", "draw", "(II)C"⟩ : MethodName) method_3_code 2 (some .char) [] ({ frames := 1, cells := 0, slots := 0, locals := 12 } : Room) #[.int q0, .int q1] [] [] (fun v M N => M = [] ∧ N = [] ∧ ∃ c, v = some (.int c) ∧ VC c) := by
  refine OCon.of_wp (L0 := [.val (.int q0), .val (.int q1)]) pn_DRAW hEL (fun m => by first | (simp [entryFrame, mkF, argsToLocals, Value.category]; done) | rfl) ?_
  intro p e s m below meth c hk
  obtain ⟨r, hr, er⟩ := msk_n (XT.ushr q0 (8 * q1)) (b := 255) (by decide)
  have er' : XT.ushr q0 (8 * q1) &&& 255 = Int32.ofNat r := er
  refine OWp.iload_n hk d_DRAW_0 (pc' := 1) rfl rfl ?_
  refine OWp.bipush hk d_DRAW_1 (pc' := 3) rfl (z := 8) rfl ?_
  refine OWp.iload_n hk d_DRAW_3 (pc' := 4) rfl rfl ?_
  refine OWp.imul hk d_DRAW_4 (pc' := 5) rfl ?_
  refine OWp.iushr hk d_DRAW_5 (pc' := 6) rfl ?_
  refine OWp.sipush hk d_DRAW_6 (pc' := 9) rfl (z := 255) rfl ?_
  refine OWp.iand hk d_DRAW_9 (pc' := 10) rfl ?_
  rw [er']
  refine OWp.callS hk d_DRAW_10 (pc' := 13) rfl (hw _ (List.mem_of_getElem? (i := 4) rfl)) (hw _ (List.mem_of_getElem? (i := 5) rfl)) (hw _ (List.mem_of_getElem? (i := 2) rfl)) (hw _ (List.mem_of_getElem? (i := 6) rfl)) (by decide) (c_VIS hw hEL hr) rfl (by simp) rfl (lenOf pd_24 rfl) rfl (W := 0) rfl (by first | decide | (dsimp only; omega)) (by first | decide | (dsimp only; omega)) (by first | decide | (dsimp only; omega)) (by first | decide | (dsimp only; omega)) ?_
  rintro _ _ _ ⟨rfl, rfl, c1, rfl, h1⟩
  exact OWp.retN hk (Or.inr (Or.inr (Or.inl rfl))) d_DRAW_13 ⟨rfl, rfl, c1, by rw [h1.nar], h1⟩ (List.Sublist.refl _) (fun _ h => h) (by decide) (by decide)
theorem c_PAD (hw : ∀ d ∈ tables_1, d.before a0 Z = true) (hEL : EW Z a0 EL) (q0 q1 : Int32) :
    OCon l Z EL (⟨"com/example/idemnity/idemnity/IdempotencyKeyFromHeaderPinLaw", "pad", "(II)C"⟩ : MethodName) method_4_code 2 (some .char) [] ({ frames := 0, cells := 0, slots := 0, locals := 0 } : Room) #[.int q0, .int q1] [] [] (fun v M N => M = [] ∧ N = [] ∧ ∃ c, v = some (.int c) ∧ sp c) := by
  refine OCon.of_wp (L0 := [.val (.int q0), .val (.int q1)]) pn_PAD hEL (fun m => by first | (simp [entryFrame, mkF, argsToLocals, Value.category]; done) | rfl) ?_
  intro p e s m below meth c hk
  refine OWp.iload_n hk d_PAD_0 (pc' := 1) rfl rfl ?_
  refine OWp.bipush hk d_PAD_1 (pc' := 3) rfl (z := 16) rfl ?_
  refine OWp.iload_n hk d_PAD_3 (pc' := 4) rfl rfl ?_
  refine OWp.iadd hk d_PAD_4 (pc' := 5) rfl ?_
  refine OWp.iushr hk d_PAD_5 (pc' := 6) rfl ?_
  refine OWp.iconst hk d_PAD_6 (pc' := 7) rfl (z := 1) rfl ?_
  refine OWp.iand hk d_PAD_7 (pc' := 8) rfl ?_
  by_cases h : XT.ushr q0 (16 + q1) &&& 1 = 0
  · refine OWp.ifYes hk d_PAD_8 (XT.i0_eq_t h) (by decide) (pc' := 16) rfl ?_
    refine OWp.bipush hk d_PAD_16 (pc' := 18) rfl (z := 32) rfl ?_
    exact OWp.retN hk (Or.inr (Or.inr (Or.inl rfl))) d_PAD_18 ⟨rfl, rfl, 32, rfl, Or.inl rfl⟩ (List.Sublist.refl _) (fun _ h => h) (by decide) (by decide)
  · refine OWp.ifNo hk d_PAD_8 (XT.i0_eq_f h) (pc' := 11) rfl ?_
    refine OWp.bipush hk d_PAD_11 (pc' := 13) rfl (z := 9) rfl ?_
    refine OWp.goto hk d_PAD_13 (by decide) (pc' := 18) rfl ?_
    exact OWp.retN hk (Or.inr (Or.inr (Or.inl rfl))) d_PAD_18 ⟨rfl, rfl, 9, rfl, Or.inr rfl⟩ (List.Sublist.refl _) (fun _ h => h) (by decide) (by decide)
theorem c_ESC (hw : ∀ d ∈ tables_1, d.before a0 Z = true) (hEL : EW Z a0 EL)  :
    OCon l Z EL (⟨"com/example/idemnity/idemnity/IdempotencyKeyFromHeaderPinLaw", "esc", "(C)Z"⟩ : MethodName) method_5_code 1 (some .boolean) [] ({ frames := 0, cells := 0, slots := 0, locals := 0 } : Room) #[.int ch] [] [] (fun v M N => v = some (.int (if isE ch then 1 else 0)) ∧ M = [] ∧ N = []) := by
  refine OCon.of_wp (L0 := [.val (.int ch)]) pn_ESC hEL (fun m => by first | (simp [entryFrame, mkF, argsToLocals, Value.category]; done) | rfl) ?_
  intro p e s m below meth c hk
  refine OWp.iload_n hk d_ESC_0 (pc' := 1) rfl rfl ?_
  refine OWp.bipush hk d_ESC_1 (pc' := 3) rfl (z := 34) rfl ?_
  by_cases h : ch = 34
  · refine OWp.icmpYes hk d_ESC_3 (XT.ii_eq_t h) (by decide) (pc' := 12) rfl ?_
    refine OWp.iconst hk d_ESC_12 (pc' := 13) rfl (z := 1) rfl ?_
    refine OWp.goto hk d_ESC_13 (by decide) (pc' := 17) rfl ?_
    exact OWp.retN hk (Or.inl rfl) d_ESC_17 ⟨by rw [if_pos (show isE ch from Or.inl h)]; rfl, rfl, rfl⟩ (List.Sublist.refl _) (fun _ h => h) (by decide) (by decide)
  · refine OWp.icmpNo hk d_ESC_3 (XT.ii_eq_f h) (pc' := 6) rfl ?_
    refine OWp.iload_n hk d_ESC_6 (pc' := 7) rfl rfl ?_
    refine OWp.bipush hk d_ESC_7 (pc' := 9) rfl (z := 92) rfl ?_
    by_cases h2 : ch = 92
    · refine OWp.icmpNo hk d_ESC_9 (XT.ii_ne_f h2) (pc' := 12) rfl ?_
      refine OWp.iconst hk d_ESC_12 (pc' := 13) rfl (z := 1) rfl ?_
      refine OWp.goto hk d_ESC_13 (by decide) (pc' := 17) rfl ?_
      exact OWp.retN hk (Or.inl rfl) d_ESC_17 ⟨by rw [if_pos (show isE ch from Or.inr h2)]; rfl, rfl, rfl⟩ (List.Sublist.refl _) (fun _ h => h) (by decide) (by decide)
    · refine OWp.icmpYes hk d_ESC_9 (XT.ii_ne_t h2) (by decide) (pc' := 16) rfl ?_
      refine OWp.iconst hk d_ESC_16 (pc' := 17) rfl (z := 0) rfl ?_
      exact OWp.retN hk (Or.inl rfl) d_ESC_17 ⟨by rw [if_neg (show ¬ isE ch from fun z => z.elim h h2)]; rfl, rfl, rfl⟩ (List.Sublist.refl _) (fun _ h => h) (by decide) (by decide)
theorem c_IST (hw : ∀ d ∈ tables_1, d.before a0 Z = true) (hEL : EW Z a0 EL)  :
    OCon l Z EL (⟨"com/example/idemnity/idemnity/IdempotencyKey", "isSpaceOrTab", "(C)Z"⟩ : MethodName) prog_9_method_5_code 1 (some .boolean) [] ({ frames := 0, cells := 0, slots := 0, locals := 0 } : Room) #[.int ch] [] [] (fun v M N => v = some (.int (if sp ch then 1 else 0)) ∧ M = [] ∧ N = []) := by
  refine OCon.of_wp (L0 := [.val (.int ch)]) pn_IST hEL (fun m => by first | (simp [entryFrame, mkF, argsToLocals, Value.category]; done) | rfl) ?_
  intro p e s m below meth c hk
  refine OWp.iload_n hk d_IST_0 (pc' := 1) rfl rfl ?_
  refine OWp.bipush hk d_IST_1 (pc' := 3) rfl (z := 32) rfl ?_
  by_cases h : ch = 32
  · refine OWp.icmpYes hk d_IST_3 (XT.ii_eq_t h) (by decide) (pc' := 12) rfl ?_
    refine OWp.iconst hk d_IST_12 (pc' := 13) rfl (z := 1) rfl ?_
    refine OWp.goto hk d_IST_13 (by decide) (pc' := 17) rfl ?_
    exact OWp.retN hk (Or.inl rfl) d_IST_17 ⟨by rw [if_pos (show sp ch from Or.inl h)]; rfl, rfl, rfl⟩ (List.Sublist.refl _) (fun _ h => h) (by decide) (by decide)
  · refine OWp.icmpNo hk d_IST_3 (XT.ii_eq_f h) (pc' := 6) rfl ?_
    refine OWp.iload_n hk d_IST_6 (pc' := 7) rfl rfl ?_
    refine OWp.bipush hk d_IST_7 (pc' := 9) rfl (z := 9) rfl ?_
    by_cases h2 : ch = 9
    · refine OWp.icmpNo hk d_IST_9 (XT.ii_ne_f h2) (pc' := 12) rfl ?_
      refine OWp.iconst hk d_IST_12 (pc' := 13) rfl (z := 1) rfl ?_
      refine OWp.goto hk d_IST_13 (by decide) (pc' := 17) rfl ?_
      exact OWp.retN hk (Or.inl rfl) d_IST_17 ⟨by rw [if_pos (show sp ch from Or.inr h2)]; rfl, rfl, rfl⟩ (List.Sublist.refl _) (fun _ h => h) (by decide) (by decide)
    · refine OWp.icmpYes hk d_IST_9 (XT.ii_ne_t h2) (by decide) (pc' := 16) rfl ?_
      refine OWp.iconst hk d_IST_16 (pc' := 17) rfl (z := 0) rfl ?_
      exact OWp.retN hk (Or.inl rfl) d_IST_17 ⟨by rw [if_neg (show ¬ sp ch from fun z => z.elim h h2)]; rfl, rfl, rfl⟩ (List.Sublist.refl _) (fun _ h => h) (by decide) (by decide)
theorem c_PQ (hw : ∀ d ∈ tables_1, d.before a0 Z = true) (hEL : EW Z a0 EL) (hA : AC Z cb .char (tab 8 g)) (hch : nar .char ch = ch) (hq : q + (encC ch).length ≤ 8) :
    OCon l Z EL (⟨"com/example/idemnity/idemnity/IdempotencyKeyFromHeaderPinLaw", "putQuoted", "([CIC)I"⟩ : MethodName) method_6_code 4 (some .int) [] ({ frames := 1, cells := 0, slots := 0, locals := 12 } : Room) #[.ref b, .int (Int32.ofNat q), .int ch] [(b, cb)] [] (fun v M N => v = some (.int (Int32.ofNat (q + (encC ch).length))) ∧ N = [] ∧ ∃ cb', M = [(b, cb')] ∧ ∃ g', AC Z cb' .char (tab 8 g') ∧ ∀ j, j < 8 → g' j = if q ≤ j ∧ j < q + (encC ch).length then .int ((encC ch).getD (j - q) 0) else g j) := by
  refine OCon.of_wp (L0 := [.val (.ref b), .val (.int (Int32.ofNat q)), .val (.int ch), .unset]) pn_PQ hEL (fun m => by first | (simp [entryFrame, mkF, argsToLocals, Value.category]; done) | rfl) ?_
  intro p e s m below meth c hk
  have hel := encC_len ch
  refine OWp.iload_n hk d_PQ_0 (pc' := 1) rfl rfl ?_
  refine OWp.istore_n hk d_PQ_1 (pc' := 2) rfl (kn := 3) rfl rfl (by simp only [List.set_cons_zero, List.set_cons_succ]; rfl) ?_
  refine OWp.iload_n hk d_PQ_2 (pc' := 3) rfl rfl ?_
  refine OWp.callS hk d_PQ_3 (pc' := 6) rfl (hw _ (List.mem_of_getElem? (i := 162) rfl)) (hw _ (List.mem_of_getElem? (i := 163) rfl)) (hw _ (List.mem_of_getElem? (i := 2) rfl)) (hw _ (List.mem_of_getElem? (i := 164) rfl)) (by decide) (c_ESC hw hEL) rfl (by simp) rfl (lenOf pd_20 rfl) rfl (W := 0) rfl (by first | decide | (dsimp only; omega)) (by first | decide | (dsimp only; omega)) (by first | decide | (dsimp only; omega)) (by first | decide | (dsimp only; omega)) ?_
  rintro _ _ _ ⟨rfl, rfl, rfl⟩
  by_cases h : isE ch
  · rw [if_pos h] at hel
    have eC : encC ch = [92, ch] := by rw [encC, if_pos h]
    refine OWp.ifNo hk d_PQ_6 (XT.i0_eq_f (by rw [if_pos h]; decide)) (pc' := 9) rfl ?_
    refine OWp.aload_n hk d_PQ_9 (pc' := 10) rfl rfl rfl ?_
    refine OWp.iload_n hk d_PQ_10 (pc' := 11) rfl rfl ?_
    refine OWp.bipush hk d_PQ_11 (pc' := 13) rfl (z := 92) rfl ?_
    refine OWp.castore hk d_PQ_13 (pc' := 14) rfl (i := 0) rfl hA (n_nn (by omega)) (t := q) (n_nat (by omega)) (by rw [tab_len]; omega) ?_
    intro cb1 hA1
    simp only [List.set_cons_zero, List.nil_append, List.cons_append]
    rw [tab_set] at hA1
    refine OWp.iload_n hk d_PQ_14 (pc' := 15) rfl rfl ?_
    refine OWp.iconst hk d_PQ_15 (pc' := 16) rfl (z := 1) rfl ?_
    refine OWp.iadd hk d_PQ_16 (pc' := 17) rfl ?_
    rw [n_succ]
    refine OWp.istore_n hk d_PQ_17 (pc' := 18) rfl (kn := 3) rfl rfl (by simp only [List.set_cons_zero, List.set_cons_succ]; rfl) ?_
    refine OWp.aload_n hk d_PQ_18 (pc' := 19) rfl rfl rfl ?_
    refine OWp.iload_n hk d_PQ_19 (pc' := 20) rfl rfl ?_
    refine OWp.iload_n hk d_PQ_20 (pc' := 21) rfl rfl ?_
    refine OWp.castore hk d_PQ_21 (pc' := 22) rfl (i := 0) rfl hA1 (n_nn (by omega)) (t := q + 1) (n_nat (by omega)) (by rw [tab_len]; omega) ?_
    intro cb2 hA2
    simp only [List.set_cons_zero, List.nil_append, List.cons_append]
    rw [tab_set, hch] at hA2
    refine OWp.iload_n hk d_PQ_22 (pc' := 23) rfl rfl ?_
    refine OWp.iconst hk d_PQ_23 (pc' := 24) rfl (z := 1) rfl ?_
    refine OWp.iadd hk d_PQ_24 (pc' := 25) rfl ?_
    rw [n_succ]
    exact OWp.retI hk d_PQ_25 (M' := [(b, cb2)]) (N' := []) ⟨by rw [hel], rfl, cb2, rfl, _, hA2, fun j hj => by
      rw [hel, eC]
      by_cases z1 : j = q + 1
      · rw [if_pos z1, if_pos (by omega), show j - q = 1 by omega]; rfl
      · rw [if_neg z1]
        by_cases z2 : j = q
        · rw [if_pos z2, if_pos (by omega), show j - q = 0 by omega]; rfl
        · rw [if_neg z2, if_neg (by omega)]⟩ (List.Sublist.refl _) (by simp) (by decide) (by decide)
  · rw [if_neg h] at hel
    have eC : encC ch = [ch] := by rw [encC, if_neg h]
    refine OWp.ifYes hk d_PQ_6 (XT.i0_eq_t (by rw [if_neg h])) (by decide) (pc' := 18) rfl ?_
    refine OWp.aload_n hk d_PQ_18 (pc' := 19) rfl rfl rfl ?_
    refine OWp.iload_n hk d_PQ_19 (pc' := 20) rfl rfl ?_
    refine OWp.iload_n hk d_PQ_20 (pc' := 21) rfl rfl ?_
    refine OWp.castore hk d_PQ_21 (pc' := 22) rfl (i := 0) rfl hA (n_nn (by omega)) (t := q) (n_nat (by omega)) (by rw [tab_len]; omega) ?_
    intro cb2 hA2
    simp only [List.set_cons_zero, List.nil_append, List.cons_append]
    rw [tab_set, hch] at hA2
    refine OWp.iload_n hk d_PQ_22 (pc' := 23) rfl rfl ?_
    refine OWp.iconst hk d_PQ_23 (pc' := 24) rfl (z := 1) rfl ?_
    refine OWp.iadd hk d_PQ_24 (pc' := 25) rfl ?_
    rw [n_succ]
    exact OWp.retI hk d_PQ_25 (M' := [(b, cb2)]) (N' := []) ⟨by rw [hel], rfl, cb2, rfl, _, hA2, fun j hj => by
      rw [hel, eC]
      by_cases z2 : j = q
      · rw [if_pos z2, if_pos (by omega), show j - q = 0 by omega]; rfl
      · rw [if_neg z2, if_neg (by omega)]⟩ (List.Sublist.refl _) (by simp) (by decide) (by decide)
theorem c_RNN (hw : ∀ d ∈ tables_1, d.before a0 Z = true) (hEL : EW Z a0 EL)  :
    OCon l Z EL (⟨"java/util/Objects", "requireNonNull", "(Ljava/lang/Object;Ljava/lang/String;)Ljava/lang/Object;"⟩ : MethodName) jdk_31_method_11_code 2 (some (.object "java/lang/Object")) [] ({ frames := 0, cells := 0, slots := 0, locals := 0 } : Room) #[.ref x, .ref a] [] [] (fun v M N => v = some (.ref x) ∧ M = [] ∧ N = []) := by
  refine OCon.of_wp (L0 := [.val (.ref x), .val (.ref a)]) pn_RNN hEL (fun m => by first | (simp [entryFrame, mkF, argsToLocals, Value.category]; done) | rfl) ?_
  intro p e s m below meth c hk
  refine OWp.aload_n hk d_RNN_0 (pc' := 1) rfl rfl rfl ?_
  refine OWp.nonnullYes hk d_RNN_1 (by decide) (pc' := 13) rfl ?_
  refine OWp.aload_n hk d_RNN_13 (pc' := 14) rfl rfl rfl ?_
  exact OWp.retA hk rfl rfl rfl d_RNN_14 ⟨rfl, rfl, rfl⟩ (List.Sublist.refl _) (fun _ h => h) (by decide) (by decide)
def KC (Z : State) (ck : Cell) (z : Addr) : Prop := EC Z ck "com/example/idemnity/idemnity/IdempotencyKey" ∧ FC Z ck "com/example/idemnity/idemnity/IdempotencyKey" "mValue" "Ljava/lang/String;" (.ref z)
theorem c_KI (hw : ∀ d ∈ tables_1, d.before a0 Z = true) (hEL : EW Z a0 EL) (hE : EC Z ck "com/example/idemnity/idemnity/IdempotencyKey") (F_mValue : FC Z ck "com/example/idemnity/idemnity/IdempotencyKey" "mValue" "Ljava/lang/String;" v0) :
    OCon l Z EL (⟨"com/example/idemnity/idemnity/IdempotencyKey", "<init>", "(Ljava/lang/String;)V"⟩ : MethodName) prog_9_method_1_code 2 none [] ({ frames := 1, cells := 0, slots := 0, locals := 12 } : Room) #[.ref k, .ref x] [(k, ck)] [] (fun v M N => v = none ∧ M = [] ∧ ∃ ck', N = [(k, ck')] ∧ KC Z ck' x) := by
  refine OCon.of_wp (L0 := [.val (.ref k), .val (.ref x)]) pn_KI hEL (fun m => by first | (simp [entryFrame, mkF, argsToLocals, Value.category]; done) | rfl) ?_
  intro p e s m below meth c hk
  refine OWp.aload_n hk d_KI_0 (pc' := 1) rfl rfl rfl ?_
  refine OWp.initO hk d_KI_1 (pc' := 4) rfl (hw _ (List.mem_of_getElem? (i := 152) rfl)) (hw _ (List.mem_of_getElem? (i := 22) rfl)) (hw _ (List.mem_of_getElem? (i := 23) rfl)) rfl (by first | decide | (dsimp only; omega)) (W := 0) rfl (by first | decide | (dsimp only; omega)) ?_
  refine OWp.aload_n hk d_KI_4 (pc' := 5) rfl rfl rfl ?_
  refine OWp.aload_n hk d_KI_5 (pc' := 6) rfl rfl rfl ?_
  refine OWp.putfield hk d_KI_6 (pc' := 9) rfl (hw _ (List.mem_of_getElem? (i := 153) rfl)) (i := 0) rfl F_mValue hE (Or.inr ⟨(hw _ (List.mem_of_getElem? (i := 154) rfl)), rfl, rfl⟩) (hw _ (List.mem_of_getElem? (i := 148) rfl)) (ty := (.object "java/lang/String")) (by decide) rfl rfl ?_
  intro ck hE F_mValue hK
  simp only [List.nil_append, List.cons_append, List.set_cons_zero]
  refine OWp.freeze ?_
  exact OWp.ret0 hk d_KI_9 (N' := [(k, ck)]) ⟨rfl, rfl, ck, rfl, hE, F_mValue⟩ (List.nil_sublist _) (by simp) (by decide) (by decide)
theorem c_GVL (hw : ∀ d ∈ tables_1, d.before a0 Z = true) (hEL : EW Z a0 EL) (hk0 : KC Z ck x) :
    OCon l Z EL (⟨"com/example/idemnity/idemnity/IdempotencyKey", "getValue", "()Ljava/lang/String;"⟩ : MethodName) prog_9_method_6_code 1 (some (.object "java/lang/String")) [] ({ frames := 0, cells := 0, slots := 0, locals := 0 } : Room) #[.ref k] [] [(k, ck)] (fun v M N => v = some (.ref x) ∧ M = [] ∧ N = []) := by
  refine OCon.of_wp (L0 := [.val (.ref k)]) pn_GVL hEL (fun m => by first | (simp [entryFrame, mkF, argsToLocals, Value.category]; done) | rfl) ?_
  intro p e s m below meth c hk
  refine OWp.aload_n hk d_GVL_0 (pc' := 1) rfl rfl rfl ?_
  refine OWp.getfield hk d_GVL_1 (pc' := 4) rfl (hw _ (List.mem_of_getElem? (i := 153) rfl)) (by simp) hk0.2 ?_
  exact OWp.retA hk rfl rfl rfl d_GVL_4 ⟨rfl, rfl, rfl⟩ (List.Sublist.refl _) (fun _ h => h) (by decide) (by decide)
theorem c_OFK (hw : ∀ d ∈ tables_1, d.before a0 Z = true) (hEL : EW Z a0 EL) (O2 : Sta Z Z.heap "java/lang/String" "COMPACT_STRINGS" "Z" (.int zc)) (hzc : ¬ zc = 0) (O4 : Sta Z Z.heap "jdk/internal/util/Preconditions" "SIOOBE_FORMATTER" "Ljava/util/function/BiFunction;" fm) (hf : fm.isRef = true) (hs : SC Z t cx ct V) (hv : ∀ c ∈ V, VC c) (h1 : 1 ≤ V.length) (h8 : V.length ≤ 8) :
    OCon l Z EL (⟨"com/example/idemnity/idemnity/IdempotencyKey", "of", "(Ljava/lang/String;)Lcom/example/idemnity/idemnity/IdempotencyKey;"⟩ : MethodName) prog_9_method_2_code 3 (some (.object "com/example/idemnity/idemnity/IdempotencyKey")) [] ({ frames := 4, cells := 4, slots := 40, locals := 54 } : Room) #[.ref x] [] [(x, cx), (t, ct)] (fun v M N => M = [] ∧ ∃ k ck, v = some (.ref k) ∧ N = [(k, ck)] ∧ KC Z ck x) := by
  refine OCon.of_wp (L0 := [.val (.ref x), .unset, .unset]) pn_OFK hEL (fun m => by first | (simp [entryFrame, mkF, argsToLocals, Value.category]; done) | rfl) ?_
  intro p e s m below meth c hk
  have hl : lat V = true := lat_iff.mpr fun c hc => (hv c hc).rng.2
  refine OWp.aload_n hk d_OFK_0 (pc' := 1) rfl rfl rfl ?_
  refine OWp.ldcO hk d_OFK_1 (pc' := 3) rfl (hw _ (List.mem_of_getElem? (i := 141) rfl)) (str_atoms hw) (n := 20) (by decide) (by decide) (by decide) (by decide) ?_
  intro am
  refine OWp.callS hk d_OFK_3 (pc' := 6) rfl (hw _ (List.mem_of_getElem? (i := 47) rfl)) (hw _ (List.mem_of_getElem? (i := 48) rfl)) (hw _ (List.mem_of_getElem? (i := 49) rfl)) (hw _ (List.mem_of_getElem? (i := 50) rfl)) (by decide) (c_RNN hw hEL) rfl (by simp) rfl (lenOf pd_25 rfl) rfl (W := 0) rfl (by first | decide | (dsimp only; omega)) (by first | decide | (dsimp only; omega)) (by first | decide | (dsimp only; omega)) (by first | decide | (dsimp only; omega)) ?_
  rintro _ _ _ ⟨rfl, rfl, rfl⟩
  refine OWp.pop hk d_OFK_6 (pc' := 7) rfl rfl ?_
  refine OWp.aload_n hk d_OFK_7 (pc' := 8) rfl rfl rfl ?_
  refine OWp.callV hk d_OFK_8 (pc' := 11) rfl (hw _ (List.mem_of_getElem? (i := 142) rfl)) (hw _ (List.mem_of_getElem? (i := 143) rfl)) (nfs (hw _ (List.mem_of_getElem? (i := 145) rfl))) (hw _ (List.mem_of_getElem? (i := 145) rfl)) (hw _ (List.mem_of_getElem? (i := 144) rfl)) (hw _ (List.mem_of_getElem? (i := 13) rfl)) (hw _ (List.mem_of_getElem? (i := 146) rfl)) (by decide) (by simp) hs.1 (c_EMP hw hEL hs h1) rfl (by simp) rfl (lenOf pd_7 rfl) rfl (W := 0) rfl (by first | decide | (dsimp only; omega)) (by first | decide | (dsimp only; omega)) (by first | decide | (dsimp only; omega)) (by first | decide | (dsimp only; omega)) ?_
  rintro _ _ _ ⟨rfl, rfl, rfl⟩
  refine OWp.ifYes hk d_OFK_11 (XT.i0_eq_t rfl) (by decide) (pc' := 24) rfl ?_
  refine OWp.aload_n hk d_OFK_24 (pc' := 25) rfl rfl rfl ?_
  refine OWp.callV hk d_OFK_25 (pc' := 28) rfl (hw _ (List.mem_of_getElem? (i := 51) rfl)) (hw _ (List.mem_of_getElem? (i := 52) rfl)) (nfs (hw _ (List.mem_of_getElem? (i := 54) rfl))) (hw _ (List.mem_of_getElem? (i := 54) rfl)) (hw _ (List.mem_of_getElem? (i := 53) rfl)) (hw _ (List.mem_of_getElem? (i := 13) rfl)) (hw _ (List.mem_of_getElem? (i := 55) rfl)) (by decide) (by simp) hs.1 (c_LEN hw hEL O2 hzc hs) rfl (by simp) rfl (lenOf pd_13 rfl) rfl (W := 0) rfl (by first | decide | (dsimp only; omega)) (by first | decide | (dsimp only; omega)) (by first | decide | (dsimp only; omega)) (by first | decide | (dsimp only; omega)) ?_
  rintro _ _ _ ⟨rfl, rfl, rfl⟩
  refine OWp.sipush hk d_OFK_28 (pc' := 31) rfl (z := 255) rfl ?_
  refine OWp.icmpYes hk d_OFK_31 (XT.ii_le_t (by rw [show (255 : Int32) = Int32.ofNat 255 from rfl, n_lt (by omega) (by omega)]; omega)) (by decide) (pc' := 51) rfl ?_
  refine OWp.iconst hk d_OFK_51 (pc' := 52) rfl (z := 0) rfl ?_
  refine OWp.istore_n hk d_OFK_52 (pc' := 53) rfl (kn := 1) rfl rfl (by simp only [List.set_cons_zero, List.set_cons_succ]; rfl) ?_
  refine OWp.more (cells' := 2) (slots' := 24) (by decide) (by decide) ?_
  have loop : ∀ (fu i : Nat) (z2 : Slot), i + fu = V.length → o1 z2 = true →
      OWp p l e ({ frames := 4, cells := 4, slots := 40, locals := 54 } : Room) s m #[.ref x] below meth c "com/example/idemnity/idemnity/IdempotencyKey" Z EL (dom []) [(x, cx), (t, ct)] (fun v M N => M = [] ∧ ∃ k ck, v = some (.ref k) ∧ N = [(k, ck)] ∧ KC Z ck x) [] [] 2 24 53 [.val (.ref x), .val (.int (Int32.ofNat i)), z2] [] := by
    intro fu
    induction fu with
    | zero =>
      intro i z2 hi hz
      refine OWp.iload_n hk d_OFK_53 (pc' := 54) rfl rfl ?_
      refine OWp.aload_n hk d_OFK_54 (pc' := 55) rfl rfl rfl ?_
      refine OWp.callV hk d_OFK_55 (pc' := 58) rfl (hw _ (List.mem_of_getElem? (i := 51) rfl)) (hw _ (List.mem_of_getElem? (i := 52) rfl)) (nfs (hw _ (List.mem_of_getElem? (i := 54) rfl))) (hw _ (List.mem_of_getElem? (i := 54) rfl)) (hw _ (List.mem_of_getElem? (i := 53) rfl)) (hw _ (List.mem_of_getElem? (i := 13) rfl)) (hw _ (List.mem_of_getElem? (i := 55) rfl)) (by decide) (by simp) hs.1 (c_LEN hw hEL O2 hzc hs) rfl (by simp) rfl (lenOf pd_13 rfl) rfl (W := 1) rfl (by first | decide | (dsimp only; omega)) (by first | decide | (dsimp only; omega)) (by first | decide | (dsimp only; omega)) (by first | decide | (dsimp only; omega)) ?_
      rintro _ _ _ ⟨rfl, rfl, rfl⟩
      refine OWp.icmpYes hk d_OFK_58 (XT.ii_ge_t (by rw [n_lt (by omega) (by omega)]; omega)) (by decide) (pc' := 136) rfl ?_
      refine OWp.new hk d_OFK_136 (pc' := 139) rfl (hw _ (List.mem_of_getElem? (i := 147) rfl)) (hw _ (List.mem_of_getElem? (i := 148) rfl)) (hw _ (List.mem_of_getElem? (i := 42) rfl)) (by decide) (by decide) ?_
      intro k ck hE hD
      have F0 : FC Z ck "com/example/idemnity/idemnity/IdempotencyKey" "mValue" "Ljava/lang/String;" .null := hD (Or.inr (hw _ (List.mem_of_getElem? (i := 154) rfl))) (ty := .object "java/lang/String") (by decide)
      refine OWp.dup hk d_OFK_139 (pc' := 140) rfl rfl ?_
      refine OWp.aload_n hk d_OFK_140 (pc' := 141) rfl rfl rfl ?_
      refine OWp.callI hk d_OFK_141 (pc' := 144) rfl rfl (hw _ (List.mem_of_getElem? (i := 149) rfl)) (hw _ (List.mem_of_getElem? (i := 150) rfl)) (hw _ (List.mem_of_getElem? (i := 42) rfl)) (hw _ (List.mem_of_getElem? (i := 151) rfl)) (by decide) (c_KI hw hEL hE F0) rfl (by simp) rfl (lenOf pd_26 rfl) rfl (W := 1) rfl (by first | decide | (dsimp only; omega)) (by first | decide | (dsimp only; omega)) (by first | decide | (dsimp only; omega)) (by first | decide | (dsimp only; omega)) ?_
      rintro _ _ _ ⟨rfl, rfl, ck2, rfl, hK⟩
      exact OWp.retA hk rfl rfl rfl d_OFK_144 (M' := []) (N' := [(k, ck2)]) ⟨rfl, k, ck2, rfl, rfl, hK⟩ (List.nil_sublist _) (by simp) (by decide) (by decide)
    | succ fu ih =>
      intro i z2 hi hz
      have hlt : i < V.length := by omega
      have hvc := hv _ (getD_mem hlt)
      refine OWp.iload_n hk d_OFK_53 (pc' := 54) rfl rfl ?_
      refine OWp.aload_n hk d_OFK_54 (pc' := 55) rfl rfl rfl ?_
      refine OWp.callV hk d_OFK_55 (pc' := 58) rfl (hw _ (List.mem_of_getElem? (i := 51) rfl)) (hw _ (List.mem_of_getElem? (i := 52) rfl)) (nfs (hw _ (List.mem_of_getElem? (i := 54) rfl))) (hw _ (List.mem_of_getElem? (i := 54) rfl)) (hw _ (List.mem_of_getElem? (i := 53) rfl)) (hw _ (List.mem_of_getElem? (i := 13) rfl)) (hw _ (List.mem_of_getElem? (i := 55) rfl)) (by decide) (by simp) hs.1 (c_LEN hw hEL O2 hzc hs) rfl (by simp) rfl (lenOf pd_13 rfl) rfl (W := 1) rfl (by first | decide | (dsimp only; omega)) (by first | decide | (dsimp only; omega)) (by first | decide | (dsimp only; omega)) (by first | decide | (dsimp only; omega)) ?_
      rintro _ _ _ ⟨rfl, rfl, rfl⟩
      refine OWp.icmpNo hk d_OFK_58 (XT.ii_ge_f (by rw [n_lt (by omega) (by omega)]; exact hlt)) (pc' := 61) rfl ?_
      refine OWp.aload_n hk d_OFK_61 (pc' := 62) rfl rfl rfl ?_
      refine OWp.iload_n hk d_OFK_62 (pc' := 63) rfl rfl ?_
      refine OWp.callV hk d_OFK_63 (pc' := 66) rfl (hw _ (List.mem_of_getElem? (i := 61) rfl)) (hw _ (List.mem_of_getElem? (i := 62) rfl)) (nfs (hw _ (List.mem_of_getElem? (i := 64) rfl))) (hw _ (List.mem_of_getElem? (i := 64) rfl)) (hw _ (List.mem_of_getElem? (i := 63) rfl)) (hw _ (List.mem_of_getElem? (i := 13) rfl)) (hw _ (List.mem_of_getElem? (i := 65) rfl)) (by decide) (by simp) hs.1 (c_CHA (i := i) hw hEL O2 hzc O4 hf hs hl hlt) rfl (by simp) rfl (lenOf pd_24 rfl) rfl (W := 0) rfl (by first | decide | (dsimp only; omega)) (by first | decide | (dsimp only; omega)) (by first | decide | (dsimp only; omega)) (by first | decide | (dsimp only; omega)) ?_
      rintro _ _ _ ⟨rfl, rfl, rfl⟩
      refine OWp.istore_n hk d_OFK_66 (pc' := 67) rfl (kn := 2) rfl (by exact hz) (by simp only [List.set_cons_zero, List.set_cons_succ]; rfl) ?_
      refine OWp.iload_n hk d_OFK_67 (pc' := 68) rfl rfl ?_
      refine OWp.bipush hk d_OFK_68 (pc' := 70) rfl (z := 33) rfl ?_
      refine OWp.icmpNo hk d_OFK_70 (XT.ii_lt_f hvc.1) (pc' := 73) rfl ?_
      refine OWp.iload_n hk d_OFK_73 (pc' := 74) rfl rfl ?_
      refine OWp.bipush hk d_OFK_74 (pc' := 76) rfl (z := 126) rfl ?_
      refine OWp.icmpYes hk d_OFK_76 (XT.ii_le_t hvc.2) (by decide) (pc' := 130) rfl ?_
      refine OWp.iinc hk d_OFK_130 (pc' := 133) rfl rfl (z := 1) rfl (by simp only [List.set_cons_zero, List.set_cons_succ]; rfl) ?_
      refine OWp.goto hk d_OFK_133 (by decide) (pc' := 53) rfl ?_
      rw [n_succ]
      exact ih (i + 1) _ (by omega) rfl
  exact loop V.length 0 _ (by omega) rfl
theorem c_UNQ (hw : ∀ d ∈ tables_1, d.before a0 Z = true) (hEL : EW Z a0 EL) (O2 : Sta Z Z.heap "java/lang/String" "COMPACT_STRINGS" "Z" (.int zc)) (hzc : ¬ zc = 0) (O4 : Sta Z Z.heap "jdk/internal/util/Preconditions" "SIOOBE_FORMATTER" "Ljava/util/function/BiFunction;" fm) (hf : fm.isRef = true) (hs : SC Z t cx ct X) (hX : X = 34 :: (encL V ++ [34])) (hv : ∀ c ∈ V, VC c) (h8 : X.length ≤ 8) :
    OCon l Z EL (⟨"com/example/idemnity/idemnity/IdempotencyKey", "unquote", "(Ljava/lang/String;)Ljava/lang/String;"⟩ : MethodName) prog_9_method_4_code 6 (some (.object "java/lang/String")) [] ({ frames := 6, cells := 6, slots := 60, locals := 91 } : Room) #[.ref x] [] [(x, cx), (t, ct)] (fun v M N => M = [] ∧ ∃ z u cz cu, v = some (.ref z) ∧ N = [(z, cz), (u, cu)] ∧ SC Z u cz cu V) := by
  refine OCon.of_wp (L0 := [.val (.ref x), .unset, .unset, .unset, .unset, .unset]) pn_UNQ hEL (fun m => by first | (simp [entryFrame, mkF, argsToLocals, Value.category]; done) | rfl) ?_
  intro p e s m below meth c hk
  have hXv : ∀ c ∈ X, VC c := by
    rw [hX]; intro c hc
    rcases List.mem_cons.mp hc with rfl | hc
    · exact ⟨by decide, by decide⟩
    · rcases List.mem_append.mp hc with q | q
      · exact encL_vc hv c q
      · rw [List.mem_singleton.mp q]; exact ⟨by decide, by decide⟩
  have hl : lat X = true := lat_iff.mpr fun c hc => (hXv c hc).rng.2
  have hlV : ∀ {W : List Int32}, (∀ c ∈ W, c ∈ V) → lat W = true := fun h => lat_iff.mpr fun c hc => (hv c (h c hc)).rng.2
  refine OWp.new hk d_UNQ_0 (pc' := 3) rfl (hw _ (List.mem_of_getElem? (i := 171) rfl)) (hw _ (List.mem_of_getElem? (i := 172) rfl)) (hw _ (List.mem_of_getElem? (i := 173) rfl)) (by decide) (by decide) ?_
  intro sb csb hE hD0
  have F0 : FC Z csb "java/lang/AbstractStringBuilder" "value" "[B" .null := hD0 (Or.inl (hw _ (List.mem_of_getElem? (i := 186) rfl))) (ty := .array .byte) (by decide)
  have F1 : FC Z csb "java/lang/AbstractStringBuilder" "coder" "B" (.int 0) := hD0 (Or.inl (hw _ (List.mem_of_getElem? (i := 188) rfl))) (ty := .byte) (by decide)
  have F2 : FC Z csb "java/lang/AbstractStringBuilder" "count" "I" (.int 0) := hD0 (Or.inl (hw _ (List.mem_of_getElem? (i := 200) rfl))) (ty := .int) (by decide)
  refine OWp.dup hk d_UNQ_3 (pc' := 4) rfl rfl ?_
  refine OWp.aload_n hk d_UNQ_4 (pc' := 5) rfl rfl rfl ?_
  refine OWp.callV hk d_UNQ_5 (pc' := 8) rfl (hw _ (List.mem_of_getElem? (i := 51) rfl)) (hw _ (List.mem_of_getElem? (i := 52) rfl)) (nfs (hw _ (List.mem_of_getElem? (i := 54) rfl))) (hw _ (List.mem_of_getElem? (i := 54) rfl)) (hw _ (List.mem_of_getElem? (i := 53) rfl)) (hw _ (List.mem_of_getElem? (i := 13) rfl)) (hw _ (List.mem_of_getElem? (i := 55) rfl)) (by decide) (by simp) hs.1 (c_LEN hw hEL O2 hzc hs) rfl (by simp) rfl (lenOf pd_13 rfl) rfl (W := 2) rfl (by first | decide | (dsimp only; omega)) (by first | decide | (dsimp only; omega)) (by first | decide | (dsimp only; omega)) (by first | decide | (dsimp only; omega)) ?_
  rintro _ _ _ ⟨rfl, rfl, rfl⟩
  refine OWp.callI hk d_UNQ_8 (pc' := 11) rfl rfl (hw _ (List.mem_of_getElem? (i := 174) rfl)) (hw _ (List.mem_of_getElem? (i := 175) rfl)) (hw _ (List.mem_of_getElem? (i := 173) rfl)) (hw _ (List.mem_of_getElem? (i := 176) rfl)) (by decide) (c_SBN (n := X.length) hw hEL O2 hzc hE F0 F1 F2 h8 (by omega)) rfl (by simp) rfl (lenOf pd_16 rfl) rfl (W := 1) rfl (by first | decide | (dsimp only; omega)) (by first | decide | (dsimp only; omega)) (by first | decide | (dsimp only; omega)) (by first | decide | (dsimp only; omega)) ?_
  rintro _ _ _ ⟨rfl, rfl, csb1, tb, ctb, rfl, hB⟩
  refine OWp.astore_n hk d_UNQ_11 (pc' := 12) rfl (kn := 1) rfl rfl rfl (by simp only [List.set_cons_zero, List.set_cons_succ]; rfl) ?_
  refine OWp.iconst hk d_UNQ_12 (pc' := 13) rfl (z := 1) rfl ?_
  refine OWp.istore_n hk d_UNQ_13 (pc' := 14) rfl (kn := 2) rfl rfl (by simp only [List.set_cons_zero, List.set_cons_succ]; rfl) ?_
  refine OWp.iconst hk d_UNQ_14 (pc' := 15) rfl (z := 0) rfl ?_
  refine OWp.istore_n hk d_UNQ_15 (pc' := 16) rfl (kn := 3) rfl rfl (by simp only [List.set_cons_zero, List.set_cons_succ]; rfl) ?_
  refine OWp.more (cells' := 3) (slots' := 30) (by decide) (by decide) ?_
  have loop : ∀ (V2 V1 : List Int32) (csb ctb : Cell) (z4 z5 : Slot), o1 z4 = true → o1 z5 = true → V = V1 ++ V2 → SBF Z tb csb ctb V1 X.length →
      OWp p l e ({ frames := 6, cells := 6, slots := 60, locals := 91 } : Room) s m #[.ref x] below meth c "com/example/idemnity/idemnity/IdempotencyKey" Z EL (dom []) [(x, cx), (t, ct)] (fun v M N => M = [] ∧ ∃ z u cz cu, v = some (.ref z) ∧ N = [(z, cz), (u, cu)] ∧ SC Z u cz cu V) [(sb, csb), (tb, ctb)] [] 3 30 16 [.val (.ref x), .val (.ref sb), .val (.int (Int32.ofNat (1 + (encL V1).length))), .val (.int 0), z4, z5] [] := by
    intro V2
    induction V2 with
    | nil =>
      intro V1 csb ctb z4 z5 hz4 hz5 hV hB
      rw [List.append_nil] at hV
      subst hV
      have hlx : X.length = 2 + (encL V).length := by rw [hX]; simp; omega
      have hat : X.getD (1 + (encL V).length) 0 = 34 := by
        have := xget V [] 0
        rw [List.append_nil, Nat.add_zero] at this
        rw [hX, this]; rfl
      have hVl := encL_le V
      refine OWp.iload_n hk d_UNQ_16 (pc' := 17) rfl rfl ?_
      refine OWp.ifNo hk d_UNQ_17 (XT.i0_ne_f rfl) (pc' := 20) rfl ?_
      refine OWp.iload_n hk d_UNQ_20 (pc' := 21) rfl rfl ?_
      refine OWp.aload_n hk d_UNQ_21 (pc' := 22) rfl rfl rfl ?_
      refine OWp.callV hk d_UNQ_22 (pc' := 25) rfl (hw _ (List.mem_of_getElem? (i := 51) rfl)) (hw _ (List.mem_of_getElem? (i := 52) rfl)) (nfs (hw _ (List.mem_of_getElem? (i := 54) rfl))) (hw _ (List.mem_of_getElem? (i := 54) rfl)) (hw _ (List.mem_of_getElem? (i := 53) rfl)) (hw _ (List.mem_of_getElem? (i := 13) rfl)) (hw _ (List.mem_of_getElem? (i := 55) rfl)) (by decide) (by simp) hs.1 (c_LEN hw hEL O2 hzc hs) rfl (by simp) rfl (lenOf pd_13 rfl) rfl (W := 1) rfl (by first | decide | (dsimp only; omega)) (by first | decide | (dsimp only; omega)) (by first | decide | (dsimp only; omega)) (by first | decide | (dsimp only; omega)) ?_
      rintro _ _ _ ⟨rfl, rfl, rfl⟩
      refine OWp.icmpNo hk d_UNQ_25 (XT.ii_ge_f (by rw [n_lt (by omega) (by omega)]; omega)) (pc' := 28) rfl ?_
      refine OWp.aload_n hk d_UNQ_28 (pc' := 29) rfl rfl rfl ?_
      refine OWp.iload_n hk d_UNQ_29 (pc' := 30) rfl rfl ?_
      refine OWp.callV hk d_UNQ_30 (pc' := 33) rfl (hw _ (List.mem_of_getElem? (i := 61) rfl)) (hw _ (List.mem_of_getElem? (i := 62) rfl)) (nfs (hw _ (List.mem_of_getElem? (i := 64) rfl))) (hw _ (List.mem_of_getElem? (i := 64) rfl)) (hw _ (List.mem_of_getElem? (i := 63) rfl)) (hw _ (List.mem_of_getElem? (i := 13) rfl)) (hw _ (List.mem_of_getElem? (i := 65) rfl)) (by decide) (by simp) hs.1 (c_CHA (i := 1 + (encL V).length) hw hEL O2 hzc O4 hf hs hl (by omega)) rfl (by simp) rfl (lenOf pd_24 rfl) rfl (W := 0) rfl (by first | decide | (dsimp only; omega)) (by first | decide | (dsimp only; omega)) (by first | decide | (dsimp only; omega)) (by first | decide | (dsimp only; omega)) ?_
      rintro _ _ _ ⟨rfl, rfl, rfl⟩
      rw [hat]
      refine OWp.istore hk d_UNQ_33 (pc' := 35) rfl (by exact hz4) (by simp only [List.set_cons_zero, List.set_cons_succ]; rfl) ?_
      refine OWp.iload hk d_UNQ_35 (pc' := 37) rfl rfl ?_
      refine OWp.bipush hk d_UNQ_37 (pc' := 39) rfl (z := 92) rfl ?_
      refine OWp.icmpYes hk d_UNQ_39 (XT.ii_ne_t (by decide)) (by decide) (pc' := 102) rfl ?_
      refine OWp.iload hk d_UNQ_102 (pc' := 104) rfl rfl ?_
      refine OWp.bipush hk d_UNQ_104 (pc' := 106) rfl (z := 34) rfl ?_
      refine OWp.icmpNo hk d_UNQ_106 (XT.ii_ne_f rfl) (pc' := 109) rfl ?_
      refine OWp.iconst hk d_UNQ_109 (pc' := 110) rfl (z := 1) rfl ?_
      refine OWp.istore_n hk d_UNQ_110 (pc' := 111) rfl (kn := 3) rfl rfl (by simp only [List.set_cons_zero, List.set_cons_succ]; rfl) ?_
      refine OWp.iinc hk d_UNQ_111 (pc' := 114) rfl rfl (z := 1) rfl (by simp only [List.set_cons_zero, List.set_cons_succ]; rfl) ?_
      refine OWp.goto hk d_UNQ_114 (by decide) (pc' := 127) rfl ?_
      refine OWp.goto hk d_UNQ_127 (by decide) (pc' := 16) rfl ?_
      refine OWp.iload_n hk d_UNQ_16 (pc' := 17) rfl rfl ?_
      refine OWp.ifYes hk d_UNQ_17 (XT.i0_ne_t (by decide)) (by decide) (pc' := 130) rfl ?_
      refine OWp.iload_n hk d_UNQ_130 (pc' := 131) rfl rfl ?_
      refine OWp.ifYes hk d_UNQ_131 (XT.i0_ne_t (by decide)) (by decide) (pc' := 144) rfl ?_
      refine OWp.iload_n hk d_UNQ_144 (pc' := 145) rfl rfl ?_
      refine OWp.aload_n hk d_UNQ_145 (pc' := 146) rfl rfl rfl ?_
      rw [n_succ]
      refine OWp.callV hk d_UNQ_146 (pc' := 149) rfl (hw _ (List.mem_of_getElem? (i := 51) rfl)) (hw _ (List.mem_of_getElem? (i := 52) rfl)) (nfs (hw _ (List.mem_of_getElem? (i := 54) rfl))) (hw _ (List.mem_of_getElem? (i := 54) rfl)) (hw _ (List.mem_of_getElem? (i := 53) rfl)) (hw _ (List.mem_of_getElem? (i := 13) rfl)) (hw _ (List.mem_of_getElem? (i := 55) rfl)) (by decide) (by simp) hs.1 (c_LEN hw hEL O2 hzc hs) rfl (by simp) rfl (lenOf pd_13 rfl) rfl (W := 1) rfl (by first | decide | (dsimp only; omega)) (by first | decide | (dsimp only; omega)) (by first | decide | (dsimp only; omega)) (by first | decide | (dsimp only; omega)) ?_
      rintro _ _ _ ⟨rfl, rfl, rfl⟩
      refine OWp.icmpYes hk d_UNQ_149 (XT.ii_ge_t (by rw [n_lt (by omega) (by omega)]; omega)) (by decide) (pc' := 162) rfl ?_
      refine OWp.aload_n hk d_UNQ_162 (pc' := 163) rfl rfl rfl ?_
      refine OWp.callV hk d_UNQ_163 (pc' := 166) rfl (hw _ (List.mem_of_getElem? (i := 214) rfl)) (hw _ (List.mem_of_getElem? (i := 215) rfl)) (nfs (hw _ (List.mem_of_getElem? (i := 217) rfl))) (hw _ (List.mem_of_getElem? (i := 217) rfl)) (hw _ (List.mem_of_getElem? (i := 216) rfl)) (hw _ (List.mem_of_getElem? (i := 173) rfl)) (hw _ (List.mem_of_getElem? (i := 218) rfl)) (by decide) (by simp) hB.1.1 (c_TS hw hEL O2 hzc hB (hlV fun _ h => h) (by omega) (by show _ ≤ 8; omega)) rfl (by simp) rfl (lenOf pd_27 rfl) rfl (W := 0) rfl (by first | decide | (dsimp only; omega)) (by first | decide | (dsimp only; omega)) (by first | decide | (dsimp only; omega)) (by first | decide | (dsimp only; omega)) ?_
      rintro _ _ _ ⟨rfl, y6, u6, cy6, cu6, rfl, rfl, hS6⟩
      exact OWp.retA hk rfl rfl rfl d_UNQ_166 (M' := []) (N' := [(y6, cy6), (u6, cu6)]) ⟨rfl, y6, u6, cy6, cu6, rfl, rfl, hS6⟩ (List.nil_sublist _) (by simp) (by decide) (by decide)
    | cons ch V2 ih =>
      intro V1 csb ctb z4 z5 hz4 hz5 hV hB
      have hch := hv ch (by rw [hV]; simp)
      have hlx : X.length = 2 + (encL V1).length + (encL (ch :: V2)).length := by rw [hX, hV]; exact xlen V1 (ch :: V2)
      have hel : (encL (ch :: V2)).length = (encC ch).length + (encL V2).length := by show (encC ch ++ encL V2).length = _; rw [List.length_append]
      have hel1 := encC_len ch
      have hV1 := encL_le V1
      have hat : ∀ j, X.getD (1 + (encL V1).length + j) 0 = (encC ch ++ (encL V2 ++ [34])).getD j 0 := fun j => by
        rw [hX, hV, xget V1 (ch :: V2) j]; congr 1; show encC ch ++ encL V2 ++ [34] = _; rw [List.append_assoc]
      have hV' : V = (V1 ++ [ch]) ++ V2 := by rw [hV]; simp
      have hen : encL (V1 ++ [ch]) = encL V1 ++ encC ch := by rw [encL_app]; show encL V1 ++ (encC ch ++ []) = _; rw [List.append_nil]
      have hlV1 : lat V1 = true := hlV fun c hc => by rw [hV]; exact List.mem_append_left _ hc
      refine OWp.iload_n hk d_UNQ_16 (pc' := 17) rfl rfl ?_
      refine OWp.ifNo hk d_UNQ_17 (XT.i0_ne_f rfl) (pc' := 20) rfl ?_
      refine OWp.iload_n hk d_UNQ_20 (pc' := 21) rfl rfl ?_
      refine OWp.aload_n hk d_UNQ_21 (pc' := 22) rfl rfl rfl ?_
      refine OWp.callV hk d_UNQ_22 (pc' := 25) rfl (hw _ (List.mem_of_getElem? (i := 51) rfl)) (hw _ (List.mem_of_getElem? (i := 52) rfl)) (nfs (hw _ (List.mem_of_getElem? (i := 54) rfl))) (hw _ (List.mem_of_getElem? (i := 54) rfl)) (hw _ (List.mem_of_getElem? (i := 53) rfl)) (hw _ (List.mem_of_getElem? (i := 13) rfl)) (hw _ (List.mem_of_getElem? (i := 55) rfl)) (by decide) (by simp) hs.1 (c_LEN hw hEL O2 hzc hs) rfl (by simp) rfl (lenOf pd_13 rfl) rfl (W := 1) rfl (by first | decide | (dsimp only; omega)) (by first | decide | (dsimp only; omega)) (by first | decide | (dsimp only; omega)) (by first | decide | (dsimp only; omega)) ?_
      rintro _ _ _ ⟨rfl, rfl, rfl⟩
      refine OWp.icmpNo hk d_UNQ_25 (XT.ii_ge_f (by rw [n_lt (by omega) (by omega)]; omega)) (pc' := 28) rfl ?_
      refine OWp.aload_n hk d_UNQ_28 (pc' := 29) rfl rfl rfl ?_
      refine OWp.iload_n hk d_UNQ_29 (pc' := 30) rfl rfl ?_
      refine OWp.callV hk d_UNQ_30 (pc' := 33) rfl (hw _ (List.mem_of_getElem? (i := 61) rfl)) (hw _ (List.mem_of_getElem? (i := 62) rfl)) (nfs (hw _ (List.mem_of_getElem? (i := 64) rfl))) (hw _ (List.mem_of_getElem? (i := 64) rfl)) (hw _ (List.mem_of_getElem? (i := 63) rfl)) (hw _ (List.mem_of_getElem? (i := 13) rfl)) (hw _ (List.mem_of_getElem? (i := 65) rfl)) (by decide) (by simp) hs.1 (c_CHA (i := 1 + (encL V1).length) hw hEL O2 hzc O4 hf hs hl (by omega)) rfl (by simp) rfl (lenOf pd_24 rfl) rfl (W := 0) rfl (by first | decide | (dsimp only; omega)) (by first | decide | (dsimp only; omega)) (by first | decide | (dsimp only; omega)) (by first | decide | (dsimp only; omega)) ?_
      rintro _ _ _ ⟨rfl, rfl, rfl⟩
      have h0 := hat 0
      rw [Nat.add_zero] at h0
      by_cases hE : isE ch
      · have eC : encC ch = [92, ch] := by rw [encC, if_pos hE]
        rw [if_pos hE] at hel1
        rw [eC] at h0
        rw [show X.getD (1 + (encL V1).length) 0 = 92 from h0]
        have h1 := hat 1
        rw [eC] at h1
        refine OWp.istore hk d_UNQ_33 (pc' := 35) rfl (by exact hz4) (by simp only [List.set_cons_zero, List.set_cons_succ]; rfl) ?_
        refine OWp.iload hk d_UNQ_35 (pc' := 37) rfl rfl ?_
        refine OWp.bipush hk d_UNQ_37 (pc' := 39) rfl (z := 92) rfl ?_
        refine OWp.icmpNo hk d_UNQ_39 (XT.ii_ne_f rfl) (pc' := 42) rfl ?_
        refine OWp.iload_n hk d_UNQ_42 (pc' := 43) rfl rfl ?_
        refine OWp.iconst hk d_UNQ_43 (pc' := 44) rfl (z := 1) rfl ?_
        refine OWp.iadd hk d_UNQ_44 (pc' := 45) rfl ?_
        rw [n_succ]
        refine OWp.aload_n hk d_UNQ_45 (pc' := 46) rfl rfl rfl ?_
        refine OWp.callV hk d_UNQ_46 (pc' := 49) rfl (hw _ (List.mem_of_getElem? (i := 51) rfl)) (hw _ (List.mem_of_getElem? (i := 52) rfl)) (nfs (hw _ (List.mem_of_getElem? (i := 54) rfl))) (hw _ (List.mem_of_getElem? (i := 54) rfl)) (hw _ (List.mem_of_getElem? (i := 53) rfl)) (hw _ (List.mem_of_getElem? (i := 13) rfl)) (hw _ (List.mem_of_getElem? (i := 55) rfl)) (by decide) (by simp) hs.1 (c_LEN hw hEL O2 hzc hs) rfl (by simp) rfl (lenOf pd_13 rfl) rfl (W := 1) rfl (by first | decide | (dsimp only; omega)) (by first | decide | (dsimp only; omega)) (by first | decide | (dsimp only; omega)) (by first | decide | (dsimp only; omega)) ?_
        rintro _ _ _ ⟨rfl, rfl, rfl⟩
        refine OWp.icmpNo hk d_UNQ_49 (XT.ii_ge_f (by rw [n_lt (by omega) (by omega)]; omega)) (pc' := 52) rfl ?_
        refine OWp.aload_n hk d_UNQ_52 (pc' := 53) rfl rfl rfl ?_
        refine OWp.iload_n hk d_UNQ_53 (pc' := 54) rfl rfl ?_
        refine OWp.iconst hk d_UNQ_54 (pc' := 55) rfl (z := 1) rfl ?_
        refine OWp.iadd hk d_UNQ_55 (pc' := 56) rfl ?_
        rw [n_succ]
        refine OWp.callV hk d_UNQ_56 (pc' := 59) rfl (hw _ (List.mem_of_getElem? (i := 61) rfl)) (hw _ (List.mem_of_getElem? (i := 62) rfl)) (nfs (hw _ (List.mem_of_getElem? (i := 64) rfl))) (hw _ (List.mem_of_getElem? (i := 64) rfl)) (hw _ (List.mem_of_getElem? (i := 63) rfl)) (hw _ (List.mem_of_getElem? (i := 13) rfl)) (hw _ (List.mem_of_getElem? (i := 65) rfl)) (by decide) (by simp) hs.1 (c_CHA (i := 1 + (encL V1).length + 1) hw hEL O2 hzc O4 hf hs hl (by omega)) rfl (by simp) rfl (lenOf pd_24 rfl) rfl (W := 0) rfl (by first | decide | (dsimp only; omega)) (by first | decide | (dsimp only; omega)) (by first | decide | (dsimp only; omega)) (by first | decide | (dsimp only; omega)) ?_
        rintro _ _ _ ⟨rfl, rfl, rfl⟩
        rw [show X.getD (1 + (encL V1).length + 1) 0 = ch from h1]
        refine OWp.goto hk d_UNQ_59 (by decide) (pc' := 63) rfl ?_
        refine OWp.istore hk d_UNQ_63 (pc' := 65) rfl (by exact hz5) (by simp only [List.set_cons_zero, List.set_cons_succ]; rfl) ?_
        have J : OWp p l e ({ frames := 6, cells := 6, slots := 60, locals := 91 } : Room) s m #[.ref x] below meth c "com/example/idemnity/idemnity/IdempotencyKey" Z EL (dom []) [(x, cx), (t, ct)] (fun v M N => M = [] ∧ ∃ z u cz cu, v = some (.ref z) ∧ N = [(z, cz), (u, cu)] ∧ SC Z u cz cu V) [(sb, csb), (tb, ctb)] [] 3 30 89 [.val (.ref x), .val (.ref sb), .val (.int (Int32.ofNat (1 + (encL V1).length))), .val (.int 0), .val (.int 92), .val (.int ch)] [] := by
          refine OWp.aload_n hk d_UNQ_89 (pc' := 90) rfl rfl rfl ?_
          refine OWp.iload hk d_UNQ_90 (pc' := 92) rfl rfl ?_
          refine OWp.callV hk d_UNQ_92 (pc' := 95) rfl (hw _ (List.mem_of_getElem? (i := 189) rfl)) (hw _ (List.mem_of_getElem? (i := 190) rfl)) (nfs (hw _ (List.mem_of_getElem? (i := 192) rfl))) (hw _ (List.mem_of_getElem? (i := 192) rfl)) (hw _ (List.mem_of_getElem? (i := 191) rfl)) (hw _ (List.mem_of_getElem? (i := 173) rfl)) (hw _ (List.mem_of_getElem? (i := 193) rfl)) (by decide) (by simp) hB.1.1 (c_SAC hw hEL O2 hzc hB hlV1 hch.rng.1 hch.rng.2 (by omega)) rfl (by simp) rfl (lenOf pd_28 rfl) rfl (W := 0) rfl (by first | decide | (dsimp only; omega)) (by first | decide | (dsimp only; omega)) (by first | decide | (dsimp only; omega)) (by first | decide | (dsimp only; omega)) ?_
          rintro _ _ _ ⟨rfl, rfl, csb2, ctb2, rfl, hB2⟩
          refine OWp.pop hk d_UNQ_95 (pc' := 96) rfl rfl ?_
          refine OWp.iinc hk d_UNQ_96 (pc' := 99) rfl rfl (z := 2) rfl (by simp only [List.set_cons_zero, List.set_cons_succ]; rfl) ?_
          refine OWp.goto hk d_UNQ_99 (by decide) (pc' := 127) rfl ?_
          refine OWp.goto hk d_UNQ_127 (by decide) (pc' := 16) rfl ?_
          rw [show Int32.ofNat (1 + (encL V1).length) + 2 = Int32.ofNat (1 + (encL (V1 ++ [ch])).length) from by rw [hen, List.length_append, hel1]; exact n_add _ 2]
          exact ih (V1 ++ [ch]) csb2 ctb2 _ _ rfl rfl hV' hB2
        refine OWp.iload hk d_UNQ_65 (pc' := 67) rfl rfl ?_
        refine OWp.bipush hk d_UNQ_67 (pc' := 69) rfl (z := 34) rfl ?_
        by_cases h34 : ch = 34
        · refine OWp.icmpYes hk d_UNQ_69 (XT.ii_eq_t h34) (by decide) (pc' := 89) rfl ?_
          exact J
        · refine OWp.icmpNo hk d_UNQ_69 (XT.ii_eq_f h34) (pc' := 72) rfl ?_
          refine OWp.iload hk d_UNQ_72 (pc' := 74) rfl rfl ?_
          refine OWp.bipush hk d_UNQ_74 (pc' := 76) rfl (z := 92) rfl ?_
          refine OWp.icmpYes hk d_UNQ_76 (XT.ii_eq_t (hE.resolve_left h34)) (by decide) (pc' := 89) rfl ?_
          exact J
      · have eC : encC ch = [ch] := by rw [encC, if_neg hE]
        rw [if_neg hE] at hel1
        rw [eC] at h0
        rw [show X.getD (1 + (encL V1).length) 0 = ch from h0]
        refine OWp.istore hk d_UNQ_33 (pc' := 35) rfl (by exact hz4) (by simp only [List.set_cons_zero, List.set_cons_succ]; rfl) ?_
        refine OWp.iload hk d_UNQ_35 (pc' := 37) rfl rfl ?_
        refine OWp.bipush hk d_UNQ_37 (pc' := 39) rfl (z := 92) rfl ?_
        refine OWp.icmpYes hk d_UNQ_39 (XT.ii_ne_t (fun z => hE (Or.inr z))) (by decide) (pc' := 102) rfl ?_
        refine OWp.iload hk d_UNQ_102 (pc' := 104) rfl rfl ?_
        refine OWp.bipush hk d_UNQ_104 (pc' := 106) rfl (z := 34) rfl ?_
        refine OWp.icmpYes hk d_UNQ_106 (XT.ii_ne_t (fun z => hE (Or.inl z))) (by decide) (pc' := 117) rfl ?_
        refine OWp.aload_n hk d_UNQ_117 (pc' := 118) rfl rfl rfl ?_
        refine OWp.iload hk d_UNQ_118 (pc' := 120) rfl rfl ?_
        refine OWp.callV hk d_UNQ_120 (pc' := 123) rfl (hw _ (List.mem_of_getElem? (i := 189) rfl)) (hw _ (List.mem_of_getElem? (i := 190) rfl)) (nfs (hw _ (List.mem_of_getElem? (i := 192) rfl))) (hw _ (List.mem_of_getElem? (i := 192) rfl)) (hw _ (List.mem_of_getElem? (i := 191) rfl)) (hw _ (List.mem_of_getElem? (i := 173) rfl)) (hw _ (List.mem_of_getElem? (i := 193) rfl)) (by decide) (by simp) hB.1.1 (c_SAC hw hEL O2 hzc hB hlV1 hch.rng.1 hch.rng.2 (by omega)) rfl (by simp) rfl (lenOf pd_28 rfl) rfl (W := 0) rfl (by first | decide | (dsimp only; omega)) (by first | decide | (dsimp only; omega)) (by first | decide | (dsimp only; omega)) (by first | decide | (dsimp only; omega)) ?_
        rintro _ _ _ ⟨rfl, rfl, csb2, ctb2, rfl, hB2⟩
        refine OWp.pop hk d_UNQ_123 (pc' := 124) rfl rfl ?_
        refine OWp.iinc hk d_UNQ_124 (pc' := 127) rfl rfl (z := 1) rfl (by simp only [List.set_cons_zero, List.set_cons_succ]; rfl) ?_
        refine OWp.goto hk d_UNQ_127 (by decide) (pc' := 16) rfl ?_
        rw [show Int32.ofNat (1 + (encL V1).length) + 1 = Int32.ofNat (1 + (encL (V1 ++ [ch])).length) from by rw [hen, List.length_append, hel1]; exact n_add _ 1]
        exact ih (V1 ++ [ch]) csb2 ctb2 _ _ rfl hz5 hV' hB2
  exact loop V [] csb1 ctb _ _ rfl rfl rfl hB
theorem c_FH (hw : ∀ d ∈ tables_1, d.before a0 Z = true) (hEL : EW Z a0 EL) (O2 : Sta Z Z.heap "java/lang/String" "COMPACT_STRINGS" "Z" (.int zc)) (hzc : ¬ zc = 0) (O4 : Sta Z Z.heap "jdk/internal/util/Preconditions" "SIOOBE_FORMATTER" "Ljava/util/function/BiFunction;" fm) (hf : fm.isRef = true) (hmem : ("com/example/idemnity/idemnity/IdempotencyKey", 73) ∈ EL) (hs : SC Z t cx ct cs) (hl : lat cs = true) (hL : cs.length ≤ 8) (hax : 1 ≤ ax) (ham : am + ax ≤ cs.length) (hpre : ∀ j, j < am → sp (cs.getD j 0)) (hst : ¬ sp (cs.getD am 0)) (hen : ¬ sp (cs.getD (am + ax - 1) 0)) (hpost : ∀ j, am + ax ≤ j → j < cs.length → sp (cs.getD j 0)) (hX : subL cs am (am + ax) = X) (hV : (¬ X.getD 0 0 = 34 ∧ X = V) ∨ X = 34 :: (encL V ++ [34])) (hv : ∀ c ∈ V, VC c) (hV1 : 1 ≤ V.length) (hV8 : V.length ≤ 8) :
    OCon l Z EL (⟨"com/example/idemnity/idemnity/IdempotencyKey", "fromHeader", "(Ljava/lang/String;)Lcom/example/idemnity/idemnity/IdempotencyKey;"⟩ : MethodName) prog_9_method_3_code 4 (some (.object "com/example/idemnity/idemnity/IdempotencyKey")) [] ({ frames := 7, cells := 30, slots := 400, locals := 108 } : Room) #[.ref x] [] [(x, cx), (t, ct)] (fun v M N => M = [] ∧ ∃ k ck z u cz cu, v = some (.ref k) ∧ KC Z ck z ∧ SC Z u cz cu V ∧ ((N = [(k, ck)] ∧ z = x ∧ u = t ∧ cz = cx ∧ cu = ct) ∨ N = [(k, ck), (z, cz), (u, cu)])) := by
  refine OCon.of_wp (L0 := [.val (.ref x), .unset, .unset, .unset]) pn_FH hEL (fun m => by first | (simp [entryFrame, mkF, argsToLocals, Value.category]; done) | rfl) ?_
  intro p e s m below meth c hk
  refine OWp.aload_n hk d_FH_0 (pc' := 1) rfl rfl rfl ?_
  refine OWp.ldcO hk d_FH_1 (pc' := 3) rfl (hw _ (List.mem_of_getElem? (i := 44) rfl)) (str_atoms hw) (n := 40) (by decide) (by decide) (by decide) (by decide) ?_
  intro a9
  refine OWp.callS hk d_FH_3 (pc' := 6) rfl (hw _ (List.mem_of_getElem? (i := 47) rfl)) (hw _ (List.mem_of_getElem? (i := 48) rfl)) (hw _ (List.mem_of_getElem? (i := 49) rfl)) (hw _ (List.mem_of_getElem? (i := 50) rfl)) (by decide) (c_RNN hw hEL) rfl (by simp) rfl (lenOf pd_25 rfl) rfl (W := 0) rfl (by first | decide | (dsimp only; omega)) (by first | decide | (dsimp only; omega)) (by first | decide | (dsimp only; omega)) (by first | decide | (dsimp only; omega)) ?_
  rintro _ _ _ ⟨rfl, rfl, rfl⟩
  refine OWp.pop hk d_FH_6 (pc' := 7) rfl rfl ?_
  refine OWp.iconst hk d_FH_7 (pc' := 8) rfl (z := 0) rfl ?_
  refine OWp.istore_n hk d_FH_8 (pc' := 9) rfl (kn := 1) rfl rfl (by simp only [List.set_cons_zero, List.set_cons_succ]; rfl) ?_
  refine OWp.aload_n hk d_FH_9 (pc' := 10) rfl rfl rfl ?_
  refine OWp.callV hk d_FH_10 (pc' := 13) rfl (hw _ (List.mem_of_getElem? (i := 51) rfl)) (hw _ (List.mem_of_getElem? (i := 52) rfl)) (nfs (hw _ (List.mem_of_getElem? (i := 54) rfl))) (hw _ (List.mem_of_getElem? (i := 54) rfl)) (hw _ (List.mem_of_getElem? (i := 53) rfl)) (hw _ (List.mem_of_getElem? (i := 13) rfl)) (hw _ (List.mem_of_getElem? (i := 55) rfl)) (by decide) (by simp) hs.1 (c_LEN hw hEL O2 hzc hs) rfl (by simp) rfl (lenOf pd_13 rfl) rfl (W := 0) rfl (by first | decide | (dsimp only; omega)) (by first | decide | (dsimp only; omega)) (by first | decide | (dsimp only; omega)) (by first | decide | (dsimp only; omega)) ?_
  rintro _ _ _ ⟨rfl, rfl, rfl⟩
  refine OWp.istore_n hk d_FH_13 (pc' := 14) rfl (kn := 2) rfl rfl (by simp only [List.set_cons_zero, List.set_cons_succ]; rfl) ?_
  refine OWp.more (cells' := 2) (slots' := 44) (by decide) (by decide) ?_
  have tail : OWp p l e ({ frames := 7, cells := 30, slots := 400, locals := 108 } : Room) s m #[.ref x] below meth c "com/example/idemnity/idemnity/IdempotencyKey" Z EL (dom []) [(x, cx), (t, ct)] (fun v M N => M = [] ∧ ∃ k ck z u cz cu, v = some (.ref k) ∧ KC Z ck z ∧ SC Z u cz cu V ∧ ((N = [(k, ck)] ∧ z = x ∧ u = t ∧ cz = cx ∧ cu = ct) ∨ N = [(k, ck), (z, cz), (u, cu)])) [] [] 2 44 60 [.val (.ref x), .val (.int (Int32.ofNat am)), .val (.int (Int32.ofNat (am + ax))), .unset] [] := by
    refine OWp.aload_n hk d_FH_60 (pc' := 61) rfl rfl rfl ?_
    refine OWp.iload_n hk d_FH_61 (pc' := 62) rfl rfl ?_
    refine OWp.iload_n hk d_FH_62 (pc' := 63) rfl rfl ?_
    refine OWp.callV hk d_FH_63 (pc' := 66) rfl (hw _ (List.mem_of_getElem? (i := 86) rfl)) (hw _ (List.mem_of_getElem? (i := 87) rfl)) (nfs (hw _ (List.mem_of_getElem? (i := 89) rfl))) (hw _ (List.mem_of_getElem? (i := 89) rfl)) (hw _ (List.mem_of_getElem? (i := 88) rfl)) (hw _ (List.mem_of_getElem? (i := 13) rfl)) (hw _ (List.mem_of_getElem? (i := 90) rfl)) (by decide) (by simp) hs.1 (c_SUB hw hEL O2 hzc O4 hf (by omega) hs hl (by omega) ham (by show _ ≤ 8; omega)) rfl (by simp) rfl (lenOf pd_29 rfl) rfl (W := 0) rfl (by first | decide | (dsimp only; omega)) (by first | decide | (dsimp only; omega)) (by first | decide | (dsimp only; omega)) (by first | decide | (dsimp only; omega)) ?_
    rintro _ _ _ ⟨rfl, y, u, cy, cu, rfl, hS, hN⟩
    rcases hN with ⟨rfl, rfl, rfl, rfl, rfl⟩ | rfl
    · rw [hX] at hS
      have hlX : lat X = true := by rw [← hX]; exact subL_lat hl
      have hXl : X.length = ax := by rw [← hX, subL_len ham]; omega
      refine OWp.astore_n hk d_FH_66 (pc' := 67) rfl (kn := 3) rfl rfl rfl (by simp only [List.set_cons_zero, List.set_cons_succ]; rfl) ?_
      refine OWp.aload_n hk d_FH_67 (pc' := 68) rfl rfl rfl ?_
      refine OWp.ldcS hk d_FH_68 (pc' := 70) rfl (hw _ (List.mem_of_getElem? (i := 123) rfl)) (str_atoms hw) hmem (vs := oBytes [34]) ⟨by decide +kernel, by decide +kernel⟩ (by decide +kernel) (n := 4) (by decide) (by decide) (by decide) (by decide) ?_
      intro a3 t3 ca3 ct3 hE3 hC3 hV3 hA3
      have hS3 : SC Z t3 ca3 ct3 [34] := ⟨hE3, hV3, hC3, hA3, ⟨by decide, by decide⟩⟩
      refine OWp.callV hk d_FH_70 (pc' := 73) rfl (hw _ (List.mem_of_getElem? (i := 124) rfl)) (hw _ (List.mem_of_getElem? (i := 125) rfl)) (nfs (hw _ (List.mem_of_getElem? (i := 127) rfl))) (hw _ (List.mem_of_getElem? (i := 127) rfl)) (hw _ (List.mem_of_getElem? (i := 126) rfl)) (hw _ (List.mem_of_getElem? (i := 13) rfl)) (hw _ (List.mem_of_getElem? (i := 128) rfl)) (by decide) (by simp) hS.1 (c_SW1 hw hEL O2 hzc hS hlX (by omega) hS3 (by decide)) rfl (by simp) rfl (lenOf pd_30 rfl) rfl (W := 0) rfl (by first | decide | (dsimp only; omega)) (by first | decide | (dsimp only; omega)) (by first | decide | (dsimp only; omega)) (by first | decide | (dsimp only; omega)) ?_
      rintro _ _ _ ⟨rfl, rfl, rfl⟩
      rcases hV with ⟨h34, hq⟩ | hq
      · refine OWp.ifYes hk d_FH_73 (XT.i0_eq_t (by rw [if_neg h34])) (by decide) (pc' := 83) rfl ?_
        rw [hq] at hS
        refine OWp.aload_n hk d_FH_83 (pc' := 84) rfl rfl rfl ?_
        refine OWp.callS hk d_FH_84 (pc' := 87) rfl (hw _ (List.mem_of_getElem? (i := 138) rfl)) (hw _ (List.mem_of_getElem? (i := 139) rfl)) (hw _ (List.mem_of_getElem? (i := 42) rfl)) (hw _ (List.mem_of_getElem? (i := 140) rfl)) (by decide) (c_OFK hw hEL O2 hzc O4 hf hS hv hV1 hV8) rfl (by simp) rfl (lenOf pd_31 rfl) rfl (W := 0) rfl (by first | decide | (dsimp only; omega)) (by first | decide | (dsimp only; omega)) (by first | decide | (dsimp only; omega)) (by first | decide | (dsimp only; omega)) ?_
        rintro _ _ _ ⟨rfl, k, ck, rfl, rfl, hK⟩
        exact OWp.retA hk rfl rfl rfl d_FH_87 (M' := []) (N' := [(k, ck)]) ⟨rfl, k, ck, _, _, _, _, rfl, hK, hS, Or.inl ⟨rfl, rfl, rfl, rfl, rfl⟩⟩ (List.nil_sublist _) (by simp) (by decide) (by decide)
      · refine OWp.ifNo hk d_FH_73 (XT.i0_eq_f (by rw [if_pos (show X.getD 0 0 = 34 by rw [hq]; rfl)]; decide)) (pc' := 76) rfl ?_
        refine OWp.aload_n hk d_FH_76 (pc' := 77) rfl rfl rfl ?_
        refine OWp.callS hk d_FH_77 (pc' := 80) rfl (hw _ (List.mem_of_getElem? (i := 168) rfl)) (hw _ (List.mem_of_getElem? (i := 169) rfl)) (hw _ (List.mem_of_getElem? (i := 42) rfl)) (hw _ (List.mem_of_getElem? (i := 170) rfl)) (by decide) (c_UNQ hw hEL O2 hzc O4 hf hS hq hv (by omega)) rfl (by simp) rfl (lenOf pd_32 rfl) rfl (W := 0) rfl (by first | decide | (dsimp only; omega)) (by first | decide | (dsimp only; omega)) (by first | decide | (dsimp only; omega)) (by first | decide | (dsimp only; omega)) ?_
        rintro _ _ _ ⟨rfl, z, u2, cz, cu2, rfl, rfl, hS2⟩
        refine OWp.goto hk d_FH_80 (by decide) (pc' := 84) rfl ?_
        refine OWp.callS hk d_FH_84 (pc' := 87) rfl (hw _ (List.mem_of_getElem? (i := 138) rfl)) (hw _ (List.mem_of_getElem? (i := 139) rfl)) (hw _ (List.mem_of_getElem? (i := 42) rfl)) (hw _ (List.mem_of_getElem? (i := 140) rfl)) (by decide) (c_OFK hw hEL O2 hzc O4 hf hS2 hv hV1 hV8) rfl (by simp) rfl (lenOf pd_31 rfl) rfl (W := 0) rfl (by first | decide | (dsimp only; omega)) (by first | decide | (dsimp only; omega)) (by first | decide | (dsimp only; omega)) (by first | decide | (dsimp only; omega)) ?_
        rintro _ _ _ ⟨rfl, k, ck, rfl, rfl, hK⟩
        exact OWp.retA hk rfl rfl rfl d_FH_87 (M' := []) (N' := [(k, ck), (z, cz), (u2, cu2)]) ⟨rfl, k, ck, z, u2, cz, cu2, rfl, hK, hS2, Or.inr rfl⟩ (List.nil_sublist _) (by simp) (by decide) (by decide)
    · rw [hX] at hS
      have hlX : lat X = true := by rw [← hX]; exact subL_lat hl
      have hXl : X.length = ax := by rw [← hX, subL_len ham]; omega
      refine OWp.astore_n hk d_FH_66 (pc' := 67) rfl (kn := 3) rfl rfl rfl (by simp only [List.set_cons_zero, List.set_cons_succ]; rfl) ?_
      refine OWp.aload_n hk d_FH_67 (pc' := 68) rfl rfl rfl ?_
      refine OWp.ldcS hk d_FH_68 (pc' := 70) rfl (hw _ (List.mem_of_getElem? (i := 123) rfl)) (str_atoms hw) hmem (vs := oBytes [34]) ⟨by decide +kernel, by decide +kernel⟩ (by decide +kernel) (n := 4) (by decide) (by decide) (by decide) (by decide) ?_
      intro a3 t3 ca3 ct3 hE3 hC3 hV3 hA3
      have hS3 : SC Z t3 ca3 ct3 [34] := ⟨hE3, hV3, hC3, hA3, ⟨by decide, by decide⟩⟩
      refine OWp.callV hk d_FH_70 (pc' := 73) rfl (hw _ (List.mem_of_getElem? (i := 124) rfl)) (hw _ (List.mem_of_getElem? (i := 125) rfl)) (nfs (hw _ (List.mem_of_getElem? (i := 127) rfl))) (hw _ (List.mem_of_getElem? (i := 127) rfl)) (hw _ (List.mem_of_getElem? (i := 126) rfl)) (hw _ (List.mem_of_getElem? (i := 13) rfl)) (hw _ (List.mem_of_getElem? (i := 128) rfl)) (by decide) (by simp) hS.1 (c_SW1 hw hEL O2 hzc hS hlX (by omega) hS3 (by decide)) rfl (by simp) rfl (lenOf pd_30 rfl) rfl (W := 0) rfl (by first | decide | (dsimp only; omega)) (by first | decide | (dsimp only; omega)) (by first | decide | (dsimp only; omega)) (by first | decide | (dsimp only; omega)) ?_
      rintro _ _ _ ⟨rfl, rfl, rfl⟩
      rcases hV with ⟨h34, hq⟩ | hq
      · refine OWp.ifYes hk d_FH_73 (XT.i0_eq_t (by rw [if_neg h34])) (by decide) (pc' := 83) rfl ?_
        rw [hq] at hS
        refine OWp.aload_n hk d_FH_83 (pc' := 84) rfl rfl rfl ?_
        refine OWp.callS hk d_FH_84 (pc' := 87) rfl (hw _ (List.mem_of_getElem? (i := 138) rfl)) (hw _ (List.mem_of_getElem? (i := 139) rfl)) (hw _ (List.mem_of_getElem? (i := 42) rfl)) (hw _ (List.mem_of_getElem? (i := 140) rfl)) (by decide) (c_OFK hw hEL O2 hzc O4 hf hS hv hV1 hV8) rfl (by simp) rfl (lenOf pd_31 rfl) rfl (W := 0) rfl (by first | decide | (dsimp only; omega)) (by first | decide | (dsimp only; omega)) (by first | decide | (dsimp only; omega)) (by first | decide | (dsimp only; omega)) ?_
        rintro _ _ _ ⟨rfl, k, ck, rfl, rfl, hK⟩
        exact OWp.retA hk rfl rfl rfl d_FH_87 (M' := []) (N' := [(k, ck), (y, cy), (u, cu)]) ⟨rfl, k, ck, y, u, cy, cu, rfl, hK, hS, Or.inr rfl⟩ (List.nil_sublist _) (by simp) (by decide) (by decide)
      · refine OWp.ifNo hk d_FH_73 (XT.i0_eq_f (by rw [if_pos (show X.getD 0 0 = 34 by rw [hq]; rfl)]; decide)) (pc' := 76) rfl ?_
        refine OWp.aload_n hk d_FH_76 (pc' := 77) rfl rfl rfl ?_
        refine OWp.callS hk d_FH_77 (pc' := 80) rfl (hw _ (List.mem_of_getElem? (i := 168) rfl)) (hw _ (List.mem_of_getElem? (i := 169) rfl)) (hw _ (List.mem_of_getElem? (i := 42) rfl)) (hw _ (List.mem_of_getElem? (i := 170) rfl)) (by decide) (c_UNQ hw hEL O2 hzc O4 hf hS hq hv (by omega)) rfl (by simp) rfl (lenOf pd_32 rfl) rfl (W := 0) rfl (by first | decide | (dsimp only; omega)) (by first | decide | (dsimp only; omega)) (by first | decide | (dsimp only; omega)) (by first | decide | (dsimp only; omega)) ?_
        rintro _ _ _ ⟨rfl, z, u2, cz, cu2, rfl, rfl, hS2⟩
        refine OWp.goto hk d_FH_80 (by decide) (pc' := 84) rfl ?_
        refine OWp.callS hk d_FH_84 (pc' := 87) rfl (hw _ (List.mem_of_getElem? (i := 138) rfl)) (hw _ (List.mem_of_getElem? (i := 139) rfl)) (hw _ (List.mem_of_getElem? (i := 42) rfl)) (hw _ (List.mem_of_getElem? (i := 140) rfl)) (by decide) (c_OFK hw hEL O2 hzc O4 hf hS2 hv hV1 hV8) rfl (by simp) rfl (lenOf pd_31 rfl) rfl (W := 0) rfl (by first | decide | (dsimp only; omega)) (by first | decide | (dsimp only; omega)) (by first | decide | (dsimp only; omega)) (by first | decide | (dsimp only; omega)) ?_
        rintro _ _ _ ⟨rfl, k, ck, rfl, rfl, hK⟩
        exact OWp.retA hk rfl rfl rfl d_FH_87 (M' := []) (N' := [(k, ck), (z, cz), (u2, cu2)]) ⟨rfl, k, ck, z, u2, cz, cu2, rfl, hK, hS2, Or.inr rfl⟩ (List.nil_sublist _) (by simp) (by decide) (by decide)
  have loop2 : ∀ (fu en : Nat), en = am + ax + fu → en ≤ cs.length → OWp p l e ({ frames := 7, cells := 30, slots := 400, locals := 108 } : Room) s m #[.ref x] below meth c "com/example/idemnity/idemnity/IdempotencyKey" Z EL (dom []) [(x, cx), (t, ct)] (fun v M N => M = [] ∧ ∃ k ck z u cz cu, v = some (.ref k) ∧ KC Z ck z ∧ SC Z u cz cu V ∧ ((N = [(k, ck)] ∧ z = x ∧ u = t ∧ cz = cx ∧ cu = ct) ∨ N = [(k, ck), (z, cz), (u, cu)])) [] [] 2 44 36 [.val (.ref x), .val (.int (Int32.ofNat am)), .val (.int (Int32.ofNat en)), .unset] [] := by
    intro fu
    induction fu with
    | zero =>
      intro en hen2 hle
      refine OWp.iload_n hk d_FH_36 (pc' := 37) rfl rfl ?_
      refine OWp.iload_n hk d_FH_37 (pc' := 38) rfl rfl ?_
      refine OWp.icmpNo hk d_FH_38 (XT.ii_le_f (by rw [n_lt (by omega) (by omega)]; omega)) (pc' := 41) rfl ?_
      refine OWp.aload_n hk d_FH_41 (pc' := 42) rfl rfl rfl ?_
      refine OWp.iload_n hk d_FH_42 (pc' := 43) rfl rfl ?_
      refine OWp.iconst hk d_FH_43 (pc' := 44) rfl (z := 1) rfl ?_
      refine OWp.isub hk d_FH_44 (pc' := 45) rfl ?_
      rw [show Int32.ofNat en - 1 = Int32.ofNat (en - 1) from n_sub (a := 1) (by omega) (by omega)]
      refine OWp.callV hk d_FH_45 (pc' := 48) rfl (hw _ (List.mem_of_getElem? (i := 61) rfl)) (hw _ (List.mem_of_getElem? (i := 62) rfl)) (nfs (hw _ (List.mem_of_getElem? (i := 64) rfl))) (hw _ (List.mem_of_getElem? (i := 64) rfl)) (hw _ (List.mem_of_getElem? (i := 63) rfl)) (hw _ (List.mem_of_getElem? (i := 13) rfl)) (hw _ (List.mem_of_getElem? (i := 65) rfl)) (by decide) (by simp) hs.1 (c_CHA (i := en - 1) hw hEL O2 hzc O4 hf hs hl (by omega)) rfl (by simp) rfl (lenOf pd_24 rfl) rfl (W := 0) rfl (by first | decide | (dsimp only; omega)) (by first | decide | (dsimp only; omega)) (by first | decide | (dsimp only; omega)) (by first | decide | (dsimp only; omega)) ?_
      rintro _ _ _ ⟨rfl, rfl, rfl⟩
      refine OWp.callS hk d_FH_48 (pc' := 51) rfl (hw _ (List.mem_of_getElem? (i := 83) rfl)) (hw _ (List.mem_of_getElem? (i := 84) rfl)) (hw _ (List.mem_of_getElem? (i := 42) rfl)) (hw _ (List.mem_of_getElem? (i := 85) rfl)) (by decide) (c_IST hw hEL) rfl (by simp) rfl (lenOf pd_20 rfl) rfl (W := 0) rfl (by first | decide | (dsimp only; omega)) (by first | decide | (dsimp only; omega)) (by first | decide | (dsimp only; omega)) (by first | decide | (dsimp only; omega)) ?_
      rintro _ _ _ ⟨rfl, rfl, rfl⟩
      refine OWp.ifYes hk d_FH_51 (XT.i0_eq_t (by rw [if_neg (show ¬ sp (cs.getD (en - 1) 0) by rw [show en - 1 = am + ax - 1 by omega]; exact hen)])) (by decide) (pc' := 60) rfl ?_
      rw [show en = am + ax by omega]
      exact tail
    | succ fu ih =>
      intro en hen2 hle
      refine OWp.iload_n hk d_FH_36 (pc' := 37) rfl rfl ?_
      refine OWp.iload_n hk d_FH_37 (pc' := 38) rfl rfl ?_
      refine OWp.icmpNo hk d_FH_38 (XT.ii_le_f (by rw [n_lt (by omega) (by omega)]; omega)) (pc' := 41) rfl ?_
      refine OWp.aload_n hk d_FH_41 (pc' := 42) rfl rfl rfl ?_
      refine OWp.iload_n hk d_FH_42 (pc' := 43) rfl rfl ?_
      refine OWp.iconst hk d_FH_43 (pc' := 44) rfl (z := 1) rfl ?_
      refine OWp.isub hk d_FH_44 (pc' := 45) rfl ?_
      rw [show Int32.ofNat en - 1 = Int32.ofNat (en - 1) from n_sub (a := 1) (by omega) (by omega)]
      refine OWp.callV hk d_FH_45 (pc' := 48) rfl (hw _ (List.mem_of_getElem? (i := 61) rfl)) (hw _ (List.mem_of_getElem? (i := 62) rfl)) (nfs (hw _ (List.mem_of_getElem? (i := 64) rfl))) (hw _ (List.mem_of_getElem? (i := 64) rfl)) (hw _ (List.mem_of_getElem? (i := 63) rfl)) (hw _ (List.mem_of_getElem? (i := 13) rfl)) (hw _ (List.mem_of_getElem? (i := 65) rfl)) (by decide) (by simp) hs.1 (c_CHA (i := en - 1) hw hEL O2 hzc O4 hf hs hl (by omega)) rfl (by simp) rfl (lenOf pd_24 rfl) rfl (W := 0) rfl (by first | decide | (dsimp only; omega)) (by first | decide | (dsimp only; omega)) (by first | decide | (dsimp only; omega)) (by first | decide | (dsimp only; omega)) ?_
      rintro _ _ _ ⟨rfl, rfl, rfl⟩
      refine OWp.callS hk d_FH_48 (pc' := 51) rfl (hw _ (List.mem_of_getElem? (i := 83) rfl)) (hw _ (List.mem_of_getElem? (i := 84) rfl)) (hw _ (List.mem_of_getElem? (i := 42) rfl)) (hw _ (List.mem_of_getElem? (i := 85) rfl)) (by decide) (c_IST hw hEL) rfl (by simp) rfl (lenOf pd_20 rfl) rfl (W := 0) rfl (by first | decide | (dsimp only; omega)) (by first | decide | (dsimp only; omega)) (by first | decide | (dsimp only; omega)) (by first | decide | (dsimp only; omega)) ?_
      rintro _ _ _ ⟨rfl, rfl, rfl⟩
      refine OWp.ifNo hk d_FH_51 (XT.i0_eq_f (by rw [if_pos (hpost (en - 1) (by omega) (by omega))]; decide)) (pc' := 54) rfl ?_
      refine OWp.iinc hk d_FH_54 (pc' := 57) rfl rfl (z := -1) rfl (by simp only [List.set_cons_zero, List.set_cons_succ]; rfl) ?_
      refine OWp.goto hk d_FH_57 (by decide) (pc' := 36) rfl ?_
      rw [show Int32.ofNat en + -1 = Int32.ofNat (en - 1) from by rw [← Int32.sub_eq_add_neg]; exact n_sub (a := 1) (by omega) (by omega)]
      exact ih (en - 1) (by omega) (by omega)
  have loop1 : ∀ (fu i : Nat), i + fu = am → OWp p l e ({ frames := 7, cells := 30, slots := 400, locals := 108 } : Room) s m #[.ref x] below meth c "com/example/idemnity/idemnity/IdempotencyKey" Z EL (dom []) [(x, cx), (t, ct)] (fun v M N => M = [] ∧ ∃ k ck z u cz cu, v = some (.ref k) ∧ KC Z ck z ∧ SC Z u cz cu V ∧ ((N = [(k, ck)] ∧ z = x ∧ u = t ∧ cz = cx ∧ cu = ct) ∨ N = [(k, ck), (z, cz), (u, cu)])) [] [] 2 44 14 [.val (.ref x), .val (.int (Int32.ofNat i)), .val (.int (Int32.ofNat cs.length)), .unset] [] := by
    intro fu
    induction fu with
    | zero =>
      intro i hi
      obtain rfl : i = am := by omega
      refine OWp.iload_n hk d_FH_14 (pc' := 15) rfl rfl ?_
      refine OWp.iload_n hk d_FH_15 (pc' := 16) rfl rfl ?_
      refine OWp.icmpNo hk d_FH_16 (XT.ii_ge_f (by rw [n_lt (by omega) (by omega)]; omega)) (pc' := 19) rfl ?_
      refine OWp.aload_n hk d_FH_19 (pc' := 20) rfl rfl rfl ?_
      refine OWp.iload_n hk d_FH_20 (pc' := 21) rfl rfl ?_
      refine OWp.callV hk d_FH_21 (pc' := 24) rfl (hw _ (List.mem_of_getElem? (i := 61) rfl)) (hw _ (List.mem_of_getElem? (i := 62) rfl)) (nfs (hw _ (List.mem_of_getElem? (i := 64) rfl))) (hw _ (List.mem_of_getElem? (i := 64) rfl)) (hw _ (List.mem_of_getElem? (i := 63) rfl)) (hw _ (List.mem_of_getElem? (i := 13) rfl)) (hw _ (List.mem_of_getElem? (i := 65) rfl)) (by decide) (by simp) hs.1 (c_CHA (i := i) hw hEL O2 hzc O4 hf hs hl (by omega)) rfl (by simp) rfl (lenOf pd_24 rfl) rfl (W := 0) rfl (by first | decide | (dsimp only; omega)) (by first | decide | (dsimp only; omega)) (by first | decide | (dsimp only; omega)) (by first | decide | (dsimp only; omega)) ?_
      rintro _ _ _ ⟨rfl, rfl, rfl⟩
      refine OWp.callS hk d_FH_24 (pc' := 27) rfl (hw _ (List.mem_of_getElem? (i := 83) rfl)) (hw _ (List.mem_of_getElem? (i := 84) rfl)) (hw _ (List.mem_of_getElem? (i := 42) rfl)) (hw _ (List.mem_of_getElem? (i := 85) rfl)) (by decide) (c_IST hw hEL) rfl (by simp) rfl (lenOf pd_20 rfl) rfl (W := 0) rfl (by first | decide | (dsimp only; omega)) (by first | decide | (dsimp only; omega)) (by first | decide | (dsimp only; omega)) (by first | decide | (dsimp only; omega)) ?_
      rintro _ _ _ ⟨rfl, rfl, rfl⟩
      refine OWp.ifYes hk d_FH_27 (XT.i0_eq_t (by rw [if_neg hst])) (by decide) (pc' := 36) rfl ?_
      exact loop2 (cs.length - (i + ax)) cs.length (by omega) (Nat.le_refl _)
    | succ fu ih =>
      intro i hi
      refine OWp.iload_n hk d_FH_14 (pc' := 15) rfl rfl ?_
      refine OWp.iload_n hk d_FH_15 (pc' := 16) rfl rfl ?_
      refine OWp.icmpNo hk d_FH_16 (XT.ii_ge_f (by rw [n_lt (by omega) (by omega)]; omega)) (pc' := 19) rfl ?_
      refine OWp.aload_n hk d_FH_19 (pc' := 20) rfl rfl rfl ?_
      refine OWp.iload_n hk d_FH_20 (pc' := 21) rfl rfl ?_
      refine OWp.callV hk d_FH_21 (pc' := 24) rfl (hw _ (List.mem_of_getElem? (i := 61) rfl)) (hw _ (List.mem_of_getElem? (i := 62) rfl)) (nfs (hw _ (List.mem_of_getElem? (i := 64) rfl))) (hw _ (List.mem_of_getElem? (i := 64) rfl)) (hw _ (List.mem_of_getElem? (i := 63) rfl)) (hw _ (List.mem_of_getElem? (i := 13) rfl)) (hw _ (List.mem_of_getElem? (i := 65) rfl)) (by decide) (by simp) hs.1 (c_CHA (i := i) hw hEL O2 hzc O4 hf hs hl (by omega)) rfl (by simp) rfl (lenOf pd_24 rfl) rfl (W := 0) rfl (by first | decide | (dsimp only; omega)) (by first | decide | (dsimp only; omega)) (by first | decide | (dsimp only; omega)) (by first | decide | (dsimp only; omega)) ?_
      rintro _ _ _ ⟨rfl, rfl, rfl⟩
      refine OWp.callS hk d_FH_24 (pc' := 27) rfl (hw _ (List.mem_of_getElem? (i := 83) rfl)) (hw _ (List.mem_of_getElem? (i := 84) rfl)) (hw _ (List.mem_of_getElem? (i := 42) rfl)) (hw _ (List.mem_of_getElem? (i := 85) rfl)) (by decide) (c_IST hw hEL) rfl (by simp) rfl (lenOf pd_20 rfl) rfl (W := 0) rfl (by first | decide | (dsimp only; omega)) (by first | decide | (dsimp only; omega)) (by first | decide | (dsimp only; omega)) (by first | decide | (dsimp only; omega)) ?_
      rintro _ _ _ ⟨rfl, rfl, rfl⟩
      refine OWp.ifNo hk d_FH_27 (XT.i0_eq_f (by rw [if_pos (hpre i (by omega))]; decide)) (pc' := 30) rfl ?_
      refine OWp.iinc hk d_FH_30 (pc' := 33) rfl rfl (z := 1) rfl (by simp only [List.set_cons_zero, List.set_cons_succ]; rfl) ?_
      refine OWp.goto hk d_FH_33 (by decide) (pc' := 14) rfl ?_
      rw [n_succ]
      exact ih (i + 1) (by omega)
  exact loop1 am 0 (by omega)
end Own
--CUT
section Law
variable {l : Launch} {Z : State} {a0 : Array Value} {EL : List (String × Nat)} {zc : Int32} {fm : Value}
set_option maxRecDepth 65536 in
set_option maxHeartbeats 8000000 in
theorem c_law (hw : ∀ d ∈ tables_1, d.before a0 Z = true) (hEL : EW Z a0 EL) (O2 : Sta Z Z.heap "java/lang/String" "COMPACT_STRINGS" "Z" (.int zc)) (hzc : ¬ zc = 0) (O4 : Sta Z Z.heap "jdk/internal/util/Preconditions" "SIOOBE_FORMATTER" "Ljava/util/function/BiFunction;" fm) (hf : fm.isRef = true) (hmem : ("com/example/idemnity/idemnity/IdempotencyKey", 73) ∈ EL) (p1 p2 p3 : Int32) :
    OCon l Z EL x code maxLocals ret tables_1 room_1 #[.int p1, .int p2, .int p3] [] [] (fun v _ _ => v = some (.int 1)) := by
  refine OCon.of_wp (L0 := [.val (.int p1), .val (.int p2), .val (.int p3), .unset, .unset, .unset, .unset, .unset, .unset, .unset, .unset, .unset, .unset, .unset, .unset, .unset, .unset]) pn_law hEL (fun m => by first | (simp [entryFrame, mkF, argsToLocals, Value.category, maxLocals]; done) | rfl) ?_
  intro p e s m below meth c hk
  have A54 : ∀ (qd : Nat) (k0 : Int32) (z5 : Slot), o1 z5 = true → (qd = 0 ∨ qd = 1) → VC k0 → (qd = 0 → ¬ k0 = 34) → OWp p l e room_1 s m #[.int p1, .int p2, .int p3] below meth c x.cls Z EL (dom []) [] (fun v _ _ => v = some (.int 1)) [] [] 0 0 54 [.val (.int p1), .val (.int p2), .val (.int p3), .val (.int (Int32.ofNat qd)), .val (.int k0), z5, .unset, .unset, .unset, .unset, .unset, .unset, .unset, .unset, .unset, .unset, .unset] [] := by
    intro qd k0 z5 hz5 hqd v0 hk34
    refine OWp.iload_n hk at_54 (pc' := 55) rfl rfl ?_
    refine OWp.iconst hk at_55 (pc' := 56) rfl (z := 1) rfl ?_
    refine OWp.callS hk at_56 (pc' := 59) rfl (hw _ (List.mem_of_getElem? (i := 0) rfl)) (hw _ (List.mem_of_getElem? (i := 1) rfl)) (hw _ (List.mem_of_getElem? (i := 2) rfl)) (hw _ (List.mem_of_getElem? (i := 3) rfl)) (by decide) (c_DRAW hw hEL p1 1) rfl (by simp) rfl (lenOf pd_33 rfl) rfl (W := 0) rfl (by first | decide | (dsimp only; omega)) (by first | decide | (dsimp only; omega)) (by first | decide | (dsimp only; omega)) (by first | decide | (dsimp only; omega)) ?_
    rintro _ _ _ ⟨rfl, rfl, k1, rfl, v1⟩
    refine OWp.istore hk at_59 (pc' := 61) rfl (by exact hz5) (by simp only [List.set_cons_zero, List.set_cons_succ]; rfl) ?_
    refine OWp.iload_n hk at_61 (pc' := 62) rfl rfl ?_
    refine OWp.iconst hk at_62 (pc' := 63) rfl (z := 2) rfl ?_
    refine OWp.callS hk at_63 (pc' := 66) rfl (hw _ (List.mem_of_getElem? (i := 0) rfl)) (hw _ (List.mem_of_getElem? (i := 1) rfl)) (hw _ (List.mem_of_getElem? (i := 2) rfl)) (hw _ (List.mem_of_getElem? (i := 3) rfl)) (by decide) (c_DRAW hw hEL p1 2) rfl (by simp) rfl (lenOf pd_33 rfl) rfl (W := 0) rfl (by first | decide | (dsimp only; omega)) (by first | decide | (dsimp only; omega)) (by first | decide | (dsimp only; omega)) (by first | decide | (dsimp only; omega)) ?_
    rintro _ _ _ ⟨rfl, rfl, k2, rfl, v2⟩
    refine OWp.istore hk at_66 (pc' := 68) rfl rfl (by simp only [List.set_cons_zero, List.set_cons_succ]; rfl) ?_
    refine OWp.iload_n hk at_68 (pc' := 69) rfl rfl ?_
    refine OWp.iconst hk at_69 (pc' := 70) rfl (z := 3) rfl ?_
    refine OWp.callS hk at_70 (pc' := 73) rfl (hw _ (List.mem_of_getElem? (i := 0) rfl)) (hw _ (List.mem_of_getElem? (i := 1) rfl)) (hw _ (List.mem_of_getElem? (i := 2) rfl)) (hw _ (List.mem_of_getElem? (i := 3) rfl)) (by decide) (c_DRAW hw hEL p1 3) rfl (by simp) rfl (lenOf pd_33 rfl) rfl (W := 0) rfl (by first | decide | (dsimp only; omega)) (by first | decide | (dsimp only; omega)) (by first | decide | (dsimp only; omega)) (by first | decide | (dsimp only; omega)) ?_
    rintro _ _ _ ⟨rfl, rfl, k3, rfl, v3⟩
    refine OWp.istore hk at_73 (pc' := 75) rfl rfl (by simp only [List.set_cons_zero, List.set_cons_succ]; rfl) ?_
    refine OWp.iload_n hk at_75 (pc' := 76) rfl rfl ?_
    refine OWp.iconst hk at_76 (pc' := 77) rfl (z := 0) rfl ?_
    refine OWp.callS hk at_77 (pc' := 80) rfl (hw _ (List.mem_of_getElem? (i := 0) rfl)) (hw _ (List.mem_of_getElem? (i := 1) rfl)) (hw _ (List.mem_of_getElem? (i := 2) rfl)) (hw _ (List.mem_of_getElem? (i := 3) rfl)) (by decide) (c_DRAW hw hEL p2 0) rfl (by simp) rfl (lenOf pd_33 rfl) rfl (W := 0) rfl (by first | decide | (dsimp only; omega)) (by first | decide | (dsimp only; omega)) (by first | decide | (dsimp only; omega)) (by first | decide | (dsimp only; omega)) ?_
    rintro _ _ _ ⟨rfl, rfl, k4, rfl, v4⟩
    refine OWp.istore hk at_80 (pc' := 82) rfl rfl (by simp only [List.set_cons_zero, List.set_cons_succ]; rfl) ?_
    refine OWp.iload_n hk at_82 (pc' := 83) rfl rfl ?_
    refine OWp.iconst hk at_83 (pc' := 84) rfl (z := 1) rfl ?_
    refine OWp.callS hk at_84 (pc' := 87) rfl (hw _ (List.mem_of_getElem? (i := 0) rfl)) (hw _ (List.mem_of_getElem? (i := 1) rfl)) (hw _ (List.mem_of_getElem? (i := 2) rfl)) (hw _ (List.mem_of_getElem? (i := 3) rfl)) (by decide) (c_DRAW hw hEL p2 1) rfl (by simp) rfl (lenOf pd_33 rfl) rfl (W := 0) rfl (by first | decide | (dsimp only; omega)) (by first | decide | (dsimp only; omega)) (by first | decide | (dsimp only; omega)) (by first | decide | (dsimp only; omega)) ?_
    rintro _ _ _ ⟨rfl, rfl, k5, rfl, v5⟩
    refine OWp.istore hk at_87 (pc' := 89) rfl rfl (by simp only [List.set_cons_zero, List.set_cons_succ]; rfl) ?_
    refine OWp.iload_n hk at_89 (pc' := 90) rfl rfl ?_
    refine OWp.iconst hk at_90 (pc' := 91) rfl (z := 2) rfl ?_
    refine OWp.callS hk at_91 (pc' := 94) rfl (hw _ (List.mem_of_getElem? (i := 0) rfl)) (hw _ (List.mem_of_getElem? (i := 1) rfl)) (hw _ (List.mem_of_getElem? (i := 2) rfl)) (hw _ (List.mem_of_getElem? (i := 3) rfl)) (by decide) (c_DRAW hw hEL p2 2) rfl (by simp) rfl (lenOf pd_33 rfl) rfl (W := 0) rfl (by first | decide | (dsimp only; omega)) (by first | decide | (dsimp only; omega)) (by first | decide | (dsimp only; omega)) (by first | decide | (dsimp only; omega)) ?_
    rintro _ _ _ ⟨rfl, rfl, k6, rfl, v6⟩
    refine OWp.istore hk at_94 (pc' := 96) rfl rfl (by simp only [List.set_cons_zero, List.set_cons_succ]; rfl) ?_
    refine OWp.iload_n hk at_96 (pc' := 97) rfl rfl ?_
    refine OWp.iconst hk at_97 (pc' := 98) rfl (z := 3) rfl ?_
    refine OWp.callS hk at_98 (pc' := 101) rfl (hw _ (List.mem_of_getElem? (i := 0) rfl)) (hw _ (List.mem_of_getElem? (i := 1) rfl)) (hw _ (List.mem_of_getElem? (i := 2) rfl)) (hw _ (List.mem_of_getElem? (i := 3) rfl)) (by decide) (c_DRAW hw hEL p2 3) rfl (by simp) rfl (lenOf pd_33 rfl) rfl (W := 0) rfl (by first | decide | (dsimp only; omega)) (by first | decide | (dsimp only; omega)) (by first | decide | (dsimp only; omega)) (by first | decide | (dsimp only; omega)) ?_
    rintro _ _ _ ⟨rfl, rfl, k7, rfl, v7⟩
    refine OWp.istore hk at_101 (pc' := 103) rfl rfl (by simp only [List.set_cons_zero, List.set_cons_succ]; rfl) ?_
    have hvk : ∀ c ∈ [k0, k1, k2, k3, k4, k5, k6, k7], VC c := by
      intro c hc
      simp only [List.mem_cons, List.not_mem_nil, or_false] at hc
      rcases hc with rfl | rfl | rfl | rfl | rfl | rfl | rfl | rfl <;> assumption
    have B195 : ∀ (n : Nat) (X : List Int32), 1 ≤ n → n ≤ 8 → ((qd = 0 ∧ X = subL [k0, k1, k2, k3, k4, k5, k6, k7] 0 n) ∨ (qd = 1 ∧ n ≤ 3 ∧ X = 34 :: (encL (subL [k0, k1, k2, k3, k4, k5, k6, k7] 0 n) ++ [34]))) → X.length ≤ 8 → OWp p l e room_1 s m #[.int p1, .int p2, .int p3] below meth c x.cls Z EL (dom []) [] (fun v _ _ => v = some (.int 1)) [] [] 0 0 195 [.val (.int p1), .val (.int p2), .val (.int p3), .val (.int (Int32.ofNat qd)), .val (.int k0), .val (.int k1), .val (.int k2), .val (.int k3), .val (.int k4), .val (.int k5), .val (.int k6), .val (.int k7), .val (.int (Int32.ofNat n)), .val (.int (Int32.ofNat X.length)), .unset, .unset, .unset] [] := by
      intro n X hn1 hn8 hX hX8
      have hVl : (subL [k0, k1, k2, k3, k4, k5, k6, k7] 0 n).length = n := subL_len (by simp; omega)
      have hVv : ∀ c ∈ subL [k0, k1, k2, k3, k4, k5, k6, k7] 0 n, VC c := fun c hc => hvk c (subL_mem hc)
      have hXv : ∀ c ∈ X, VC c := by
        rcases hX with ⟨-, rfl⟩ | ⟨-, -, rfl⟩
        · exact hVv
        · intro c hc
          rcases List.mem_cons.mp hc with rfl | hc
          · exact ⟨by decide, by decide⟩
          · rcases List.mem_append.mp hc with q | q
            · exact encL_vc hVv c q
            · rw [List.mem_singleton.mp q]; exact ⟨by decide, by decide⟩
      have hX1 : 1 ≤ X.length := by
        rcases hX with ⟨-, rfl⟩ | ⟨-, -, rfl⟩
        · rw [hVl]; exact hn1
        · simp
      have hXV : (¬ X.getD 0 0 = 34 ∧ X = subL [k0, k1, k2, k3, k4, k5, k6, k7] 0 n) ∨ X = 34 :: (encL (subL [k0, k1, k2, k3, k4, k5, k6, k7] 0 n) ++ [34]) := by
        rcases hX with ⟨hq, rfl⟩ | ⟨-, -, hq⟩
        · exact Or.inl ⟨by rw [subL_get (by omega)]; exact hk34 hq, rfl⟩
        · exact Or.inr hq
      obtain ⟨r, hr, er⟩ := msk_n (XT.ushr p3 8) (b := 255) (by decide)
      have er' : XT.ushr p3 8 &&& 255 = Int32.ofNat r := er
      have e8 : (8 : Int32) - Int32.ofNat X.length = Int32.ofNat (8 - X.length) := n_sub (b := 8) hX8 (by decide)
      have hmd := Nat.mod_lt r (show 8 - X.length + 1 > 0 by omega)
      refine OWp.iload_n hk at_195 (pc' := 196) rfl rfl ?_
      refine OWp.bipush hk at_196 (pc' := 198) rfl (z := 8) rfl ?_
      refine OWp.iushr hk at_198 (pc' := 199) rfl ?_
      refine OWp.sipush hk at_199 (pc' := 202) rfl (z := 255) rfl ?_
      refine OWp.iand hk at_202 (pc' := 203) rfl ?_
      rw [er']
      refine OWp.bipush hk at_203 (pc' := 205) rfl (z := 8) rfl ?_
      refine OWp.iload hk at_205 (pc' := 207) rfl rfl ?_
      refine OWp.isub hk at_207 (pc' := 208) rfl ?_
      rw [e8]
      refine OWp.iconst hk at_208 (pc' := 209) rfl (z := 1) rfl ?_
      refine OWp.iadd hk at_209 (pc' := 210) rfl ?_
      rw [n_succ]
      refine OWp.irem hk at_210 (pc' := 211) rfl (fun z => by rw [show (0 : Int32) = Int32.ofNat 0 from rfl, n_inj (by omega) (by omega)] at z; omega) ?_
      rw [n_mod (by omega) (by omega)]
      generalize hld : r % (8 - X.length + 1) = ld at hmd ⊢
      refine OWp.istore hk at_211 (pc' := 213) rfl rfl (by simp only [List.set_cons_zero, List.set_cons_succ]; rfl) ?_
      refine OWp.bipush hk at_213 (pc' := 215) rfl (z := 8) rfl ?_
      refine OWp.newarray hk at_215 (pc' := 217) rfl (hw _ (List.mem_of_getElem? (i := 7) rfl)) (by decide) (cap := 8) (by decide) (by decide) (by decide) (by decide) (vs := [.int 0, .int 0, .int 0, .int 0, .int 0, .int 0, .int 0, .int 0]) rfl ?_
      intro b cb hA
      refine OWp.astore hk at_217 (pc' := 219) rfl rfl rfl (by simp only [List.set_cons_zero, List.set_cons_succ]; rfl) ?_
      refine OWp.aload hk at_219 (pc' := 221) rfl rfl rfl ?_
      refine OWp.iconst hk at_221 (pc' := 222) rfl (z := 0) rfl ?_
      refine OWp.iload_n hk at_222 (pc' := 223) rfl rfl ?_
      refine OWp.iconst hk at_223 (pc' := 224) rfl (z := 0) rfl ?_
      refine OWp.callS hk at_224 (pc' := 227) rfl (hw _ (List.mem_of_getElem? (i := 8) rfl)) (hw _ (List.mem_of_getElem? (i := 9) rfl)) (hw _ (List.mem_of_getElem? (i := 2) rfl)) (hw _ (List.mem_of_getElem? (i := 10) rfl)) (by decide) (c_PAD hw hEL p3 0) rfl (by simp) rfl (lenOf pd_33 rfl) rfl (W := 2) rfl (by first | decide | (dsimp only; omega)) (by first | decide | (dsimp only; omega)) (by first | decide | (dsimp only; omega)) (by first | decide | (dsimp only; omega)) ?_
      rintro _ _ _ ⟨rfl, rfl, q0, rfl, s0⟩
      simp only [List.nil_append]
      refine OWp.castore hk at_227 (pc' := 228) rfl (i := 0) rfl hA (by decide) (t := 0) (by decide) (Nat.le_of_ble_eq_true rfl) ?_
      clear hA
      intro cb hA
      simp only [List.set_cons_zero, List.set_cons_succ] at hA ⊢
      refine OWp.aload hk at_228 (pc' := 230) rfl rfl rfl ?_
      refine OWp.iconst hk at_230 (pc' := 231) rfl (z := 1) rfl ?_
      refine OWp.iload_n hk at_231 (pc' := 232) rfl rfl ?_
      refine OWp.iconst hk at_232 (pc' := 233) rfl (z := 1) rfl ?_
      refine OWp.callS hk at_233 (pc' := 236) rfl (hw _ (List.mem_of_getElem? (i := 8) rfl)) (hw _ (List.mem_of_getElem? (i := 9) rfl)) (hw _ (List.mem_of_getElem? (i := 2) rfl)) (hw _ (List.mem_of_getElem? (i := 10) rfl)) (by decide) (c_PAD hw hEL p3 1) rfl (by simp) rfl (lenOf pd_33 rfl) rfl (W := 2) rfl (by first | decide | (dsimp only; omega)) (by first | decide | (dsimp only; omega)) (by first | decide | (dsimp only; omega)) (by first | decide | (dsimp only; omega)) ?_
      rintro _ _ _ ⟨rfl, rfl, q1, rfl, s1⟩
      simp only [List.nil_append]
      refine OWp.castore hk at_236 (pc' := 237) rfl (i := 0) rfl hA (by decide) (t := 1) (by decide) (Nat.le_of_ble_eq_true rfl) ?_
      clear hA
      intro cb hA
      simp only [List.set_cons_zero, List.set_cons_succ] at hA ⊢
      refine OWp.aload hk at_237 (pc' := 239) rfl rfl rfl ?_
      refine OWp.iconst hk at_239 (pc' := 240) rfl (z := 2) rfl ?_
      refine OWp.iload_n hk at_240 (pc' := 241) rfl rfl ?_
      refine OWp.iconst hk at_241 (pc' := 242) rfl (z := 2) rfl ?_
      refine OWp.callS hk at_242 (pc' := 245) rfl (hw _ (List.mem_of_getElem? (i := 8) rfl)) (hw _ (List.mem_of_getElem? (i := 9) rfl)) (hw _ (List.mem_of_getElem? (i := 2) rfl)) (hw _ (List.mem_of_getElem? (i := 10) rfl)) (by decide) (c_PAD hw hEL p3 2) rfl (by simp) rfl (lenOf pd_33 rfl) rfl (W := 2) rfl (by first | decide | (dsimp only; omega)) (by first | decide | (dsimp only; omega)) (by first | decide | (dsimp only; omega)) (by first | decide | (dsimp only; omega)) ?_
      rintro _ _ _ ⟨rfl, rfl, q2, rfl, s2⟩
      simp only [List.nil_append]
      refine OWp.castore hk at_245 (pc' := 246) rfl (i := 0) rfl hA (by decide) (t := 2) (by decide) (Nat.le_of_ble_eq_true rfl) ?_
      clear hA
      intro cb hA
      simp only [List.set_cons_zero, List.set_cons_succ] at hA ⊢
      refine OWp.aload hk at_246 (pc' := 248) rfl rfl rfl ?_
      refine OWp.iconst hk at_248 (pc' := 249) rfl (z := 3) rfl ?_
      refine OWp.iload_n hk at_249 (pc' := 250) rfl rfl ?_
      refine OWp.iconst hk at_250 (pc' := 251) rfl (z := 3) rfl ?_
      refine OWp.callS hk at_251 (pc' := 254) rfl (hw _ (List.mem_of_getElem? (i := 8) rfl)) (hw _ (List.mem_of_getElem? (i := 9) rfl)) (hw _ (List.mem_of_getElem? (i := 2) rfl)) (hw _ (List.mem_of_getElem? (i := 10) rfl)) (by decide) (c_PAD hw hEL p3 3) rfl (by simp) rfl (lenOf pd_33 rfl) rfl (W := 2) rfl (by first | decide | (dsimp only; omega)) (by first | decide | (dsimp only; omega)) (by first | decide | (dsimp only; omega)) (by first | decide | (dsimp only; omega)) ?_
      rintro _ _ _ ⟨rfl, rfl, q3, rfl, s3⟩
      simp only [List.nil_append]
      refine OWp.castore hk at_254 (pc' := 255) rfl (i := 0) rfl hA (by decide) (t := 3) (by decide) (Nat.le_of_ble_eq_true rfl) ?_
      clear hA
      intro cb hA
      simp only [List.set_cons_zero, List.set_cons_succ] at hA ⊢
      refine OWp.aload hk at_255 (pc' := 257) rfl rfl rfl ?_
      refine OWp.iconst hk at_257 (pc' := 258) rfl (z := 4) rfl ?_
      refine OWp.iload_n hk at_258 (pc' := 259) rfl rfl ?_
      refine OWp.iconst hk at_259 (pc' := 260) rfl (z := 4) rfl ?_
      refine OWp.callS hk at_260 (pc' := 263) rfl (hw _ (List.mem_of_getElem? (i := 8) rfl)) (hw _ (List.mem_of_getElem? (i := 9) rfl)) (hw _ (List.mem_of_getElem? (i := 2) rfl)) (hw _ (List.mem_of_getElem? (i := 10) rfl)) (by decide) (c_PAD hw hEL p3 4) rfl (by simp) rfl (lenOf pd_33 rfl) rfl (W := 2) rfl (by first | decide | (dsimp only; omega)) (by first | decide | (dsimp only; omega)) (by first | decide | (dsimp only; omega)) (by first | decide | (dsimp only; omega)) ?_
      rintro _ _ _ ⟨rfl, rfl, q4, rfl, s4⟩
      simp only [List.nil_append]
      refine OWp.castore hk at_263 (pc' := 264) rfl (i := 0) rfl hA (by decide) (t := 4) (by decide) (Nat.le_of_ble_eq_true rfl) ?_
      clear hA
      intro cb hA
      simp only [List.set_cons_zero, List.set_cons_succ] at hA ⊢
      refine OWp.aload hk at_264 (pc' := 266) rfl rfl rfl ?_
      refine OWp.iconst hk at_266 (pc' := 267) rfl (z := 5) rfl ?_
      refine OWp.iload_n hk at_267 (pc' := 268) rfl rfl ?_
      refine OWp.iconst hk at_268 (pc' := 269) rfl (z := 5) rfl ?_
      refine OWp.callS hk at_269 (pc' := 272) rfl (hw _ (List.mem_of_getElem? (i := 8) rfl)) (hw _ (List.mem_of_getElem? (i := 9) rfl)) (hw _ (List.mem_of_getElem? (i := 2) rfl)) (hw _ (List.mem_of_getElem? (i := 10) rfl)) (by decide) (c_PAD hw hEL p3 5) rfl (by simp) rfl (lenOf pd_33 rfl) rfl (W := 2) rfl (by first | decide | (dsimp only; omega)) (by first | decide | (dsimp only; omega)) (by first | decide | (dsimp only; omega)) (by first | decide | (dsimp only; omega)) ?_
      rintro _ _ _ ⟨rfl, rfl, q5, rfl, s5⟩
      simp only [List.nil_append]
      refine OWp.castore hk at_272 (pc' := 273) rfl (i := 0) rfl hA (by decide) (t := 5) (by decide) (Nat.le_of_ble_eq_true rfl) ?_
      clear hA
      intro cb hA
      simp only [List.set_cons_zero, List.set_cons_succ] at hA ⊢
      refine OWp.aload hk at_273 (pc' := 275) rfl rfl rfl ?_
      refine OWp.bipush hk at_275 (pc' := 277) rfl (z := 6) rfl ?_
      refine OWp.iload_n hk at_277 (pc' := 278) rfl rfl ?_
      refine OWp.bipush hk at_278 (pc' := 280) rfl (z := 6) rfl ?_
      refine OWp.callS hk at_280 (pc' := 283) rfl (hw _ (List.mem_of_getElem? (i := 8) rfl)) (hw _ (List.mem_of_getElem? (i := 9) rfl)) (hw _ (List.mem_of_getElem? (i := 2) rfl)) (hw _ (List.mem_of_getElem? (i := 10) rfl)) (by decide) (c_PAD hw hEL p3 6) rfl (by simp) rfl (lenOf pd_33 rfl) rfl (W := 2) rfl (by first | decide | (dsimp only; omega)) (by first | decide | (dsimp only; omega)) (by first | decide | (dsimp only; omega)) (by first | decide | (dsimp only; omega)) ?_
      rintro _ _ _ ⟨rfl, rfl, q6, rfl, s6⟩
      simp only [List.nil_append]
      refine OWp.castore hk at_283 (pc' := 284) rfl (i := 0) rfl hA (by decide) (t := 6) (by decide) (Nat.le_of_ble_eq_true rfl) ?_
      clear hA
      intro cb hA
      simp only [List.set_cons_zero, List.set_cons_succ] at hA ⊢
      refine OWp.aload hk at_284 (pc' := 286) rfl rfl rfl ?_
      refine OWp.bipush hk at_286 (pc' := 288) rfl (z := 7) rfl ?_
      refine OWp.iload_n hk at_288 (pc' := 289) rfl rfl ?_
      refine OWp.bipush hk at_289 (pc' := 291) rfl (z := 7) rfl ?_
      refine OWp.callS hk at_291 (pc' := 294) rfl (hw _ (List.mem_of_getElem? (i := 8) rfl)) (hw _ (List.mem_of_getElem? (i := 9) rfl)) (hw _ (List.mem_of_getElem? (i := 2) rfl)) (hw _ (List.mem_of_getElem? (i := 10) rfl)) (by decide) (c_PAD hw hEL p3 7) rfl (by simp) rfl (lenOf pd_33 rfl) rfl (W := 2) rfl (by first | decide | (dsimp only; omega)) (by first | decide | (dsimp only; omega)) (by first | decide | (dsimp only; omega)) (by first | decide | (dsimp only; omega)) ?_
      rintro _ _ _ ⟨rfl, rfl, q7, rfl, s7⟩
      simp only [List.nil_append]
      refine OWp.castore hk at_294 (pc' := 295) rfl (i := 0) rfl hA (by decide) (t := 7) (by decide) (Nat.le_of_ble_eq_true rfl) ?_
      clear hA
      intro cb hA
      simp only [List.set_cons_zero, List.set_cons_succ] at hA ⊢
      rw [sp_nar s0, sp_nar s1, sp_nar s2, sp_nar s3, sp_nar s4, sp_nar s5, sp_nar s6, sp_nar s7] at hA
      have hA8 : AC Z cb .char (tab 8 fun j => .int ([q0, q1, q2, q3, q4, q5, q6, q7].getD j 0)) := by
        have h := hA
        rw [show ([.int q0, .int q1, .int q2, .int q3, .int q4, .int q5, .int q6, .int q7] : List Value) = tab 8 fun j => .int ([q0, q1, q2, q3, q4, q5, q6, q7].getD j 0) from map_tab [q0, q1, q2, q3, q4, q5, q6, q7] Value.int] at h
        exact h
      have hqsp : ∀ j, j < 8 → sp ([q0, q1, q2, q3, q4, q5, q6, q7].getD j 0) := fun j hj => by
        match j, hj with
        | 0, _ => exact s0
        | 1, _ => exact s1
        | 2, _ => exact s2
        | 3, _ => exact s3
        | 4, _ => exact s4
        | 5, _ => exact s5
        | 6, _ => exact s6
        | 7, _ => exact s7
        | j + 8, hj => omega
      have G0 : GI [q0, q1, q2, q3, q4, q5, q6, q7] ld (fun j => .int ([q0, q1, q2, q3, q4, q5, q6, q7].getD j 0)) [] := fun j hj => by rw [if_neg (by simp)]
      generalize [q0, q1, q2, q3, q4, q5, q6, q7] = qs at hA8 hqsp G0
      have E479 : ∀ (cb : Cell) (g : Nat → Value) (z16 : Slot), o1 z16 = true → AC Z cb .char (tab 8 g) → GI qs ld g X → OWp p l e room_1 s m #[.int p1, .int p2, .int p3] below meth c x.cls Z EL (dom []) [] (fun v _ _ => v = some (.int 1)) [(b, cb)] [] 6 60 479 [.val (.int p1), .val (.int p2), .val (.int p3), .val (.int (Int32.ofNat qd)), .val (.int k0), .val (.int k1), .val (.int k2), .val (.int k3), .val (.int k4), .val (.int k5), .val (.int k6), .val (.int k7), .val (.int (Int32.ofNat n)), .val (.int (Int32.ofNat X.length)), .val (.int (Int32.ofNat ld)), .val (.ref b), z16] [] := by
        intro cb g z16 hz16 hB hG
        have hcl : ((List.range 8).map fun j => if ld ≤ j ∧ j < ld + X.length then X.getD (j - ld) 0 else qs.getD j 0).length = 8 := by simp
        have hcg : ∀ j, j < 8 → ((List.range 8).map fun j => if ld ≤ j ∧ j < ld + X.length then X.getD (j - ld) 0 else qs.getD j 0).getD j 0 = if ld ≤ j ∧ j < ld + X.length then X.getD (j - ld) 0 else qs.getD j 0 := fun j hj => by
          rw [List.getD_eq_getElem?_getD, List.getElem?_map, List.getElem?_range hj]; rfl
        generalize ((List.range 8).map fun j => if ld ≤ j ∧ j < ld + X.length then X.getD (j - ld) 0 else qs.getD j 0) = cs at hcl hcg
        have hA : AC Z cb .char (cs.map Value.int) := by
          rw [map_tab, hcl]
          exact hB.congr fun j hj => by rw [hcg j hj]; exact hG j hj
        have hcr : ∀ j, j < 8 → ¬ cs.getD j 0 < 0 ∧ ¬ (255 : Int32) < cs.getD j 0 := fun j hj => by
          rw [hcg j hj]
          by_cases q : ld ≤ j ∧ j < ld + X.length
          · rw [if_pos q]; exact (hXv _ (getD_mem (by omega))).rng
          · rw [if_neg q]; exact sp_rng (hqsp j hj)
        have hcm : ∀ c ∈ cs, ¬ c < 0 ∧ ¬ (255 : Int32) < c := fun c hc => by
          obtain ⟨j, hj, rfl⟩ := List.getElem_of_mem hc
          have := hcr j (by omega)
          rwa [List.getD_eq_getElem?_getD, List.getElem?_eq_getElem hj] at this
        have hl : lat cs = true := lat_iff.mpr fun c hc => (hcm c hc).2
        have hch : Chars cs := ⟨fun c hc => ⟨(hcm c hc).1, lt_65535 (hcm c hc).2⟩, by omega⟩
        refine OWp.new hk at_479 (pc' := 482) rfl (hw _ (List.mem_of_getElem? (i := 11) rfl)) (hw _ (List.mem_of_getElem? (i := 12) rfl)) (hw _ (List.mem_of_getElem? (i := 13) rfl)) (by decide) (by decide) ?_
        intro sx cx hE hD
        have hV : FC Z cx "java/lang/String" "value" "[B" .null := hD (Or.inr (hw _ (List.mem_of_getElem? (i := 39) rfl))) (ty := .array .byte) (by decide)
        have hC : FC Z cx "java/lang/String" "coder" "B" (.int 0) := hD (Or.inr (hw _ (List.mem_of_getElem? (i := 37) rfl))) (ty := .byte) (by decide)
        refine OWp.dup hk at_482 (pc' := 483) rfl rfl ?_
        refine OWp.aload hk at_483 (pc' := 485) rfl rfl rfl ?_
        refine OWp.perm (M' := [(b, cb), (sx, cx)]) (List.Perm.swap ..) ?_
        refine OWp.freeze ?_
        refine OWp.callI hk at_485 (pc' := 488) rfl rfl (hw _ (List.mem_of_getElem? (i := 14) rfl)) (hw _ (List.mem_of_getElem? (i := 15) rfl)) (hw _ (List.mem_of_getElem? (i := 13) rfl)) (hw _ (List.mem_of_getElem? (i := 16) rfl)) (by decide) (c_NEW hw hEL O2 hzc hE hV hC hA hch hl (by rw [hcl]; decide) (by omega)) rfl (by simp) rfl (lenOf pd_34 rfl) rfl (W := 1) rfl (by first | decide | (dsimp only; omega)) (by first | decide | (dsimp only; omega)) (by first | decide | (dsimp only; omega)) (by first | decide | (dsimp only; omega)) ?_
        rintro _ _ _ ⟨rfl, rfl, t, cx2, ct, rfl, hs⟩
        refine OWp.less (N' := [(sx, cx2), (t, ct)]) (by simp) ?_
        refine OWp.callS hk at_488 (pc' := 491) rfl (hw _ (List.mem_of_getElem? (i := 40) rfl)) (hw _ (List.mem_of_getElem? (i := 41) rfl)) (hw _ (List.mem_of_getElem? (i := 42) rfl)) (hw _ (List.mem_of_getElem? (i := 43) rfl)) (by decide) (c_FH (am := ld) (ax := X.length) (V := subL [k0, k1, k2, k3, k4, k5, k6, k7] 0 n) hw hEL O2 hzc O4 hf hmem hs hl (by omega) hX1 (by omega) (fun j hj => by rw [hcg j (by omega), if_neg (by omega)]; exact hqsp j (by omega)) (by rw [hcg ld (by omega), if_pos (by omega), Nat.sub_self]; exact (hXv _ (getD_mem (by omega))).nsp) (by rw [hcg _ (by omega), if_pos (by omega)]; exact (hXv _ (getD_mem (by omega))).nsp) (fun j q1 q2 => by rw [hcg j (by omega), if_neg (by omega)]; exact hqsp j (by omega)) (ext_getD (by rw [subL_len (by omega)]; omega) fun j hj => by rw [subL_len (by omega)] at hj; rw [subL_get hj, hcg _ (by omega), if_pos (by omega), Nat.add_sub_cancel_left]) hXV hVv (by rw [hVl]; exact hn1) (by rw [hVl]; exact hn8)) rfl (by simp) rfl (lenOf pd_31 rfl) rfl (W := 0) rfl (by first | decide | (dsimp only; omega)) (by first | decide | (dsimp only; omega)) (by first | decide | (dsimp only; omega)) (by first | decide | (dsimp only; omega)) ?_
        rintro _ _ _ ⟨rfl, k, ck, z, u, cz, cu, rfl, hK, hS, hN⟩
        refine OWp.less (N' := [(k, ck), (z, cz), (u, cu)]) (by rcases hN with ⟨rfl, rfl, rfl, rfl, rfl⟩ | rfl <;> simp) ?_
        refine OWp.callV hk at_491 (pc' := 494) rfl (hw _ (List.mem_of_getElem? (i := 155) rfl)) (hw _ (List.mem_of_getElem? (i := 156) rfl)) (nfs (hw _ (List.mem_of_getElem? (i := 158) rfl))) (hw _ (List.mem_of_getElem? (i := 158) rfl)) (hw _ (List.mem_of_getElem? (i := 157) rfl)) (hw _ (List.mem_of_getElem? (i := 42) rfl)) (hw _ (List.mem_of_getElem? (i := 159) rfl)) (by decide) (by simp) hK.1 (c_GVL hw hEL hK) rfl (by simp) rfl (lenOf pd_27 rfl) rfl (W := 0) rfl (by first | decide | (dsimp only; omega)) (by first | decide | (dsimp only; omega)) (by first | decide | (dsimp only; omega)) (by first | decide | (dsimp only; omega)) ?_
        rintro _ _ _ ⟨rfl, rfl, rfl⟩
        refine OWp.astore hk at_494 (pc' := 496) rfl rfl (by exact hz16) (by simp only [List.set_cons_zero, List.set_cons_succ]; rfl) ?_
        refine OWp.aload hk at_496 (pc' := 498) rfl rfl rfl ?_
        have hlS : lat (subL [k0, k1, k2, k3, k4, k5, k6, k7] 0 n) = true := lat_iff.mpr fun c hc => (hVv c hc).rng.2
        have hgk : ∀ j, j < n → (subL [k0, k1, k2, k3, k4, k5, k6, k7] 0 n).getD j 0 = [k0, k1, k2, k3, k4, k5, k6, k7].getD j 0 := fun j hj => by rw [subL_get (by omega), Nat.zero_add]
        refine OWp.callV hk at_498 (pc' := 501) rfl (hw _ (List.mem_of_getElem? (i := 160) rfl)) (hw _ (List.mem_of_getElem? (i := 52) rfl)) (nfs (hw _ (List.mem_of_getElem? (i := 54) rfl))) (hw _ (List.mem_of_getElem? (i := 54) rfl)) (hw _ (List.mem_of_getElem? (i := 53) rfl)) (hw _ (List.mem_of_getElem? (i := 13) rfl)) (hw _ (List.mem_of_getElem? (i := 55) rfl)) (by decide) (by simp) hS.1 (c_LEN hw hEL O2 hzc hS) rfl (by simp) rfl (lenOf pd_13 rfl) rfl (W := 0) rfl (by first | decide | (dsimp only; omega)) (by first | decide | (dsimp only; omega)) (by first | decide | (dsimp only; omega)) (by first | decide | (dsimp only; omega)) ?_
        rintro _ _ _ ⟨rfl, rfl, rfl⟩
        refine OWp.iload hk at_501 (pc' := 503) rfl rfl ?_
        refine OWp.icmpNo hk at_503 (XT.ii_ne_f (by rw [hVl])) (pc' := 506) rfl ?_
        refine OWp.aload hk at_506 (pc' := 508) rfl rfl rfl ?_
        refine OWp.iconst hk at_508 (pc' := 509) rfl (z := 0) rfl ?_
        refine OWp.callV hk at_509 (pc' := 512) rfl (hw _ (List.mem_of_getElem? (i := 161) rfl)) (hw _ (List.mem_of_getElem? (i := 62) rfl)) (nfs (hw _ (List.mem_of_getElem? (i := 64) rfl))) (hw _ (List.mem_of_getElem? (i := 64) rfl)) (hw _ (List.mem_of_getElem? (i := 63) rfl)) (hw _ (List.mem_of_getElem? (i := 13) rfl)) (hw _ (List.mem_of_getElem? (i := 65) rfl)) (by decide) (by simp) hS.1 (c_CHA (i := 0) hw hEL O2 hzc O4 hf hS hlS (by omega)) rfl (by simp) rfl (lenOf pd_24 rfl) rfl (W := 0) rfl (by first | decide | (dsimp only; omega)) (by first | decide | (dsimp only; omega)) (by first | decide | (dsimp only; omega)) (by first | decide | (dsimp only; omega)) ?_
        rintro _ _ _ ⟨rfl, rfl, rfl⟩
        refine OWp.iload hk at_512 (pc' := 514) rfl rfl ?_
        refine OWp.icmpNo hk at_514 (XT.ii_ne_f (hgk 0 (by omega))) (pc' := 517) rfl ?_
        refine OWp.more (cells' := 39) (slots' := 600) (by decide) (by decide) ?_
        have Y8 : OWp p l e room_1 s m #[.int p1, .int p2, .int p3] below meth c x.cls Z EL (dom []) [] (fun v _ _ => v = some (.int 1)) [] [(k, ck), (z, cz), (u, cu)] 39 600 641 [.val (.int p1), .val (.int p2), .val (.int p3), .val (.int (Int32.ofNat qd)), .val (.int k0), .val (.int k1), .val (.int k2), .val (.int k3), .val (.int k4), .val (.int k5), .val (.int k6), .val (.int k7), .val (.int (Int32.ofNat n)), .val (.int (Int32.ofNat X.length)), .val (.int (Int32.ofNat ld)), .val (.ref b), .val (.ref z)] [] := by
          refine OWp.iconst hk at_641 (pc' := 642) rfl (z := 1) rfl ?_
          refine OWp.goto hk at_642 (by decide) (pc' := 646) rfl ?_
          exact OWp.retN hk (Or.inl rfl) at_646 (M' := []) (N' := []) rfl (List.nil_sublist _) (by simp) (by decide) (by decide)
        have Y7 : OWp p l e room_1 s m #[.int p1, .int p2, .int p3] below meth c x.cls Z EL (dom []) [] (fun v _ _ => v = some (.int 1)) [] [(k, ck), (z, cz), (u, cu)] 39 600 622 [.val (.int p1), .val (.int p2), .val (.int p3), .val (.int (Int32.ofNat qd)), .val (.int k0), .val (.int k1), .val (.int k2), .val (.int k3), .val (.int k4), .val (.int k5), .val (.int k6), .val (.int k7), .val (.int (Int32.ofNat n)), .val (.int (Int32.ofNat X.length)), .val (.int (Int32.ofNat ld)), .val (.ref b), .val (.ref z)] [] := by
          refine OWp.iload hk at_622 (pc' := 624) rfl rfl ?_
          refine OWp.bipush hk at_624 (pc' := 626) rfl (z := 8) rfl ?_
          by_cases h : n < 8
          · refine OWp.icmpYes hk at_626 (XT.ii_lt_t (by rw [show (8 : Int32) = Int32.ofNat 8 from rfl, n_lt (by omega) (by omega)]; exact h)) (by decide) (pc' := 641) rfl ?_
            exact Y8
          refine OWp.icmpNo hk at_626 (XT.ii_lt_f (by rw [show (8 : Int32) = Int32.ofNat 8 from rfl, n_lt (by omega) (by omega)]; exact h)) (pc' := 629) rfl ?_
          refine OWp.aload hk at_629 (pc' := 631) rfl rfl rfl ?_
          refine OWp.bipush hk at_631 (pc' := 633) rfl (z := 7) rfl ?_
          refine OWp.callV hk at_633 (pc' := 636) rfl (hw _ (List.mem_of_getElem? (i := 161) rfl)) (hw _ (List.mem_of_getElem? (i := 62) rfl)) (nfs (hw _ (List.mem_of_getElem? (i := 64) rfl))) (hw _ (List.mem_of_getElem? (i := 64) rfl)) (hw _ (List.mem_of_getElem? (i := 63) rfl)) (hw _ (List.mem_of_getElem? (i := 13) rfl)) (hw _ (List.mem_of_getElem? (i := 65) rfl)) (by decide) (by simp) hS.1 (c_CHA (i := 7) hw hEL O2 hzc O4 hf hS hlS (by omega)) rfl (by simp) rfl (lenOf pd_24 rfl) rfl (W := 0) rfl (by first | decide | (dsimp only; omega)) (by first | decide | (dsimp only; omega)) (by first | decide | (dsimp only; omega)) (by first | decide | (dsimp only; omega)) ?_
          rintro _ _ _ ⟨rfl, rfl, rfl⟩
          refine OWp.iload hk at_636 (pc' := 638) rfl rfl ?_
          refine OWp.icmpNo hk at_638 (XT.ii_ne_f (hgk 7 (by omega))) (pc' := 641) rfl ?_
          exact Y8
        have Y6 : OWp p l e room_1 s m #[.int p1, .int p2, .int p3] below meth c x.cls Z EL (dom []) [] (fun v _ _ => v = some (.int 1)) [] [(k, ck), (z, cz), (u, cu)] 39 600 603 [.val (.int p1), .val (.int p2), .val (.int p3), .val (.int (Int32.ofNat qd)), .val (.int k0), .val (.int k1), .val (.int k2), .val (.int k3), .val (.int k4), .val (.int k5), .val (.int k6), .val (.int k7), .val (.int (Int32.ofNat n)), .val (.int (Int32.ofNat X.length)), .val (.int (Int32.ofNat ld)), .val (.ref b), .val (.ref z)] [] := by
          refine OWp.iload hk at_603 (pc' := 605) rfl rfl ?_
          refine OWp.bipush hk at_605 (pc' := 607) rfl (z := 7) rfl ?_
          by_cases h : n < 7
          · refine OWp.icmpYes hk at_607 (XT.ii_lt_t (by rw [show (7 : Int32) = Int32.ofNat 7 from rfl, n_lt (by omega) (by omega)]; exact h)) (by decide) (pc' := 622) rfl ?_
            exact Y7
          refine OWp.icmpNo hk at_607 (XT.ii_lt_f (by rw [show (7 : Int32) = Int32.ofNat 7 from rfl, n_lt (by omega) (by omega)]; exact h)) (pc' := 610) rfl ?_
          refine OWp.aload hk at_610 (pc' := 612) rfl rfl rfl ?_
          refine OWp.bipush hk at_612 (pc' := 614) rfl (z := 6) rfl ?_
          refine OWp.callV hk at_614 (pc' := 617) rfl (hw _ (List.mem_of_getElem? (i := 161) rfl)) (hw _ (List.mem_of_getElem? (i := 62) rfl)) (nfs (hw _ (List.mem_of_getElem? (i := 64) rfl))) (hw _ (List.mem_of_getElem? (i := 64) rfl)) (hw _ (List.mem_of_getElem? (i := 63) rfl)) (hw _ (List.mem_of_getElem? (i := 13) rfl)) (hw _ (List.mem_of_getElem? (i := 65) rfl)) (by decide) (by simp) hS.1 (c_CHA (i := 6) hw hEL O2 hzc O4 hf hS hlS (by omega)) rfl (by simp) rfl (lenOf pd_24 rfl) rfl (W := 0) rfl (by first | decide | (dsimp only; omega)) (by first | decide | (dsimp only; omega)) (by first | decide | (dsimp only; omega)) (by first | decide | (dsimp only; omega)) ?_
          rintro _ _ _ ⟨rfl, rfl, rfl⟩
          refine OWp.iload hk at_617 (pc' := 619) rfl rfl ?_
          refine OWp.icmpNo hk at_619 (XT.ii_ne_f (hgk 6 (by omega))) (pc' := 622) rfl ?_
          exact Y7
        have Y5 : OWp p l e room_1 s m #[.int p1, .int p2, .int p3] below meth c x.cls Z EL (dom []) [] (fun v _ _ => v = some (.int 1)) [] [(k, ck), (z, cz), (u, cu)] 39 600 585 [.val (.int p1), .val (.int p2), .val (.int p3), .val (.int (Int32.ofNat qd)), .val (.int k0), .val (.int k1), .val (.int k2), .val (.int k3), .val (.int k4), .val (.int k5), .val (.int k6), .val (.int k7), .val (.int (Int32.ofNat n)), .val (.int (Int32.ofNat X.length)), .val (.int (Int32.ofNat ld)), .val (.ref b), .val (.ref z)] [] := by
          refine OWp.iload hk at_585 (pc' := 587) rfl rfl ?_
          refine OWp.bipush hk at_587 (pc' := 589) rfl (z := 6) rfl ?_
          by_cases h : n < 6
          · refine OWp.icmpYes hk at_589 (XT.ii_lt_t (by rw [show (6 : Int32) = Int32.ofNat 6 from rfl, n_lt (by omega) (by omega)]; exact h)) (by decide) (pc' := 603) rfl ?_
            exact Y6
          refine OWp.icmpNo hk at_589 (XT.ii_lt_f (by rw [show (6 : Int32) = Int32.ofNat 6 from rfl, n_lt (by omega) (by omega)]; exact h)) (pc' := 592) rfl ?_
          refine OWp.aload hk at_592 (pc' := 594) rfl rfl rfl ?_
          refine OWp.iconst hk at_594 (pc' := 595) rfl (z := 5) rfl ?_
          refine OWp.callV hk at_595 (pc' := 598) rfl (hw _ (List.mem_of_getElem? (i := 161) rfl)) (hw _ (List.mem_of_getElem? (i := 62) rfl)) (nfs (hw _ (List.mem_of_getElem? (i := 64) rfl))) (hw _ (List.mem_of_getElem? (i := 64) rfl)) (hw _ (List.mem_of_getElem? (i := 63) rfl)) (hw _ (List.mem_of_getElem? (i := 13) rfl)) (hw _ (List.mem_of_getElem? (i := 65) rfl)) (by decide) (by simp) hS.1 (c_CHA (i := 5) hw hEL O2 hzc O4 hf hS hlS (by omega)) rfl (by simp) rfl (lenOf pd_24 rfl) rfl (W := 0) rfl (by first | decide | (dsimp only; omega)) (by first | decide | (dsimp only; omega)) (by first | decide | (dsimp only; omega)) (by first | decide | (dsimp only; omega)) ?_
          rintro _ _ _ ⟨rfl, rfl, rfl⟩
          refine OWp.iload hk at_598 (pc' := 600) rfl rfl ?_
          refine OWp.icmpNo hk at_600 (XT.ii_ne_f (hgk 5 (by omega))) (pc' := 603) rfl ?_
          exact Y6
        have Y4 : OWp p l e room_1 s m #[.int p1, .int p2, .int p3] below meth c x.cls Z EL (dom []) [] (fun v _ _ => v = some (.int 1)) [] [(k, ck), (z, cz), (u, cu)] 39 600 568 [.val (.int p1), .val (.int p2), .val (.int p3), .val (.int (Int32.ofNat qd)), .val (.int k0), .val (.int k1), .val (.int k2), .val (.int k3), .val (.int k4), .val (.int k5), .val (.int k6), .val (.int k7), .val (.int (Int32.ofNat n)), .val (.int (Int32.ofNat X.length)), .val (.int (Int32.ofNat ld)), .val (.ref b), .val (.ref z)] [] := by
          refine OWp.iload hk at_568 (pc' := 570) rfl rfl ?_
          refine OWp.iconst hk at_570 (pc' := 571) rfl (z := 5) rfl ?_
          by_cases h : n < 5
          · refine OWp.icmpYes hk at_571 (XT.ii_lt_t (by rw [show (5 : Int32) = Int32.ofNat 5 from rfl, n_lt (by omega) (by omega)]; exact h)) (by decide) (pc' := 585) rfl ?_
            exact Y5
          refine OWp.icmpNo hk at_571 (XT.ii_lt_f (by rw [show (5 : Int32) = Int32.ofNat 5 from rfl, n_lt (by omega) (by omega)]; exact h)) (pc' := 574) rfl ?_
          refine OWp.aload hk at_574 (pc' := 576) rfl rfl rfl ?_
          refine OWp.iconst hk at_576 (pc' := 577) rfl (z := 4) rfl ?_
          refine OWp.callV hk at_577 (pc' := 580) rfl (hw _ (List.mem_of_getElem? (i := 161) rfl)) (hw _ (List.mem_of_getElem? (i := 62) rfl)) (nfs (hw _ (List.mem_of_getElem? (i := 64) rfl))) (hw _ (List.mem_of_getElem? (i := 64) rfl)) (hw _ (List.mem_of_getElem? (i := 63) rfl)) (hw _ (List.mem_of_getElem? (i := 13) rfl)) (hw _ (List.mem_of_getElem? (i := 65) rfl)) (by decide) (by simp) hS.1 (c_CHA (i := 4) hw hEL O2 hzc O4 hf hS hlS (by omega)) rfl (by simp) rfl (lenOf pd_24 rfl) rfl (W := 0) rfl (by first | decide | (dsimp only; omega)) (by first | decide | (dsimp only; omega)) (by first | decide | (dsimp only; omega)) (by first | decide | (dsimp only; omega)) ?_
          rintro _ _ _ ⟨rfl, rfl, rfl⟩
          refine OWp.iload hk at_580 (pc' := 582) rfl rfl ?_
          refine OWp.icmpNo hk at_582 (XT.ii_ne_f (hgk 4 (by omega))) (pc' := 585) rfl ?_
          exact Y5
        have Y3 : OWp p l e room_1 s m #[.int p1, .int p2, .int p3] below meth c x.cls Z EL (dom []) [] (fun v _ _ => v = some (.int 1)) [] [(k, ck), (z, cz), (u, cu)] 39 600 551 [.val (.int p1), .val (.int p2), .val (.int p3), .val (.int (Int32.ofNat qd)), .val (.int k0), .val (.int k1), .val (.int k2), .val (.int k3), .val (.int k4), .val (.int k5), .val (.int k6), .val (.int k7), .val (.int (Int32.ofNat n)), .val (.int (Int32.ofNat X.length)), .val (.int (Int32.ofNat ld)), .val (.ref b), .val (.ref z)] [] := by
          refine OWp.iload hk at_551 (pc' := 553) rfl rfl ?_
          refine OWp.iconst hk at_553 (pc' := 554) rfl (z := 4) rfl ?_
          by_cases h : n < 4
          · refine OWp.icmpYes hk at_554 (XT.ii_lt_t (by rw [show (4 : Int32) = Int32.ofNat 4 from rfl, n_lt (by omega) (by omega)]; exact h)) (by decide) (pc' := 568) rfl ?_
            exact Y4
          refine OWp.icmpNo hk at_554 (XT.ii_lt_f (by rw [show (4 : Int32) = Int32.ofNat 4 from rfl, n_lt (by omega) (by omega)]; exact h)) (pc' := 557) rfl ?_
          refine OWp.aload hk at_557 (pc' := 559) rfl rfl rfl ?_
          refine OWp.iconst hk at_559 (pc' := 560) rfl (z := 3) rfl ?_
          refine OWp.callV hk at_560 (pc' := 563) rfl (hw _ (List.mem_of_getElem? (i := 161) rfl)) (hw _ (List.mem_of_getElem? (i := 62) rfl)) (nfs (hw _ (List.mem_of_getElem? (i := 64) rfl))) (hw _ (List.mem_of_getElem? (i := 64) rfl)) (hw _ (List.mem_of_getElem? (i := 63) rfl)) (hw _ (List.mem_of_getElem? (i := 13) rfl)) (hw _ (List.mem_of_getElem? (i := 65) rfl)) (by decide) (by simp) hS.1 (c_CHA (i := 3) hw hEL O2 hzc O4 hf hS hlS (by omega)) rfl (by simp) rfl (lenOf pd_24 rfl) rfl (W := 0) rfl (by first | decide | (dsimp only; omega)) (by first | decide | (dsimp only; omega)) (by first | decide | (dsimp only; omega)) (by first | decide | (dsimp only; omega)) ?_
          rintro _ _ _ ⟨rfl, rfl, rfl⟩
          refine OWp.iload hk at_563 (pc' := 565) rfl rfl ?_
          refine OWp.icmpNo hk at_565 (XT.ii_ne_f (hgk 3 (by omega))) (pc' := 568) rfl ?_
          exact Y4
        have Y2 : OWp p l e room_1 s m #[.int p1, .int p2, .int p3] below meth c x.cls Z EL (dom []) [] (fun v _ _ => v = some (.int 1)) [] [(k, ck), (z, cz), (u, cu)] 39 600 534 [.val (.int p1), .val (.int p2), .val (.int p3), .val (.int (Int32.ofNat qd)), .val (.int k0), .val (.int k1), .val (.int k2), .val (.int k3), .val (.int k4), .val (.int k5), .val (.int k6), .val (.int k7), .val (.int (Int32.ofNat n)), .val (.int (Int32.ofNat X.length)), .val (.int (Int32.ofNat ld)), .val (.ref b), .val (.ref z)] [] := by
          refine OWp.iload hk at_534 (pc' := 536) rfl rfl ?_
          refine OWp.iconst hk at_536 (pc' := 537) rfl (z := 3) rfl ?_
          by_cases h : n < 3
          · refine OWp.icmpYes hk at_537 (XT.ii_lt_t (by rw [show (3 : Int32) = Int32.ofNat 3 from rfl, n_lt (by omega) (by omega)]; exact h)) (by decide) (pc' := 551) rfl ?_
            exact Y3
          refine OWp.icmpNo hk at_537 (XT.ii_lt_f (by rw [show (3 : Int32) = Int32.ofNat 3 from rfl, n_lt (by omega) (by omega)]; exact h)) (pc' := 540) rfl ?_
          refine OWp.aload hk at_540 (pc' := 542) rfl rfl rfl ?_
          refine OWp.iconst hk at_542 (pc' := 543) rfl (z := 2) rfl ?_
          refine OWp.callV hk at_543 (pc' := 546) rfl (hw _ (List.mem_of_getElem? (i := 161) rfl)) (hw _ (List.mem_of_getElem? (i := 62) rfl)) (nfs (hw _ (List.mem_of_getElem? (i := 64) rfl))) (hw _ (List.mem_of_getElem? (i := 64) rfl)) (hw _ (List.mem_of_getElem? (i := 63) rfl)) (hw _ (List.mem_of_getElem? (i := 13) rfl)) (hw _ (List.mem_of_getElem? (i := 65) rfl)) (by decide) (by simp) hS.1 (c_CHA (i := 2) hw hEL O2 hzc O4 hf hS hlS (by omega)) rfl (by simp) rfl (lenOf pd_24 rfl) rfl (W := 0) rfl (by first | decide | (dsimp only; omega)) (by first | decide | (dsimp only; omega)) (by first | decide | (dsimp only; omega)) (by first | decide | (dsimp only; omega)) ?_
          rintro _ _ _ ⟨rfl, rfl, rfl⟩
          refine OWp.iload hk at_546 (pc' := 548) rfl rfl ?_
          refine OWp.icmpNo hk at_548 (XT.ii_ne_f (hgk 2 (by omega))) (pc' := 551) rfl ?_
          exact Y3
        have Y1 : OWp p l e room_1 s m #[.int p1, .int p2, .int p3] below meth c x.cls Z EL (dom []) [] (fun v _ _ => v = some (.int 1)) [] [(k, ck), (z, cz), (u, cu)] 39 600 517 [.val (.int p1), .val (.int p2), .val (.int p3), .val (.int (Int32.ofNat qd)), .val (.int k0), .val (.int k1), .val (.int k2), .val (.int k3), .val (.int k4), .val (.int k5), .val (.int k6), .val (.int k7), .val (.int (Int32.ofNat n)), .val (.int (Int32.ofNat X.length)), .val (.int (Int32.ofNat ld)), .val (.ref b), .val (.ref z)] [] := by
          refine OWp.iload hk at_517 (pc' := 519) rfl rfl ?_
          refine OWp.iconst hk at_519 (pc' := 520) rfl (z := 2) rfl ?_
          by_cases h : n < 2
          · refine OWp.icmpYes hk at_520 (XT.ii_lt_t (by rw [show (2 : Int32) = Int32.ofNat 2 from rfl, n_lt (by omega) (by omega)]; exact h)) (by decide) (pc' := 534) rfl ?_
            exact Y2
          refine OWp.icmpNo hk at_520 (XT.ii_lt_f (by rw [show (2 : Int32) = Int32.ofNat 2 from rfl, n_lt (by omega) (by omega)]; exact h)) (pc' := 523) rfl ?_
          refine OWp.aload hk at_523 (pc' := 525) rfl rfl rfl ?_
          refine OWp.iconst hk at_525 (pc' := 526) rfl (z := 1) rfl ?_
          refine OWp.callV hk at_526 (pc' := 529) rfl (hw _ (List.mem_of_getElem? (i := 161) rfl)) (hw _ (List.mem_of_getElem? (i := 62) rfl)) (nfs (hw _ (List.mem_of_getElem? (i := 64) rfl))) (hw _ (List.mem_of_getElem? (i := 64) rfl)) (hw _ (List.mem_of_getElem? (i := 63) rfl)) (hw _ (List.mem_of_getElem? (i := 13) rfl)) (hw _ (List.mem_of_getElem? (i := 65) rfl)) (by decide) (by simp) hS.1 (c_CHA (i := 1) hw hEL O2 hzc O4 hf hS hlS (by omega)) rfl (by simp) rfl (lenOf pd_24 rfl) rfl (W := 0) rfl (by first | decide | (dsimp only; omega)) (by first | decide | (dsimp only; omega)) (by first | decide | (dsimp only; omega)) (by first | decide | (dsimp only; omega)) ?_
          rintro _ _ _ ⟨rfl, rfl, rfl⟩
          refine OWp.iload hk at_529 (pc' := 531) rfl rfl ?_
          refine OWp.icmpNo hk at_531 (XT.ii_ne_f (hgk 1 (by omega))) (pc' := 534) rfl ?_
          exact Y2
        exact Y1
      refine OWp.more (cells' := 6) (slots' := 60) (by decide) (by decide) ?_
      refine OWp.iload_n hk at_295 (pc' := 296) rfl rfl ?_
      rcases hX with ⟨rfl, hXe⟩ | ⟨rfl, hn3, hXe⟩
      · refine OWp.ifYes hk at_296 (XT.i0_eq_t rfl) (by decide) (pc' := 363) rfl ?_
        rw [hXe, hVl] at hmd
        have U7 : ∀ (cb : Cell) (g : Nat → Value), AC Z cb .char (tab 8 g) → GI qs ld g (subL [k0, k1, k2, k3, k4, k5, k6, k7] 0 (min 7 n)) → OWp p l e room_1 s m #[.int p1, .int p2, .int p3] below meth c x.cls Z EL (dom []) [] (fun v _ _ => v = some (.int 1)) [(b, cb)] [] 6 60 462 [.val (.int p1), .val (.int p2), .val (.int p3), .val (.int (Int32.ofNat 0)), .val (.int k0), .val (.int k1), .val (.int k2), .val (.int k3), .val (.int k4), .val (.int k5), .val (.int k6), .val (.int k7), .val (.int (Int32.ofNat n)), .val (.int (Int32.ofNat X.length)), .val (.int (Int32.ofNat ld)), .val (.ref b), .unset] [] := by
          intro cb g hB hG
          refine OWp.iload hk at_462 (pc' := 464) rfl rfl ?_
          refine OWp.bipush hk at_464 (pc' := 466) rfl (z := 7) rfl ?_
          by_cases h : n ≤ 7
          · refine OWp.icmpYes hk at_466 (XT.ii_le_t (by rw [show (7 : Int32) = Int32.ofNat 7 from rfl, n_lt (by omega) (by omega)]; omega)) (by decide) (pc' := 479) rfl ?_
            exact E479 cb g _ rfl hB (by rw [hXe, show n = min 7 n by omega]; exact hG)
          refine OWp.icmpNo hk at_466 (XT.ii_le_f (by rw [show (7 : Int32) = Int32.ofNat 7 from rfl, n_lt (by omega) (by omega)]; omega)) (pc' := 469) rfl ?_
          refine OWp.aload hk at_469 (pc' := 471) rfl rfl rfl ?_
          refine OWp.iload hk at_471 (pc' := 473) rfl rfl ?_
          refine OWp.bipush hk at_473 (pc' := 475) rfl (z := 7) rfl ?_
          refine OWp.iadd hk at_475 (pc' := 476) rfl ?_
          rw [show Int32.ofNat ld + 7 = Int32.ofNat (ld + 7) from n_add ld 7]
          refine OWp.iload hk at_476 (pc' := 478) rfl rfl ?_
          refine OWp.castore hk at_478 (pc' := 479) rfl (i := 0) rfl hB (n_nn (by omega)) (t := ld + 7) (n_nat (by omega)) (by rw [tab_len]; omega) ?_
          intro cb2 hB2
          simp only [List.set_cons_zero]
          rw [tab_set, v7.nar] at hB2
          rw [show min 7 n = 7 by omega] at hG
          have hG2 : GI qs ld _ (subL [k0, k1, k2, k3, k4, k5, k6, k7] 0 8) := hG.put (c := k7) (p := ld + 7) rfl
          exact E479 cb2 _ _ rfl hB2 (by rw [hXe, show n = 8 by omega]; exact hG2)
        have U6 : ∀ (cb : Cell) (g : Nat → Value), AC Z cb .char (tab 8 g) → GI qs ld g (subL [k0, k1, k2, k3, k4, k5, k6, k7] 0 (min 6 n)) → OWp p l e room_1 s m #[.int p1, .int p2, .int p3] below meth c x.cls Z EL (dom []) [] (fun v _ _ => v = some (.int 1)) [(b, cb)] [] 6 60 445 [.val (.int p1), .val (.int p2), .val (.int p3), .val (.int (Int32.ofNat 0)), .val (.int k0), .val (.int k1), .val (.int k2), .val (.int k3), .val (.int k4), .val (.int k5), .val (.int k6), .val (.int k7), .val (.int (Int32.ofNat n)), .val (.int (Int32.ofNat X.length)), .val (.int (Int32.ofNat ld)), .val (.ref b), .unset] [] := by
          intro cb g hB hG
          refine OWp.iload hk at_445 (pc' := 447) rfl rfl ?_
          refine OWp.bipush hk at_447 (pc' := 449) rfl (z := 6) rfl ?_
          by_cases h : n ≤ 6
          · refine OWp.icmpYes hk at_449 (XT.ii_le_t (by rw [show (6 : Int32) = Int32.ofNat 6 from rfl, n_lt (by omega) (by omega)]; omega)) (by decide) (pc' := 462) rfl ?_
            exact U7 cb g hB (by rw [show min 7 n = min 6 n by omega]; exact hG)
          refine OWp.icmpNo hk at_449 (XT.ii_le_f (by rw [show (6 : Int32) = Int32.ofNat 6 from rfl, n_lt (by omega) (by omega)]; omega)) (pc' := 452) rfl ?_
          refine OWp.aload hk at_452 (pc' := 454) rfl rfl rfl ?_
          refine OWp.iload hk at_454 (pc' := 456) rfl rfl ?_
          refine OWp.bipush hk at_456 (pc' := 458) rfl (z := 6) rfl ?_
          refine OWp.iadd hk at_458 (pc' := 459) rfl ?_
          rw [show Int32.ofNat ld + 6 = Int32.ofNat (ld + 6) from n_add ld 6]
          refine OWp.iload hk at_459 (pc' := 461) rfl rfl ?_
          refine OWp.castore hk at_461 (pc' := 462) rfl (i := 0) rfl hB (n_nn (by omega)) (t := ld + 6) (n_nat (by omega)) (by rw [tab_len]; omega) ?_
          intro cb2 hB2
          simp only [List.set_cons_zero]
          rw [tab_set, v6.nar] at hB2
          rw [show min 6 n = 6 by omega] at hG
          have hG2 : GI qs ld _ (subL [k0, k1, k2, k3, k4, k5, k6, k7] 0 7) := hG.put (c := k6) (p := ld + 6) rfl
          exact U7 cb2 _ hB2 (by rw [show min 7 n = 7 by omega]; exact hG2)
        have U5 : ∀ (cb : Cell) (g : Nat → Value), AC Z cb .char (tab 8 g) → GI qs ld g (subL [k0, k1, k2, k3, k4, k5, k6, k7] 0 (min 5 n)) → OWp p l e room_1 s m #[.int p1, .int p2, .int p3] below meth c x.cls Z EL (dom []) [] (fun v _ _ => v = some (.int 1)) [(b, cb)] [] 6 60 430 [.val (.int p1), .val (.int p2), .val (.int p3), .val (.int (Int32.ofNat 0)), .val (.int k0), .val (.int k1), .val (.int k2), .val (.int k3), .val (.int k4), .val (.int k5), .val (.int k6), .val (.int k7), .val (.int (Int32.ofNat n)), .val (.int (Int32.ofNat X.length)), .val (.int (Int32.ofNat ld)), .val (.ref b), .unset] [] := by
          intro cb g hB hG
          refine OWp.iload hk at_430 (pc' := 432) rfl rfl ?_
          refine OWp.iconst hk at_432 (pc' := 433) rfl (z := 5) rfl ?_
          by_cases h : n ≤ 5
          · refine OWp.icmpYes hk at_433 (XT.ii_le_t (by rw [show (5 : Int32) = Int32.ofNat 5 from rfl, n_lt (by omega) (by omega)]; omega)) (by decide) (pc' := 445) rfl ?_
            exact U6 cb g hB (by rw [show min 6 n = min 5 n by omega]; exact hG)
          refine OWp.icmpNo hk at_433 (XT.ii_le_f (by rw [show (5 : Int32) = Int32.ofNat 5 from rfl, n_lt (by omega) (by omega)]; omega)) (pc' := 436) rfl ?_
          refine OWp.aload hk at_436 (pc' := 438) rfl rfl rfl ?_
          refine OWp.iload hk at_438 (pc' := 440) rfl rfl ?_
          refine OWp.iconst hk at_440 (pc' := 441) rfl (z := 5) rfl ?_
          refine OWp.iadd hk at_441 (pc' := 442) rfl ?_
          rw [show Int32.ofNat ld + 5 = Int32.ofNat (ld + 5) from n_add ld 5]
          refine OWp.iload hk at_442 (pc' := 444) rfl rfl ?_
          refine OWp.castore hk at_444 (pc' := 445) rfl (i := 0) rfl hB (n_nn (by omega)) (t := ld + 5) (n_nat (by omega)) (by rw [tab_len]; omega) ?_
          intro cb2 hB2
          simp only [List.set_cons_zero]
          rw [tab_set, v5.nar] at hB2
          rw [show min 5 n = 5 by omega] at hG
          have hG2 : GI qs ld _ (subL [k0, k1, k2, k3, k4, k5, k6, k7] 0 6) := hG.put (c := k5) (p := ld + 5) rfl
          exact U6 cb2 _ hB2 (by rw [show min 6 n = 6 by omega]; exact hG2)
        have U4 : ∀ (cb : Cell) (g : Nat → Value), AC Z cb .char (tab 8 g) → GI qs ld g (subL [k0, k1, k2, k3, k4, k5, k6, k7] 0 (min 4 n)) → OWp p l e room_1 s m #[.int p1, .int p2, .int p3] below meth c x.cls Z EL (dom []) [] (fun v _ _ => v = some (.int 1)) [(b, cb)] [] 6 60 415 [.val (.int p1), .val (.int p2), .val (.int p3), .val (.int (Int32.ofNat 0)), .val (.int k0), .val (.int k1), .val (.int k2), .val (.int k3), .val (.int k4), .val (.int k5), .val (.int k6), .val (.int k7), .val (.int (Int32.ofNat n)), .val (.int (Int32.ofNat X.length)), .val (.int (Int32.ofNat ld)), .val (.ref b), .unset] [] := by
          intro cb g hB hG
          refine OWp.iload hk at_415 (pc' := 417) rfl rfl ?_
          refine OWp.iconst hk at_417 (pc' := 418) rfl (z := 4) rfl ?_
          by_cases h : n ≤ 4
          · refine OWp.icmpYes hk at_418 (XT.ii_le_t (by rw [show (4 : Int32) = Int32.ofNat 4 from rfl, n_lt (by omega) (by omega)]; omega)) (by decide) (pc' := 430) rfl ?_
            exact U5 cb g hB (by rw [show min 5 n = min 4 n by omega]; exact hG)
          refine OWp.icmpNo hk at_418 (XT.ii_le_f (by rw [show (4 : Int32) = Int32.ofNat 4 from rfl, n_lt (by omega) (by omega)]; omega)) (pc' := 421) rfl ?_
          refine OWp.aload hk at_421 (pc' := 423) rfl rfl rfl ?_
          refine OWp.iload hk at_423 (pc' := 425) rfl rfl ?_
          refine OWp.iconst hk at_425 (pc' := 426) rfl (z := 4) rfl ?_
          refine OWp.iadd hk at_426 (pc' := 427) rfl ?_
          rw [show Int32.ofNat ld + 4 = Int32.ofNat (ld + 4) from n_add ld 4]
          refine OWp.iload hk at_427 (pc' := 429) rfl rfl ?_
          refine OWp.castore hk at_429 (pc' := 430) rfl (i := 0) rfl hB (n_nn (by omega)) (t := ld + 4) (n_nat (by omega)) (by rw [tab_len]; omega) ?_
          intro cb2 hB2
          simp only [List.set_cons_zero]
          rw [tab_set, v4.nar] at hB2
          rw [show min 4 n = 4 by omega] at hG
          have hG2 : GI qs ld _ (subL [k0, k1, k2, k3, k4, k5, k6, k7] 0 5) := hG.put (c := k4) (p := ld + 4) rfl
          exact U5 cb2 _ hB2 (by rw [show min 5 n = 5 by omega]; exact hG2)
        have U3 : ∀ (cb : Cell) (g : Nat → Value), AC Z cb .char (tab 8 g) → GI qs ld g (subL [k0, k1, k2, k3, k4, k5, k6, k7] 0 (min 3 n)) → OWp p l e room_1 s m #[.int p1, .int p2, .int p3] below meth c x.cls Z EL (dom []) [] (fun v _ _ => v = some (.int 1)) [(b, cb)] [] 6 60 400 [.val (.int p1), .val (.int p2), .val (.int p3), .val (.int (Int32.ofNat 0)), .val (.int k0), .val (.int k1), .val (.int k2), .val (.int k3), .val (.int k4), .val (.int k5), .val (.int k6), .val (.int k7), .val (.int (Int32.ofNat n)), .val (.int (Int32.ofNat X.length)), .val (.int (Int32.ofNat ld)), .val (.ref b), .unset] [] := by
          intro cb g hB hG
          refine OWp.iload hk at_400 (pc' := 402) rfl rfl ?_
          refine OWp.iconst hk at_402 (pc' := 403) rfl (z := 3) rfl ?_
          by_cases h : n ≤ 3
          · refine OWp.icmpYes hk at_403 (XT.ii_le_t (by rw [show (3 : Int32) = Int32.ofNat 3 from rfl, n_lt (by omega) (by omega)]; omega)) (by decide) (pc' := 415) rfl ?_
            exact U4 cb g hB (by rw [show min 4 n = min 3 n by omega]; exact hG)
          refine OWp.icmpNo hk at_403 (XT.ii_le_f (by rw [show (3 : Int32) = Int32.ofNat 3 from rfl, n_lt (by omega) (by omega)]; omega)) (pc' := 406) rfl ?_
          refine OWp.aload hk at_406 (pc' := 408) rfl rfl rfl ?_
          refine OWp.iload hk at_408 (pc' := 410) rfl rfl ?_
          refine OWp.iconst hk at_410 (pc' := 411) rfl (z := 3) rfl ?_
          refine OWp.iadd hk at_411 (pc' := 412) rfl ?_
          rw [show Int32.ofNat ld + 3 = Int32.ofNat (ld + 3) from n_add ld 3]
          refine OWp.iload hk at_412 (pc' := 414) rfl rfl ?_
          refine OWp.castore hk at_414 (pc' := 415) rfl (i := 0) rfl hB (n_nn (by omega)) (t := ld + 3) (n_nat (by omega)) (by rw [tab_len]; omega) ?_
          intro cb2 hB2
          simp only [List.set_cons_zero]
          rw [tab_set, v3.nar] at hB2
          rw [show min 3 n = 3 by omega] at hG
          have hG2 : GI qs ld _ (subL [k0, k1, k2, k3, k4, k5, k6, k7] 0 4) := hG.put (c := k3) (p := ld + 3) rfl
          exact U4 cb2 _ hB2 (by rw [show min 4 n = 4 by omega]; exact hG2)
        have U2 : ∀ (cb : Cell) (g : Nat → Value), AC Z cb .char (tab 8 g) → GI qs ld g (subL [k0, k1, k2, k3, k4, k5, k6, k7] 0 (min 2 n)) → OWp p l e room_1 s m #[.int p1, .int p2, .int p3] below meth c x.cls Z EL (dom []) [] (fun v _ _ => v = some (.int 1)) [(b, cb)] [] 6 60 385 [.val (.int p1), .val (.int p2), .val (.int p3), .val (.int (Int32.ofNat 0)), .val (.int k0), .val (.int k1), .val (.int k2), .val (.int k3), .val (.int k4), .val (.int k5), .val (.int k6), .val (.int k7), .val (.int (Int32.ofNat n)), .val (.int (Int32.ofNat X.length)), .val (.int (Int32.ofNat ld)), .val (.ref b), .unset] [] := by
          intro cb g hB hG
          refine OWp.iload hk at_385 (pc' := 387) rfl rfl ?_
          refine OWp.iconst hk at_387 (pc' := 388) rfl (z := 2) rfl ?_
          by_cases h : n ≤ 2
          · refine OWp.icmpYes hk at_388 (XT.ii_le_t (by rw [show (2 : Int32) = Int32.ofNat 2 from rfl, n_lt (by omega) (by omega)]; omega)) (by decide) (pc' := 400) rfl ?_
            exact U3 cb g hB (by rw [show min 3 n = min 2 n by omega]; exact hG)
          refine OWp.icmpNo hk at_388 (XT.ii_le_f (by rw [show (2 : Int32) = Int32.ofNat 2 from rfl, n_lt (by omega) (by omega)]; omega)) (pc' := 391) rfl ?_
          refine OWp.aload hk at_391 (pc' := 393) rfl rfl rfl ?_
          refine OWp.iload hk at_393 (pc' := 395) rfl rfl ?_
          refine OWp.iconst hk at_395 (pc' := 396) rfl (z := 2) rfl ?_
          refine OWp.iadd hk at_396 (pc' := 397) rfl ?_
          rw [show Int32.ofNat ld + 2 = Int32.ofNat (ld + 2) from n_add ld 2]
          refine OWp.iload hk at_397 (pc' := 399) rfl rfl ?_
          refine OWp.castore hk at_399 (pc' := 400) rfl (i := 0) rfl hB (n_nn (by omega)) (t := ld + 2) (n_nat (by omega)) (by rw [tab_len]; omega) ?_
          intro cb2 hB2
          simp only [List.set_cons_zero]
          rw [tab_set, v2.nar] at hB2
          rw [show min 2 n = 2 by omega] at hG
          have hG2 : GI qs ld _ (subL [k0, k1, k2, k3, k4, k5, k6, k7] 0 3) := hG.put (c := k2) (p := ld + 2) rfl
          exact U3 cb2 _ hB2 (by rw [show min 3 n = 3 by omega]; exact hG2)
        have U1 : ∀ (cb : Cell) (g : Nat → Value), AC Z cb .char (tab 8 g) → GI qs ld g (subL [k0, k1, k2, k3, k4, k5, k6, k7] 0 (min 1 n)) → OWp p l e room_1 s m #[.int p1, .int p2, .int p3] below meth c x.cls Z EL (dom []) [] (fun v _ _ => v = some (.int 1)) [(b, cb)] [] 6 60 370 [.val (.int p1), .val (.int p2), .val (.int p3), .val (.int (Int32.ofNat 0)), .val (.int k0), .val (.int k1), .val (.int k2), .val (.int k3), .val (.int k4), .val (.int k5), .val (.int k6), .val (.int k7), .val (.int (Int32.ofNat n)), .val (.int (Int32.ofNat X.length)), .val (.int (Int32.ofNat ld)), .val (.ref b), .unset] [] := by
          intro cb g hB hG
          refine OWp.iload hk at_370 (pc' := 372) rfl rfl ?_
          refine OWp.iconst hk at_372 (pc' := 373) rfl (z := 1) rfl ?_
          by_cases h : n ≤ 1
          · refine OWp.icmpYes hk at_373 (XT.ii_le_t (by rw [show (1 : Int32) = Int32.ofNat 1 from rfl, n_lt (by omega) (by omega)]; omega)) (by decide) (pc' := 385) rfl ?_
            exact U2 cb g hB (by rw [show min 2 n = min 1 n by omega]; exact hG)
          refine OWp.icmpNo hk at_373 (XT.ii_le_f (by rw [show (1 : Int32) = Int32.ofNat 1 from rfl, n_lt (by omega) (by omega)]; omega)) (pc' := 376) rfl ?_
          refine OWp.aload hk at_376 (pc' := 378) rfl rfl rfl ?_
          refine OWp.iload hk at_378 (pc' := 380) rfl rfl ?_
          refine OWp.iconst hk at_380 (pc' := 381) rfl (z := 1) rfl ?_
          refine OWp.iadd hk at_381 (pc' := 382) rfl ?_
          rw [show Int32.ofNat ld + 1 = Int32.ofNat (ld + 1) from n_add ld 1]
          refine OWp.iload hk at_382 (pc' := 384) rfl rfl ?_
          refine OWp.castore hk at_384 (pc' := 385) rfl (i := 0) rfl hB (n_nn (by omega)) (t := ld + 1) (n_nat (by omega)) (by rw [tab_len]; omega) ?_
          intro cb2 hB2
          simp only [List.set_cons_zero]
          rw [tab_set, v1.nar] at hB2
          rw [show min 1 n = 1 by omega] at hG
          have hG2 : GI qs ld _ (subL [k0, k1, k2, k3, k4, k5, k6, k7] 0 2) := hG.put (c := k1) (p := ld + 1) rfl
          exact U2 cb2 _ hB2 (by rw [show min 2 n = 2 by omega]; exact hG2)
        refine OWp.aload hk at_363 (pc' := 365) rfl rfl rfl ?_
        refine OWp.iload hk at_365 (pc' := 367) rfl rfl ?_
        refine OWp.iload hk at_367 (pc' := 369) rfl rfl ?_
        refine OWp.castore hk at_369 (pc' := 370) rfl (i := 0) rfl hA8 (n_nn (by omega)) (t := ld) (n_nat (by omega)) (by rw [tab_len]; omega) ?_
        intro cb2 hB2
        simp only [List.set_cons_zero]
        rw [tab_set, v0.nar] at hB2
        have hG2 : GI qs ld _ (subL [k0, k1, k2, k3, k4, k5, k6, k7] 0 1) := G0.put (c := k0) (p := ld) rfl
        exact U1 cb2 _ hB2 (by rw [show min 1 n = 1 by omega]; exact hG2)
      · refine OWp.ifNo hk at_296 (XT.i0_eq_f (by decide)) (pc' := 299) rfl ?_
        refine OWp.aload hk at_299 (pc' := 301) rfl rfl rfl ?_
        refine OWp.iload hk at_301 (pc' := 303) rfl rfl ?_
        refine OWp.bipush hk at_303 (pc' := 305) rfl (z := 34) rfl ?_
        refine OWp.castore hk at_305 (pc' := 306) rfl (i := 0) rfl hA8 (n_nn (by omega)) (t := ld) (n_nat (by omega)) (by rw [tab_len]; omega) ?_
        intro cb1 hB1
        simp only [List.set_cons_zero]
        rw [tab_set] at hB1
        have G1 : GI qs ld _ ([] ++ [34]) := G0.put (c := 34) (p := ld) rfl
        have e0 := encC_len k0
        have e1 := encC_len k1
        have e2 := encC_len k2
        refine OWp.aload hk at_306 (pc' := 308) rfl rfl rfl ?_
        refine OWp.iload hk at_308 (pc' := 310) rfl rfl ?_
        refine OWp.iconst hk at_310 (pc' := 311) rfl (z := 1) rfl ?_
        refine OWp.iadd hk at_311 (pc' := 312) rfl ?_
        rw [n_succ]
        refine OWp.iload hk at_312 (pc' := 314) rfl rfl ?_
        have hn123 : n = 1 ∨ n = 2 ∨ n = 3 := by omega
        have hX0 : ld + 1 + (encC k0).length < 8 := by
          have : (encC k0).length + 2 ≤ X.length := by rcases hn123 with rfl | rfl | rfl <;> (rw [hXe]; simp [encL, subL]; try omega)
          omega
        refine OWp.callS hk at_314 (pc' := 317) rfl (hw _ (List.mem_of_getElem? (i := 165) rfl)) (hw _ (List.mem_of_getElem? (i := 166) rfl)) (hw _ (List.mem_of_getElem? (i := 2) rfl)) (hw _ (List.mem_of_getElem? (i := 167) rfl)) (by decide) (c_PQ (q := ld + 1) hw hEL hB1 v0.nar (by omega)) rfl (by simp) rfl (lenOf pd_35 rfl) rfl (W := 0) rfl (by first | decide | (dsimp only; omega)) (by first | decide | (dsimp only; omega)) (by first | decide | (dsimp only; omega)) (by first | decide | (dsimp only; omega)) ?_
        rintro _ _ _ ⟨rfl, rfl, cb2, rfl, g2, hB2, hg2⟩
        have G2 : GI qs ld g2 ([] ++ [34] ++ encC k0) := G1.app hg2
        refine OWp.istore hk at_317 (pc' := 319) rfl rfl (by simp only [List.set_cons_zero, List.set_cons_succ]; rfl) ?_
        refine OWp.iload hk at_319 (pc' := 321) rfl rfl ?_
        refine OWp.iconst hk at_321 (pc' := 322) rfl (z := 1) rfl ?_
        rcases hn123 with rfl | rfl | rfl
        · refine OWp.icmpYes hk at_322 (XT.ii_le_t (by decide)) (by decide) (pc' := 336) rfl ?_
          refine OWp.iload hk at_336 (pc' := 338) rfl rfl ?_
          refine OWp.iconst hk at_338 (pc' := 339) rfl (z := 2) rfl ?_
          refine OWp.icmpYes hk at_339 (XT.ii_le_t (by decide)) (by decide) (pc' := 353) rfl ?_
          refine OWp.aload hk at_353 (pc' := 355) rfl rfl rfl ?_
          refine OWp.iload hk at_355 (pc' := 357) rfl rfl ?_
          refine OWp.bipush hk at_357 (pc' := 359) rfl (z := 34) rfl ?_
          refine OWp.castore hk at_359 (pc' := 360) rfl (i := 0) rfl hB2 (n_nn (by omega)) (t := ld + 1 + (encC k0).length) (n_nat (by omega)) (by rw [tab_len]; omega) ?_
          intro cb9 hB9
          simp only [List.set_cons_zero]
          rw [tab_set, show nar .char (34 : Int32) = 34 from by decide] at hB9
          have G9 := G2.put (c := 34) (p := ld + 1 + (encC k0).length) (by simp; omega)
          refine OWp.goto hk at_360 (by decide) (pc' := 479) rfl ?_
          exact E479 cb9 _ _ rfl hB9 (by rw [hXe]; simpa [encL, subL] using G9)
        · have hX1' : X.length = 2 + (encC k0).length + (encC k1).length := by rw [hXe]; simp [encL, subL]; omega
          refine OWp.icmpNo hk at_322 (XT.ii_le_f (by decide)) (pc' := 325) rfl ?_
          refine OWp.aload hk at_325 (pc' := 327) rfl rfl rfl ?_
          refine OWp.iload hk at_327 (pc' := 329) rfl rfl ?_
          refine OWp.iload hk at_329 (pc' := 331) rfl rfl ?_
          refine OWp.callS hk at_331 (pc' := 334) rfl (hw _ (List.mem_of_getElem? (i := 165) rfl)) (hw _ (List.mem_of_getElem? (i := 166) rfl)) (hw _ (List.mem_of_getElem? (i := 2) rfl)) (hw _ (List.mem_of_getElem? (i := 167) rfl)) (by decide) (c_PQ (q := ld + 1 + (encC k0).length) hw hEL hB2 v1.nar (by omega)) rfl (by simp) rfl (lenOf pd_35 rfl) rfl (W := 0) rfl (by first | decide | (dsimp only; omega)) (by first | decide | (dsimp only; omega)) (by first | decide | (dsimp only; omega)) (by first | decide | (dsimp only; omega)) ?_
          rintro _ _ _ ⟨rfl, rfl, cb3, rfl, g3, hB3, hg3⟩
          have G3 : GI qs ld g3 ([] ++ [34] ++ encC k0 ++ encC k1) := G2.app (by rw [List.length_append, ← Nat.add_assoc]; exact hg3)
          refine OWp.istore hk at_334 (pc' := 336) rfl rfl (by simp only [List.set_cons_zero, List.set_cons_succ]; rfl) ?_
          refine OWp.iload hk at_336 (pc' := 338) rfl rfl ?_
          refine OWp.iconst hk at_338 (pc' := 339) rfl (z := 2) rfl ?_
          refine OWp.icmpYes hk at_339 (XT.ii_le_t (by decide)) (by decide) (pc' := 353) rfl ?_
          refine OWp.aload hk at_353 (pc' := 355) rfl rfl rfl ?_
          refine OWp.iload hk at_355 (pc' := 357) rfl rfl ?_
          refine OWp.bipush hk at_357 (pc' := 359) rfl (z := 34) rfl ?_
          refine OWp.castore hk at_359 (pc' := 360) rfl (i := 0) rfl hB3 (n_nn (by omega)) (t := ld + 1 + (encC k0).length + (encC k1).length) (n_nat (by omega)) (by rw [tab_len]; omega) ?_
          intro cb9 hB9
          simp only [List.set_cons_zero]
          rw [tab_set, show nar .char (34 : Int32) = 34 from by decide] at hB9
          have G9 := G3.put (c := 34) (p := ld + 1 + (encC k0).length + (encC k1).length) (by simp; omega)
          refine OWp.goto hk at_360 (by decide) (pc' := 479) rfl ?_
          exact E479 cb9 _ _ rfl hB9 (by rw [hXe]; simpa [encL, subL] using G9)
        · have hX1' : X.length = 2 + (encC k0).length + (encC k1).length + (encC k2).length := by rw [hXe]; simp [encL, subL]; omega
          refine OWp.icmpNo hk at_322 (XT.ii_le_f (by decide)) (pc' := 325) rfl ?_
          refine OWp.aload hk at_325 (pc' := 327) rfl rfl rfl ?_
          refine OWp.iload hk at_327 (pc' := 329) rfl rfl ?_
          refine OWp.iload hk at_329 (pc' := 331) rfl rfl ?_
          refine OWp.callS hk at_331 (pc' := 334) rfl (hw _ (List.mem_of_getElem? (i := 165) rfl)) (hw _ (List.mem_of_getElem? (i := 166) rfl)) (hw _ (List.mem_of_getElem? (i := 2) rfl)) (hw _ (List.mem_of_getElem? (i := 167) rfl)) (by decide) (c_PQ (q := ld + 1 + (encC k0).length) hw hEL hB2 v1.nar (by omega)) rfl (by simp) rfl (lenOf pd_35 rfl) rfl (W := 0) rfl (by first | decide | (dsimp only; omega)) (by first | decide | (dsimp only; omega)) (by first | decide | (dsimp only; omega)) (by first | decide | (dsimp only; omega)) ?_
          rintro _ _ _ ⟨rfl, rfl, cb3, rfl, g3, hB3, hg3⟩
          have G3 : GI qs ld g3 ([] ++ [34] ++ encC k0 ++ encC k1) := G2.app (by rw [List.length_append, ← Nat.add_assoc]; exact hg3)
          refine OWp.istore hk at_334 (pc' := 336) rfl rfl (by simp only [List.set_cons_zero, List.set_cons_succ]; rfl) ?_
          refine OWp.iload hk at_336 (pc' := 338) rfl rfl ?_
          refine OWp.iconst hk at_338 (pc' := 339) rfl (z := 2) rfl ?_
          refine OWp.icmpNo hk at_339 (XT.ii_le_f (by decide)) (pc' := 342) rfl ?_
          refine OWp.aload hk at_342 (pc' := 344) rfl rfl rfl ?_
          refine OWp.iload hk at_344 (pc' := 346) rfl rfl ?_
          refine OWp.iload hk at_346 (pc' := 348) rfl rfl ?_
          refine OWp.callS hk at_348 (pc' := 351) rfl (hw _ (List.mem_of_getElem? (i := 165) rfl)) (hw _ (List.mem_of_getElem? (i := 166) rfl)) (hw _ (List.mem_of_getElem? (i := 2) rfl)) (hw _ (List.mem_of_getElem? (i := 167) rfl)) (by decide) (c_PQ (q := ld + 1 + (encC k0).length + (encC k1).length) hw hEL hB3 v2.nar (by omega)) rfl (by simp) rfl (lenOf pd_35 rfl) rfl (W := 0) rfl (by first | decide | (dsimp only; omega)) (by first | decide | (dsimp only; omega)) (by first | decide | (dsimp only; omega)) (by first | decide | (dsimp only; omega)) ?_
          rintro _ _ _ ⟨rfl, rfl, cb4, rfl, g4, hB4, hg4⟩
          have G4 : GI qs ld g4 ([] ++ [34] ++ encC k0 ++ encC k1 ++ encC k2) := G3.app (by rw [List.length_append, List.length_append, ← Nat.add_assoc, ← Nat.add_assoc]; exact hg4)
          refine OWp.istore hk at_351 (pc' := 353) rfl rfl (by simp only [List.set_cons_zero, List.set_cons_succ]; rfl) ?_
          refine OWp.aload hk at_353 (pc' := 355) rfl rfl rfl ?_
          refine OWp.iload hk at_355 (pc' := 357) rfl rfl ?_
          refine OWp.bipush hk at_357 (pc' := 359) rfl (z := 34) rfl ?_
          refine OWp.castore hk at_359 (pc' := 360) rfl (i := 0) rfl hB4 (n_nn (by omega)) (t := ld + 1 + (encC k0).length + (encC k1).length + (encC k2).length) (n_nat (by omega)) (by rw [tab_len]; omega) ?_
          intro cb9 hB9
          simp only [List.set_cons_zero]
          rw [tab_set, show nar .char (34 : Int32) = 34 from by decide] at hB9
          have G9 := G4.put (c := 34) (p := ld + 1 + (encC k0).length + (encC k1).length + (encC k2).length) (by simp; omega)
          refine OWp.goto hk at_360 (by decide) (pc' := 479) rfl ?_
          exact E479 cb9 _ _ rfl hB9 (by rw [hXe]; simpa [encL, subL] using G9)
    refine OWp.iload_n hk at_103 (pc' := 104) rfl rfl ?_
    rcases hqd with rfl | rfl
    · refine OWp.ifYes hk at_104 (XT.i0_eq_t rfl) (by decide) (pc' := 181) rfl ?_
      obtain ⟨r, hr, er⟩ := msk_n (XT.ushr p3 1) (b := 7) (by decide)
      have er' : XT.ushr p3 1 &&& 7 = Int32.ofNat r := er
      refine OWp.iconst hk at_181 (pc' := 182) rfl (z := 1) rfl ?_
      refine OWp.iload_n hk at_182 (pc' := 183) rfl rfl ?_
      refine OWp.iconst hk at_183 (pc' := 184) rfl (z := 1) rfl ?_
      refine OWp.iushr hk at_184 (pc' := 185) rfl ?_
      refine OWp.bipush hk at_185 (pc' := 187) rfl (z := 7) rfl ?_
      refine OWp.iand hk at_187 (pc' := 188) rfl ?_
      rw [er']
      refine OWp.iadd hk at_188 (pc' := 189) rfl ?_
      rw [show (1 : Int32) + Int32.ofNat r = Int32.ofNat (1 + r) from n_add 1 r]
      refine OWp.istore hk at_189 (pc' := 191) rfl rfl (by simp only [List.set_cons_zero, List.set_cons_succ]; rfl) ?_
      refine OWp.iload hk at_191 (pc' := 193) rfl rfl ?_
      refine OWp.istore hk at_193 (pc' := 195) rfl rfl (by simp only [List.set_cons_zero, List.set_cons_succ]; rfl) ?_
      have hB := B195 (1 + r) (subL [k0, k1, k2, k3, k4, k5, k6, k7] 0 (1 + r)) (by omega) (by omega) (Or.inl ⟨rfl, rfl⟩) (by rw [subL_len (by simp; omega)]; omega)
      rw [subL_len (by simp; omega)] at hB
      exact hB
    · refine OWp.ifNo hk at_104 (XT.i0_eq_f (by decide)) (pc' := 107) rfl ?_
      obtain ⟨r, hr, er⟩ := msk_n (XT.ushr p3 1) (b := 3) (by decide)
      have er' : XT.ushr p3 1 &&& 3 = Int32.ofNat r := er
      have e0 := encC_len k0
      have e1 := encC_len k1
      have e2 := encC_len k2
      refine OWp.iconst hk at_107 (pc' := 108) rfl (z := 1) rfl ?_
      refine OWp.iload_n hk at_108 (pc' := 109) rfl rfl ?_
      refine OWp.iconst hk at_109 (pc' := 110) rfl (z := 1) rfl ?_
      refine OWp.iushr hk at_110 (pc' := 111) rfl ?_
      refine OWp.iconst hk at_111 (pc' := 112) rfl (z := 3) rfl ?_
      refine OWp.iand hk at_112 (pc' := 113) rfl ?_
      rw [er']
      refine OWp.iconst hk at_113 (pc' := 114) rfl (z := 3) rfl ?_
      refine OWp.irem hk at_114 (pc' := 115) rfl (by decide) ?_
      rw [show Int32.ofNat r % 3 = Int32.ofNat (r % 3) from n_mod (b := 3) (by omega) (by decide)]
      refine OWp.iadd hk at_115 (pc' := 116) rfl ?_
      rw [show (1 : Int32) + Int32.ofNat (r % 3) = Int32.ofNat (1 + r % 3) from n_add 1 _]
      have hn3 : r % 3 < 3 := Nat.mod_lt _ (by decide)
      generalize hn : 1 + r % 3 = n
      have hn1 : 1 ≤ n := by omega
      have hn3' : n ≤ 3 := by omega
      refine OWp.istore hk at_116 (pc' := 118) rfl rfl (by simp only [List.set_cons_zero, List.set_cons_succ]; rfl) ?_
      refine OWp.iconst hk at_118 (pc' := 119) rfl (z := 2) rfl ?_
      refine OWp.iload hk at_119 (pc' := 121) rfl rfl ?_
      refine OWp.iadd hk at_121 (pc' := 122) rfl ?_
      rw [show (2 : Int32) + Int32.ofNat n = Int32.ofNat (2 + n) from n_add 2 n]
      refine OWp.iload hk at_122 (pc' := 124) rfl rfl ?_
      have J176 : ∀ s0 : Nat, s0 = 2 + n + (if isE k0 then 1 else 0) + (if 1 < n then (if isE k1 then 1 else 0) else 0) + (if 2 < n then (if isE k2 then 1 else 0) else 0) → OWp p l e room_1 s m #[.int p1, .int p2, .int p3] below meth c x.cls Z EL (dom []) [] (fun v _ _ => v = some (.int 1)) [] [] 0 0 176 [.val (.int p1), .val (.int p2), .val (.int p3), .val (.int (Int32.ofNat 1)), .val (.int k0), .val (.int k1), .val (.int k2), .val (.int k3), .val (.int k4), .val (.int k5), .val (.int k6), .val (.int k7), .val (.int (Int32.ofNat n)), .unset, .unset, .unset, .unset] [.int (Int32.ofNat s0)] := by
        intro s0 hs0
        have hlen : (34 :: (encL (subL [k0, k1, k2, k3, k4, k5, k6, k7] 0 n) ++ [34]) : List Int32).length = s0 := by
          rw [hs0]
          have hn123 : n = 1 ∨ n = 2 ∨ n = 3 := by omega
          clear hn hs0
          rcases hn123 with rfl | rfl | rfl
          · simp [encL, subL, e0]; omega
          · simp [encL, subL, e0, e1]; omega
          · simp [encL, subL, e0, e1, e2]; omega
        have hs8 : s0 ≤ 8 := by
          rw [hs0]
          split <;> split <;> split <;> (try split) <;> (try split) <;> omega
        refine OWp.istore hk at_176 (pc' := 178) rfl rfl (by simp only [List.set_cons_zero, List.set_cons_succ]; rfl) ?_
        refine OWp.goto hk at_178 (by decide) (pc' := 195) rfl ?_
        have hB := B195 n (34 :: (encL (subL [k0, k1, k2, k3, k4, k5, k6, k7] 0 n) ++ [34])) hn1 (by omega) (Or.inr ⟨rfl, hn3', rfl⟩) (by rw [hlen]; exact hs8)
        rw [hlen] at hB
        exact hB
      have J156 : ∀ s0 : Nat, s0 = 2 + n + (if isE k0 then 1 else 0) + (if 1 < n then (if isE k1 then 1 else 0) else 0) → OWp p l e room_1 s m #[.int p1, .int p2, .int p3] below meth c x.cls Z EL (dom []) [] (fun v _ _ => v = some (.int 1)) [] [] 0 0 156 [.val (.int p1), .val (.int p2), .val (.int p3), .val (.int (Int32.ofNat 1)), .val (.int k0), .val (.int k1), .val (.int k2), .val (.int k3), .val (.int k4), .val (.int k5), .val (.int k6), .val (.int k7), .val (.int (Int32.ofNat n)), .unset, .unset, .unset, .unset] [.int (Int32.ofNat s0)] := by
        intro s0 hs0
        refine OWp.iload hk at_156 (pc' := 158) rfl rfl ?_
        refine OWp.iconst hk at_158 (pc' := 159) rfl (z := 2) rfl ?_
        by_cases h : n ≤ 2
        · refine OWp.icmpYes hk at_159 (XT.ii_le_t (by rw [show (2 : Int32) = Int32.ofNat 2 from rfl, n_lt (by omega) (by omega)]; omega)) (by decide) (pc' := 174) rfl ?_
          refine OWp.iconst hk at_174 (pc' := 175) rfl (z := 0) rfl ?_
          refine OWp.iadd hk at_175 (pc' := 176) rfl ?_
          rw [show Int32.ofNat s0 + 0 = Int32.ofNat (s0 + 0) from n_add s0 0]
          exact J176 (s0 + 0) (by rw [if_neg (show ¬ 2 < n by omega), ← hs0])
        refine OWp.icmpNo hk at_159 (XT.ii_le_f (by rw [show (2 : Int32) = Int32.ofNat 2 from rfl, n_lt (by omega) (by omega)]; omega)) (pc' := 162) rfl ?_
        refine OWp.iload hk at_162 (pc' := 164) rfl rfl ?_
        refine OWp.callS hk at_164 (pc' := 167) rfl (hw _ (List.mem_of_getElem? (i := 162) rfl)) (hw _ (List.mem_of_getElem? (i := 163) rfl)) (hw _ (List.mem_of_getElem? (i := 2) rfl)) (hw _ (List.mem_of_getElem? (i := 164) rfl)) (by decide) (c_ESC hw hEL) rfl (by simp) rfl (lenOf pd_20 rfl) rfl (W := 1) rfl (by first | decide | (dsimp only; omega)) (by first | decide | (dsimp only; omega)) (by first | decide | (dsimp only; omega)) (by first | decide | (dsimp only; omega)) ?_
        rintro _ _ _ ⟨rfl, rfl, rfl⟩
        by_cases he : isE k2
        · refine OWp.ifNo hk at_167 (XT.i0_eq_f (by rw [if_pos he]; decide)) (pc' := 170) rfl ?_
          refine OWp.iconst hk at_170 (pc' := 171) rfl (z := 1) rfl ?_
          refine OWp.goto hk at_171 (by decide) (pc' := 175) rfl ?_
          refine OWp.iadd hk at_175 (pc' := 176) rfl ?_
          rw [n_succ]
          exact J176 (s0 + 1) (by rw [hs0, if_pos he, if_pos (show 2 < n by omega)])
        · refine OWp.ifYes hk at_167 (XT.i0_eq_t (by rw [if_neg he])) (by decide) (pc' := 174) rfl ?_
          refine OWp.iconst hk at_174 (pc' := 175) rfl (z := 0) rfl ?_
          refine OWp.iadd hk at_175 (pc' := 176) rfl ?_
          rw [show Int32.ofNat s0 + 0 = Int32.ofNat (s0 + 0) from n_add s0 0]
          exact J176 (s0 + 0) (by rw [hs0, if_neg he, if_pos (show 2 < n by omega)])
      have J135 : ∀ s0 : Nat, s0 = 2 + n + (if isE k0 then 1 else 0) → OWp p l e room_1 s m #[.int p1, .int p2, .int p3] below meth c x.cls Z EL (dom []) [] (fun v _ _ => v = some (.int 1)) [] [] 0 0 136 [.val (.int p1), .val (.int p2), .val (.int p3), .val (.int (Int32.ofNat 1)), .val (.int k0), .val (.int k1), .val (.int k2), .val (.int k3), .val (.int k4), .val (.int k5), .val (.int k6), .val (.int k7), .val (.int (Int32.ofNat n)), .unset, .unset, .unset, .unset] [.int (Int32.ofNat s0)] := by
        intro s0 hs0
        refine OWp.iload hk at_136 (pc' := 138) rfl rfl ?_
        refine OWp.iconst hk at_138 (pc' := 139) rfl (z := 1) rfl ?_
        by_cases h : n ≤ 1
        · refine OWp.icmpYes hk at_139 (XT.ii_le_t (by rw [show (1 : Int32) = Int32.ofNat 1 from rfl, n_lt (by omega) (by omega)]; omega)) (by decide) (pc' := 154) rfl ?_
          refine OWp.iconst hk at_154 (pc' := 155) rfl (z := 0) rfl ?_
          refine OWp.iadd hk at_155 (pc' := 156) rfl ?_
          rw [show Int32.ofNat s0 + 0 = Int32.ofNat (s0 + 0) from n_add s0 0]
          exact J156 (s0 + 0) (by rw [if_neg (show ¬ 1 < n by omega), ← hs0])
        refine OWp.icmpNo hk at_139 (XT.ii_le_f (by rw [show (1 : Int32) = Int32.ofNat 1 from rfl, n_lt (by omega) (by omega)]; omega)) (pc' := 142) rfl ?_
        refine OWp.iload hk at_142 (pc' := 144) rfl rfl ?_
        refine OWp.callS hk at_144 (pc' := 147) rfl (hw _ (List.mem_of_getElem? (i := 162) rfl)) (hw _ (List.mem_of_getElem? (i := 163) rfl)) (hw _ (List.mem_of_getElem? (i := 2) rfl)) (hw _ (List.mem_of_getElem? (i := 164) rfl)) (by decide) (c_ESC hw hEL) rfl (by simp) rfl (lenOf pd_20 rfl) rfl (W := 1) rfl (by first | decide | (dsimp only; omega)) (by first | decide | (dsimp only; omega)) (by first | decide | (dsimp only; omega)) (by first | decide | (dsimp only; omega)) ?_
        rintro _ _ _ ⟨rfl, rfl, rfl⟩
        by_cases he : isE k1
        · refine OWp.ifNo hk at_147 (XT.i0_eq_f (by rw [if_pos he]; decide)) (pc' := 150) rfl ?_
          refine OWp.iconst hk at_150 (pc' := 151) rfl (z := 1) rfl ?_
          refine OWp.goto hk at_151 (by decide) (pc' := 155) rfl ?_
          refine OWp.iadd hk at_155 (pc' := 156) rfl ?_
          rw [n_succ]
          exact J156 (s0 + 1) (by rw [hs0, if_pos he, if_pos (show 1 < n by omega)])
        · refine OWp.ifYes hk at_147 (XT.i0_eq_t (by rw [if_neg he])) (by decide) (pc' := 154) rfl ?_
          refine OWp.iconst hk at_154 (pc' := 155) rfl (z := 0) rfl ?_
          refine OWp.iadd hk at_155 (pc' := 156) rfl ?_
          rw [show Int32.ofNat s0 + 0 = Int32.ofNat (s0 + 0) from n_add s0 0]
          exact J156 (s0 + 0) (by rw [hs0, if_neg he, if_pos (show 1 < n by omega)])
      refine OWp.callS hk at_124 (pc' := 127) rfl (hw _ (List.mem_of_getElem? (i := 162) rfl)) (hw _ (List.mem_of_getElem? (i := 163) rfl)) (hw _ (List.mem_of_getElem? (i := 2) rfl)) (hw _ (List.mem_of_getElem? (i := 164) rfl)) (by decide) (c_ESC hw hEL) rfl (by simp) rfl (lenOf pd_20 rfl) rfl (W := 1) rfl (by first | decide | (dsimp only; omega)) (by first | decide | (dsimp only; omega)) (by first | decide | (dsimp only; omega)) (by first | decide | (dsimp only; omega)) ?_
      rintro _ _ _ ⟨rfl, rfl, rfl⟩
      by_cases he : isE k0
      · refine OWp.ifNo hk at_127 (XT.i0_eq_f (by rw [if_pos he]; decide)) (pc' := 130) rfl ?_
        refine OWp.iconst hk at_130 (pc' := 131) rfl (z := 1) rfl ?_
        refine OWp.goto hk at_131 (by decide) (pc' := 135) rfl ?_
        refine OWp.iadd hk at_135 (pc' := 136) rfl ?_
        rw [n_succ]
        exact J135 (2 + n + 1) (by rw [if_pos he])
      · refine OWp.ifYes hk at_127 (XT.i0_eq_t (by rw [if_neg he])) (by decide) (pc' := 134) rfl ?_
        refine OWp.iconst hk at_134 (pc' := 135) rfl (z := 0) rfl ?_
        refine OWp.iadd hk at_135 (pc' := 136) rfl ?_
        rw [show Int32.ofNat (2 + n) + 0 = Int32.ofNat (2 + n + 0) from n_add (2 + n) 0]
        exact J135 (2 + n + 0) (by rw [if_neg he])
  refine OWp.iload_n hk at_0 (pc' := 1) rfl rfl ?_
  refine OWp.iconst hk at_1 (pc' := 2) rfl (z := 1) rfl ?_
  refine OWp.iand hk at_2 (pc' := 3) rfl ?_
  by_cases hq : p3 &&& 1 = 0
  · refine OWp.ifYes hk at_3 (XT.i0_eq_t hq) (by decide) (pc' := 10) rfl ?_
    refine OWp.iconst hk at_10 (pc' := 11) rfl (z := 0) rfl ?_
    refine OWp.istore_n hk at_11 (pc' := 12) rfl (kn := 3) rfl rfl (by simp only [List.set_cons_zero, List.set_cons_succ]; rfl) ?_
    refine OWp.iload_n hk at_12 (pc' := 13) rfl rfl ?_
    refine OWp.ifYes hk at_13 (XT.i0_eq_t (by decide)) (by decide) (pc' := 26) rfl ?_
    obtain ⟨r, hr, er⟩ := msk_n p1 (b := 255) (by decide)
    have er' : p1 &&& 255 = Int32.ofNat r := er
    refine OWp.iload_n hk at_26 (pc' := 27) rfl rfl ?_
    refine OWp.sipush hk at_27 (pc' := 30) rfl (z := 255) rfl ?_
    refine OWp.iand hk at_30 (pc' := 31) rfl ?_
    rw [er']
    refine OWp.bipush hk at_31 (pc' := 33) rfl (z := 93) rfl ?_
    refine OWp.irem hk at_33 (pc' := 34) rfl (by decide) ?_
    rw [show Int32.ofNat r % 93 = Int32.ofNat (r % 93) from n_mod (b := 93) (by omega) (by decide)]
    have hr93 : r % 93 < 93 := Nat.mod_lt _ (by decide)
    generalize r % 93 = r2 at hr93
    refine OWp.istore hk at_34 (pc' := 36) rfl rfl (by simp only [List.set_cons_zero, List.set_cons_succ]; rfl) ?_
    refine OWp.iload hk at_36 (pc' := 38) rfl rfl ?_
    by_cases h0 : r2 = 0
    · refine OWp.ifNo hk at_38 (XT.i0_ne_f (by rw [h0]; rfl)) (pc' := 41) rfl ?_
      refine OWp.bipush hk at_41 (pc' := 43) rfl (z := 33) rfl ?_
      refine OWp.goto hk at_43 (by decide) (pc' := 51) rfl ?_
      refine OWp.i2c hk at_51 (pc' := 52) rfl ?_
      refine OWp.istore hk at_52 (pc' := 54) rfl rfl (by simp only [List.set_cons_zero, List.set_cons_succ]; rfl) ?_
      exact A54 0 33 _ rfl (Or.inl rfl) ⟨by decide, by decide⟩ (fun _ => by decide)
    · refine OWp.ifYes hk at_38 (XT.i0_ne_t (by rw [show (0 : Int32) = Int32.ofNat 0 from rfl, n_inj (by omega) (by omega)]; exact h0)) (by decide) (pc' := 46) rfl ?_
      refine OWp.bipush hk at_46 (pc' := 48) rfl (z := 34) rfl ?_
      refine OWp.iload hk at_48 (pc' := 50) rfl rfl ?_
      refine OWp.iadd hk at_50 (pc' := 51) rfl ?_
      rw [show (34 : Int32) + Int32.ofNat r2 = Int32.ofNat (34 + r2) from n_add 34 r2]
      have hv : VC (Int32.ofNat (34 + r2)) := vc_n (by omega) (by omega)
      refine OWp.i2c hk at_51 (pc' := 52) rfl ?_
      rw [show (Int32.ofNat (34 + r2)).toUInt32.toUInt16.toUInt32.toInt32 = Int32.ofNat (34 + r2) from hv.nar]
      refine OWp.istore hk at_52 (pc' := 54) rfl rfl (by simp only [List.set_cons_zero, List.set_cons_succ]; rfl) ?_
      exact A54 0 _ _ rfl (Or.inl rfl) hv (fun _ => by rw [show (34 : Int32) = Int32.ofNat 34 from rfl, n_inj (by omega) (by omega)]; omega)
  · refine OWp.ifNo hk at_3 (XT.i0_eq_f hq) (pc' := 6) rfl ?_
    refine OWp.iconst hk at_6 (pc' := 7) rfl (z := 1) rfl ?_
    refine OWp.goto hk at_7 (by decide) (pc' := 11) rfl ?_
    refine OWp.istore_n hk at_11 (pc' := 12) rfl (kn := 3) rfl rfl (by simp only [List.set_cons_zero, List.set_cons_succ]; rfl) ?_
    refine OWp.iload_n hk at_12 (pc' := 13) rfl rfl ?_
    refine OWp.ifNo hk at_13 (XT.i0_eq_f (by decide)) (pc' := 16) rfl ?_
    refine OWp.iload_n hk at_16 (pc' := 17) rfl rfl ?_
    refine OWp.iconst hk at_17 (pc' := 18) rfl (z := 0) rfl ?_
    refine OWp.callS hk at_18 (pc' := 21) rfl (hw _ (List.mem_of_getElem? (i := 0) rfl)) (hw _ (List.mem_of_getElem? (i := 1) rfl)) (hw _ (List.mem_of_getElem? (i := 2) rfl)) (hw _ (List.mem_of_getElem? (i := 3) rfl)) (by decide) (c_DRAW hw hEL p1 0) rfl (by simp) rfl (lenOf pd_33 rfl) rfl (W := 0) rfl (by first | decide | (dsimp only; omega)) (by first | decide | (dsimp only; omega)) (by first | decide | (dsimp only; omega)) (by first | decide | (dsimp only; omega)) ?_
    rintro _ _ _ ⟨rfl, rfl, k0, rfl, v0⟩
    refine OWp.istore hk at_21 (pc' := 23) rfl rfl (by simp only [List.set_cons_zero, List.set_cons_succ]; rfl) ?_
    refine OWp.goto hk at_23 (by decide) (pc' := 54) rfl ?_
    exact A54 1 k0 _ rfl (Or.inr rfl) v0 (fun h => absurd h (by decide))
--TAIL
set_option maxRecDepth 65536 in
set_option maxHeartbeats 40000000 in
theorem comes_1 {Post : Tables → Env → Array Value → State → Outcome → State → Prop} (hpost : ∀ tb e args s v u, (limb_1_1.after args s (.returned v) u = true ∧ limb_1_2.after args s (.returned v) u = true ∧ True) → ReturnedEndW s (.returned v) u (Jvm.fieldLocs frame_1_writes args s ++ Jvm.arrayLocs frame_1_arrays args s ++ Jvm.staticLocs frame_1_statics s) 40 3264 → Post tb e args s (.returned v) u) :
    ArmFor flags0 classFile x code maxLocals ret World_1 tables_1 room_1 Calls_1 rest_1 Pre_1 Post := by
  intro l hfl _ _ p e ha hc hk s m args below hf hA hF happ hP
  obtain ⟨hcalls, hrest, hpre⟩ := hP
  obtain ⟨-, -, -, hnamed, -, -, -, hat⟩ := (Spec.applies_iff hf).mp happ
  obtain ⟨hg, hn⟩ := and_e (Cond.before_iff.mp (show (Jvm.Cond.and given_1 narrow_1).before args s = true from hpre))
  obtain ⟨g0, r0⟩ := and_e hg
  obtain ⟨q0, r1⟩ := and_e r0
  obtain ⟨q1, r2⟩ := and_e r1
  obtain ⟨w0, w1, w2, rfl⟩ : ∃ w0 w1 w2 : Value, args = #[w0, w1, w2] := by
    have hs : args.size = 3 := by simpa [Cond.value, given_1] using g0
    obtain ⟨L⟩ := args
    match L, hs with
    | [w0, w1, w2], _ => exact ⟨w0, w1, w2, rfl⟩
  have hw := fun d (hd : d ∈ tables_1) => atoms_spec (ws := Jvm.Cond.code x code maxLocals ret :: tables_1) hat d (List.mem_cons_of_mem _ hd)
  obtain ⟨hsets, hown0⟩ := atoms_of _ (rest_1_c_eq ▸ (show rest_1_c.before _ s = true from hrest))
  have hfit : Fit s := fun {y c} hc i hi => by
    obtain ⟨ha, rfl⟩ := Array.getElem?_eq_some_iff.mp hc
    have q := List.all_eq_true.mp ((Array.all_eq_true_iff_forall_mem.mp hF) _ (Array.getElem_mem ha)) i (List.mem_range.mpr hi)
    simpa [Array.getElem?_eq_getElem hi] using q
  obtain ⟨i0, e0⟩ := is_v q0
  obtain rfl : w0 = (.int i0) := Option.some.inj e0
  obtain ⟨i1, e1⟩ := is_v q1
  obtain rfl : w1 = (.int i1) := Option.some.inj e1
  obtain ⟨i2, e2⟩ := is_v r2
  obtain rfl : w2 = (.int i2) := Option.some.inj e2
  obtain ⟨zc, ezc⟩ := is_v (Cond.before_iff.mp (hsets _ (List.mem_of_getElem? (i := 1) rfl)))
  have O2 : Sta s s.heap "java/lang/String" "COMPACT_STRINGS" "Z" (.int zc) := Sta.start ezc (Or.inl (hsets _ (List.mem_of_getElem? (i := 0) rfl)))
  have hzc : ¬ (zc = (0 : Int32)) := gotF (Cond.eq_ints ezc (Term.int_eval (0))) (not_v (Cond.before_iff.mp (hsets _ (List.mem_of_getElem? (i := 2) rfl))))
  obtain ⟨fm, efm, hfm⟩ := isR_v (Cond.before_iff.mp (hsets _ (List.mem_of_getElem? (i := 8) rfl)))
  have O4 : Sta s s.heap "jdk/internal/util/Preconditions" "SIOOBE_FORMATTER" "Ljava/util/function/BiFunction;" fm := Sta.start efm (Or.inl (hsets _ (List.mem_of_getElem? (i := 7) rfl)))
  have hEL : EW s #[.int i0, .int i1, .int i2] consts_1 := (EW.cons (hw _ (List.mem_of_getElem? (i := 141) rfl)) (by decide) (EW.cons (hw _ (List.mem_of_getElem? (i := 44) rfl)) (by decide) (EW.cons (hw _ (List.mem_of_getElem? (i := 123) rfl)) (by decide) EW.nil)))
  have hCH : CHv s consts_1 s.vm s.heap := CHv.start hEL (fun p hp => hcalls.1 p hp) (hsets _ (List.mem_of_getElem? (i := 2) rfl)) (hw _ (List.mem_of_getElem? (i := 29) rfl)) (hw _ (List.mem_of_getElem? (i := 12) rfl))
  have I0 : OInv s consts_1 s.vm s.heap (dom []) s.vm s.heap [] [] [] := ⟨CHr.refl hCH, ext_refl _, fun _ h => (nomatch h), List.nodup_nil, fun _ h => (nomatch h), fun _ h => (nomatch h)⟩
  obtain ⟨n, o, h1, h2, h3, v, L, rfl, ⟨M, N, rfl, -⟩, -, hL, hq⟩ := c_law (l := l) hw hEL O2 hzc O4 hfm (List.mem_of_getElem? (i := 2) rfl) i0 i1 i2 p e ha hc hk s m _ below hf ((Spec.applies_iff_loose hf).mp happ).1 ⟨rfl, State.Warmed39.refl s, I0⟩ trivial
  refine ⟨n, _, h1, h2, h3, hpost _ _ _ _ _ _ ⟨Cond.after_iff.mpr rfl, Cond.after_iff.mpr (eq_i res_at (Term.int_eval (1)) rfl), trivial⟩ ⟨hq.1, hq.2.1, hq.2.2.1, (hq.2.2.2.sift fun y hy => Or.inr ((hL y hy).elim id fun z => (nomatch z))).mono (by decide) (by decide)⟩⟩
theorem main_1_1 : Claimed_1_1 := comes_1 fun _ _ _ _ _ _ h hF => ⟨h.1, hF⟩
theorem main_1_2 : Claimed_1_2 := comes_1 fun _ _ _ _ _ _ h hF => ⟨h.2.1, hF⟩
end Law
end Jvm.Pilot.@@N@@
namespace Jvm.Pilot.@@N@@
open Jvm Jvm.ClassFile Sem Op Lib Jvm.Free Jvm.Stand Jvm.Pilot.@@N@@.Jvm.D
/-! MADE BY PROGRAM (witnessworld.py) out of the Statement's table words and the real class files: 27 classes; the members and pool entries that the words name. The judged class is class 1, her method 6. -/
namespace start1
open Jvm.ClassFile
def u (s : String) : CpInfo := .utf8 (stringToUtf16 s)
/-- a pool by its gaps: so many unusable entries, then the entry; so many at the end -/
def gap : Nat → List CpInfo → List CpInfo
  | 0, r => r
  | n + 1, r => .unusable :: gap n r
def poolList (es : List (Nat × CpInfo)) (last : Nat) : List CpInfo := es.foldr (fun e r => gap e.1 (e.2 :: r)) (gap last [])
def pool (es : List (Nat × CpInfo)) (last : Nat) : Array CpInfo := ⟨poolList es last⟩
def fileOf (pool : Array CpInfo) (this : Nat) (attrs : Array Attribute := #[]) (ms : Array MethodInfo := #[]) (fl : Nat := 33) (sup : Nat := 0) (ifs : Array Nat := #[]) (fds : Array FieldInfo := #[]) : ClassFile where
  minorVersion := 0
  majorVersion := 65
  constantPool := pool
  accessFlags := fl
  thisClass := this
  superClass := sup
  interfaces := ifs
  fields := fds
  methods := ms
  attributes := attrs
def plain (name : String) (sup : Option ClassId) : Class where
  name := name
  kind := .ordinary
  loader := none
  accessFlags := 33
  super := sup
  interfaces := #[]
  cf := none
  fields := #[]
  methods := #[]
  instanceTypes := #[]
  staticTypes := #[]
  resolved := #[]
  callSites := []
  init := .initialized
  statics := none
  mirror := none

def pool0 : Array CpInfo := pool [(5, u "<init>"), (0, u "()V"), (1, .class_ 10), (1, u "java/lang/Object")] 113

def k0c0 : Code := { maxStack := 0, maxLocals := 1, code := object_method_1_code, exceptionTable := #[], attributes := #[] }
def k0m0 : Method := { name := "<init>", desc := "()V", sig := { parameters := [], returnType := none }, accessFlags := 1, code := some k0c0 }
/-- java/lang/Object -/
def k0 : Class := { plain "java/lang/Object" none with
  accessFlags := 33
  interfaces := #[]
  cf := some (fileOf pool0 8 #[] #[{ accessFlags := 1, nameIndex := 5, descriptorIndex := 6, attributes := #[] }] 33 0 #[] #[])
  fields := #[]
  methods := #[k0m0]
  instanceTypes := #[]
  staticTypes := #[]
  resolved := Array.replicate 124 none
  statics := none }

def pool1 : Array CpInfo := pool [(2, .class_ 4), (1, u "java/lang/Object"), (0, u "<init>"), (0, u "()V"), (0, .methodref 8 9), (0, .class_ 10), (0, .nameAndType 11 12), (0, u "com/example/idemnity/idemnity/IdempotencyKeyFromHeaderPinLaw"), (0, u "vis"), (0, u "(I)C"), (0, .methodref 8 14), (0, .nameAndType 15 16), (0, u "esc"), (0, u "(C)Z"), (0, .methodref 8 18), (0, .nameAndType 19 20), (0, u "draw"), (0, u "(II)C"), (0, .methodref 8 22), (0, .nameAndType 23 20), (0, u "pad"), (0, .methodref 8 25), (0, .nameAndType 26 27), (0, u "putQuoted"), (0, u "([CIC)I"), (0, .class_ 29), (0, u "java/lang/String"), (0, .methodref 28 31), (0, .nameAndType 5 32), (0, u "([C)V"), (0, .methodref 34 35), (0, .class_ 36), (0, .nameAndType 37 38), (0, u "com/example/idemnity/idemnity/IdempotencyKey"), (0, u "fromHeader"), (0, u "(Ljava/lang/String;)Lcom/example/idemnity/idemnity/IdempotencyKey;"), (0, .methodref 34 40), (0, .nameAndType 41 42), (0, u "getValue"), (0, u "()Ljava/lang/String;"), (0, .methodref 28 44), (0, .nameAndType 45 46), (0, u "length"), (0, u "()I"), (0, .methodref 28 48), (0, .nameAndType 49 12), (0, u "charAt"), (3, u "law"), (0, u "(III)Z")] 4

def k1m0 : Method := { name := "<init>", desc := "()V", sig := { parameters := [], returnType := none }, accessFlags := 1, code := none }
def k1c1 : Code := { maxStack := 3, maxLocals := 1, code := method_2_code, exceptionTable := #[], attributes := #[] }
def k1m1 : Method := { name := "vis", desc := "(I)C", sig := { parameters := [.int], returnType := some .char }, accessFlags := 10, code := some k1c1 }
def k1c2 : Code := { maxStack := 3, maxLocals := 2, code := method_3_code, exceptionTable := #[], attributes := #[] }
def k1m2 : Method := { name := "draw", desc := "(II)C", sig := { parameters := [.int, .int], returnType := some .char }, accessFlags := 10, code := some k1c2 }
def k1c3 : Code := { maxStack := 3, maxLocals := 2, code := method_4_code, exceptionTable := #[], attributes := #[] }
def k1m3 : Method := { name := "pad", desc := "(II)C", sig := { parameters := [.int, .int], returnType := some .char }, accessFlags := 10, code := some k1c3 }
def k1c4 : Code := { maxStack := 2, maxLocals := 1, code := method_5_code, exceptionTable := #[], attributes := #[] }
def k1m4 : Method := { name := "esc", desc := "(C)Z", sig := { parameters := [.char], returnType := some .boolean }, accessFlags := 10, code := some k1c4 }
def k1c5 : Code := { maxStack := 3, maxLocals := 4, code := method_6_code, exceptionTable := #[], attributes := #[] }
def k1m5 : Method := { name := "putQuoted", desc := "([CIC)I", sig := { parameters := [(.array .char), .int, .char], returnType := some .int }, accessFlags := 10, code := some k1c5 }
def k1c6 : Code := { maxStack := 4, maxLocals := 17, code := code, exceptionTable := #[], attributes := #[] }
def k1m6 : Method := { name := "law", desc := "(III)Z", sig := { parameters := [.int, .int, .int], returnType := some .boolean }, accessFlags := 9, code := some k1c6 }
/-- com/example/idemnity/idemnity/IdempotencyKeyFromHeaderPinLaw -/
def k1 : Class := { plain "com/example/idemnity/idemnity/IdempotencyKeyFromHeaderPinLaw" (some 0) with
  accessFlags := 49
  interfaces := #[]
  cf := some (fileOf pool1 8 #[] #[{ accessFlags := 1, nameIndex := 5, descriptorIndex := 6, attributes := #[] }, { accessFlags := 10, nameIndex := 11, descriptorIndex := 12, attributes := #[] }, { accessFlags := 10, nameIndex := 19, descriptorIndex := 20, attributes := #[] }, { accessFlags := 10, nameIndex := 23, descriptorIndex := 20, attributes := #[] }, { accessFlags := 10, nameIndex := 15, descriptorIndex := 16, attributes := #[] }, { accessFlags := 10, nameIndex := 26, descriptorIndex := 27, attributes := #[] }, { accessFlags := 9, nameIndex := 53, descriptorIndex := 54, attributes := #[] }] 49 2 #[] #[])
  fields := #[]
  methods := #[k1m0, k1m1, k1m2, k1m3, k1m4, k1m5, k1m6]
  instanceTypes := #[]
  staticTypes := #[]
  resolved := Array.replicate 59 none
  statics := none }

def pool2 : Array CpInfo := pool [(1, .class_ 2), (0, u "java/io/Serializable"), (0, .class_ 4), (0, u "java/lang/Object")] 2

/-- java/io/Serializable -/
def k2 : Class := { plain "java/io/Serializable" (some 0) with
  accessFlags := 1537
  interfaces := #[]
  cf := some (fileOf pool2 1 #[] #[] 1537 3 #[] #[])
  fields := #[]
  methods := #[]
  instanceTypes := #[]
  staticTypes := #[]
  resolved := Array.replicate 7 none
  statics := none }

def pool3 : Array CpInfo := pool [(1, .class_ 2), (0, u "java/lang/Comparable"), (0, .class_ 4), (0, u "java/lang/Object")] 7

/-- java/lang/Comparable -/
def k3 : Class := { plain "java/lang/Comparable" (some 0) with
  accessFlags := 1537
  interfaces := #[]
  cf := some (fileOf pool3 1 #[] #[] 1537 3 #[] #[])
  fields := #[]
  methods := #[]
  instanceTypes := #[]
  staticTypes := #[]
  resolved := Array.replicate 12 none
  statics := none }

def pool4 : Array CpInfo := pool [(2, .class_ 4), (1, u "java/lang/CharSequence"), (42, .class_ 48), (0, u "java/lang/CharSequence$1CodePointIterator"), (10, .class_ 60), (0, u "java/lang/CharSequence$1CharIterator"), (5, .class_ 67), (0, u "java/lang/Object")] 63

/-- java/lang/CharSequence -/
def k4 : Class := { plain "java/lang/CharSequence" (some 0) with
  accessFlags := 1537
  interfaces := #[]
  cf := some (fileOf pool4 2 #[.nestMembers #[47, 59]] #[] 1537 66 #[] #[])
  fields := #[]
  methods := #[]
  instanceTypes := #[]
  staticTypes := #[]
  resolved := Array.replicate 131 none
  statics := none }

def pool5 : Array CpInfo := pool [(1, .class_ 2), (0, u "java/lang/constant/Constable"), (0, .class_ 4), (0, u "java/lang/Object")] 6

/-- java/lang/constant/Constable -/
def k5 : Class := { plain "java/lang/constant/Constable" (some 0) with
  accessFlags := 1537
  interfaces := #[]
  cf := some (fileOf pool5 1 #[] #[] 1537 3 #[] #[])
  fields := #[]
  methods := #[]
  instanceTypes := #[]
  staticTypes := #[]
  resolved := Array.replicate 11 none
  statics := none }

def pool6 : Array CpInfo := pool [(1, .class_ 2), (0, u "java/lang/constant/ConstantDesc"), (0, .class_ 4), (0, u "java/lang/Object")] 32

/-- java/lang/constant/ConstantDesc -/
def k6 : Class := { plain "java/lang/constant/ConstantDesc" (some 0) with
  accessFlags := 1537
  interfaces := #[]
  cf := some (fileOf pool6 1 #[] #[] 1537 3 #[] #[])
  fields := #[]
  methods := #[]
  instanceTypes := #[]
  staticTypes := #[]
  resolved := Array.replicate 37 none
  statics := none }

def pool7 : Array CpInfo := pool [(1, .methodref 2 3), (0, .class_ 4), (0, .nameAndType 5 6), (0, u "java/lang/Object"), (0, u "<init>"), (0, u "()V"), (2, .fieldref 10 11), (0, .class_ 12), (0, .nameAndType 13 14), (0, u "java/lang/String"), (0, u "value"), (0, u "[B"), (0, .fieldref 10 16), (0, .nameAndType 17 18), (0, u "coder"), (0, u "B"), (2, u "hash"), (0, u "I"), (2, u "hashIsZero"), (0, u "Z"), (0, .methodref 10 28), (0, .nameAndType 5 29), (0, u "([CIILjava/lang/Void;)V"), (8, .fieldref 10 39), (0, .nameAndType 40 26), (0, u "COMPACT_STRINGS"), (1, .class_ 44), (1, u "java/lang/StringUTF16"), (0, u "compress"), (1, .methodref 42 48), (0, .nameAndType 49 50), (0, u "coderFromArrayLen"), (0, u "([BI)B"), (3, .methodref 55 56), (0, .class_ 57), (0, .nameAndType 58 59), (0, u "java/util/Arrays"), (0, u "copyOfRange"), (0, u "([BII)[B"), (47, .class_ 109), (1, u "java/lang/StringLatin1"), (32, u "()Z"), (34, .methodref 42 178), (0, .nameAndType 45 179), (0, u "([CII)[B"), (31, u "([BB)V"), (122, u "()I"), (0, .methodref 10 336), (0, .nameAndType 17 337), (0, u "()B"), (2, u "()[B"), (22, u "([BI)C"), (12, u "([BI[BII)I"), (14, u "(II)V"), (35, u "(I)C"), (61, .methodref 10 490), (0, .nameAndType 5 491), (0, u "(Ljava/lang/AbstractStringBuilder;Ljava/lang/Void;)V"), (0, .methodref 10 493), (0, .nameAndType 494 142), (0, u "isLatin1"), (0, .methodref 107 496), (0, .nameAndType 497 363), (0, u "charAt"), (3, u "checkIndex"), (3, .methodref 10 506), (0, .nameAndType 507 334), (0, u "length"), (5, u "checkFromToIndex"), (7, .methodref 10 522), (0, .nameAndType 523 524), (0, u "checkBoundsBeginEnd"), (0, u "(III)V"), (24, .methodref 550 506), (0, .class_ 551), (0, u "java/lang/AbstractStringBuilder"), (0, .methodref 550 553), (0, .nameAndType 554 340), (0, u "getValue"), (4, .class_ 561), (1, u "jdk/internal/util/ArraysSupport"), (0, u "mismatch"), (12, .class_ 576), (0, u "java/lang/CharSequence"), (22, u "CASE_INSENSITIVE_ORDER"), (0, u "Ljava/util/Comparator;"), (6, .methodref 559 608), (0, .nameAndType 562 376), (15, .methodref 10 625), (0, .nameAndType 626 627), (0, u "startsWith"), (0, u "(Ljava/lang/String;I)Z"), (55, u "substring"), (0, u "(II)Ljava/lang/String;"), (0, .methodref 107 686), (0, .nameAndType 687 688), (0, u "newString"), (0, u "([BII)Ljava/lang/String;"), (3, u "isEmpty"), (317, u "([C)V"), (36, .methodref 550 493), (5, .fieldref 1054 1055), (0, .class_ 1056), (0, .nameAndType 1057 1058), (0, u "jdk/internal/util/Preconditions"), (0, u "SIOOBE_FORMATTER"), (0, u "Ljava/util/function/BiFunction;"), (0, .methodref 1054 1060), (0, .nameAndType 501 1061), (0, u "(IILjava/util/function/BiFunction;)I"), (0, .methodref 1054 1063), (0, .nameAndType 513 1064), (0, u "(IIILjava/util/function/BiFunction;)I"), (36, u "serialPersistentFields"), (0, u "[Ljava/io/ObjectStreamField;"), (0, .class_ 1104), (0, u "java/lang/String$CaseInsensitiveComparator"), (1, .class_ 1107), (0, u "java/io/Serializable"), (0, .class_ 1109), (0, u "java/lang/Comparable"), (0, .class_ 1111), (0, u "java/lang/constant/Constable"), (0, .class_ 1113), (0, u "java/lang/constant/ConstantDesc"), (2, u "serialVersionUID"), (0, u "J"), (3, u "REPL"), (0, u "C"), (2, u "LATIN1"), (1, u "UTF16"), (105, u "(Ljava/lang/StringBuilder;)V"), (23, u "(Ljava/lang/String;)Z")] 193

def k7m0 : Method := { name := "<init>", desc := "()V", sig := { parameters := [], returnType := none }, accessFlags := 1, code := none }
def k7c1 : Code := { maxStack := 5, maxLocals := 2, code := jdk_42_method_3_code, exceptionTable := #[], attributes := #[] }
def k7m1 : Method := { name := "<init>", desc := "([C)V", sig := { parameters := [(.array .char)], returnType := none }, accessFlags := 1, code := some k7c1 }
def k7c2 : Code := { maxStack := 3, maxLocals := 2, code := jdk_42_method_53_code, exceptionTable := #[], attributes := #[] }
def k7m2 : Method := { name := "<init>", desc := "(Ljava/lang/StringBuilder;)V", sig := { parameters := [(.object "java/lang/StringBuilder")], returnType := none }, accessFlags := 1, code := some k7c2 }
def k7c3 : Code := { maxStack := 2, maxLocals := 1, code := jdk_42_method_54_code, exceptionTable := #[], attributes := #[] }
def k7m3 : Method := { name := "length", desc := "()I", sig := { parameters := [], returnType := some .int }, accessFlags := 1, code := some k7c3 }
def k7c4 : Code := { maxStack := 1, maxLocals := 1, code := jdk_42_method_55_code, exceptionTable := #[], attributes := #[] }
def k7m4 : Method := { name := "isEmpty", desc := "()Z", sig := { parameters := [], returnType := some .boolean }, accessFlags := 1, code := some k7c4 }
def k7c5 : Code := { maxStack := 2, maxLocals := 2, code := jdk_42_method_56_code, exceptionTable := #[], attributes := #[] }
def k7m5 : Method := { name := "charAt", desc := "(I)C", sig := { parameters := [.int], returnType := some .char }, accessFlags := 1, code := some k7c5 }
def k7c6 : Code := { maxStack := 5, maxLocals := 8, code := jdk_42_method_75_code, exceptionTable := #[], attributes := #[] }
def k7m6 : Method := { name := "startsWith", desc := "(Ljava/lang/String;I)Z", sig := { parameters := [(.object "java/lang/String"), .int], returnType := some .boolean }, accessFlags := 1, code := some k7c6 }
def k7c7 : Code := { maxStack := 3, maxLocals := 2, code := jdk_42_method_76_code, exceptionTable := #[], attributes := #[] }
def k7m7 : Method := { name := "startsWith", desc := "(Ljava/lang/String;)Z", sig := { parameters := [(.object "java/lang/String")], returnType := some .boolean }, accessFlags := 1, code := some k7c7 }
def k7c8 : Code := { maxStack := 3, maxLocals := 5, code := jdk_42_method_92_code, exceptionTable := #[], attributes := #[] }
def k7m8 : Method := { name := "substring", desc := "(II)Ljava/lang/String;", sig := { parameters := [.int, .int], returnType := some (.object "java/lang/String") }, accessFlags := 1, code := some k7c8 }
def k7c9 : Code := { maxStack := 4, maxLocals := 6, code := jdk_42_method_149_code, exceptionTable := #[], attributes := #[] }
def k7m9 : Method := { name := "<init>", desc := "([CIILjava/lang/Void;)V", sig := { parameters := [(.array .char), .int, .int, (.object "java/lang/Void")], returnType := none }, accessFlags := 2, code := some k7c9 }
def k7c10 : Code := { maxStack := 5, maxLocals := 5, code := jdk_42_method_150_code, exceptionTable := #[], attributes := #[] }
def k7m10 : Method := { name := "<init>", desc := "(Ljava/lang/AbstractStringBuilder;Ljava/lang/Void;)V", sig := { parameters := [(.object "java/lang/AbstractStringBuilder"), (.object "java/lang/Void")], returnType := none }, accessFlags := 0, code := some k7c10 }
def k7c11 : Code := { maxStack := 2, maxLocals := 3, code := jdk_42_method_151_code, exceptionTable := #[], attributes := #[] }
def k7m11 : Method := { name := "<init>", desc := "([BB)V", sig := { parameters := [(.array .byte), .byte], returnType := none }, accessFlags := 0, code := some k7c11 }
def k7c12 : Code := { maxStack := 1, maxLocals := 1, code := jdk_42_method_152_code, exceptionTable := #[], attributes := #[] }
def k7m12 : Method := { name := "coder", desc := "()B", sig := { parameters := [], returnType := some .byte }, accessFlags := 0, code := some k7c12 }
def k7c13 : Code := { maxStack := 1, maxLocals := 1, code := jdk_42_method_154_code, exceptionTable := #[], attributes := #[] }
def k7m13 : Method := { name := "isLatin1", desc := "()Z", sig := { parameters := [], returnType := some .boolean }, accessFlags := 0, code := some k7c13 }
def k7c14 : Code := { maxStack := 3, maxLocals := 2, code := jdk_42_method_155_code, exceptionTable := #[], attributes := #[] }
def k7m14 : Method := { name := "checkIndex", desc := "(II)V", sig := { parameters := [.int, .int], returnType := none }, accessFlags := 8, code := some k7c14 }
def k7c15 : Code := { maxStack := 4, maxLocals := 3, code := jdk_42_method_158_code, exceptionTable := #[], attributes := #[] }
def k7m15 : Method := { name := "checkBoundsBeginEnd", desc := "(III)V", sig := { parameters := [.int, .int, .int], returnType := none }, accessFlags := 8, code := some k7c15 }
/-- java/lang/String -/
def k7 : Class := { plain "java/lang/String" (some 0) with
  accessFlags := 49
  interfaces := #[2, 3, 4, 5, 6]
  cf := some (fileOf pool7 10 #[.nestMembers #[1103]] #[{ accessFlags := 1, nameIndex := 5, descriptorIndex := 6, attributes := #[] }, { accessFlags := 1, nameIndex := 5, descriptorIndex := 1010, attributes := #[] }, { accessFlags := 1, nameIndex := 5, descriptorIndex := 1233, attributes := #[] }, { accessFlags := 1, nameIndex := 507, descriptorIndex := 334, attributes := #[] }, { accessFlags := 1, nameIndex := 692, descriptorIndex := 142, attributes := #[] }, { accessFlags := 1, nameIndex := 497, descriptorIndex := 427, attributes := #[] }, { accessFlags := 1, nameIndex := 626, descriptorIndex := 627, attributes := #[] }, { accessFlags := 1, nameIndex := 626, descriptorIndex := 1257, attributes := #[] }, { accessFlags := 1, nameIndex := 683, descriptorIndex := 684, attributes := #[] }, { accessFlags := 2, nameIndex := 5, descriptorIndex := 29, attributes := #[] }, { accessFlags := 0, nameIndex := 5, descriptorIndex := 491, attributes := #[] }, { accessFlags := 0, nameIndex := 5, descriptorIndex := 211, attributes := #[] }, { accessFlags := 0, nameIndex := 17, descriptorIndex := 337, attributes := #[] }, { accessFlags := 0, nameIndex := 494, descriptorIndex := 142, attributes := #[] }, { accessFlags := 8, nameIndex := 501, descriptorIndex := 391, attributes := #[] }, { accessFlags := 8, nameIndex := 523, descriptorIndex := 524, attributes := #[] }] 49 2 #[1106, 1108, 575, 1110, 1112] #[{ accessFlags := 18, nameIndex := 13, descriptorIndex := 14, attributes := #[] }, { accessFlags := 18, nameIndex := 17, descriptorIndex := 18, attributes := #[] }, { accessFlags := 2, nameIndex := 21, descriptorIndex := 22, attributes := #[] }, { accessFlags := 2, nameIndex := 25, descriptorIndex := 26, attributes := #[] }, { accessFlags := 26, nameIndex := 1116, descriptorIndex := 1117, attributes := #[] }, { accessFlags := 24, nameIndex := 40, descriptorIndex := 26, attributes := #[] }, { accessFlags := 26, nameIndex := 1101, descriptorIndex := 1102, attributes := #[] }, { accessFlags := 26, nameIndex := 1121, descriptorIndex := 1122, attributes := #[] }, { accessFlags := 25, nameIndex := 599, descriptorIndex := 600, attributes := #[] }, { accessFlags := 24, nameIndex := 1125, descriptorIndex := 18, attributes := #[] }, { accessFlags := 24, nameIndex := 1127, descriptorIndex := 18, attributes := #[] }])
  fields := #[{ name := "value", type := (.array .byte), accessFlags := 18, slot := 0, constantValue := 0 }, { name := "coder", type := .byte, accessFlags := 18, slot := 1, constantValue := 0 }, { name := "hash", type := .int, accessFlags := 2, slot := 2, constantValue := 0 }, { name := "hashIsZero", type := .boolean, accessFlags := 2, slot := 3, constantValue := 0 }, { name := "serialVersionUID", type := .long, accessFlags := 26, slot := 0, constantValue := 0 }, { name := "COMPACT_STRINGS", type := .boolean, accessFlags := 24, slot := 1, constantValue := 0 }, { name := "serialPersistentFields", type := (.array (.object "java/io/ObjectStreamField")), accessFlags := 26, slot := 2, constantValue := 0 }, { name := "REPL", type := .char, accessFlags := 26, slot := 3, constantValue := 0 }, { name := "CASE_INSENSITIVE_ORDER", type := (.object "java/util/Comparator"), accessFlags := 25, slot := 4, constantValue := 0 }, { name := "LATIN1", type := .byte, accessFlags := 24, slot := 5, constantValue := 0 }, { name := "UTF16", type := .byte, accessFlags := 24, slot := 6, constantValue := 0 }]
  methods := #[k7m0, k7m1, k7m2, k7m3, k7m4, k7m5, k7m6, k7m7, k7m8, k7m9, k7m10, k7m11, k7m12, k7m13, k7m14, k7m15]
  instanceTypes := #[(.array .byte), .byte, .int, .boolean]
  staticTypes := #[.long, .boolean, (.array (.object "java/io/ObjectStreamField")), .char, (.object "java/util/Comparator"), .byte, .byte]
  resolved := Array.replicate 1451 none
  statics := some 0 }

def pool8 : Array CpInfo := pool [(6, .class_ 8), (1, u "java/lang/Object"), (0, u "<init>"), (0, u "()V"), (1, .class_ 14), (1, u "java/lang/StringUTF16"), (31, u "$assertionsDisabled"), (0, u "Z"), (13, u "HI_BYTE_SHIFT"), (0, u "I"), (2, u "LO_BYTE_SHIFT"), (49, .methodref 12 116), (0, .nameAndType 117 118), (0, u "compress"), (0, u "([CI[BII)I"), (3, u "([CII)[B"), (138, u "coderFromArrayLen"), (0, u "([BI)B"), (106, .class_ 371), (1, u "java/lang/StringUTF16$LinesSpliterator"), (58, u "MAX_LENGTH"), (196, .class_ 628), (0, u "java/lang/StringUTF16$CodePointsSpliterator"), (0, .class_ 630), (0, u "java/lang/StringUTF16$CharsSpliterator")] 4

def k8m0 : Method := { name := "<init>", desc := "()V", sig := { parameters := [], returnType := none }, accessFlags := 0, code := none }
def k8c1 : Code := { maxStack := 2, maxLocals := 2, code := jdk_52_method_15_code, exceptionTable := #[], attributes := #[] }
def k8m1 : Method := { name := "coderFromArrayLen", desc := "([BI)B", sig := { parameters := [(.array .byte), .int], returnType := some .byte }, accessFlags := 8, code := some k8c1 }
def k8c2 : Code := { maxStack := 5, maxLocals := 6, code := jdk_52_method_16_code, exceptionTable := #[], attributes := #[] }
def k8m2 : Method := { name := "compress", desc := "([CII)[B", sig := { parameters := [(.array .char), .int, .int], returnType := some (.array .byte) }, accessFlags := 9, code := some k8c2 }
def k8c3 : Code := { maxStack := 3, maxLocals := 7, code := jdk_52_method_21_code, exceptionTable := #[], attributes := #[] }
def k8m3 : Method := { name := "compress", desc := "([CI[BII)I", sig := { parameters := [(.array .char), .int, (.array .byte), .int, .int], returnType := some .int }, accessFlags := 9, code := some k8c3 }
/-- java/lang/StringUTF16 -/
def k8 : Class := { plain "java/lang/StringUTF16" (some 0) with
  accessFlags := 48
  interfaces := #[]
  cf := some (fileOf pool8 12 #[.nestMembers #[627, 629, 369]] #[{ accessFlags := 0, nameIndex := 9, descriptorIndex := 10, attributes := #[] }, { accessFlags := 8, nameIndex := 261, descriptorIndex := 262, attributes := #[] }, { accessFlags := 9, nameIndex := 117, descriptorIndex := 122, attributes := #[] }, { accessFlags := 9, nameIndex := 117, descriptorIndex := 118, attributes := #[] }] 48 6 #[] #[{ accessFlags := 26, nameIndex := 61, descriptorIndex := 62, attributes := #[] }, { accessFlags := 26, nameIndex := 65, descriptorIndex := 62, attributes := #[] }, { accessFlags := 24, nameIndex := 430, descriptorIndex := 62, attributes := #[] }, { accessFlags := 4120, nameIndex := 46, descriptorIndex := 47, attributes := #[] }])
  fields := #[{ name := "HI_BYTE_SHIFT", type := .int, accessFlags := 26, slot := 0, constantValue := 0 }, { name := "LO_BYTE_SHIFT", type := .int, accessFlags := 26, slot := 1, constantValue := 0 }, { name := "MAX_LENGTH", type := .int, accessFlags := 24, slot := 2, constantValue := 0 }, { name := "$assertionsDisabled", type := .boolean, accessFlags := 4120, slot := 3, constantValue := 0 }]
  methods := #[k8m0, k8m1, k8m2, k8m3]
  instanceTypes := #[]
  staticTypes := #[.int, .int, .int, .boolean]
  resolved := Array.replicate 635 none
  statics := none }

def pool9 : Array CpInfo := pool [(1, .methodref 2 3), (0, .class_ 4), (0, .nameAndType 5 6), (0, u "java/lang/Object"), (0, u "<init>"), (0, u "()V"), (0, .fieldref 8 9), (0, .class_ 10), (0, .nameAndType 11 12), (0, u "com/example/idemnity/idemnity/IdempotencyKey"), (0, u "mValue"), (0, u "Ljava/lang/String;"), (0, .string 14), (0, u "value"), (0, .methodref 16 17), (0, .class_ 18), (0, .nameAndType 19 20), (0, u "java/util/Objects"), (0, u "requireNonNull"), (0, u "(Ljava/lang/Object;Ljava/lang/String;)Ljava/lang/Object;"), (0, .methodref 22 23), (0, .class_ 24), (0, .nameAndType 25 26), (0, u "java/lang/String"), (0, u "isEmpty"), (0, u "()Z"), (5, .nameAndType 5 33), (0, u "(Ljava/lang/String;)V"), (0, .methodref 22 35), (0, .nameAndType 36 37), (0, u "length"), (0, u "()I"), (4, .methodref 22 43), (0, .nameAndType 44 45), (0, u "charAt"), (0, u "(I)C"), (16, .methodref 8 32), (0, .string 64), (0, u "fieldValue"), (0, .methodref 8 66), (0, .nameAndType 67 68), (0, u "isSpaceOrTab"), (0, u "(C)Z"), (0, .methodref 22 70), (0, .nameAndType 71 72), (0, u "substring"), (0, u "(II)Ljava/lang/String;"), (0, .string 74), (0, u "\""), (0, .methodref 22 76), (0, .nameAndType 77 78), (0, u "startsWith"), (0, u "(Ljava/lang/String;)Z"), (0, .methodref 8 80), (0, .nameAndType 81 82), (0, u "unquote"), (0, u "(Ljava/lang/String;)Ljava/lang/String;"), (0, .methodref 8 84), (0, .nameAndType 85 86), (0, u "of"), (0, u "(Ljava/lang/String;)Lcom/example/idemnity/idemnity/IdempotencyKey;"), (0, .class_ 88), (0, u "java/lang/StringBuilder"), (0, .methodref 87 90), (0, .nameAndType 5 91), (0, u "(I)V"), (2, .methodref 87 95), (0, .nameAndType 96 97), (0, u "append"), (0, u "(C)Ljava/lang/StringBuilder;"), (4, .methodref 87 103), (0, .nameAndType 104 105), (0, u "toString"), (0, u "()Ljava/lang/String;"), (7, u "MAX_LENGTH"), (0, u "I"), (2, u "HEADER"), (2, u "FIRST_ALLOWED"), (0, u "C"), (1, u "LAST_ALLOWED"), (4, u "fromHeader"), (0, u "getValue")] 17

def k9c0 : Code := { maxStack := 2, maxLocals := 2, code := prog_9_method_1_code, exceptionTable := #[], attributes := #[] }
def k9m0 : Method := { name := "<init>", desc := "(Ljava/lang/String;)V", sig := { parameters := [(.object "java/lang/String")], returnType := none }, accessFlags := 2, code := some k9c0 }
def k9c1 : Code := { maxStack := 8, maxLocals := 3, code := prog_9_method_2_code, exceptionTable := #[], attributes := #[] }
def k9m1 : Method := { name := "of", desc := "(Ljava/lang/String;)Lcom/example/idemnity/idemnity/IdempotencyKey;", sig := { parameters := [(.object "java/lang/String")], returnType := some (.object "com/example/idemnity/idemnity/IdempotencyKey") }, accessFlags := 9, code := some k9c1 }
def k9c2 : Code := { maxStack := 3, maxLocals := 4, code := prog_9_method_3_code, exceptionTable := #[], attributes := #[] }
def k9m2 : Method := { name := "fromHeader", desc := "(Ljava/lang/String;)Lcom/example/idemnity/idemnity/IdempotencyKey;", sig := { parameters := [(.object "java/lang/String")], returnType := some (.object "com/example/idemnity/idemnity/IdempotencyKey") }, accessFlags := 9, code := some k9c2 }
def k9c3 : Code := { maxStack := 3, maxLocals := 6, code := prog_9_method_4_code, exceptionTable := #[], attributes := #[] }
def k9m3 : Method := { name := "unquote", desc := "(Ljava/lang/String;)Ljava/lang/String;", sig := { parameters := [(.object "java/lang/String")], returnType := some (.object "java/lang/String") }, accessFlags := 10, code := some k9c3 }
def k9c4 : Code := { maxStack := 2, maxLocals := 1, code := prog_9_method_5_code, exceptionTable := #[], attributes := #[] }
def k9m4 : Method := { name := "isSpaceOrTab", desc := "(C)Z", sig := { parameters := [.char], returnType := some .boolean }, accessFlags := 10, code := some k9c4 }
def k9c5 : Code := { maxStack := 1, maxLocals := 1, code := prog_9_method_6_code, exceptionTable := #[], attributes := #[] }
def k9m5 : Method := { name := "getValue", desc := "()Ljava/lang/String;", sig := { parameters := [], returnType := some (.object "java/lang/String") }, accessFlags := 1, code := some k9c5 }
/-- com/example/idemnity/idemnity/IdempotencyKey -/
def k9 : Class := { plain "com/example/idemnity/idemnity/IdempotencyKey" (some 0) with
  accessFlags := 49
  interfaces := #[]
  cf := some (fileOf pool9 8 #[] #[{ accessFlags := 2, nameIndex := 5, descriptorIndex := 33, attributes := #[] }, { accessFlags := 9, nameIndex := 85, descriptorIndex := 86, attributes := #[] }, { accessFlags := 9, nameIndex := 128, descriptorIndex := 86, attributes := #[] }, { accessFlags := 10, nameIndex := 81, descriptorIndex := 82, attributes := #[] }, { accessFlags := 10, nameIndex := 67, descriptorIndex := 68, attributes := #[] }, { accessFlags := 1, nameIndex := 129, descriptorIndex := 105, attributes := #[] }] 49 2 #[] #[{ accessFlags := 25, nameIndex := 113, descriptorIndex := 114, attributes := #[] }, { accessFlags := 25, nameIndex := 117, descriptorIndex := 12, attributes := #[] }, { accessFlags := 26, nameIndex := 120, descriptorIndex := 121, attributes := #[] }, { accessFlags := 26, nameIndex := 123, descriptorIndex := 121, attributes := #[] }, { accessFlags := 18, nameIndex := 11, descriptorIndex := 12, attributes := #[] }])
  fields := #[{ name := "MAX_LENGTH", type := .int, accessFlags := 25, slot := 0, constantValue := 0 }, { name := "HEADER", type := (.object "java/lang/String"), accessFlags := 25, slot := 1, constantValue := 0 }, { name := "FIRST_ALLOWED", type := .char, accessFlags := 26, slot := 2, constantValue := 0 }, { name := "LAST_ALLOWED", type := .char, accessFlags := 26, slot := 3, constantValue := 0 }, { name := "mValue", type := (.object "java/lang/String"), accessFlags := 18, slot := 0, constantValue := 0 }]
  methods := #[k9m0, k9m1, k9m2, k9m3, k9m4, k9m5]
  instanceTypes := #[(.object "java/lang/String")]
  staticTypes := #[.int, (.object "java/lang/String"), .char, .char]
  resolved := Array.replicate 147 none
  statics := none }

def pool10 : Array CpInfo := pool [(2, .class_ 4), (1, u "java/lang/Object"), (0, u "<init>"), (0, u "()V"), (35, .class_ 44), (1, u "java/util/Objects"), (0, u "requireNonNull"), (48, u "(Ljava/lang/Object;Ljava/lang/String;)Ljava/lang/Object;")] 89

def k10m0 : Method := { name := "<init>", desc := "()V", sig := { parameters := [], returnType := none }, accessFlags := 2, code := none }
def k10c1 : Code := { maxStack := 3, maxLocals := 2, code := jdk_31_method_11_code, exceptionTable := #[], attributes := #[] }
def k10m1 : Method := { name := "requireNonNull", desc := "(Ljava/lang/Object;Ljava/lang/String;)Ljava/lang/Object;", sig := { parameters := [(.object "java/lang/Object"), (.object "java/lang/String")], returnType := some (.object "java/lang/Object") }, accessFlags := 9, code := some k10c1 }
/-- java/util/Objects -/
def k10 : Class := { plain "java/util/Objects" (some 0) with
  accessFlags := 49
  interfaces := #[]
  cf := some (fileOf pool10 42 #[] #[{ accessFlags := 2, nameIndex := 5, descriptorIndex := 6, attributes := #[] }, { accessFlags := 9, nameIndex := 45, descriptorIndex := 94, attributes := #[] }] 49 2 #[] #[])
  fields := #[]
  methods := #[k10m0, k10m1]
  instanceTypes := #[]
  staticTypes := #[]
  resolved := Array.replicate 184 none
  statics := none }

def pool11 : Array CpInfo := pool [(1, .class_ 2), (0, u "java/lang/String"), (1, .class_ 6), (1, u "java/lang/Object"), (0, u "<init>"), (0, u "()V"), (0, .methodref 1 10), (0, .nameAndType 11 12), (0, u "checkIndex"), (0, u "(II)V"), (1, .class_ 16), (1, u "java/lang/StringLatin1"), (36, u "([BI)C"), (36, u "canEncode"), (14, u "(C)Z"), (6, .methodref 1 113), (0, .nameAndType 7 114), (0, u "([BB)V"), (6, u "$assertionsDisabled"), (0, u "Z"), (8, .class_ 133), (1, u "java/util/Arrays"), (62, u "newString"), (0, u "([BII)Ljava/lang/String;"), (23, .class_ 223), (1, u "java/lang/StringLatin1$LinesSpliterator"), (8, .methodref 131 233), (0, .nameAndType 234 235), (0, u "copyOfRange"), (0, u "([BII)[B"), (16, u "charAt"), (137, .class_ 391), (0, u "java/lang/StringLatin1$CharsSpliterator")] 3

def k11m0 : Method := { name := "<init>", desc := "()V", sig := { parameters := [], returnType := none }, accessFlags := 0, code := none }
def k11c1 : Code := { maxStack := 2, maxLocals := 2, code := jdk_43_method_2_code, exceptionTable := #[], attributes := #[] }
def k11m1 : Method := { name := "charAt", desc := "([BI)C", sig := { parameters := [(.array .byte), .int], returnType := some .char }, accessFlags := 9, code := some k11c1 }
def k11c2 : Code := { maxStack := 2, maxLocals := 1, code := jdk_43_method_3_code, exceptionTable := #[], attributes := #[] }
def k11m2 : Method := { name := "canEncode", desc := "(C)Z", sig := { parameters := [.char], returnType := some .boolean }, accessFlags := 9, code := some k11c2 }
def k11c3 : Code := { maxStack := 6, maxLocals := 3, code := jdk_43_method_47_code, exceptionTable := #[], attributes := #[] }
def k11m3 : Method := { name := "newString", desc := "([BII)Ljava/lang/String;", sig := { parameters := [(.array .byte), .int, .int], returnType := some (.object "java/lang/String") }, accessFlags := 9, code := some k11c3 }
/-- java/lang/StringLatin1 -/
def k11 : Class := { plain "java/lang/StringLatin1" (some 0) with
  accessFlags := 48
  interfaces := #[]
  cf := some (fileOf pool11 14 #[.nestMembers #[390, 221]] #[{ accessFlags := 0, nameIndex := 7, descriptorIndex := 8, attributes := #[] }, { accessFlags := 9, nameIndex := 252, descriptorIndex := 53, attributes := #[] }, { accessFlags := 9, nameIndex := 90, descriptorIndex := 105, attributes := #[] }, { accessFlags := 9, nameIndex := 196, descriptorIndex := 197, attributes := #[] }] 48 4 #[] #[{ accessFlags := 4120, nameIndex := 121, descriptorIndex := 122, attributes := #[] }])
  fields := #[{ name := "$assertionsDisabled", type := .boolean, accessFlags := 4120, slot := 0, constantValue := 0 }]
  methods := #[k11m0, k11m1, k11m2, k11m3]
  instanceTypes := #[]
  staticTypes := #[.boolean]
  resolved := Array.replicate 395 none
  statics := none }

def pool12 : Array CpInfo := pool [(2, .class_ 4), (1, u "java/lang/Object"), (0, u "<init>"), (0, u "()V"), (17, .class_ 26), (1, u "jdk/internal/util/Preconditions"), (6, u "checkIndex"), (13, u "checkFromToIndex"), (7, .class_ 56), (0, u "jdk/internal/util/Preconditions$4"), (57, .class_ 115), (0, u "jdk/internal/util/Preconditions$1"), (7, u "SIOOBE_FORMATTER"), (0, u "Ljava/util/function/BiFunction;"), (0, .class_ 126), (0, u "jdk/internal/util/Preconditions$2"), (3, u "AIOOBE_FORMATTER"), (0, .class_ 132), (0, u "jdk/internal/util/Preconditions$3"), (3, u "IOOBE_FORMATTER"), (41, u "(IILjava/util/function/BiFunction;)I"), (4, u "(IIILjava/util/function/BiFunction;)I")] 10

def k12m0 : Method := { name := "<init>", desc := "()V", sig := { parameters := [], returnType := none }, accessFlags := 1, code := none }
def k12c1 : Code := { maxStack := 3, maxLocals := 3, code := jdk_41_method_11_code, exceptionTable := #[], attributes := #[] }
def k12m1 : Method := { name := "checkIndex", desc := "(IILjava/util/function/BiFunction;)I", sig := { parameters := [.int, .int, (.object "java/util/function/BiFunction")], returnType := some .int }, accessFlags := 9, code := some k12c1 }
def k12c2 : Code := { maxStack := 4, maxLocals := 4, code := jdk_41_method_12_code, exceptionTable := #[], attributes := #[] }
def k12m2 : Method := { name := "checkFromToIndex", desc := "(IIILjava/util/function/BiFunction;)I", sig := { parameters := [.int, .int, .int, (.object "java/util/function/BiFunction")], returnType := some .int }, accessFlags := 9, code := some k12c2 }
/-- jdk/internal/util/Preconditions -/
def k12 : Class := { plain "jdk/internal/util/Preconditions" (some 0) with
  accessFlags := 33
  interfaces := #[]
  cf := some (fileOf pool12 24 #[.nestMembers #[55, 131, 125, 114]] #[{ accessFlags := 1, nameIndex := 5, descriptorIndex := 6, attributes := #[] }, { accessFlags := 9, nameIndex := 33, descriptorIndex := 178, attributes := #[] }, { accessFlags := 9, nameIndex := 47, descriptorIndex := 183, attributes := #[] }] 33 2 #[] #[{ accessFlags := 25, nameIndex := 123, descriptorIndex := 124, attributes := #[] }, { accessFlags := 25, nameIndex := 130, descriptorIndex := 124, attributes := #[] }, { accessFlags := 25, nameIndex := 136, descriptorIndex := 124, attributes := #[] }])
  fields := #[{ name := "SIOOBE_FORMATTER", type := (.object "java/util/function/BiFunction"), accessFlags := 25, slot := 0, constantValue := 0 }, { name := "AIOOBE_FORMATTER", type := (.object "java/util/function/BiFunction"), accessFlags := 25, slot := 1, constantValue := 0 }, { name := "IOOBE_FORMATTER", type := (.object "java/util/function/BiFunction"), accessFlags := 25, slot := 2, constantValue := 0 }]
  methods := #[k12m0, k12m1, k12m2]
  instanceTypes := #[]
  staticTypes := #[(.object "java/util/function/BiFunction"), (.object "java/util/function/BiFunction"), (.object "java/util/function/BiFunction")]
  resolved := Array.replicate 194 none
  statics := some 1 }

def pool13 : Array CpInfo := pool [(2, .class_ 4), (1, u "java/lang/Object"), (0, u "<init>"), (0, u "()V"), (7, .class_ 16), (1, u "java/util/Arrays"), (57, .class_ 76), (1, u "java/util/Arrays$NaturalOrder"), (36, .class_ 115), (1, u "java/util/Arrays$LegacyMergeSort"), (1, u "Z"), (21, u "copyOfRange"), (10, .methodref 151 152), (0, .class_ 153), (0, .nameAndType 154 155), (0, u "java/lang/System"), (0, u "arraycopy"), (0, u "(Ljava/lang/Object;ILjava/lang/Object;II)V"), (148, .methodref 305 306), (0, .class_ 307), (0, .nameAndType 308 309), (0, u "java/lang/Math"), (0, u "min"), (0, u "(II)I"), (29, .methodref 14 340), (0, .nameAndType 341 342), (0, u "copyOfRangeByte"), (0, u "([BII)[B"), (0, .methodref 14 344), (0, .nameAndType 345 346), (0, u "checkLength"), (0, u "(II)V"), (28, .class_ 376), (0, u "java/util/Arrays$ArrayList"), (68, u "$assertionsDisabled"), (269, u "MIN_ARRAY_SORT_GRAN"), (0, u "I"), (2, u "INSERTIONSORT_THRESHOLD"), (255, .class_ 976), (0, u "java/util/Arrays$ArrayItr")] 52

def k13m0 : Method := { name := "<init>", desc := "()V", sig := { parameters := [], returnType := none }, accessFlags := 2, code := none }
def k13c1 : Code := { maxStack := 4, maxLocals := 2, code := jdk_65_method_131_code, exceptionTable := #[], attributes := #[] }
def k13m1 : Method := { name := "checkLength", desc := "(II)V", sig := { parameters := [.int, .int], returnType := none }, accessFlags := 10, code := some k13c1 }
def k13c2 : Code := { maxStack := 3, maxLocals := 3, code := jdk_65_method_132_code, exceptionTable := #[], attributes := #[] }
def k13m2 : Method := { name := "copyOfRange", desc := "([BII)[B", sig := { parameters := [(.array .byte), .int, .int], returnType := some (.array .byte) }, accessFlags := 9, code := some k13c2 }
def k13c3 : Code := { maxStack := 6, maxLocals := 5, code := jdk_65_method_133_code, exceptionTable := #[], attributes := #[] }
def k13m3 : Method := { name := "copyOfRangeByte", desc := "([BII)[B", sig := { parameters := [(.array .byte), .int, .int], returnType := some (.array .byte) }, accessFlags := 10, code := some k13c3 }
/-- java/util/Arrays -/
def k13 : Class := { plain "java/util/Arrays" (some 0) with
  accessFlags := 49
  interfaces := #[]
  cf := some (fileOf pool13 14 #[.nestMembers #[975, 375, 113, 74]] #[{ accessFlags := 2, nameIndex := 5, descriptorIndex := 6, attributes := #[] }, { accessFlags := 10, nameIndex := 345, descriptorIndex := 346, attributes := #[] }, { accessFlags := 9, nameIndex := 139, descriptorIndex := 342, attributes := #[] }, { accessFlags := 10, nameIndex := 341, descriptorIndex := 342, attributes := #[] }] 49 2 #[] #[{ accessFlags := 26, nameIndex := 715, descriptorIndex := 716, attributes := #[] }, { accessFlags := 26, nameIndex := 719, descriptorIndex := 716, attributes := #[] }, { accessFlags := 4120, nameIndex := 445, descriptorIndex := 117, attributes := #[] }])
  fields := #[{ name := "MIN_ARRAY_SORT_GRAN", type := .int, accessFlags := 26, slot := 0, constantValue := 0 }, { name := "INSERTIONSORT_THRESHOLD", type := .int, accessFlags := 26, slot := 1, constantValue := 0 }, { name := "$assertionsDisabled", type := .boolean, accessFlags := 4120, slot := 2, constantValue := 0 }]
  methods := #[k13m0, k13m1, k13m2, k13m3]
  instanceTypes := #[]
  staticTypes := #[.int, .int, .boolean]
  resolved := Array.replicate 1029 none
  statics := none }

def pool14 : Array CpInfo := pool [(1, .class_ 2), (0, u "java/lang/Math"), (1, .class_ 6), (1, u "java/lang/Object"), (0, u "<init>"), (0, u "()V"), (89, .class_ 100), (1, u "java/lang/Math$RandomNumberGeneratorHolder"), (71, u "negativeZeroFloatBits"), (0, u "J"), (2, u "negativeZeroDoubleBits"), (24, u "min"), (43, u "$assertionsDisabled"), (0, u "Z"), (88, u "(II)I"), (2, u "twoToTheDoubleScaleDown"), (0, u "D"), (4, u "twoToTheDoubleScaleUp"), (9, u "E"), (3, u "PI"), (2, u "TAU"), (2, u "DEGREES_TO_RADIANS"), (0, u "RADIANS_TO_DEGREES")] 94

def k14m0 : Method := { name := "<init>", desc := "()V", sig := { parameters := [], returnType := none }, accessFlags := 2, code := none }
def k14c1 : Code := { maxStack := 2, maxLocals := 2, code := jdk_29_method_69_code, exceptionTable := #[], attributes := #[] }
def k14m1 : Method := { name := "min", desc := "(II)I", sig := { parameters := [.int, .int], returnType := some .int }, accessFlags := 9, code := some k14c1 }
/-- java/lang/Math -/
def k14 : Class := { plain "java/lang/Math" (some 0) with
  accessFlags := 49
  interfaces := #[]
  cf := some (fileOf pool14 1 #[.nestMembers #[98]] #[{ accessFlags := 2, nameIndex := 7, descriptorIndex := 8, attributes := #[] }, { accessFlags := 9, nameIndex := 201, descriptorIndex := 335, attributes := #[] }] 49 4 #[] #[{ accessFlags := 25, nameIndex := 354, descriptorIndex := 339, attributes := #[] }, { accessFlags := 25, nameIndex := 358, descriptorIndex := 339, attributes := #[] }, { accessFlags := 25, nameIndex := 361, descriptorIndex := 339, attributes := #[] }, { accessFlags := 26, nameIndex := 364, descriptorIndex := 339, attributes := #[] }, { accessFlags := 26, nameIndex := 365, descriptorIndex := 339, attributes := #[] }, { accessFlags := 26, nameIndex := 172, descriptorIndex := 173, attributes := #[] }, { accessFlags := 26, nameIndex := 176, descriptorIndex := 173, attributes := #[] }, { accessFlags := 8, nameIndex := 344, descriptorIndex := 339, attributes := #[] }, { accessFlags := 8, nameIndex := 338, descriptorIndex := 339, attributes := #[] }, { accessFlags := 4120, nameIndex := 245, descriptorIndex := 246, attributes := #[] }])
  fields := #[{ name := "E", type := .double, accessFlags := 25, slot := 0, constantValue := 0 }, { name := "PI", type := .double, accessFlags := 25, slot := 1, constantValue := 0 }, { name := "TAU", type := .double, accessFlags := 25, slot := 2, constantValue := 0 }, { name := "DEGREES_TO_RADIANS", type := .double, accessFlags := 26, slot := 3, constantValue := 0 }, { name := "RADIANS_TO_DEGREES", type := .double, accessFlags := 26, slot := 4, constantValue := 0 }, { name := "negativeZeroFloatBits", type := .long, accessFlags := 26, slot := 5, constantValue := 0 }, { name := "negativeZeroDoubleBits", type := .long, accessFlags := 26, slot := 6, constantValue := 0 }, { name := "twoToTheDoubleScaleUp", type := .double, accessFlags := 8, slot := 7, constantValue := 0 }, { name := "twoToTheDoubleScaleDown", type := .double, accessFlags := 8, slot := 8, constantValue := 0 }, { name := "$assertionsDisabled", type := .boolean, accessFlags := 4120, slot := 9, constantValue := 0 }]
  methods := #[k14m0, k14m1]
  instanceTypes := #[]
  staticTypes := #[.double, .double, .double, .double, .double, .long, .long, .double, .double, .boolean]
  resolved := Array.replicate 460 none
  statics := none }

def pool15 : Array CpInfo := pool [(2, .class_ 4), (1, u "java/lang/Object"), (0, u "<init>"), (0, u "()V"), (1, .class_ 10), (1, u "java/lang/System"), (0, u "allowSecurityManager"), (0, u "I"), (16, u "cons"), (0, u "Ljava/io/Console;"), (77, .class_ 110), (1, u "java/lang/System$CallersHolder"), (43, u "initialErrStream"), (0, u "Ljava/io/PrintStream;"), (19, u "security"), (0, u "Ljava/lang/SecurityManager;"), (31, .class_ 209), (0, u "java/lang/System$1"), (7, u "props"), (0, u "Ljava/util/Properties;"), (2, u "lineSeparator"), (0, u "Ljava/lang/String;"), (96, .class_ 321), (1, u "java/lang/System$LoggerFinder"), (5, .class_ 328), (0, u "java/lang/System$Logger"), (67, u "err"), (2, u "out"), (91, u "notSupportedJnuEncoding"), (15, u "in"), (17, u "initialIn"), (0, u "Ljava/io/InputStream;"), (35, u "bootLayer"), (0, u "Ljava/lang/ModuleLayer;"), (99, .class_ 664), (0, u "java/lang/System$2"), (9, u "NEVER"), (2, u "MAYBE"), (49, u "arraycopy"), (0, u "(Ljava/lang/Object;ILjava/lang/Object;II)V"), (72, .class_ 802), (0, u "java/lang/System$Logger$Level")] 31

def k15m0 : Method := { name := "<init>", desc := "()V", sig := { parameters := [], returnType := none }, accessFlags := 2, code := none }
def k15m1 : Method := { name := "arraycopy", desc := "(Ljava/lang/Object;ILjava/lang/Object;II)V", sig := { parameters := [(.object "java/lang/Object"), .int, (.object "java/lang/Object"), .int, .int], returnType := none }, accessFlags := 265, code := none }
/-- java/lang/System -/
def k15 : Class := { plain "java/lang/System" (some 0) with
  accessFlags := 49
  interfaces := #[]
  cf := some (fileOf pool15 8 #[.nestMembers #[319, 327, 801, 108, 663, 208]] #[{ accessFlags := 2, nameIndex := 5, descriptorIndex := 6, attributes := #[] }, { accessFlags := 265, nameIndex := 727, descriptorIndex := 728, attributes := #[] }] 49 2 #[] #[{ accessFlags := 25, nameIndex := 507, descriptorIndex := 526, attributes := #[] }, { accessFlags := 25, nameIndex := 399, descriptorIndex := 155, attributes := #[] }, { accessFlags := 25, nameIndex := 396, descriptorIndex := 155, attributes := #[] }, { accessFlags := 10, nameIndex := 525, descriptorIndex := 526, attributes := #[] }, { accessFlags := 26, nameIndex := 674, descriptorIndex := 12, attributes := #[] }, { accessFlags := 26, nameIndex := 677, descriptorIndex := 12, attributes := #[] }, { accessFlags := 10, nameIndex := 11, descriptorIndex := 12, attributes := #[] }, { accessFlags := 74, nameIndex := 175, descriptorIndex := 176, attributes := #[] }, { accessFlags := 10, nameIndex := 491, descriptorIndex := 222, attributes := #[] }, { accessFlags := 74, nameIndex := 29, descriptorIndex := 30, attributes := #[] }, { accessFlags := 74, nameIndex := 154, descriptorIndex := 155, attributes := #[] }, { accessFlags := 10, nameIndex := 217, descriptorIndex := 218, attributes := #[] }, { accessFlags := 10, nameIndex := 221, descriptorIndex := 222, attributes := #[] }, { accessFlags := 8, nameIndex := 562, descriptorIndex := 563, attributes := #[] }])
  fields := #[{ name := "in", type := (.object "java/io/InputStream"), accessFlags := 25, slot := 0, constantValue := 0 }, { name := "out", type := (.object "java/io/PrintStream"), accessFlags := 25, slot := 1, constantValue := 0 }, { name := "err", type := (.object "java/io/PrintStream"), accessFlags := 25, slot := 2, constantValue := 0 }, { name := "initialIn", type := (.object "java/io/InputStream"), accessFlags := 10, slot := 3, constantValue := 0 }, { name := "NEVER", type := .int, accessFlags := 26, slot := 4, constantValue := 0 }, { name := "MAYBE", type := .int, accessFlags := 26, slot := 5, constantValue := 0 }, { name := "allowSecurityManager", type := .int, accessFlags := 10, slot := 6, constantValue := 0 }, { name := "security", type := (.object "java/lang/SecurityManager"), accessFlags := 74, slot := 7, constantValue := 0 }, { name := "notSupportedJnuEncoding", type := (.object "java/lang/String"), accessFlags := 10, slot := 8, constantValue := 0 }, { name := "cons", type := (.object "java/io/Console"), accessFlags := 74, slot := 9, constantValue := 0 }, { name := "initialErrStream", type := (.object "java/io/PrintStream"), accessFlags := 74, slot := 10, constantValue := 0 }, { name := "props", type := (.object "java/util/Properties"), accessFlags := 10, slot := 11, constantValue := 0 }, { name := "lineSeparator", type := (.object "java/lang/String"), accessFlags := 10, slot := 12, constantValue := 0 }, { name := "bootLayer", type := (.object "java/lang/ModuleLayer"), accessFlags := 8, slot := 13, constantValue := 0 }]
  methods := #[k15m0, k15m1]
  instanceTypes := #[]
  staticTypes := #[(.object "java/io/InputStream"), (.object "java/io/PrintStream"), (.object "java/io/PrintStream"), (.object "java/io/InputStream"), .int, .int, .int, (.object "java/lang/SecurityManager"), (.object "java/lang/String"), (.object "java/io/Console"), (.object "java/io/PrintStream"), (.object "java/util/Properties"), (.object "java/lang/String"), (.object "java/lang/ModuleLayer")]
  resolved := Array.replicate 834 none
  statics := none }

def pool16 : Array CpInfo := pool [(9, u "<init>"), (6, .class_ 18), (1, u "java/lang/Object"), (0, u "()V"), (1, .class_ 23), (1, u "jdk/internal/util/ArraysSupport"), (0, u "LOG2_ARRAY_LONG_INDEX_SCALE"), (0, u "I"), (2, u "U"), (0, u "Ljdk/internal/misc/Unsafe;"), (8, u "BIG_ENDIAN"), (0, u "Z"), (8, u "LOG2_BYTE_BIT_SIZE"), (4, u "LOG2_ARRAY_INT_INDEX_SCALE"), (54, u "JLA"), (0, u "Ljdk/internal/access/JavaLangAccess;"), (11, u "LOG2_ARRAY_BOOLEAN_INDEX_SCALE"), (9, u "LOG2_ARRAY_BYTE_INDEX_SCALE"), (5, u "LOG2_ARRAY_CHAR_INDEX_SCALE"), (5, u "LOG2_ARRAY_SHORT_INDEX_SCALE"), (5, u "mismatch"), (12, u "LOG2_ARRAY_FLOAT_INDEX_SCALE"), (24, u "LOG2_ARRAY_DOUBLE_INDEX_SCALE"), (89, u "T_BOOLEAN"), (2, u "T_CHAR"), (1, u "T_FLOAT"), (1, u "T_DOUBLE"), (1, u "T_BYTE"), (1, u "T_SHORT"), (1, u "T_INT"), (1, u "T_LONG"), (1, u "SOFT_MAX_ARRAY_LENGTH"), (42, u "([BI[BII)I")] 40

def k16m0 : Method := { name := "<init>", desc := "()V", sig := { parameters := [], returnType := none }, accessFlags := 2, code := none }
def k16c1 : Code := { maxStack := 8, maxLocals := 8, code := jdk_48_method_14_code, exceptionTable := #[], attributes := #[] }
def k16m1 : Method := { name := "mismatch", desc := "([BI[BII)I", sig := { parameters := [(.array .byte), .int, (.array .byte), .int, .int], returnType := some .int }, accessFlags := 9, code := some k16c1 }
/-- jdk/internal/util/ArraysSupport -/
def k16 : Class := { plain "jdk/internal/util/ArraysSupport" (some 0) with
  accessFlags := 33
  interfaces := #[]
  cf := some (fileOf pool16 21 #[] #[{ accessFlags := 2, nameIndex := 9, descriptorIndex := 19, attributes := #[] }, { accessFlags := 9, nameIndex := 149, descriptorIndex := 337, attributes := #[] }] 33 16 #[] #[{ accessFlags := 24, nameIndex := 28, descriptorIndex := 29, attributes := #[] }, { accessFlags := 26, nameIndex := 38, descriptorIndex := 39, attributes := #[] }, { accessFlags := 25, nameIndex := 121, descriptorIndex := 25, attributes := #[] }, { accessFlags := 25, nameIndex := 131, descriptorIndex := 25, attributes := #[] }, { accessFlags := 25, nameIndex := 137, descriptorIndex := 25, attributes := #[] }, { accessFlags := 25, nameIndex := 143, descriptorIndex := 25, attributes := #[] }, { accessFlags := 25, nameIndex := 53, descriptorIndex := 25, attributes := #[] }, { accessFlags := 25, nameIndex := 24, descriptorIndex := 25, attributes := #[] }, { accessFlags := 25, nameIndex := 162, descriptorIndex := 25, attributes := #[] }, { accessFlags := 25, nameIndex := 187, descriptorIndex := 25, attributes := #[] }, { accessFlags := 26, nameIndex := 48, descriptorIndex := 25, attributes := #[] }, { accessFlags := 25, nameIndex := 277, descriptorIndex := 25, attributes := #[] }, { accessFlags := 25, nameIndex := 280, descriptorIndex := 25, attributes := #[] }, { accessFlags := 25, nameIndex := 282, descriptorIndex := 25, attributes := #[] }, { accessFlags := 25, nameIndex := 284, descriptorIndex := 25, attributes := #[] }, { accessFlags := 25, nameIndex := 286, descriptorIndex := 25, attributes := #[] }, { accessFlags := 25, nameIndex := 288, descriptorIndex := 25, attributes := #[] }, { accessFlags := 25, nameIndex := 290, descriptorIndex := 25, attributes := #[] }, { accessFlags := 25, nameIndex := 292, descriptorIndex := 25, attributes := #[] }, { accessFlags := 26, nameIndex := 108, descriptorIndex := 109, attributes := #[] }, { accessFlags := 25, nameIndex := 294, descriptorIndex := 25, attributes := #[] }])
  fields := #[{ name := "U", type := (.object "jdk/internal/misc/Unsafe"), accessFlags := 24, slot := 0, constantValue := 0 }, { name := "BIG_ENDIAN", type := .boolean, accessFlags := 26, slot := 1, constantValue := 0 }, { name := "LOG2_ARRAY_BOOLEAN_INDEX_SCALE", type := .int, accessFlags := 25, slot := 2, constantValue := 0 }, { name := "LOG2_ARRAY_BYTE_INDEX_SCALE", type := .int, accessFlags := 25, slot := 3, constantValue := 0 }, { name := "LOG2_ARRAY_CHAR_INDEX_SCALE", type := .int, accessFlags := 25, slot := 4, constantValue := 0 }, { name := "LOG2_ARRAY_SHORT_INDEX_SCALE", type := .int, accessFlags := 25, slot := 5, constantValue := 0 }, { name := "LOG2_ARRAY_INT_INDEX_SCALE", type := .int, accessFlags := 25, slot := 6, constantValue := 0 }, { name := "LOG2_ARRAY_LONG_INDEX_SCALE", type := .int, accessFlags := 25, slot := 7, constantValue := 0 }, { name := "LOG2_ARRAY_FLOAT_INDEX_SCALE", type := .int, accessFlags := 25, slot := 8, constantValue := 0 }, { name := "LOG2_ARRAY_DOUBLE_INDEX_SCALE", type := .int, accessFlags := 25, slot := 9, constantValue := 0 }, { name := "LOG2_BYTE_BIT_SIZE", type := .int, accessFlags := 26, slot := 10, constantValue := 0 }, { name := "T_BOOLEAN", type := .int, accessFlags := 25, slot := 11, constantValue := 0 }, { name := "T_CHAR", type := .int, accessFlags := 25, slot := 12, constantValue := 0 }, { name := "T_FLOAT", type := .int, accessFlags := 25, slot := 13, constantValue := 0 }, { name := "T_DOUBLE", type := .int, accessFlags := 25, slot := 14, constantValue := 0 }, { name := "T_BYTE", type := .int, accessFlags := 25, slot := 15, constantValue := 0 }, { name := "T_SHORT", type := .int, accessFlags := 25, slot := 16, constantValue := 0 }, { name := "T_INT", type := .int, accessFlags := 25, slot := 17, constantValue := 0 }, { name := "T_LONG", type := .int, accessFlags := 25, slot := 18, constantValue := 0 }, { name := "JLA", type := (.object "jdk/internal/access/JavaLangAccess"), accessFlags := 26, slot := 19, constantValue := 0 }, { name := "SOFT_MAX_ARRAY_LENGTH", type := .int, accessFlags := 25, slot := 20, constantValue := 0 }]
  methods := #[k16m0, k16m1]
  instanceTypes := #[]
  staticTypes := #[(.object "jdk/internal/misc/Unsafe"), .boolean, .int, .int, .int, .int, .int, .int, .int, .int, .int, .int, .int, .int, .int, .int, .int, .int, .int, (.object "jdk/internal/access/JavaLangAccess"), .int]
  resolved := Array.replicate 378 none
  statics := none }

def pool17 : Array CpInfo := pool [(1, .class_ 2), (0, u "java/lang/Appendable"), (0, .class_ 4), (0, u "java/lang/Object")] 9

/-- java/lang/Appendable -/
def k17 : Class := { plain "java/lang/Appendable" (some 0) with
  accessFlags := 1537
  interfaces := #[]
  cf := some (fileOf pool17 1 #[] #[] 1537 3 #[] #[])
  fields := #[]
  methods := #[]
  instanceTypes := #[]
  staticTypes := #[]
  resolved := Array.replicate 14 none
  statics := none }

def pool18 : Array CpInfo := pool [(1, .class_ 2), (0, u "java/lang/String"), (0, .methodref 4 5), (0, .class_ 6), (0, .nameAndType 7 8), (0, u "java/lang/Object"), (0, u "<init>"), (0, u "()V"), (1, .class_ 12), (1, u "java/lang/AbstractStringBuilder"), (0, u "EMPTYVALUE"), (0, u "[B"), (0, .fieldref 10 16), (0, .nameAndType 17 14), (0, u "value"), (0, .fieldref 1 19), (0, .nameAndType 20 21), (0, u "COMPACT_STRINGS"), (0, u "Z"), (0, .fieldref 10 23), (0, .nameAndType 24 25), (0, u "coder"), (0, u "B"), (8, u "length"), (0, u "()I"), (9, u "append"), (2, .class_ 49), (0, u "java/lang/CharSequence"), (25, u "maybeLatin1"), (3, .fieldref 10 80), (0, .nameAndType 81 82), (0, u "count"), (0, u "I"), (0, .methodref 10 84), (0, .nameAndType 85 86), (0, u "isLatin1"), (0, u "()Z"), (1, .class_ 90), (1, u "java/lang/StringLatin1"), (9, .methodref 10 101), (0, .nameAndType 102 103), (0, u "ensureCapacityInternal"), (0, u "(I)V"), (87, .methodref 88 192), (0, .nameAndType 193 194), (0, u "canEncode"), (0, u "(C)Z"), (97, u "(C)Ljava/lang/AbstractStringBuilder;"), (110, u "()[B"), (40, .class_ 445), (0, u "java/lang/Appendable"), (106, u "getValue")] 56

def k18m0 : Method := { name := "<init>", desc := "()V", sig := { parameters := [], returnType := none }, accessFlags := 0, code := none }
def k18c1 : Code := { maxStack := 2, maxLocals := 2, code := jdk_68_method_2_code, exceptionTable := #[], attributes := #[] }
def k18m1 : Method := { name := "<init>", desc := "(I)V", sig := { parameters := [.int], returnType := none }, accessFlags := 0, code := some k18c1 }
def k18c2 : Code := { maxStack := 1, maxLocals := 1, code := jdk_68_method_6_code, exceptionTable := #[], attributes := #[] }
def k18m2 : Method := { name := "length", desc := "()I", sig := { parameters := [], returnType := some .int }, accessFlags := 1, code := some k18c2 }
def k18c3 : Code := { maxStack := 4, maxLocals := 3, code := jdk_68_method_9_code, exceptionTable := #[], attributes := #[] }
def k18m3 : Method := { name := "ensureCapacityInternal", desc := "(I)V", sig := { parameters := [.int], returnType := none }, accessFlags := 2, code := some k18c3 }
def k18c4 : Code := { maxStack := 5, maxLocals := 2, code := jdk_68_method_31_code, exceptionTable := #[], attributes := #[] }
def k18m4 : Method := { name := "append", desc := "(C)Ljava/lang/AbstractStringBuilder;", sig := { parameters := [.char], returnType := some (.object "java/lang/AbstractStringBuilder") }, accessFlags := 1, code := some k18c4 }
def k18c5 : Code := { maxStack := 1, maxLocals := 1, code := jdk_68_method_64_code, exceptionTable := #[], attributes := #[] }
def k18m5 : Method := { name := "getValue", desc := "()[B", sig := { parameters := [], returnType := some (.array .byte) }, accessFlags := 16, code := some k18c5 }
def k18c6 : Code := { maxStack := 1, maxLocals := 1, code := jdk_68_method_68_code, exceptionTable := #[], attributes := #[] }
def k18m6 : Method := { name := "isLatin1", desc := "()Z", sig := { parameters := [], returnType := some .boolean }, accessFlags := 16, code := some k18c6 }
/-- java/lang/AbstractStringBuilder -/
def k18 : Class := { plain "java/lang/AbstractStringBuilder" (some 0) with
  accessFlags := 1056
  interfaces := #[17, 4]
  cf := some (fileOf pool18 10 #[] #[{ accessFlags := 0, nameIndex := 7, descriptorIndex := 8, attributes := #[] }, { accessFlags := 0, nameIndex := 7, descriptorIndex := 103, attributes := #[] }, { accessFlags := 1, nameIndex := 34, descriptorIndex := 35, attributes := #[] }, { accessFlags := 2, nameIndex := 102, descriptorIndex := 103, attributes := #[] }, { accessFlags := 1, nameIndex := 45, descriptorIndex := 292, attributes := #[] }, { accessFlags := 16, nameIndex := 552, descriptorIndex := 403, attributes := #[] }, { accessFlags := 16, nameIndex := 85, descriptorIndex := 86, attributes := #[] }] 1056 4 #[444, 48] #[{ accessFlags := 0, nameIndex := 17, descriptorIndex := 14, attributes := #[] }, { accessFlags := 0, nameIndex := 24, descriptorIndex := 25, attributes := #[] }, { accessFlags := 0, nameIndex := 75, descriptorIndex := 21, attributes := #[] }, { accessFlags := 0, nameIndex := 81, descriptorIndex := 82, attributes := #[] }, { accessFlags := 26, nameIndex := 13, descriptorIndex := 14, attributes := #[] }])
  fields := #[{ name := "value", type := (.array .byte), accessFlags := 0, slot := 0, constantValue := 0 }, { name := "coder", type := .byte, accessFlags := 0, slot := 1, constantValue := 0 }, { name := "maybeLatin1", type := .boolean, accessFlags := 0, slot := 2, constantValue := 0 }, { name := "count", type := .int, accessFlags := 0, slot := 3, constantValue := 0 }, { name := "EMPTYVALUE", type := (.array .byte), accessFlags := 26, slot := 0, constantValue := 0 }]
  methods := #[k18m0, k18m1, k18m2, k18m3, k18m4, k18m5, k18m6]
  instanceTypes := #[(.array .byte), .byte, .boolean, .int]
  staticTypes := #[(.array .byte)]
  resolved := Array.replicate 609 none
  statics := none }

def pool19 : Array CpInfo := pool [(1, .methodref 2 3), (0, .class_ 4), (0, .nameAndType 5 6), (0, u "java/lang/AbstractStringBuilder"), (0, u "<init>"), (0, u "(I)V"), (11, .class_ 20), (1, u "java/lang/String"), (3, .class_ 26), (1, u "java/lang/StringBuilder"), (0, u "append"), (22, .methodref 2 51), (0, .nameAndType 27 52), (0, u "(C)Ljava/lang/AbstractStringBuilder;"), (84, .methodref 18 138), (0, .nameAndType 5 139), (0, u "(Ljava/lang/StringBuilder;)V"), (5, u "()V"), (10, u "()I"), (129, u "(C)Ljava/lang/StringBuilder;"), (56, .methodref 2 344), (0, .nameAndType 345 156), (0, u "length"), (3, .class_ 350), (0, u "java/lang/Appendable"), (0, .class_ 352), (0, u "java/io/Serializable"), (0, .class_ 354), (0, u "java/lang/Comparable"), (0, .class_ 356), (0, u "java/lang/CharSequence"), (0, u "serialVersionUID"), (0, u "J"), (40, u "toString"), (0, u "()Ljava/lang/String;")] 21

def k19m0 : Method := { name := "<init>", desc := "()V", sig := { parameters := [], returnType := none }, accessFlags := 1, code := none }
def k19c1 : Code := { maxStack := 2, maxLocals := 2, code := jdk_67_method_2_code, exceptionTable := #[], attributes := #[] }
def k19m1 : Method := { name := "<init>", desc := "(I)V", sig := { parameters := [.int], returnType := none }, accessFlags := 1, code := some k19c1 }
def k19c2 : Code := { maxStack := 2, maxLocals := 2, code := jdk_67_method_14_code, exceptionTable := #[], attributes := #[] }
def k19m2 : Method := { name := "append", desc := "(C)Ljava/lang/StringBuilder;", sig := { parameters := [.char], returnType := some (.object "java/lang/StringBuilder") }, accessFlags := 1, code := some k19c2 }
def k19c3 : Code := { maxStack := 3, maxLocals := 1, code := jdk_67_method_42_code, exceptionTable := #[], attributes := #[] }
def k19m3 : Method := { name := "toString", desc := "()Ljava/lang/String;", sig := { parameters := [], returnType := some (.object "java/lang/String") }, accessFlags := 1, code := some k19c3 }
def k19c4 : Code := { maxStack := 1, maxLocals := 1, code := jdk_67_method_93_code, exceptionTable := #[], attributes := #[] }
def k19m4 : Method := { name := "length", desc := "()I", sig := { parameters := [], returnType := some .int }, accessFlags := 4161, code := some k19c4 }
/-- java/lang/StringBuilder -/
def k19 : Class := { plain "java/lang/StringBuilder" (some 18) with
  accessFlags := 49
  interfaces := #[17, 2, 3, 4]
  cf := some (fileOf pool19 24 #[] #[{ accessFlags := 1, nameIndex := 5, descriptorIndex := 145, attributes := #[] }, { accessFlags := 1, nameIndex := 5, descriptorIndex := 6, attributes := #[] }, { accessFlags := 1, nameIndex := 27, descriptorIndex := 286, attributes := #[] }, { accessFlags := 1, nameIndex := 399, descriptorIndex := 400, attributes := #[] }, { accessFlags := 4161, nameIndex := 345, descriptorIndex := 156, attributes := #[] }] 49 2 #[349, 351, 353, 355] #[{ accessFlags := 24, nameIndex := 357, descriptorIndex := 358, attributes := #[] }])
  fields := #[{ name := "serialVersionUID", type := .long, accessFlags := 24, slot := 0, constantValue := 0 }]
  methods := #[k19m0, k19m1, k19m2, k19m3, k19m4]
  instanceTypes := #[(.array .byte), .byte, .boolean, .int]
  staticTypes := #[.long]
  resolved := Array.replicate 422 none
  statics := none }

def pool20 : Array CpInfo := pool [(1, u "java/lang/Cloneable"), (0, .class_ 1), (0, u "java/lang/Object"), (0, .class_ 3)] 3

/-- java/lang/Cloneable -/
def k20 : Class := { plain "java/lang/Cloneable" (some 0) with
  accessFlags := 1537
  interfaces := #[]
  cf := some (fileOf pool20 2 #[] #[] 1537 4 #[] #[])
  fields := #[]
  methods := #[]
  instanceTypes := #[]
  staticTypes := #[]
  resolved := Array.replicate 8 none
  statics := none }

/-- the primitive byte -/
def k21 : Class := { plain "byte" none with kind := .primitive 'B', accessFlags := 0x411 }
/-- [B -/
def k22 : Class := { plain "[B" (some 0) with kind := .array 21 .byte, interfaces := #[20, 2], accessFlags := 1041 }

/-- the primitive char -/
def k23 : Class := { plain "char" none with kind := .primitive 'C', accessFlags := 0x411 }
/-- [C -/
def k24 : Class := { plain "[C" (some 0) with kind := .array 23 .char, interfaces := #[20, 2], accessFlags := 1041 }

/-- the primitive int -/
def k25 : Class := { plain "int" none with kind := .primitive 'I', accessFlags := 0x411 }
/-- [I -/
def k26 : Class := { plain "[I" (some 0) with kind := .array 25 .int, interfaces := #[20, 2], accessFlags := 1041 }

def heap : Heap := #[{ cls := 7, slots := #[.long 0, .int 1, .null, .int 0, .null, .int 0, .int 0], vm := .statics 7 },
  { cls := 12, slots := #[.null, .null, .null], vm := .statics 12 }]
def classes : Array Class := #[k0, k1, k2, k3, k4, k5, k6, k7, k8, k9, k10, k11, k12, k13, k14, k15, k16, k17, k18, k19, k20, k21, k22, k23, k24, k25, k26]
def interned : List (Array UInt16 × Addr) := []
def slotsUsed : Nat := 10
def theMethod : MethodId := ⟨1, 6⟩
def args0 : Array Value := #[.int 12345, .int 6789, .int 70001]
def aboutOver (below : List Frame) : State where
  vm := { classes := classes, interned := interned.toArray }
  heap := heap
  slotsUsed := slotsUsed
  threads := #[{ frames := .invoking theMethod args0 :: below }]
def below0 : List Frame := [.native { method := ⟨0, 0⟩, args := #[] }]
def about1 : State := aboutOver below0
def p0 : Program := .bare "" "" ""
def e0 : Env := launch0.env 0 0 0
theorem w_frames : about1.frames = Frame.invoking theMethod args0 :: below0 := rfl
set_option maxRecDepth 65536 in
theorem w_args : argsFit about1.vm theMethod args0 = true := by decide +kernel
set_option maxRecDepth 65536 in
theorem w_heap : heapFits about1 = true := by decide +kernel
set_option maxRecDepth 65536 in
theorem w_runnable : about1.curStatus? = some .runnable := by decide +kernel
set_option maxRecDepth 65536 in
theorem w_alone : about1.alone = true := by decide +kernel
set_option maxRecDepth 65536 in
theorem w_named : about1.methodNamed? x = some theMethod := by decide +kernel
set_option maxRecDepth 65536 in
theorem w_hears : about1.hears theMethod below0 = true := by decide +kernel
set_option maxRecDepth 65536 in
theorem w_ripe : about1.ripe theMethod args0 below0 = true := by decide +kernel
theorem w_running : about1.status = .running := rfl
set_option maxRecDepth 65536 in
theorem w_room : about1.hasRoom e0.platform room_1 = true :=
  launch0.hasRoom_least _ room_1 (by decide +kernel) (by decide +kernel) (by decide +kernel) (by decide +kernel) (by decide +kernel) (by decide +kernel)
theorem allAtoms_all (ts : List Jvm.Cond) (a : Array Jvm.Value) (st : Jvm.State) : (allAtoms ts).before a st = ts.all (fun c => c.before a st) := by
  induction ts with
  | nil => rfl
  | cons c t ih =>
    show (Jvm.Cond.and c (allAtoms t)).before a st = _
    rw [Jvm.Cond.before_and, ih, List.all_cons]
def words1 : List Jvm.Cond := Jvm.Cond.code x code maxLocals ret :: tables_1
/-- a 'code' word, met by the world's own term for the bytes: nothing is compared byte by byte -/
theorem code_word {y : MethodName} {bytes : ByteArray} {mx : Nat} {rt : Option FieldType} {a : Array Value} {s : State} {m : MethodId} {meth : Method} {c : Code} (h1 : s.methodNamed? y = some m) (h2 : s.vm.method? m = some meth) (h3 : meth.code = some c) (h4 : c.code = bytes)
    (h5 : (c.maxLocals == mx && c.exceptionTable.isEmpty && decide (c.maxStack ≤ mostOperands) && decide (meth.sig.returnType = rt) && !meth.locks && decide (parseMethodDescriptor y.desc = some meth.sig)) = true) : (Jvm.Cond.code y bytes mx rt).before a s = true := by
  simp only [Bool.and_eq_true, beq_iff_eq, Bool.not_eq_true', decide_eq_true_eq] at h5
  obtain ⟨⟨⟨⟨⟨g1, g2⟩, g3⟩, g4⟩, g5⟩, g6⟩ := h5
  simp [Cond.before, Cond.holds, Cond.value, h1, h2, h3, h4, g1, g2, g3, g4, g5, g6]
def isCode : Jvm.Cond → Bool
  | .code _ _ _ _ => true
  | _ => false
theorem all_split {L : List Jvm.Cond} {P : Jvm.Cond → Bool} (h1 : L.all (fun c => isCode c || P c) = true) (h2 : ∀ c ∈ L.filter isCode, P c = true) : L.all P = true := by
  refine List.all_eq_true.mpr fun c hc => ?_
  have h := List.all_eq_true.mp h1 c hc
  rcases Bool.eq_false_or_eq_true (isCode c) with hi | hi
  · exact h2 c (List.mem_filter.mpr ⟨hc, hi⟩)
  · simpa [hi] using h
set_option maxRecDepth 65536 in
theorem w_c0 : (Jvm.Cond.code x code maxLocals ret).before args0 about1 = true := code_word (m := ⟨1, 6⟩) (meth := k1m6) (c := k1c6) (by decide +kernel) rfl rfl rfl (by decide +kernel)
set_option maxRecDepth 65536 in
theorem w_c1 : (Jvm.Cond.code ({ cls := "com/example/idemnity/idemnity/IdempotencyKeyFromHeaderPinLaw", name := "draw", desc := "(II)C" } : Jvm.MethodName) method_3_code (2 : Nat) (Option.some Jvm.ClassFile.FieldType.char)).before args0 about1 = true := code_word (m := ⟨1, 2⟩) (meth := k1m2) (c := k1c2) (by decide +kernel) rfl rfl rfl (by decide +kernel)
set_option maxRecDepth 65536 in
theorem w_c2 : (Jvm.Cond.code ({ cls := "com/example/idemnity/idemnity/IdempotencyKeyFromHeaderPinLaw", name := "vis", desc := "(I)C" } : Jvm.MethodName) method_2_code (1 : Nat) (Option.some Jvm.ClassFile.FieldType.char)).before args0 about1 = true := code_word (m := ⟨1, 1⟩) (meth := k1m1) (c := k1c1) (by decide +kernel) rfl rfl rfl (by decide +kernel)
set_option maxRecDepth 65536 in
theorem w_c3 : (Jvm.Cond.code ({ cls := "com/example/idemnity/idemnity/IdempotencyKeyFromHeaderPinLaw", name := "pad", desc := "(II)C" } : Jvm.MethodName) method_4_code (2 : Nat) (Option.some Jvm.ClassFile.FieldType.char)).before args0 about1 = true := code_word (m := ⟨1, 3⟩) (meth := k1m3) (c := k1c3) (by decide +kernel) rfl rfl rfl (by decide +kernel)
set_option maxRecDepth 65536 in
theorem w_c4 : (Jvm.Cond.code ({ cls := "java/lang/String", name := "<init>", desc := "([C)V" } : Jvm.MethodName) jdk_42_method_3_code (2 : Nat) (Option.none : Option Jvm.ClassFile.FieldType)).before args0 about1 = true := code_word (m := ⟨7, 1⟩) (meth := k7m1) (c := k7c1) (by decide +kernel) rfl rfl rfl (by decide +kernel)
set_option maxRecDepth 65536 in
theorem w_c5 : (Jvm.Cond.code ({ cls := "java/lang/String", name := "<init>", desc := "([CIILjava/lang/Void;)V" } : Jvm.MethodName) jdk_42_method_149_code (6 : Nat) (Option.none : Option Jvm.ClassFile.FieldType)).before args0 about1 = true := code_word (m := ⟨7, 9⟩) (meth := k7m9) (c := k7c9) (by decide +kernel) rfl rfl rfl (by decide +kernel)
set_option maxRecDepth 65536 in
theorem w_c6 : (Jvm.Cond.code ({ cls := "java/lang/Object", name := "<init>", desc := "()V" } : Jvm.MethodName) object_method_1_code (1 : Nat) (Option.none : Option Jvm.ClassFile.FieldType)).before args0 about1 = true := code_word (m := ⟨0, 0⟩) (meth := k0m0) (c := k0c0) (by decide +kernel) rfl rfl rfl (by decide +kernel)
set_option maxRecDepth 65536 in
theorem w_c7 : (Jvm.Cond.code ({ cls := "java/lang/StringUTF16", name := "compress", desc := "([CII)[B" } : Jvm.MethodName) jdk_52_method_16_code (6 : Nat) (Option.some (Jvm.ClassFile.FieldType.array Jvm.ClassFile.FieldType.byte))).before args0 about1 = true := code_word (m := ⟨8, 2⟩) (meth := k8m2) (c := k8c2) (by decide +kernel) rfl rfl rfl (by decide +kernel)
set_option maxRecDepth 65536 in
theorem w_c8 : (Jvm.Cond.code ({ cls := "java/lang/StringUTF16", name := "compress", desc := "([CI[BII)I" } : Jvm.MethodName) jdk_52_method_21_code (7 : Nat) (Option.some Jvm.ClassFile.FieldType.int)).before args0 about1 = true := code_word (m := ⟨8, 3⟩) (meth := k8m3) (c := k8c3) (by decide +kernel) rfl rfl rfl (by decide +kernel)
set_option maxRecDepth 65536 in
theorem w_c9 : (Jvm.Cond.code ({ cls := "java/lang/StringUTF16", name := "coderFromArrayLen", desc := "([BI)B" } : Jvm.MethodName) jdk_52_method_15_code (2 : Nat) (Option.some Jvm.ClassFile.FieldType.byte)).before args0 about1 = true := code_word (m := ⟨8, 1⟩) (meth := k8m1) (c := k8c1) (by decide +kernel) rfl rfl rfl (by decide +kernel)
set_option maxRecDepth 65536 in
theorem w_c10 : (Jvm.Cond.code ({ cls := "com/example/idemnity/idemnity/IdempotencyKey", name := "fromHeader", desc := "(Ljava/lang/String;)Lcom/example/idemnity/idemnity/IdempotencyKey;" } : Jvm.MethodName) prog_9_method_3_code (4 : Nat) (Option.some (Jvm.ClassFile.FieldType.object "com/example/idemnity/idemnity/IdempotencyKey"))).before args0 about1 = true := code_word (m := ⟨9, 2⟩) (meth := k9m2) (c := k9c2) (by decide +kernel) rfl rfl rfl (by decide +kernel)
set_option maxRecDepth 65536 in
theorem w_c11 : (Jvm.Cond.code ({ cls := "java/util/Objects", name := "requireNonNull", desc := "(Ljava/lang/Object;Ljava/lang/String;)Ljava/lang/Object;" } : Jvm.MethodName) jdk_31_method_11_code (2 : Nat) (Option.some (Jvm.ClassFile.FieldType.object "java/lang/Object"))).before args0 about1 = true := code_word (m := ⟨10, 1⟩) (meth := k10m1) (c := k10c1) (by decide +kernel) rfl rfl rfl (by decide +kernel)
set_option maxRecDepth 65536 in
theorem w_c12 : (Jvm.Cond.code ({ cls := "java/lang/String", name := "length", desc := "()I" } : Jvm.MethodName) jdk_42_method_54_code (1 : Nat) (Option.some Jvm.ClassFile.FieldType.int)).before args0 about1 = true := code_word (m := ⟨7, 3⟩) (meth := k7m3) (c := k7c3) (by decide +kernel) rfl rfl rfl (by decide +kernel)
set_option maxRecDepth 65536 in
theorem w_c13 : (Jvm.Cond.code ({ cls := "java/lang/String", name := "coder", desc := "()B" } : Jvm.MethodName) jdk_42_method_152_code (1 : Nat) (Option.some Jvm.ClassFile.FieldType.byte)).before args0 about1 = true := code_word (m := ⟨7, 12⟩) (meth := k7m12) (c := k7c12) (by decide +kernel) rfl rfl rfl (by decide +kernel)
set_option maxRecDepth 65536 in
theorem w_c14 : (Jvm.Cond.code ({ cls := "java/lang/String", name := "charAt", desc := "(I)C" } : Jvm.MethodName) jdk_42_method_56_code (2 : Nat) (Option.some Jvm.ClassFile.FieldType.char)).before args0 about1 = true := code_word (m := ⟨7, 5⟩) (meth := k7m5) (c := k7c5) (by decide +kernel) rfl rfl rfl (by decide +kernel)
set_option maxRecDepth 65536 in
theorem w_c15 : (Jvm.Cond.code ({ cls := "java/lang/String", name := "isLatin1", desc := "()Z" } : Jvm.MethodName) jdk_42_method_154_code (1 : Nat) (Option.some Jvm.ClassFile.FieldType.boolean)).before args0 about1 = true := code_word (m := ⟨7, 13⟩) (meth := k7m13) (c := k7c13) (by decide +kernel) rfl rfl rfl (by decide +kernel)
set_option maxRecDepth 65536 in
theorem w_c16 : (Jvm.Cond.code ({ cls := "java/lang/StringLatin1", name := "charAt", desc := "([BI)C" } : Jvm.MethodName) jdk_43_method_2_code (2 : Nat) (Option.some Jvm.ClassFile.FieldType.char)).before args0 about1 = true := code_word (m := ⟨11, 1⟩) (meth := k11m1) (c := k11c1) (by decide +kernel) rfl rfl rfl (by decide +kernel)
set_option maxRecDepth 65536 in
theorem w_c17 : (Jvm.Cond.code ({ cls := "java/lang/String", name := "checkIndex", desc := "(II)V" } : Jvm.MethodName) jdk_42_method_155_code (2 : Nat) (Option.none : Option Jvm.ClassFile.FieldType)).before args0 about1 = true := code_word (m := ⟨7, 14⟩) (meth := k7m14) (c := k7c14) (by decide +kernel) rfl rfl rfl (by decide +kernel)
set_option maxRecDepth 65536 in
theorem w_c18 : (Jvm.Cond.code ({ cls := "jdk/internal/util/Preconditions", name := "checkIndex", desc := "(IILjava/util/function/BiFunction;)I" } : Jvm.MethodName) jdk_41_method_11_code (3 : Nat) (Option.some Jvm.ClassFile.FieldType.int)).before args0 about1 = true := code_word (m := ⟨12, 1⟩) (meth := k12m1) (c := k12c1) (by decide +kernel) rfl rfl rfl (by decide +kernel)
set_option maxRecDepth 65536 in
theorem w_c19 : (Jvm.Cond.code ({ cls := "com/example/idemnity/idemnity/IdempotencyKey", name := "isSpaceOrTab", desc := "(C)Z" } : Jvm.MethodName) prog_9_method_5_code (1 : Nat) (Option.some Jvm.ClassFile.FieldType.boolean)).before args0 about1 = true := code_word (m := ⟨9, 4⟩) (meth := k9m4) (c := k9c4) (by decide +kernel) rfl rfl rfl (by decide +kernel)
set_option maxRecDepth 65536 in
theorem w_c20 : (Jvm.Cond.code ({ cls := "java/lang/String", name := "substring", desc := "(II)Ljava/lang/String;" } : Jvm.MethodName) jdk_42_method_92_code (5 : Nat) (Option.some (Jvm.ClassFile.FieldType.object "java/lang/String"))).before args0 about1 = true := code_word (m := ⟨7, 8⟩) (meth := k7m8) (c := k7c8) (by decide +kernel) rfl rfl rfl (by decide +kernel)
set_option maxRecDepth 65536 in
theorem w_c21 : (Jvm.Cond.code ({ cls := "java/lang/String", name := "checkBoundsBeginEnd", desc := "(III)V" } : Jvm.MethodName) jdk_42_method_158_code (3 : Nat) (Option.none : Option Jvm.ClassFile.FieldType)).before args0 about1 = true := code_word (m := ⟨7, 15⟩) (meth := k7m15) (c := k7c15) (by decide +kernel) rfl rfl rfl (by decide +kernel)
set_option maxRecDepth 65536 in
theorem w_c22 : (Jvm.Cond.code ({ cls := "jdk/internal/util/Preconditions", name := "checkFromToIndex", desc := "(IIILjava/util/function/BiFunction;)I" } : Jvm.MethodName) jdk_41_method_12_code (4 : Nat) (Option.some Jvm.ClassFile.FieldType.int)).before args0 about1 = true := code_word (m := ⟨12, 2⟩) (meth := k12m2) (c := k12c2) (by decide +kernel) rfl rfl rfl (by decide +kernel)
set_option maxRecDepth 65536 in
theorem w_c23 : (Jvm.Cond.code ({ cls := "java/lang/StringLatin1", name := "newString", desc := "([BII)Ljava/lang/String;" } : Jvm.MethodName) jdk_43_method_47_code (3 : Nat) (Option.some (Jvm.ClassFile.FieldType.object "java/lang/String"))).before args0 about1 = true := code_word (m := ⟨11, 3⟩) (meth := k11m3) (c := k11c3) (by decide +kernel) rfl rfl rfl (by decide +kernel)
set_option maxRecDepth 65536 in
theorem w_c24 : (Jvm.Cond.code ({ cls := "java/util/Arrays", name := "copyOfRange", desc := "([BII)[B" } : Jvm.MethodName) jdk_65_method_132_code (3 : Nat) (Option.some (Jvm.ClassFile.FieldType.array Jvm.ClassFile.FieldType.byte))).before args0 about1 = true := code_word (m := ⟨13, 2⟩) (meth := k13m2) (c := k13c2) (by decide +kernel) rfl rfl rfl (by decide +kernel)
set_option maxRecDepth 65536 in
theorem w_c25 : (Jvm.Cond.code ({ cls := "java/util/Arrays", name := "copyOfRangeByte", desc := "([BII)[B" } : Jvm.MethodName) jdk_65_method_133_code (5 : Nat) (Option.some (Jvm.ClassFile.FieldType.array Jvm.ClassFile.FieldType.byte))).before args0 about1 = true := code_word (m := ⟨13, 3⟩) (meth := k13m3) (c := k13c3) (by decide +kernel) rfl rfl rfl (by decide +kernel)
set_option maxRecDepth 65536 in
theorem w_c26 : (Jvm.Cond.code ({ cls := "java/util/Arrays", name := "checkLength", desc := "(II)V" } : Jvm.MethodName) jdk_65_method_131_code (2 : Nat) (Option.none : Option Jvm.ClassFile.FieldType)).before args0 about1 = true := code_word (m := ⟨13, 1⟩) (meth := k13m1) (c := k13c1) (by decide +kernel) rfl rfl rfl (by decide +kernel)
set_option maxRecDepth 65536 in
theorem w_c27 : (Jvm.Cond.code ({ cls := "java/lang/Math", name := "min", desc := "(II)I" } : Jvm.MethodName) jdk_29_method_69_code (2 : Nat) (Option.some Jvm.ClassFile.FieldType.int)).before args0 about1 = true := code_word (m := ⟨14, 1⟩) (meth := k14m1) (c := k14c1) (by decide +kernel) rfl rfl rfl (by decide +kernel)
set_option maxRecDepth 65536 in
theorem w_c28 : (Jvm.Cond.code ({ cls := "java/lang/String", name := "<init>", desc := "([BB)V" } : Jvm.MethodName) jdk_42_method_151_code (3 : Nat) (Option.none : Option Jvm.ClassFile.FieldType)).before args0 about1 = true := code_word (m := ⟨7, 11⟩) (meth := k7m11) (c := k7c11) (by decide +kernel) rfl rfl rfl (by decide +kernel)
set_option maxRecDepth 65536 in
theorem w_c29 : (Jvm.Cond.code ({ cls := "java/lang/String", name := "startsWith", desc := "(Ljava/lang/String;)Z" } : Jvm.MethodName) jdk_42_method_76_code (2 : Nat) (Option.some Jvm.ClassFile.FieldType.boolean)).before args0 about1 = true := code_word (m := ⟨7, 7⟩) (meth := k7m7) (c := k7c7) (by decide +kernel) rfl rfl rfl (by decide +kernel)
set_option maxRecDepth 65536 in
theorem w_c30 : (Jvm.Cond.code ({ cls := "java/lang/String", name := "startsWith", desc := "(Ljava/lang/String;I)Z" } : Jvm.MethodName) jdk_42_method_75_code (8 : Nat) (Option.some Jvm.ClassFile.FieldType.boolean)).before args0 about1 = true := code_word (m := ⟨7, 6⟩) (meth := k7m6) (c := k7c6) (by decide +kernel) rfl rfl rfl (by decide +kernel)
set_option maxRecDepth 65536 in
theorem w_c31 : (Jvm.Cond.code ({ cls := "jdk/internal/util/ArraysSupport", name := "mismatch", desc := "([BI[BII)I" } : Jvm.MethodName) jdk_48_method_14_code (8 : Nat) (Option.some Jvm.ClassFile.FieldType.int)).before args0 about1 = true := code_word (m := ⟨16, 1⟩) (meth := k16m1) (c := k16c1) (by decide +kernel) rfl rfl rfl (by decide +kernel)
set_option maxRecDepth 65536 in
theorem w_c32 : (Jvm.Cond.code ({ cls := "com/example/idemnity/idemnity/IdempotencyKey", name := "of", desc := "(Ljava/lang/String;)Lcom/example/idemnity/idemnity/IdempotencyKey;" } : Jvm.MethodName) prog_9_method_2_code (3 : Nat) (Option.some (Jvm.ClassFile.FieldType.object "com/example/idemnity/idemnity/IdempotencyKey"))).before args0 about1 = true := code_word (m := ⟨9, 1⟩) (meth := k9m1) (c := k9c1) (by decide +kernel) rfl rfl rfl (by decide +kernel)
set_option maxRecDepth 65536 in
theorem w_c33 : (Jvm.Cond.code ({ cls := "java/lang/String", name := "isEmpty", desc := "()Z" } : Jvm.MethodName) jdk_42_method_55_code (1 : Nat) (Option.some Jvm.ClassFile.FieldType.boolean)).before args0 about1 = true := code_word (m := ⟨7, 4⟩) (meth := k7m4) (c := k7c4) (by decide +kernel) rfl rfl rfl (by decide +kernel)
set_option maxRecDepth 65536 in
theorem w_c34 : (Jvm.Cond.code ({ cls := "com/example/idemnity/idemnity/IdempotencyKey", name := "<init>", desc := "(Ljava/lang/String;)V" } : Jvm.MethodName) prog_9_method_1_code (2 : Nat) (Option.none : Option Jvm.ClassFile.FieldType)).before args0 about1 = true := code_word (m := ⟨9, 0⟩) (meth := k9m0) (c := k9c0) (by decide +kernel) rfl rfl rfl (by decide +kernel)
set_option maxRecDepth 65536 in
theorem w_c35 : (Jvm.Cond.code ({ cls := "com/example/idemnity/idemnity/IdempotencyKey", name := "getValue", desc := "()Ljava/lang/String;" } : Jvm.MethodName) prog_9_method_6_code (1 : Nat) (Option.some (Jvm.ClassFile.FieldType.object "java/lang/String"))).before args0 about1 = true := code_word (m := ⟨9, 5⟩) (meth := k9m5) (c := k9c5) (by decide +kernel) rfl rfl rfl (by decide +kernel)
set_option maxRecDepth 65536 in
theorem w_c36 : (Jvm.Cond.code ({ cls := "com/example/idemnity/idemnity/IdempotencyKeyFromHeaderPinLaw", name := "esc", desc := "(C)Z" } : Jvm.MethodName) method_5_code (1 : Nat) (Option.some Jvm.ClassFile.FieldType.boolean)).before args0 about1 = true := code_word (m := ⟨1, 4⟩) (meth := k1m4) (c := k1c4) (by decide +kernel) rfl rfl rfl (by decide +kernel)
set_option maxRecDepth 65536 in
theorem w_c37 : (Jvm.Cond.code ({ cls := "com/example/idemnity/idemnity/IdempotencyKeyFromHeaderPinLaw", name := "putQuoted", desc := "([CIC)I" } : Jvm.MethodName) method_6_code (4 : Nat) (Option.some Jvm.ClassFile.FieldType.int)).before args0 about1 = true := code_word (m := ⟨1, 5⟩) (meth := k1m5) (c := k1c5) (by decide +kernel) rfl rfl rfl (by decide +kernel)
set_option maxRecDepth 65536 in
theorem w_c38 : (Jvm.Cond.code ({ cls := "com/example/idemnity/idemnity/IdempotencyKey", name := "unquote", desc := "(Ljava/lang/String;)Ljava/lang/String;" } : Jvm.MethodName) prog_9_method_4_code (6 : Nat) (Option.some (Jvm.ClassFile.FieldType.object "java/lang/String"))).before args0 about1 = true := code_word (m := ⟨9, 3⟩) (meth := k9m3) (c := k9c3) (by decide +kernel) rfl rfl rfl (by decide +kernel)
set_option maxRecDepth 65536 in
theorem w_c39 : (Jvm.Cond.code ({ cls := "java/lang/StringBuilder", name := "<init>", desc := "(I)V" } : Jvm.MethodName) jdk_67_method_2_code (2 : Nat) (Option.none : Option Jvm.ClassFile.FieldType)).before args0 about1 = true := code_word (m := ⟨19, 1⟩) (meth := k19m1) (c := k19c1) (by decide +kernel) rfl rfl rfl (by decide +kernel)
set_option maxRecDepth 65536 in
theorem w_c40 : (Jvm.Cond.code ({ cls := "java/lang/AbstractStringBuilder", name := "<init>", desc := "(I)V" } : Jvm.MethodName) jdk_68_method_2_code (2 : Nat) (Option.none : Option Jvm.ClassFile.FieldType)).before args0 about1 = true := code_word (m := ⟨18, 1⟩) (meth := k18m1) (c := k18c1) (by decide +kernel) rfl rfl rfl (by decide +kernel)
set_option maxRecDepth 65536 in
theorem w_c41 : (Jvm.Cond.code ({ cls := "java/lang/StringBuilder", name := "append", desc := "(C)Ljava/lang/StringBuilder;" } : Jvm.MethodName) jdk_67_method_14_code (2 : Nat) (Option.some (Jvm.ClassFile.FieldType.object "java/lang/StringBuilder"))).before args0 about1 = true := code_word (m := ⟨19, 2⟩) (meth := k19m2) (c := k19c2) (by decide +kernel) rfl rfl rfl (by decide +kernel)
set_option maxRecDepth 65536 in
theorem w_c42 : (Jvm.Cond.code ({ cls := "java/lang/AbstractStringBuilder", name := "append", desc := "(C)Ljava/lang/AbstractStringBuilder;" } : Jvm.MethodName) jdk_68_method_31_code (2 : Nat) (Option.some (Jvm.ClassFile.FieldType.object "java/lang/AbstractStringBuilder"))).before args0 about1 = true := code_word (m := ⟨18, 4⟩) (meth := k18m4) (c := k18c4) (by decide +kernel) rfl rfl rfl (by decide +kernel)
set_option maxRecDepth 65536 in
theorem w_c43 : (Jvm.Cond.code ({ cls := "java/lang/AbstractStringBuilder", name := "ensureCapacityInternal", desc := "(I)V" } : Jvm.MethodName) jdk_68_method_9_code (3 : Nat) (Option.none : Option Jvm.ClassFile.FieldType)).before args0 about1 = true := code_word (m := ⟨18, 3⟩) (meth := k18m3) (c := k18c3) (by decide +kernel) rfl rfl rfl (by decide +kernel)
set_option maxRecDepth 65536 in
theorem w_c44 : (Jvm.Cond.code ({ cls := "java/lang/AbstractStringBuilder", name := "isLatin1", desc := "()Z" } : Jvm.MethodName) jdk_68_method_68_code (1 : Nat) (Option.some Jvm.ClassFile.FieldType.boolean)).before args0 about1 = true := code_word (m := ⟨18, 6⟩) (meth := k18m6) (c := k18c6) (by decide +kernel) rfl rfl rfl (by decide +kernel)
set_option maxRecDepth 65536 in
theorem w_c45 : (Jvm.Cond.code ({ cls := "java/lang/StringLatin1", name := "canEncode", desc := "(C)Z" } : Jvm.MethodName) jdk_43_method_3_code (1 : Nat) (Option.some Jvm.ClassFile.FieldType.boolean)).before args0 about1 = true := code_word (m := ⟨11, 2⟩) (meth := k11m2) (c := k11c2) (by decide +kernel) rfl rfl rfl (by decide +kernel)
set_option maxRecDepth 65536 in
theorem w_c46 : (Jvm.Cond.code ({ cls := "java/lang/StringBuilder", name := "toString", desc := "()Ljava/lang/String;" } : Jvm.MethodName) jdk_67_method_42_code (1 : Nat) (Option.some (Jvm.ClassFile.FieldType.object "java/lang/String"))).before args0 about1 = true := code_word (m := ⟨19, 3⟩) (meth := k19m3) (c := k19c3) (by decide +kernel) rfl rfl rfl (by decide +kernel)
set_option maxRecDepth 65536 in
theorem w_c47 : (Jvm.Cond.code ({ cls := "java/lang/String", name := "<init>", desc := "(Ljava/lang/StringBuilder;)V" } : Jvm.MethodName) jdk_42_method_53_code (2 : Nat) (Option.none : Option Jvm.ClassFile.FieldType)).before args0 about1 = true := code_word (m := ⟨7, 2⟩) (meth := k7m2) (c := k7c2) (by decide +kernel) rfl rfl rfl (by decide +kernel)
set_option maxRecDepth 65536 in
theorem w_c48 : (Jvm.Cond.code ({ cls := "java/lang/String", name := "<init>", desc := "(Ljava/lang/AbstractStringBuilder;Ljava/lang/Void;)V" } : Jvm.MethodName) jdk_42_method_150_code (5 : Nat) (Option.none : Option Jvm.ClassFile.FieldType)).before args0 about1 = true := code_word (m := ⟨7, 10⟩) (meth := k7m10) (c := k7c10) (by decide +kernel) rfl rfl rfl (by decide +kernel)
set_option maxRecDepth 65536 in
theorem w_c49 : (Jvm.Cond.code ({ cls := "java/lang/AbstractStringBuilder", name := "getValue", desc := "()[B" } : Jvm.MethodName) jdk_68_method_64_code (1 : Nat) (Option.some (Jvm.ClassFile.FieldType.array Jvm.ClassFile.FieldType.byte))).before args0 about1 = true := code_word (m := ⟨18, 5⟩) (meth := k18m5) (c := k18c5) (by decide +kernel) rfl rfl rfl (by decide +kernel)
set_option maxRecDepth 65536 in
theorem w_c50 : (Jvm.Cond.code ({ cls := "java/lang/StringBuilder", name := "length", desc := "()I" } : Jvm.MethodName) jdk_67_method_93_code (1 : Nat) (Option.some Jvm.ClassFile.FieldType.int)).before args0 about1 = true := code_word (m := ⟨19, 4⟩) (meth := k19m4) (c := k19c4) (by decide +kernel) rfl rfl rfl (by decide +kernel)
set_option maxRecDepth 65536 in
theorem w_c51 : (Jvm.Cond.code ({ cls := "java/lang/AbstractStringBuilder", name := "length", desc := "()I" } : Jvm.MethodName) jdk_68_method_6_code (1 : Nat) (Option.some Jvm.ClassFile.FieldType.int)).before args0 about1 = true := code_word (m := ⟨18, 2⟩) (meth := k18m2) (c := k18c2) (by decide +kernel) rfl rfl rfl (by decide +kernel)
def codes1 : List Jvm.Cond := [Jvm.Cond.code x code maxLocals ret, Jvm.Cond.code ({ cls := "com/example/idemnity/idemnity/IdempotencyKeyFromHeaderPinLaw", name := "draw", desc := "(II)C" } : Jvm.MethodName) method_3_code (2 : Nat) (Option.some Jvm.ClassFile.FieldType.char), Jvm.Cond.code ({ cls := "com/example/idemnity/idemnity/IdempotencyKeyFromHeaderPinLaw", name := "vis", desc := "(I)C" } : Jvm.MethodName) method_2_code (1 : Nat) (Option.some Jvm.ClassFile.FieldType.char), Jvm.Cond.code ({ cls := "com/example/idemnity/idemnity/IdempotencyKeyFromHeaderPinLaw", name := "pad", desc := "(II)C" } : Jvm.MethodName) method_4_code (2 : Nat) (Option.some Jvm.ClassFile.FieldType.char), Jvm.Cond.code ({ cls := "java/lang/String", name := "<init>", desc := "([C)V" } : Jvm.MethodName) jdk_42_method_3_code (2 : Nat) (Option.none : Option Jvm.ClassFile.FieldType), Jvm.Cond.code ({ cls := "java/lang/String", name := "<init>", desc := "([CIILjava/lang/Void;)V" } : Jvm.MethodName) jdk_42_method_149_code (6 : Nat) (Option.none : Option Jvm.ClassFile.FieldType), Jvm.Cond.code ({ cls := "java/lang/Object", name := "<init>", desc := "()V" } : Jvm.MethodName) object_method_1_code (1 : Nat) (Option.none : Option Jvm.ClassFile.FieldType), Jvm.Cond.code ({ cls := "java/lang/StringUTF16", name := "compress", desc := "([CII)[B" } : Jvm.MethodName) jdk_52_method_16_code (6 : Nat) (Option.some (Jvm.ClassFile.FieldType.array Jvm.ClassFile.FieldType.byte)), Jvm.Cond.code ({ cls := "java/lang/StringUTF16", name := "compress", desc := "([CI[BII)I" } : Jvm.MethodName) jdk_52_method_21_code (7 : Nat) (Option.some Jvm.ClassFile.FieldType.int), Jvm.Cond.code ({ cls := "java/lang/StringUTF16", name := "coderFromArrayLen", desc := "([BI)B" } : Jvm.MethodName) jdk_52_method_15_code (2 : Nat) (Option.some Jvm.ClassFile.FieldType.byte), Jvm.Cond.code ({ cls := "com/example/idemnity/idemnity/IdempotencyKey", name := "fromHeader", desc := "(Ljava/lang/String;)Lcom/example/idemnity/idemnity/IdempotencyKey;" } : Jvm.MethodName) prog_9_method_3_code (4 : Nat) (Option.some (Jvm.ClassFile.FieldType.object "com/example/idemnity/idemnity/IdempotencyKey")), Jvm.Cond.code ({ cls := "java/util/Objects", name := "requireNonNull", desc := "(Ljava/lang/Object;Ljava/lang/String;)Ljava/lang/Object;" } : Jvm.MethodName) jdk_31_method_11_code (2 : Nat) (Option.some (Jvm.ClassFile.FieldType.object "java/lang/Object")), Jvm.Cond.code ({ cls := "java/lang/String", name := "length", desc := "()I" } : Jvm.MethodName) jdk_42_method_54_code (1 : Nat) (Option.some Jvm.ClassFile.FieldType.int), Jvm.Cond.code ({ cls := "java/lang/String", name := "coder", desc := "()B" } : Jvm.MethodName) jdk_42_method_152_code (1 : Nat) (Option.some Jvm.ClassFile.FieldType.byte), Jvm.Cond.code ({ cls := "java/lang/String", name := "charAt", desc := "(I)C" } : Jvm.MethodName) jdk_42_method_56_code (2 : Nat) (Option.some Jvm.ClassFile.FieldType.char), Jvm.Cond.code ({ cls := "java/lang/String", name := "isLatin1", desc := "()Z" } : Jvm.MethodName) jdk_42_method_154_code (1 : Nat) (Option.some Jvm.ClassFile.FieldType.boolean), Jvm.Cond.code ({ cls := "java/lang/StringLatin1", name := "charAt", desc := "([BI)C" } : Jvm.MethodName) jdk_43_method_2_code (2 : Nat) (Option.some Jvm.ClassFile.FieldType.char), Jvm.Cond.code ({ cls := "java/lang/String", name := "checkIndex", desc := "(II)V" } : Jvm.MethodName) jdk_42_method_155_code (2 : Nat) (Option.none : Option Jvm.ClassFile.FieldType), Jvm.Cond.code ({ cls := "jdk/internal/util/Preconditions", name := "checkIndex", desc := "(IILjava/util/function/BiFunction;)I" } : Jvm.MethodName) jdk_41_method_11_code (3 : Nat) (Option.some Jvm.ClassFile.FieldType.int), Jvm.Cond.code ({ cls := "com/example/idemnity/idemnity/IdempotencyKey", name := "isSpaceOrTab", desc := "(C)Z" } : Jvm.MethodName) prog_9_method_5_code (1 : Nat) (Option.some Jvm.ClassFile.FieldType.boolean), Jvm.Cond.code ({ cls := "java/lang/String", name := "substring", desc := "(II)Ljava/lang/String;" } : Jvm.MethodName) jdk_42_method_92_code (5 : Nat) (Option.some (Jvm.ClassFile.FieldType.object "java/lang/String")), Jvm.Cond.code ({ cls := "java/lang/String", name := "checkBoundsBeginEnd", desc := "(III)V" } : Jvm.MethodName) jdk_42_method_158_code (3 : Nat) (Option.none : Option Jvm.ClassFile.FieldType), Jvm.Cond.code ({ cls := "jdk/internal/util/Preconditions", name := "checkFromToIndex", desc := "(IIILjava/util/function/BiFunction;)I" } : Jvm.MethodName) jdk_41_method_12_code (4 : Nat) (Option.some Jvm.ClassFile.FieldType.int), Jvm.Cond.code ({ cls := "java/lang/StringLatin1", name := "newString", desc := "([BII)Ljava/lang/String;" } : Jvm.MethodName) jdk_43_method_47_code (3 : Nat) (Option.some (Jvm.ClassFile.FieldType.object "java/lang/String")), Jvm.Cond.code ({ cls := "java/util/Arrays", name := "copyOfRange", desc := "([BII)[B" } : Jvm.MethodName) jdk_65_method_132_code (3 : Nat) (Option.some (Jvm.ClassFile.FieldType.array Jvm.ClassFile.FieldType.byte)), Jvm.Cond.code ({ cls := "java/util/Arrays", name := "copyOfRangeByte", desc := "([BII)[B" } : Jvm.MethodName) jdk_65_method_133_code (5 : Nat) (Option.some (Jvm.ClassFile.FieldType.array Jvm.ClassFile.FieldType.byte)), Jvm.Cond.code ({ cls := "java/util/Arrays", name := "checkLength", desc := "(II)V" } : Jvm.MethodName) jdk_65_method_131_code (2 : Nat) (Option.none : Option Jvm.ClassFile.FieldType), Jvm.Cond.code ({ cls := "java/lang/Math", name := "min", desc := "(II)I" } : Jvm.MethodName) jdk_29_method_69_code (2 : Nat) (Option.some Jvm.ClassFile.FieldType.int), Jvm.Cond.code ({ cls := "java/lang/String", name := "<init>", desc := "([BB)V" } : Jvm.MethodName) jdk_42_method_151_code (3 : Nat) (Option.none : Option Jvm.ClassFile.FieldType), Jvm.Cond.code ({ cls := "java/lang/String", name := "startsWith", desc := "(Ljava/lang/String;)Z" } : Jvm.MethodName) jdk_42_method_76_code (2 : Nat) (Option.some Jvm.ClassFile.FieldType.boolean), Jvm.Cond.code ({ cls := "java/lang/String", name := "startsWith", desc := "(Ljava/lang/String;I)Z" } : Jvm.MethodName) jdk_42_method_75_code (8 : Nat) (Option.some Jvm.ClassFile.FieldType.boolean), Jvm.Cond.code ({ cls := "jdk/internal/util/ArraysSupport", name := "mismatch", desc := "([BI[BII)I" } : Jvm.MethodName) jdk_48_method_14_code (8 : Nat) (Option.some Jvm.ClassFile.FieldType.int), Jvm.Cond.code ({ cls := "com/example/idemnity/idemnity/IdempotencyKey", name := "of", desc := "(Ljava/lang/String;)Lcom/example/idemnity/idemnity/IdempotencyKey;" } : Jvm.MethodName) prog_9_method_2_code (3 : Nat) (Option.some (Jvm.ClassFile.FieldType.object "com/example/idemnity/idemnity/IdempotencyKey")), Jvm.Cond.code ({ cls := "java/lang/String", name := "isEmpty", desc := "()Z" } : Jvm.MethodName) jdk_42_method_55_code (1 : Nat) (Option.some Jvm.ClassFile.FieldType.boolean), Jvm.Cond.code ({ cls := "com/example/idemnity/idemnity/IdempotencyKey", name := "<init>", desc := "(Ljava/lang/String;)V" } : Jvm.MethodName) prog_9_method_1_code (2 : Nat) (Option.none : Option Jvm.ClassFile.FieldType), Jvm.Cond.code ({ cls := "com/example/idemnity/idemnity/IdempotencyKey", name := "getValue", desc := "()Ljava/lang/String;" } : Jvm.MethodName) prog_9_method_6_code (1 : Nat) (Option.some (Jvm.ClassFile.FieldType.object "java/lang/String")), Jvm.Cond.code ({ cls := "com/example/idemnity/idemnity/IdempotencyKeyFromHeaderPinLaw", name := "esc", desc := "(C)Z" } : Jvm.MethodName) method_5_code (1 : Nat) (Option.some Jvm.ClassFile.FieldType.boolean), Jvm.Cond.code ({ cls := "com/example/idemnity/idemnity/IdempotencyKeyFromHeaderPinLaw", name := "putQuoted", desc := "([CIC)I" } : Jvm.MethodName) method_6_code (4 : Nat) (Option.some Jvm.ClassFile.FieldType.int), Jvm.Cond.code ({ cls := "com/example/idemnity/idemnity/IdempotencyKey", name := "unquote", desc := "(Ljava/lang/String;)Ljava/lang/String;" } : Jvm.MethodName) prog_9_method_4_code (6 : Nat) (Option.some (Jvm.ClassFile.FieldType.object "java/lang/String")), Jvm.Cond.code ({ cls := "java/lang/StringBuilder", name := "<init>", desc := "(I)V" } : Jvm.MethodName) jdk_67_method_2_code (2 : Nat) (Option.none : Option Jvm.ClassFile.FieldType), Jvm.Cond.code ({ cls := "java/lang/AbstractStringBuilder", name := "<init>", desc := "(I)V" } : Jvm.MethodName) jdk_68_method_2_code (2 : Nat) (Option.none : Option Jvm.ClassFile.FieldType), Jvm.Cond.code ({ cls := "java/lang/StringBuilder", name := "append", desc := "(C)Ljava/lang/StringBuilder;" } : Jvm.MethodName) jdk_67_method_14_code (2 : Nat) (Option.some (Jvm.ClassFile.FieldType.object "java/lang/StringBuilder")), Jvm.Cond.code ({ cls := "java/lang/AbstractStringBuilder", name := "append", desc := "(C)Ljava/lang/AbstractStringBuilder;" } : Jvm.MethodName) jdk_68_method_31_code (2 : Nat) (Option.some (Jvm.ClassFile.FieldType.object "java/lang/AbstractStringBuilder")), Jvm.Cond.code ({ cls := "java/lang/AbstractStringBuilder", name := "ensureCapacityInternal", desc := "(I)V" } : Jvm.MethodName) jdk_68_method_9_code (3 : Nat) (Option.none : Option Jvm.ClassFile.FieldType), Jvm.Cond.code ({ cls := "java/lang/AbstractStringBuilder", name := "isLatin1", desc := "()Z" } : Jvm.MethodName) jdk_68_method_68_code (1 : Nat) (Option.some Jvm.ClassFile.FieldType.boolean), Jvm.Cond.code ({ cls := "java/lang/StringLatin1", name := "canEncode", desc := "(C)Z" } : Jvm.MethodName) jdk_43_method_3_code (1 : Nat) (Option.some Jvm.ClassFile.FieldType.boolean), Jvm.Cond.code ({ cls := "java/lang/StringBuilder", name := "toString", desc := "()Ljava/lang/String;" } : Jvm.MethodName) jdk_67_method_42_code (1 : Nat) (Option.some (Jvm.ClassFile.FieldType.object "java/lang/String")), Jvm.Cond.code ({ cls := "java/lang/String", name := "<init>", desc := "(Ljava/lang/StringBuilder;)V" } : Jvm.MethodName) jdk_42_method_53_code (2 : Nat) (Option.none : Option Jvm.ClassFile.FieldType), Jvm.Cond.code ({ cls := "java/lang/String", name := "<init>", desc := "(Ljava/lang/AbstractStringBuilder;Ljava/lang/Void;)V" } : Jvm.MethodName) jdk_42_method_150_code (5 : Nat) (Option.none : Option Jvm.ClassFile.FieldType), Jvm.Cond.code ({ cls := "java/lang/AbstractStringBuilder", name := "getValue", desc := "()[B" } : Jvm.MethodName) jdk_68_method_64_code (1 : Nat) (Option.some (Jvm.ClassFile.FieldType.array Jvm.ClassFile.FieldType.byte)), Jvm.Cond.code ({ cls := "java/lang/StringBuilder", name := "length", desc := "()I" } : Jvm.MethodName) jdk_67_method_93_code (1 : Nat) (Option.some Jvm.ClassFile.FieldType.int), Jvm.Cond.code ({ cls := "java/lang/AbstractStringBuilder", name := "length", desc := "()I" } : Jvm.MethodName) jdk_68_method_6_code (1 : Nat) (Option.some Jvm.ClassFile.FieldType.int)]
set_option maxRecDepth 65536 in
theorem codes_eq : words1.filter isCode = codes1 := rfl
theorem w_codes : ∀ c ∈ words1.filter isCode, c.before args0 about1 = true := by
  rw [codes_eq]
  intro c hc
  simp only [codes1, List.mem_cons, List.not_mem_nil, or_false] at hc
  rcases hc with rfl | rfl | rfl | rfl | rfl | rfl | rfl | rfl | rfl | rfl | rfl | rfl | rfl | rfl | rfl | rfl | rfl | rfl | rfl | rfl | rfl | rfl | rfl | rfl | rfl | rfl | rfl | rfl | rfl | rfl | rfl | rfl | rfl | rfl | rfl | rfl | rfl | rfl | rfl | rfl | rfl | rfl | rfl | rfl | rfl | rfl | rfl | rfl | rfl | rfl | rfl | rfl
  · exact w_c0
  · exact w_c1
  · exact w_c2
  · exact w_c3
  · exact w_c4
  · exact w_c5
  · exact w_c6
  · exact w_c7
  · exact w_c8
  · exact w_c9
  · exact w_c10
  · exact w_c11
  · exact w_c12
  · exact w_c13
  · exact w_c14
  · exact w_c15
  · exact w_c16
  · exact w_c17
  · exact w_c18
  · exact w_c19
  · exact w_c20
  · exact w_c21
  · exact w_c22
  · exact w_c23
  · exact w_c24
  · exact w_c25
  · exact w_c26
  · exact w_c27
  · exact w_c28
  · exact w_c29
  · exact w_c30
  · exact w_c31
  · exact w_c32
  · exact w_c33
  · exact w_c34
  · exact w_c35
  · exact w_c36
  · exact w_c37
  · exact w_c38
  · exact w_c39
  · exact w_c40
  · exact w_c41
  · exact w_c42
  · exact w_c43
  · exact w_c44
  · exact w_c45
  · exact w_c46
  · exact w_c47
  · exact w_c48
  · exact w_c49
  · exact w_c50
  · exact w_c51
set_option maxRecDepth 65536 in
theorem w_t1 : (words1.take 24).all (fun c => isCode c || c.before args0 about1) = true := by decide +kernel
set_option maxRecDepth 65536 in
theorem w_t2 : ((words1.drop 24).take 24).all (fun c => isCode c || c.before args0 about1) = true := by decide +kernel
set_option maxRecDepth 65536 in
theorem w_t3 : (((words1.drop 24).drop 24).take 24).all (fun c => isCode c || c.before args0 about1) = true := by decide +kernel
set_option maxRecDepth 65536 in
theorem w_t4 : ((((words1.drop 24).drop 24).drop 24).take 24).all (fun c => isCode c || c.before args0 about1) = true := by decide +kernel
set_option maxRecDepth 65536 in
theorem w_t5 : (((((words1.drop 24).drop 24).drop 24).drop 24).take 24).all (fun c => isCode c || c.before args0 about1) = true := by decide +kernel
set_option maxRecDepth 65536 in
theorem w_t6 : ((((((words1.drop 24).drop 24).drop 24).drop 24).drop 24).take 24).all (fun c => isCode c || c.before args0 about1) = true := by decide +kernel
set_option maxRecDepth 65536 in
theorem w_t7 : (((((((words1.drop 24).drop 24).drop 24).drop 24).drop 24).drop 24).take 24).all (fun c => isCode c || c.before args0 about1) = true := by decide +kernel
set_option maxRecDepth 65536 in
theorem w_t8 : ((((((((words1.drop 24).drop 24).drop 24).drop 24).drop 24).drop 24).drop 24).take 24).all (fun c => isCode c || c.before args0 about1) = true := by decide +kernel
set_option maxRecDepth 65536 in
theorem w_t9 : (((((((((words1.drop 24).drop 24).drop 24).drop 24).drop 24).drop 24).drop 24).drop 24).take 24).all (fun c => isCode c || c.before args0 about1) = true := by decide +kernel
set_option maxRecDepth 65536 in
theorem w_t10 : ((((((((((words1.drop 24).drop 24).drop 24).drop 24).drop 24).drop 24).drop 24).drop 24).drop 24).take 24).all (fun c => isCode c || c.before args0 about1) = true := by decide +kernel
set_option maxRecDepth 65536 in
theorem w_t11 : ((((((((((words1.drop 24).drop 24).drop 24).drop 24).drop 24).drop 24).drop 24).drop 24).drop 24).drop 24).all (fun c => isCode c || c.before args0 about1) = true := by decide +kernel
theorem w_tables : (allAtoms (Jvm.Cond.code x code maxLocals ret :: tables_1)).before args0 about1 = true := by
  rw [allAtoms_all]
  show words1.all (fun c => c.before args0 about1) = true
  refine all_split ?_ w_codes
  rw [← List.take_append_drop 24 words1, List.all_append, w_t1, ← List.take_append_drop 24 (words1.drop 24), List.all_append, w_t2, ← List.take_append_drop 24 ((words1.drop 24).drop 24), List.all_append, w_t3, ← List.take_append_drop 24 (((words1.drop 24).drop 24).drop 24), List.all_append, w_t4, ← List.take_append_drop 24 ((((words1.drop 24).drop 24).drop 24).drop 24), List.all_append, w_t5, ← List.take_append_drop 24 (((((words1.drop 24).drop 24).drop 24).drop 24).drop 24), List.all_append, w_t6, ← List.take_append_drop 24 ((((((words1.drop 24).drop 24).drop 24).drop 24).drop 24).drop 24), List.all_append, w_t7, ← List.take_append_drop 24 (((((((words1.drop 24).drop 24).drop 24).drop 24).drop 24).drop 24).drop 24), List.all_append, w_t8, ← List.take_append_drop 24 ((((((((words1.drop 24).drop 24).drop 24).drop 24).drop 24).drop 24).drop 24).drop 24), List.all_append, w_t9, ← List.take_append_drop 24 (((((((((words1.drop 24).drop 24).drop 24).drop 24).drop 24).drop 24).drop 24).drop 24).drop 24), List.all_append, w_t10, w_t11]
  rfl
set_option maxRecDepth 65536 in
theorem w_rest : rest_1_c.before args0 about1 = true := by decide +kernel
set_option maxRecDepth 65536 in
theorem w_case : (Jvm.Cond.and given_1 narrow_1).before args0 about1 = true := by decide +kernel
set_option maxRecDepth 65536 in
theorem w_consts : constsHeld consts_1 about1 := Jvm.Lit.constsHeldB_iff.mp (by decide +kernel)
theorem w_applies : (headSpec (Jvm.Cond.code x code maxLocals ret :: tables_1) room_1).applies x e0.platform about1 = true :=
  (Spec.applies_iff w_frames).mpr ⟨w_running, w_runnable, w_alone, w_named, w_hears, w_ripe, w_room, w_tables⟩
theorem atStart : AtStart classFile x code maxLocals ret World_1 tables_1 room_1 Calls_1 rest_1 Pre_1 launch0 p0 e0 about1 theMethod args0 below0 :=
  ⟨lists_1, trivial, launch0.admits_env _ _ _, launch0.least_env, fairChoices_fair.cas, fairChoices_fair.clock, w_frames, w_args, w_heap, w_applies, ⟨w_consts, trivial⟩, w_rest, w_case⟩
end start1
theorem witness_1 : WitnessClaimed_1 := ⟨start1.p0, start1.e0, start1.about1, start1.theMethod, start1.args0, start1.below0, start1.atStart⟩
end Jvm.Pilot.@@N@@
