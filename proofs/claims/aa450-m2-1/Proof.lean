import JvmDerived
import JvmDerived.Pilot.@@N@@Statement
import JvmDerived.Pilot.@@N@@Code
set_option linter.unusedVariables false
set_option linter.unusedSimpArgs false
namespace Jvm.OwnKit
/-! numbers -/
section Nums
theorem n_int {i : Nat} (hi : i < 2147483648) : (Int32.ofNat i).toInt = i := Int32.toInt_ofNat_small (by simpa using hi)
theorem n_lt {i n : Nat} (hi : i < 2147483648) (hn : n < 2147483648) : Int32.ofNat i < Int32.ofNat n ↔ i < n := by
  rw [Int32.lt_iff_toInt_lt, n_int hi, n_int hn]; omega
theorem n_nn {i : Nat} (hi : i < 2147483648) : ¬ Int32.ofNat i < 0 := by
  rw [Int32.lt_iff_toInt_lt, n_int hi, show (0 : Int32).toInt = 0 from by decide]; omega
theorem n_nat {i : Nat} (hi : i < 2147483648) : (Int32.ofNat i).toNatClampNeg = i := by
  rw [Int32.toNatClampNeg, n_int hi]; simp
theorem n_add (i j : Nat) : Int32.ofNat i + Int32.ofNat j = Int32.ofNat (i + j) := (Int32.ofNat_add i j).symm
theorem n_succ (i : Nat) : Int32.ofNat i + 1 = Int32.ofNat (i + 1) := n_add i 1
theorem n_inj {i n : Nat} (hi : i < 2147483648) (hn : n < 2147483648) : Int32.ofNat i = Int32.ofNat n ↔ i = n := by
  rw [← Int32.toInt_inj, n_int hi, n_int hn]; omega
theorem i_eq {x y : Int32} (h : x.toInt = y.toInt) : x = y := Int32.toInt_inj.mp h
theorem i_lt {x y : Int32} : x < y ↔ x.toInt < y.toInt := Int32.lt_iff_toInt_lt
/-- lists by their places -/
def tab (n : Nat) (f : Nat → Value) : List Value := (List.range n).map f
theorem tab_len (n : Nat) (f : Nat → Value) : (tab n f).length = n := by simp [tab]
theorem tab_get {n i : Nat} {f : Nat → Value} (hi : i < n) : (tab n f)[i]? = some (f i) := by simp [tab, hi]
theorem tab_set (n i : Nat) (f : Nat → Value) (v : Value) : (tab n f).set i v = tab n (fun j => if j = i then v else f j) := by
  refine List.ext_getElem? fun j => ?_
  by_cases hj : j < n
  · rw [tab_get hj, List.getElem?_set]
    by_cases e : i = j
    · subst e; simp [tab_len, hj]
    · rw [if_neg e, tab_get hj, if_neg (fun q => e q.symm)]
  · rw [List.getElem?_eq_none (by simpa [tab] using hj), List.getElem?_eq_none (by simpa [tab] using hj)]
theorem tab_congr {n : Nat} {f g : Nat → Value} (h : ∀ j, j < n → f j = g j) : tab n f = tab n g := by
  refine List.ext_getElem? fun j => ?_
  by_cases hj : j < n
  · rw [tab_get hj, tab_get hj, h j hj]
  · rw [List.getElem?_eq_none (by simpa [tab] using hj), List.getElem?_eq_none (by simpa [tab] using hj)]
theorem tab_rep (n : Nat) (v : Value) : List.replicate n v = tab n (fun _ => v) := by
  refine List.ext_getElem? fun j => ?_
  by_cases hj : j < n
  · rw [tab_get hj, List.getElem?_replicate, if_pos hj]
  · rw [List.getElem?_eq_none (by simpa using hj), List.getElem?_eq_none (by simpa [tab] using hj)]
theorem tab_list (vs : List Value) (d : Value) : vs = tab vs.length (fun j => vs.getD j d) := by
  refine List.ext_getElem? fun j => ?_
  by_cases hj : j < vs.length
  · rw [tab_get hj, List.getD_eq_getElem?_getD, List.getElem?_eq_getElem hj]; rfl
  · rw [List.getElem?_eq_none (by omega), List.getElem?_eq_none (by simpa [tab] using hj)]
theorem map_tab (cs : List Int32) (f : Int32 → Value) : cs.map f = tab cs.length (fun j => f (cs.getD j 0)) := by
  refine List.ext_getElem? fun j => ?_
  by_cases hj : j < cs.length
  · rw [tab_get hj, List.getElem?_map, List.getElem?_eq_getElem hj, List.getD_eq_getElem?_getD, List.getElem?_eq_getElem hj]; rfl
  · rw [List.getElem?_eq_none (by simpa using hj), List.getElem?_eq_none (by simpa [tab] using hj)]
end Nums
end Jvm.OwnKit
namespace Jvm.OwnKit
open Jvm Jvm.ClassFile Sem Op Lib Jvm.Free Jvm.Stand Jvm.LawKit Jvm.RoadKit Bundle
/-! 1. WHAT A WALK KNOWS OF THE HEAP: cells by address: M (made here, writable), N (frozen here), P (handed in, frozen) -/
abbrev Mem : Type := List (Addr × Cell)
abbrev dom (M : Mem) : List Addr := M.map Prod.fst
def OKp (h h' : Heap) (ws : List Addr) : Prop := h.size ≤ h'.size ∧ ∀ (x : Addr) (c : Cell), h[x]? = some c → x ∉ ws → h'[x]? = some c
def OInv (Z : State) (EL : List (String × Nat)) (vmS : Vm) (h0 : Heap) (ws : List Addr) (vm : Vm) (h : Heap) (M N P : Mem) : Prop :=
  CHr Z EL vmS h0 vm h ∧ Ext Z.heap h ∧
  (∀ q ∈ M, h[q.1]? = some q.2 ∧ Safe Z EL vm h q.1 ∧ Z.heap.size ≤ q.1 ∧ (h0.size ≤ q.1 ∨ q.1 ∈ ws)) ∧ (dom M).Nodup ∧
  (∀ q ∈ N, h[q.1]? = some q.2 ∧ q.1 ∉ dom M ∧ (h0.size ≤ q.1 ∨ q.1 ∈ ws ∨ Bk Z EL vmS h0 q.1)) ∧
  (∀ q ∈ P, h[q.1]? = some q.2 ∧ q.1 ∉ dom M)
section Inv
variable {Z : State} {EL : List (String × Nat)} {vmS vm vm1 vm2 : Vm} {h0 h h' h2 : Heap} {ws : List Addr} {M N P M' N' : Mem} {a x : Addr} {c c' cl : Cell} {i sl : Nat} {v : Value}
theorem lt_of (q : h[x]? = some c) : x < h.size := (Array.getElem?_eq_some_iff.mp q).1
theorem ext_trans (E : Ext h h') (E' : Ext h' h2) : Ext h h2 := ⟨Nat.le_trans E.1 E'.1, fun a c q => E'.2 a c (E.2 a c q)⟩
theorem ext_refl (h : Heap) : Ext h h := ⟨Nat.le_refl _, fun _ _ q => q⟩
theorem dom_set (hi : M[i]? = some (a, c)) : dom (M.set i (a, c')) = dom M := by
  induction M generalizing i with
  | nil => simp
  | cons q M ih =>
    cases i with
    | zero => simp at hi; subst hi; rfl
    | succ i => simp only [List.set_cons_succ, dom, List.map_cons]; exact congrArg _ (ih (by simpa using hi))
theorem mem_set (hn : (dom M).Nodup) (hi : M[i]? = some (a, c)) : ∀ q ∈ M.set i (a, c'), q = (a, c') ∨ (q ∈ M ∧ q.1 ≠ a) := by
  induction M generalizing i with
  | nil => simp at hi
  | cons r M ih =>
    have hn' := List.nodup_cons.mp (show (r.1 :: dom M).Nodup from hn)
    cases i with
    | zero =>
      simp at hi; subst hi
      intro q hq
      rcases List.mem_cons.mp (show q ∈ (a, c') :: M from hq) with rfl | hq
      · exact Or.inl rfl
      · exact Or.inr ⟨List.mem_cons_of_mem _ hq, fun e => hn'.1 (List.mem_map.mpr ⟨q, hq, e⟩)⟩
    | succ i =>
      have hi' : M[i]? = some (a, c) := by simpa using hi
      intro q hq
      rcases List.mem_cons.mp (show q ∈ r :: M.set i (a, c') from hq) with rfl | hq
      · exact Or.inr ⟨List.mem_cons_self .., fun e => hn'.1 (List.mem_map.mpr ⟨(a, c), List.mem_of_getElem? hi', e.symm⟩)⟩
      · rcases ih hn'.2 hi' q hq with e | ⟨e1, e2⟩
        · exact Or.inl e
        · exact Or.inr ⟨List.mem_cons_of_mem _ e1, e2⟩
theorem OInv.alloc (I : OInv Z EL vmS h0 ws vm h M N P) (E : Ext h h') (hc : h'[h.size]? = some c) : OInv Z EL vmS h0 ws vm h' ((h.size, c) :: M) N P := by
  obtain ⟨C, EZ, hM, hn, hN, hP⟩ := I
  have nin : ∀ q : Addr × Cell, h[q.1]? = some q.2 → q.1 ≠ h.size := fun q e z => absurd z (Nat.ne_of_lt (lt_of e))
  refine ⟨C.trans (CHr.ext E C.1), ext_trans EZ E, fun q hq => ?_, ?_, fun q hq => ?_, fun q hq => ?_⟩
  · rcases List.mem_cons.mp hq with rfl | hq
    · exact ⟨hc, Safe.ext E C.1 (Safe.new (Nat.le_refl _)), EZ.1, Or.inl C.2.1⟩
    · obtain ⟨a1, a2, a3, a4⟩ := hM q hq
      exact ⟨E.2 _ _ a1, a2.ext E C.1, a3, a4⟩
  · refine List.nodup_cons.mpr ⟨fun z => ?_, hn⟩
    obtain ⟨q, hq, e⟩ := List.mem_map.mp z
    exact nin q (hM q hq).1 e
  · obtain ⟨a1, a2, a3⟩ := hN q hq
    exact ⟨E.2 _ _ a1, fun z => (List.mem_cons.mp z).elim (nin q a1) a2, a3⟩
  · obtain ⟨a1, a2⟩ := hP q hq
    exact ⟨E.2 _ _ a1, fun z => (List.mem_cons.mp z).elim (nin q a1) a2⟩
theorem OInv.write (I : OInv Z EL vmS h0 ws vm h M N P) (hi : M[i]? = some (a, c)) (W : Wr h h' a sl v) : OInv Z EL vmS h0 ws vm h' (M.set i (a, c.setSlot sl v)) N P := by
  obtain ⟨C, EZ, hM, hn, hN, hP⟩ := I
  obtain ⟨b1, b2, b3, b4⟩ := hM _ (List.mem_of_getElem? hi)
  have W0 := W
  obtain ⟨cell, w1, w2, w3, rfl⟩ := W
  have e : cell = c := Option.some.inj (w1.symm.trans b1)
  subst e
  have ne : ∀ {y : Addr}, y ≠ a → (h.setIfInBounds a (cell.setSlot sl v))[y]? = h[y]? := fun {y} q => Array.getElem?_setIfInBounds_ne (Ne.symm q)
  have dm := dom_set (c' := cell.setSlot sl v) hi
  refine ⟨C.trans (CHr.wr W0 b2 C.1), ⟨by simpa using EZ.1, fun y cy q => ?_⟩, fun q hq => ?_, by rw [dm]; exact hn, fun q hq => ?_, fun q hq => ?_⟩
  · exact (ne (Nat.ne_of_lt (Nat.lt_of_lt_of_le (lt_of q) b3))).trans (EZ.2 _ _ q)
  · rcases mem_set hn hi q hq with rfl | ⟨hq, e⟩
    · exact ⟨by have := lt_of w1; simp [this], b2.wr W0 C.1 b2, b3, b4⟩
    · obtain ⟨a1, a2, a3, a4⟩ := hM q hq
      exact ⟨by rw [ne e]; exact a1, b2.wr W0 C.1 a2, a3, a4⟩
  · obtain ⟨a1, a2, a3⟩ := hN q hq
    exact ⟨(ne fun z => a2 (by rw [z]; exact List.mem_map.mpr ⟨_, List.mem_of_getElem? hi, rfl⟩)).trans a1, by rw [dm]; exact a2, a3⟩
  · obtain ⟨a1, a2⟩ := hP q hq
    exact ⟨(ne fun z => a2 (by rw [z]; exact List.mem_map.mpr ⟨_, List.mem_of_getElem? hi, rfl⟩)).trans a1, by rw [dm]; exact a2⟩
theorem OInv.later (I : OInv Z EL vmS h0 ws vm h M N P) (D : CHr Z EL vm h vm1 h') (E : Ext h h') : OInv Z EL vmS h0 ws vm1 h' M N P := by
  obtain ⟨C, EZ, hM, hn, hN, hP⟩ := I
  refine ⟨C.trans D, ext_trans EZ E, fun q hq => ?_, hn, fun q hq => ?_, fun q hq => ?_⟩
  · obtain ⟨a1, a2, a3⟩ := hM q hq
    exact ⟨E.2 _ _ a1, D.safe (lt_of a1) a2, a3⟩
  · obtain ⟨a1, a2⟩ := hN q hq
    exact ⟨E.2 _ _ a1, a2⟩
  · obtain ⟨a1, a2⟩ := hP q hq
    exact ⟨E.2 _ _ a1, a2⟩
/-- what is booked may be frozen knowledge too -/
theorem OInv.learn (I : OInv Z EL vmS h0 ws vm h M N P) (q1 : h[a]? = some c) (q2 : a ∉ dom M) (q3 : h0.size ≤ a ∨ a ∈ ws ∨ Bk Z EL vmS h0 a) : OInv Z EL vmS h0 ws vm h M ((a, c) :: N) P := by
  obtain ⟨C, EZ, hM, hn, hN, hP⟩ := I
  refine ⟨C, EZ, hM, hn, fun q hq => ?_, hP⟩
  rcases List.mem_cons.mp hq with rfl | hq
  · exact ⟨q1, q2, q3⟩
  · exact hN q hq
theorem OInv.sub (I : OInv Z EL vmS h0 ws vm h M N P) (hm : M'.Sublist M) (hn' : ∀ q ∈ N', q ∈ N) : OInv Z EL vmS h0 ws vm h M' N' [] := by
  obtain ⟨C, EZ, hM, hn, hN, hP⟩ := I
  exact ⟨C, EZ, fun q hq => hM q (hm.subset hq), (hm.map Prod.fst).nodup hn, fun q hq => ⟨(hN q (hn' q hq)).1, fun z => (hN q (hn' q hq)).2.1 ((hm.map Prod.fst).subset z), (hN q (hn' q hq)).2.2⟩, fun q hq => nomatch hq⟩
/-- one cell of M is written no more -/
theorem OInv.freeze (I : OInv Z EL vmS h0 ws vm h ((a, c) :: M) N P) : OInv Z EL vmS h0 ws vm h M ((a, c) :: N) P := by
  obtain ⟨C, EZ, hM, hn, hN, hP⟩ := I
  have hn' := List.nodup_cons.mp (show (a :: dom M).Nodup from hn)
  obtain ⟨b1, b2, b3, b4⟩ := hM _ (List.mem_cons_self ..)
  refine ⟨C, EZ, fun q hq => hM q (List.mem_cons_of_mem _ hq), hn'.2, fun q hq => ?_, fun q hq => ⟨(hP q hq).1, fun z => (hP q hq).2 (List.mem_cons_of_mem _ z)⟩⟩
  rcases List.mem_cons.mp hq with rfl | hq
  · exact ⟨b1, hn'.1, b4.imp id Or.inl⟩
  · exact ⟨(hN q hq).1, fun z => (hN q hq).2.1 (List.mem_cons_of_mem _ z), (hN q hq).2.2⟩
/-- the cells of M in another order -/
theorem OInv.perm (I : OInv Z EL vmS h0 ws vm h M N P) (hp : M'.Perm M) : OInv Z EL vmS h0 ws vm h M' N P := by
  obtain ⟨C, EZ, hM, hn, hN, hP⟩ := I
  have hd : (dom M').Perm (dom M) := hp.map _
  exact ⟨C, EZ, fun q hq => hM q (hp.subset hq), hd.nodup_iff.mpr hn, fun q hq => ⟨(hN q hq).1, fun z => (hN q hq).2.1 (hd.subset z), (hN q hq).2.2⟩, fun q hq => ⟨(hP q hq).1, fun z => (hP q hq).2 (hd.subset z)⟩⟩
theorem OInv.at (I : OInv Z EL vmS h0 ws vm h M N P) {q : Addr × Cell} (hq : q ∈ M ++ (N ++ P)) : h[q.1]? = some q.2 := by
  rcases List.mem_append.mp hq with hq | hq
  · exact (I.2.2.1 q hq).1
  · rcases List.mem_append.mp hq with hq | hq
    · exact (I.2.2.2.2.1 q hq).1
    · exact (I.2.2.2.2.2 q hq).1
variable {Mi Mr Mo No Pc : Mem}
/-- what a callee may ask -/
theorem OInv.hand (I : OInv Z EL vmS h0 ws vm h (Mi ++ Mr) N P) (D : CHr Z EL vm h vm1 h) (hp : ∀ q ∈ Pc, q ∈ Mr ++ (N ++ P)) : OInv Z EL vm1 h (dom Mi) vm1 h Mi [] Pc := by
  obtain ⟨C, EZ, hM, hn, hN, hP⟩ := I.later D (ext_refl h)
  rw [dom, List.map_append] at hn
  obtain ⟨n1, n2, n3⟩ := List.nodup_append.mp hn
  refine ⟨CHr.refl D.1, EZ, fun q hq => ?_, n1, fun q hq => (nomatch hq), fun q hq => ?_⟩
  · obtain ⟨a1, a2, a3, -⟩ := hM q (List.mem_append_left _ hq)
    exact ⟨a1, a2, a3, Or.inr (List.mem_map.mpr ⟨q, hq, rfl⟩)⟩
  · rcases List.mem_append.mp (hp q hq) with hq | hq
    · exact ⟨(hM q (List.mem_append_right _ hq)).1, fun z => n3 _ z _ (List.mem_map.mpr ⟨q, hq, rfl⟩) rfl⟩
    · have sub : q.1 ∈ dom Mi → q.1 ∈ dom (Mi ++ Mr) := fun z => by rw [dom, List.map_append]; exact List.mem_append_left _ z
      rcases List.mem_append.mp hq with hq | hq
      · exact ⟨(hN q hq).1, fun z => (hN q hq).2.1 (sub z)⟩
      · exact ⟨(hP q hq).1, fun z => (hP q hq).2 (sub z)⟩
/-- what stands behind a call -/
theorem OInv.call (I : OInv Z EL vmS h0 ws vm h (Mi ++ Mr) N P) (D : CHr Z EL vm h vm1 h) (J : OInv Z EL vm1 h (dom Mi) vm2 h2 Mo No []) (K : OKp h h2 (dom Mi)) : OInv Z EL vmS h0 ws vm2 h2 (Mo ++ Mr) (No ++ N) P := by
  obtain ⟨C, EZ, hM, hn, hN, hP⟩ := I.later D (ext_refl h)
  obtain ⟨C', EZ', hM', hn', hN', -⟩ := J
  rw [dom, List.map_append] at hn
  obtain ⟨n1, n2, n3⟩ := List.nodup_append.mp hn
  have sub : ∀ {y : Addr}, y ∈ dom Mi → y ∈ dom (Mi ++ Mr) := fun {y} z => by rw [dom, List.map_append]; exact List.mem_append_left _ z
  have subr : ∀ {y : Addr}, y ∈ dom Mr → y ∈ dom (Mi ++ Mr) := fun {y} z => by rw [dom, List.map_append]; exact List.mem_append_right _ z
  have up : ∀ {y : Addr}, h.size ≤ y ∨ y ∈ dom Mi → h0.size ≤ y ∨ y ∈ ws := fun {y} z => by
    rcases z with z | z
    · exact Or.inl (Nat.le_trans C.2.1 z)
    · obtain ⟨q, hq, rfl⟩ := List.mem_map.mp z
      exact (hM q (List.mem_append_left _ hq)).2.2.2
  have far : ∀ {y : Addr} {q : Addr × Cell}, h.size ≤ y ∨ y ∈ dom Mi → q ∈ Mr → q.1 ≠ y := fun {y q} z hq e => by
    rcases z with z | z
    · rw [← e] at z; exact Nat.not_lt.mpr z (lt_of (hM q (List.mem_append_right _ hq)).1)
    · exact n3 _ z _ (List.mem_map.mpr ⟨q, hq, rfl⟩) e.symm
  refine ⟨C.trans C', EZ', fun q hq => ?_, ?_, fun q hq => ?_, fun q hq => ?_⟩
  · rcases List.mem_append.mp hq with hq | hq
    · obtain ⟨a1, a2, a3, a4⟩ := hM' q hq
      exact ⟨a1, a2, a3, up a4⟩
    · obtain ⟨a1, a2, a3, a4⟩ := hM q (List.mem_append_right _ hq)
      exact ⟨K.2 _ _ a1 fun z => n3 _ z _ (List.mem_map.mpr ⟨q, hq, rfl⟩) rfl, C'.safe (lt_of a1) a2, a3, a4⟩
  · rw [dom, List.map_append]
    refine List.nodup_append.mpr ⟨hn', n2, fun y hy z hz e => ?_⟩
    obtain ⟨q, hq, rfl⟩ := List.mem_map.mp hy
    obtain ⟨r, hr, rfl⟩ := List.mem_map.mp hz
    exact far (hM' q hq).2.2.2 hr e.symm
  · rcases List.mem_append.mp hq with hq | hq
    · obtain ⟨a1, a2, a3⟩ := hN' q hq
      refine ⟨a1, fun z => ?_, ?_⟩
      · rw [dom, List.map_append] at z
        rcases List.mem_append.mp z with z | z
        · exact a2 z
        · obtain ⟨r, hr, e⟩ := List.mem_map.mp z
          rcases a3 with a3 | a3 | a3
          · exact far (Or.inl a3) hr e
          · exact far (Or.inr a3) hr e
          · exact (hM r (List.mem_append_right _ hr)).2.1 (e ▸ a3)
      · rcases a3 with a3 | a3 | a3
        · exact (up (Or.inl a3)).imp id Or.inl
        · exact (up (Or.inr a3)).imp id Or.inl
        · exact (C.2.2 _ a3).elim (fun z => Or.inr (Or.inr z)) Or.inl
    · obtain ⟨a1, a2, a3⟩ := hN q hq
      refine ⟨K.2 _ _ a1 fun z => a2 (sub z), fun z => ?_, a3⟩
      rw [dom, List.map_append] at z
      rcases List.mem_append.mp z with z | z
      · obtain ⟨r, hr, e⟩ := List.mem_map.mp z
        rcases (hM' r hr).2.2.2 with b | b
        · rw [e] at b; exact Nat.not_lt.mpr b (lt_of a1)
        · rw [e] at b; exact a2 (sub b)
      · exact a2 (subr z)
  · obtain ⟨a1, a2⟩ := hP q hq
    refine ⟨K.2 _ _ a1 fun z => a2 (sub z), fun z => ?_⟩
    rw [dom, List.map_append] at z
    rcases List.mem_append.mp z with z | z
    · obtain ⟨r, hr, e⟩ := List.mem_map.mp z
      rcases (hM' r hr).2.2.2 with b | b
      · rw [e] at b; exact Nat.not_lt.mpr b (lt_of a1)
      · rw [e] at b; exact a2 (sub b)
    · exact a2 (subr z)
end Inv
/-! 2. A WALK: OSt (where it stands), OWp (it comes to the end that Q says), OCon (a method's contract) -/
def OSt (p : Program) (l : Launch) (e : Env) (R : Room) (s : State) (m : MethodId) (args : Array Value) (below : List Frame) (meth : Method) (c : Code) (own : String) (Z : State) (EL : List (String × Nat)) (ws : List Addr) (P : Mem)
    (T : State) (M N : Mem) (cells slots : Nat) : Prop :=
  ∃ (vm0 : Vm) (k0 : Nat) (locs : List Loc), Stand p l e R (s.setVm vm0) m args below meth c T locs cells slots ∧ s.Since vm0 k0 ∧ k0 ≤ T.heap.size ∧ Z.Warmed39 vm0 ∧ vm0.findClass own = some m.cls ∧
    (∀ y ∈ locs, s.heap.size ≤ y.base ∨ y.base ∈ ws) ∧ OInv Z EL s.vm s.heap ws vm0 T.heap M N P
def OEnd (e : Env) (R : Room) (s : State) (below : List Frame) (Z : State) (EL : List (String × Nat)) (ws : List Addr) (Q : Option Value → Mem → Mem → Prop) (U : State) : Prop :=
  ∃ (v : Option Value) (L : List Loc), U.status = .running ∧ Ended U below (.returned v) ∧ (∃ M N, Q v M N ∧ OInv Z EL s.vm s.heap ws U.vm U.heap M N []) ∧ OKp s.heap U.heap ws ∧ (∀ y ∈ L, s.heap.size ≤ y.base ∨ y.base ∈ ws) ∧ ReturnedEndW s (.returned v) U L R.cells R.slots
def OWp (p : Program) (l : Launch) (e : Env) (R : Room) (s : State) (m : MethodId) (args : Array Value) (below : List Frame) (meth : Method) (c : Code) (own : String) (Z : State) (EL : List (String × Nat)) (ws : List Addr) (P : Mem)
    (Q : Option Value → Mem → Mem → Prop) (M N : Mem) (cells slots pc : Nat) (L : List Slot) (S : List Value) : Prop :=
  ∀ T, OSt p l e R s m args below meth c own Z EL ws P T M N cells slots → ∃ U, Steps p.tables e below (T.setTop (mkF m pc L.toArray S)) U ∧ OEnd e R s below Z EL ws Q U
def OOk (p : Program) (bytes : ByteArray) (maxL : Nat) (ret : Option FieldType) (nm : String) (meth : Method) (c : Code) (Z : State) (a0 : Array Value) (EL : List (String × Nat)) : Prop :=
  p.tables.exec = Jvm.exec ∧ c.code = bytes ∧ c.maxLocals = maxL ∧ meth.sig.returnType = ret ∧ meth.locks = false ∧ meth.name = nm ∧ EW Z a0 EL
def OCon (l : Launch) (Z : State) (EL : List (String × Nat)) (y : MethodName) (bytes : ByteArray) (maxL : Nat) (ret : Option FieldType) (xs : List Jvm.Cond) (rm : Room) (as' : Array Value) (Mi P : Mem) (Q : Option Value → Mem → Mem → Prop) : Prop :=
  MetFree l y (head1 (Jvm.Cond.code y bytes maxL ret :: xs) rm) (fun a U => a = as' ∧ Z.Warmed39 U.vm ∧ OInv Z EL U.vm U.heap (dom Mi) U.vm U.heap Mi [] P) (fun _ _ _ _ _ => True)
    (fun _ U o U' => ∃ v L, o = .returned v ∧ (∃ M N, Q v M N ∧ OInv Z EL U.vm U.heap (dom Mi) U'.vm U'.heap M N []) ∧ OKp U.heap U'.heap (dom Mi) ∧ (∀ y ∈ L, U.heap.size ≤ y.base ∨ y.base ∈ dom Mi) ∧ ReturnedEndW U o U' L rm.cells rm.slots)
section Walk
variable {p : Program} {l : Launch} {e : Env} {R : Room} {s : State} {m : MethodId} {args : Array Value} {below : List Frame} {meth : Method} {c : Code} {own : String} {Z : State} {a0 : Array Value} {EL : List (String × Nat)} {ws : List Addr} {P : Mem} {Q : Option Value → Mem → Mem → Prop} {M N : Mem} {cells slots pc pc' : Nat} {L L' : List Slot} {S S' rest : List Value} {bytes : ByteArray} {maxL : Nat} {ret : Option FieldType} {nm : String}
theorem okp_of {vm0 : Vm} {T : State} {locs : List Loc} (X : Stand p l e R (s.setVm vm0) m args below meth c T locs cells slots) (hL : ∀ y ∈ locs, s.heap.size ≤ y.base ∨ y.base ∈ ws) : OKp s.heap T.heap ws := by
  obtain ⟨-, q1, -, -, -, q2⟩ := X.same
  refine ⟨q1, fun x cx hx hnx => ?_⟩
  obtain ⟨c', r1, r2, r3, r4⟩ := q2 x cx hx
  have r1 : T.heap[x]? = some c' := r1
  have e : c'.slots = cx.slots := Array.ext_getElem? fun i => r4 i fun z => by
    rcases hL _ z with y | y
    · have := lt_of hx; exact absurd y (Nat.not_le.mpr this)
    · exact hnx y
  rw [r1, r2, e]
theorem chat {vm0 vm1 : Vm} {h : Heap} (hW : (s.setVm vm0).WarmedH vm1) (hZ : Z.Warmed39 vm0) (w : EW Z a0 EL) (H : CHv Z EL vm0 h) : CHr Z EL vm0 h vm1 h := by
  have q := CHv.later (h' := h) hZ (hW := (show (Wst Z vm0 h).Warmed39 vm1 from hW.wide)) w ⟨Nat.le_refl _, fun _ _ q => q⟩ (Or.inl hW.interned_eq) H
  exact ⟨q.1, Nat.le_refl _, q.2⟩
/-- a contract by its walk -/
theorem OCon.of_wp {y : MethodName} {xs : List Jvm.Cond} {rm : Room} {as' : Array Value} {Mi : Mem} {L0 : List Slot} (hpl : plainFor y = true) (hEL : EW Z a0 EL) (hent : ∀ m, entryFrame m as' maxL = mkF m 0 L0.toArray [])
    (H : ∀ p e s m below meth c, OOk p bytes maxL ret y.name meth c Z a0 EL → OWp p l e rm s m as' below meth c y.cls Z EL (dom Mi) P Q Mi [] 0 0 0 L0 []) : OCon l Z EL y bytes maxL ret xs rm as' Mi P Q := by
  refine MetFree.of_bodySF hpl hisR ?_
  intro p e s m args below meth c s₁ Bd hml0 hP hK
  obtain ⟨rfl, hZ, I⟩ := hP
  have X0 : Stand p l e rm s m args below meth c s₁ [] 0 0 := Stand.of_body Bd
  have hown : s.vm.findClass y.cls = some m.cls := findClass_of_methodNamed Bd.named
  have hnm := (name_of_methodNamed Bd.named Bd.method).1
  have hh : s₁.heap = s.heap := by rw [Bd.state]; rfl
  obtain ⟨U, st, v, L, h1, h2, h3, h4, h5, h6⟩ := H p e s m below meth c ⟨Bd.exec, Bd.bytes, hml0, Bd.returns, Bd.notSynchronized, hnm, hEL⟩ s₁
    ⟨s.vm, 0, [], X0, (State.WarmedH.refl s).since 0, Nat.zero_le _, hZ, hown, fun _ q => (nomatch q), by rw [hh]; exact I⟩
  refine ⟨U, .returned v, ?_, h1, h2, v, L, rfl, h3, h4, h5, h6⟩
  rw [hent m]; exact st
/-- a step that leaves all but the frame -/
theorem OWp.pure (H : ∀ T target, At T m c below → Steps p.tables e below (T.setTop (mkF m pc' L'.toArray S')) target → Steps p.tables e below (T.setTop (mkF m pc L.toArray S)) target)
    (k : OWp p l e R s m args below meth c own Z EL ws P Q M N cells slots pc' L' S') : OWp p l e R s m args below meth c own Z EL ws P Q M N cells slots pc L S := fun T hT => by
  obtain ⟨U, st, r⟩ := k T hT
  obtain ⟨vm0, k0, locs, X, -⟩ := hT
  exact ⟨U, H T U X.here st, r⟩
/-- one word lies in the slot, or none -/
def o1 : Slot → Bool
  | .unset => true
  | .val w => w.category == 1
  | .second => false
theorem store_l {L : List Slot} {k : Nat} {v : Value} (ho : (L[k]?).any o1 = true) (hv : v.category = 1) : storeLocals L.toArray k v = some (L.set k (.val v)).toArray := by
  cases hk : L[k]? with
  | none => rw [hk] at ho; cases ho
  | some o =>
    rw [hk] at ho
    have ho' : o1 o = true := ho
    rw [Jvm.Free.XS.store1 (l := L.toArray) (i := k) (o := o) (by simpa using hk) (by cases o <;> simp [o1] at ho' ⊢; exact ho') hv]
    simp
section Pure
variable (hk : OOk p bytes maxL ret nm meth c Z a0 EL)
theorem OWp.aload_n {k : Fin 4} {v : Value} (hk : OOk p bytes maxL ret nm meth c Z a0 EL) (hd : decode bytes pc = .ok (.aload_n k, 1)) (hp : pc' = pc + 1) (hl : L[k.val]? = some (.val v)) (hv : v.isRef = true)
    (kk : OWp p l e R s m args below meth c own Z EL ws P Q M N cells slots pc' L (v :: S)) : OWp p l e R s m args below meth c own Z EL ws P Q M N cells slots pc L S := by
  subst hp; exact OWp.pure (fun T t h k => XS.aloadN h hk.1 rfl (hb hk.2.1 hd) (by simpa using hl) hv k) kk
theorem OWp.aload {k : Nat} {v : Value} (hk : OOk p bytes maxL ret nm meth c Z a0 EL) (hd : decode bytes pc = .ok (.aload k, 2)) (hp : pc' = pc + 2) (hl : L[k]? = some (.val v)) (hv : v.isRef = true)
    (kk : OWp p l e R s m args below meth c own Z EL ws P Q M N cells slots pc' L (v :: S)) : OWp p l e R s m args below meth c own Z EL ws P Q M N cells slots pc L S := by
  subst hp; exact OWp.pure (fun T t h k => XS.aload h hk.1 rfl (hb hk.2.1 hd) (by simpa using hl) hv k) kk
theorem OWp.iload_n {k : Fin 4} {v : Int32} (hk : OOk p bytes maxL ret nm meth c Z a0 EL) (hd : decode bytes pc = .ok (.iload_n k, 1)) (hp : pc' = pc + 1) (hl : L[k.val]? = some (.val (.int v)))
    (kk : OWp p l e R s m args below meth c own Z EL ws P Q M N cells slots pc' L (.int v :: S)) : OWp p l e R s m args below meth c own Z EL ws P Q M N cells slots pc L S := by
  subst hp; exact OWp.pure (fun T t h k => XS.iloadN h hk.1 rfl (hb hk.2.1 hd) (by simpa using hl) k) kk
theorem OWp.iload {k : Nat} {v : Int32} (hk : OOk p bytes maxL ret nm meth c Z a0 EL) (hd : decode bytes pc = .ok (.iload k, 2)) (hp : pc' = pc + 2) (hl : L[k]? = some (.val (.int v)))
    (kk : OWp p l e R s m args below meth c own Z EL ws P Q M N cells slots pc' L (.int v :: S)) : OWp p l e R s m args below meth c own Z EL ws P Q M N cells slots pc L S := by
  subst hp; exact OWp.pure (fun T t h k => XS.iload h hk.1 rfl (hb hk.2.1 hd) (by simpa using hl) k) kk
theorem OWp.lload_n {k : Fin 4} {v : Int64} (hk : OOk p bytes maxL ret nm meth c Z a0 EL) (hd : decode bytes pc = .ok (.lload_n k, 1)) (hp : pc' = pc + 1) (hl : L[k.val]? = some (.val (.long v)))
    (kk : OWp p l e R s m args below meth c own Z EL ws P Q M N cells slots pc' L (.long v :: S)) : OWp p l e R s m args below meth c own Z EL ws P Q M N cells slots pc L S := by
  subst hp; exact OWp.pure (fun T t h k => XS.lloadN h hk.1 rfl (hb hk.2.1 hd) (by simpa using hl) k) kk
theorem OWp.lload {k : Nat} {v : Int64} (hk : OOk p bytes maxL ret nm meth c Z a0 EL) (hd : decode bytes pc = .ok (.lload k, 2)) (hp : pc' = pc + 2) (hl : L[k]? = some (.val (.long v)))
    (kk : OWp p l e R s m args below meth c own Z EL ws P Q M N cells slots pc' L (.long v :: S)) : OWp p l e R s m args below meth c own Z EL ws P Q M N cells slots pc L S := by
  subst hp; exact OWp.pure (fun T t h k => XS.lload h hk.1 rfl (hb hk.2.1 hd) (by simpa using hl) k) kk
theorem OWp.iconst {i : Int} {z : Int32} (hk : OOk p bytes maxL ret nm meth c Z a0 EL) (hd : decode bytes pc = .ok (.iconst i, 1)) (hp : pc' = pc + 1) (hz : Int32.ofInt i = z)
    (kk : OWp p l e R s m args below meth c own Z EL ws P Q M N cells slots pc' L (.int z :: S)) : OWp p l e R s m args below meth c own Z EL ws P Q M N cells slots pc L S := by
  subst hp hz; exact OWp.pure (fun T t h k => XS.iconst h hk.1 rfl (hb hk.2.1 hd) k) kk
theorem OWp.bipush {i : Int} {z : Int32} (hk : OOk p bytes maxL ret nm meth c Z a0 EL) (hd : decode bytes pc = .ok (.bipush i, 2)) (hp : pc' = pc + 2) (hz : (Int8.ofInt i).toInt32 = z)
    (kk : OWp p l e R s m args below meth c own Z EL ws P Q M N cells slots pc' L (.int z :: S)) : OWp p l e R s m args below meth c own Z EL ws P Q M N cells slots pc L S := by
  subst hp hz; exact OWp.pure (fun T t h k => XS.bipush h hk.1 rfl (hb hk.2.1 hd) k) kk
theorem OWp.sipush {i : Int} {z : Int32} (hk : OOk p bytes maxL ret nm meth c Z a0 EL) (hd : decode bytes pc = .ok (.sipush i, 3)) (hp : pc' = pc + 3) (hz : (Int16.ofInt i).toInt32 = z)
    (kk : OWp p l e R s m args below meth c own Z EL ws P Q M N cells slots pc' L (.int z :: S)) : OWp p l e R s m args below meth c own Z EL ws P Q M N cells slots pc L S := by
  subst hp hz; exact OWp.pure (fun T t h k => XS.sipush h hk.1 rfl (hb hk.2.1 hd) k) kk
theorem OWp.lconst {i : Fin 2} {z : Int64} (hk : OOk p bytes maxL ret nm meth c Z a0 EL) (hd : decode bytes pc = .ok (.lconst i, 1)) (hp : pc' = pc + 1) (hz : Int64.ofNat i = z)
    (kk : OWp p l e R s m args below meth c own Z EL ws P Q M N cells slots pc' L (.long z :: S)) : OWp p l e R s m args below meth c own Z EL ws P Q M N cells slots pc L S := by
  subst hp hz; exact OWp.pure (fun T t h k => XS.lconst h hk.1 rfl (hb hk.2.1 hd) k) kk
theorem OWp.aconst_null (hk : OOk p bytes maxL ret nm meth c Z a0 EL) (hd : decode bytes pc = .ok (.aconst_null, 1)) (hp : pc' = pc + 1)
    (kk : OWp p l e R s m args below meth c own Z EL ws P Q M N cells slots pc' L (.null :: S)) : OWp p l e R s m args below meth c own Z EL ws P Q M N cells slots pc L S := by
  subst hp; exact OWp.pure (fun T t h k => XS.aconstNull h hk.1 rfl (hb hk.2.1 hd) k) kk
theorem OWp.iadd {x : Int32} {y : Int32} (hk : OOk p bytes maxL ret nm meth c Z a0 EL) (hd : decode bytes pc = .ok (.iadd, 1)) (hp : pc' = pc + 1) 
    (kk : OWp p l e R s m args below meth c own Z EL ws P Q M N cells slots pc' L (.int (x + y) :: rest)) : OWp p l e R s m args below meth c own Z EL ws P Q M N cells slots pc L (.int y :: .int x :: rest) := by
  subst hp; exact OWp.pure (fun T t h k => XS.iadd h hk.1 rfl (hb hk.2.1 hd) rfl k) kk
theorem OWp.isub {x : Int32} {y : Int32} (hk : OOk p bytes maxL ret nm meth c Z a0 EL) (hd : decode bytes pc = .ok (.isub, 1)) (hp : pc' = pc + 1) 
    (kk : OWp p l e R s m args below meth c own Z EL ws P Q M N cells slots pc' L (.int (x - y) :: rest)) : OWp p l e R s m args below meth c own Z EL ws P Q M N cells slots pc L (.int y :: .int x :: rest) := by
  subst hp; exact OWp.pure (fun T t h k => XS.isub h hk.1 rfl (hb hk.2.1 hd) rfl k) kk
theorem OWp.imul {x : Int32} {y : Int32} (hk : OOk p bytes maxL ret nm meth c Z a0 EL) (hd : decode bytes pc = .ok (.imul, 1)) (hp : pc' = pc + 1) 
    (kk : OWp p l e R s m args below meth c own Z EL ws P Q M N cells slots pc' L (.int (x * y) :: rest)) : OWp p l e R s m args below meth c own Z EL ws P Q M N cells slots pc L (.int y :: .int x :: rest) := by
  subst hp; exact OWp.pure (fun T t h k => XS.imul h hk.1 rfl (hb hk.2.1 hd) rfl k) kk
theorem OWp.iand {x : Int32} {y : Int32} (hk : OOk p bytes maxL ret nm meth c Z a0 EL) (hd : decode bytes pc = .ok (.iand, 1)) (hp : pc' = pc + 1) 
    (kk : OWp p l e R s m args below meth c own Z EL ws P Q M N cells slots pc' L (.int (x &&& y) :: rest)) : OWp p l e R s m args below meth c own Z EL ws P Q M N cells slots pc L (.int y :: .int x :: rest) := by
  subst hp; exact OWp.pure (fun T t h k => XS.iand h hk.1 rfl (hb hk.2.1 hd) rfl k) kk
theorem OWp.ior {x : Int32} {y : Int32} (hk : OOk p bytes maxL ret nm meth c Z a0 EL) (hd : decode bytes pc = .ok (.ior, 1)) (hp : pc' = pc + 1) 
    (kk : OWp p l e R s m args below meth c own Z EL ws P Q M N cells slots pc' L (.int (x ||| y) :: rest)) : OWp p l e R s m args below meth c own Z EL ws P Q M N cells slots pc L (.int y :: .int x :: rest) := by
  subst hp; exact OWp.pure (fun T t h k => XS.ior h hk.1 rfl (hb hk.2.1 hd) rfl k) kk
theorem OWp.ixor {x : Int32} {y : Int32} (hk : OOk p bytes maxL ret nm meth c Z a0 EL) (hd : decode bytes pc = .ok (.ixor, 1)) (hp : pc' = pc + 1) 
    (kk : OWp p l e R s m args below meth c own Z EL ws P Q M N cells slots pc' L (.int (x ^^^ y) :: rest)) : OWp p l e R s m args below meth c own Z EL ws P Q M N cells slots pc L (.int y :: .int x :: rest) := by
  subst hp; exact OWp.pure (fun T t h k => XS.ixor h hk.1 rfl (hb hk.2.1 hd) rfl k) kk
theorem OWp.ishl {x : Int32} {y : Int32} (hk : OOk p bytes maxL ret nm meth c Z a0 EL) (hd : decode bytes pc = .ok (.ishl, 1)) (hp : pc' = pc + 1) 
    (kk : OWp p l e R s m args below meth c own Z EL ws P Q M N cells slots pc' L (.int (x <<< (y &&& 31)) :: rest)) : OWp p l e R s m args below meth c own Z EL ws P Q M N cells slots pc L (.int y :: .int x :: rest) := by
  subst hp; exact OWp.pure (fun T t h k => XS.ishl h hk.1 rfl (hb hk.2.1 hd) rfl k) kk
theorem OWp.ishr {x : Int32} {y : Int32} (hk : OOk p bytes maxL ret nm meth c Z a0 EL) (hd : decode bytes pc = .ok (.ishr, 1)) (hp : pc' = pc + 1) 
    (kk : OWp p l e R s m args below meth c own Z EL ws P Q M N cells slots pc' L (.int (x >>> (y &&& 31)) :: rest)) : OWp p l e R s m args below meth c own Z EL ws P Q M N cells slots pc L (.int y :: .int x :: rest) := by
  subst hp; exact OWp.pure (fun T t h k => XS.ishr h hk.1 rfl (hb hk.2.1 hd) rfl k) kk
theorem OWp.iushr {x : Int32} {y : Int32} (hk : OOk p bytes maxL ret nm meth c Z a0 EL) (hd : decode bytes pc = .ok (.iushr, 1)) (hp : pc' = pc + 1) 
    (kk : OWp p l e R s m args below meth c own Z EL ws P Q M N cells slots pc' L (.int (XT.ushr x y) :: rest)) : OWp p l e R s m args below meth c own Z EL ws P Q M N cells slots pc L (.int y :: .int x :: rest) := by
  subst hp; exact OWp.pure (fun T t h k => XS.iushr h hk.1 rfl (hb hk.2.1 hd) rfl k) kk
theorem OWp.idiv {x : Int32} {y : Int32} (hk : OOk p bytes maxL ret nm meth c Z a0 EL) (hd : decode bytes pc = .ok (.idiv, 1)) (hp : pc' = pc + 1) (hy : y ≠ 0)
    (kk : OWp p l e R s m args below meth c own Z EL ws P Q M N cells slots pc' L (.int (x / y) :: rest)) : OWp p l e R s m args below meth c own Z EL ws P Q M N cells slots pc L (.int y :: .int x :: rest) := by
  subst hp; exact OWp.pure (fun T t h k => XS.idiv h hk.1 rfl (hb hk.2.1 hd) rfl hy k) kk
theorem OWp.ladd {x : Int64} {y : Int64} (hk : OOk p bytes maxL ret nm meth c Z a0 EL) (hd : decode bytes pc = .ok (.ladd, 1)) (hp : pc' = pc + 1) 
    (kk : OWp p l e R s m args below meth c own Z EL ws P Q M N cells slots pc' L (.long (x + y) :: rest)) : OWp p l e R s m args below meth c own Z EL ws P Q M N cells slots pc L (.long y :: .long x :: rest) := by
  subst hp; exact OWp.pure (fun T t h k => XS.ladd h hk.1 rfl (hb hk.2.1 hd) rfl k) kk
theorem OWp.lsub {x : Int64} {y : Int64} (hk : OOk p bytes maxL ret nm meth c Z a0 EL) (hd : decode bytes pc = .ok (.lsub, 1)) (hp : pc' = pc + 1) 
    (kk : OWp p l e R s m args below meth c own Z EL ws P Q M N cells slots pc' L (.long (x - y) :: rest)) : OWp p l e R s m args below meth c own Z EL ws P Q M N cells slots pc L (.long y :: .long x :: rest) := by
  subst hp; exact OWp.pure (fun T t h k => XS.lsub h hk.1 rfl (hb hk.2.1 hd) rfl k) kk
theorem OWp.lmul {x : Int64} {y : Int64} (hk : OOk p bytes maxL ret nm meth c Z a0 EL) (hd : decode bytes pc = .ok (.lmul, 1)) (hp : pc' = pc + 1) 
    (kk : OWp p l e R s m args below meth c own Z EL ws P Q M N cells slots pc' L (.long (x * y) :: rest)) : OWp p l e R s m args below meth c own Z EL ws P Q M N cells slots pc L (.long y :: .long x :: rest) := by
  subst hp; exact OWp.pure (fun T t h k => XS.lmul h hk.1 rfl (hb hk.2.1 hd) rfl k) kk
theorem OWp.land {x : Int64} {y : Int64} (hk : OOk p bytes maxL ret nm meth c Z a0 EL) (hd : decode bytes pc = .ok (.land, 1)) (hp : pc' = pc + 1) 
    (kk : OWp p l e R s m args below meth c own Z EL ws P Q M N cells slots pc' L (.long (x &&& y) :: rest)) : OWp p l e R s m args below meth c own Z EL ws P Q M N cells slots pc L (.long y :: .long x :: rest) := by
  subst hp; exact OWp.pure (fun T t h k => XS.land h hk.1 rfl (hb hk.2.1 hd) rfl k) kk
theorem OWp.lor {x : Int64} {y : Int64} (hk : OOk p bytes maxL ret nm meth c Z a0 EL) (hd : decode bytes pc = .ok (.lor, 1)) (hp : pc' = pc + 1) 
    (kk : OWp p l e R s m args below meth c own Z EL ws P Q M N cells slots pc' L (.long (x ||| y) :: rest)) : OWp p l e R s m args below meth c own Z EL ws P Q M N cells slots pc L (.long y :: .long x :: rest) := by
  subst hp; exact OWp.pure (fun T t h k => XS.lor h hk.1 rfl (hb hk.2.1 hd) rfl k) kk
theorem OWp.lshl {x : Int64} {y : Int32} (hk : OOk p bytes maxL ret nm meth c Z a0 EL) (hd : decode bytes pc = .ok (.lshl, 1)) (hp : pc' = pc + 1) 
    (kk : OWp p l e R s m args below meth c own Z EL ws P Q M N cells slots pc' L (.long (x <<< (y &&& 63).toInt64) :: rest)) : OWp p l e R s m args below meth c own Z EL ws P Q M N cells slots pc L (.int y :: .long x :: rest) := by
  subst hp; exact OWp.pure (fun T t h k => XS.lshl h hk.1 rfl (hb hk.2.1 hd) rfl k) kk
theorem OWp.lushr {x : Int64} {y : Int32} (hk : OOk p bytes maxL ret nm meth c Z a0 EL) (hd : decode bytes pc = .ok (.lushr, 1)) (hp : pc' = pc + 1) 
    (kk : OWp p l e R s m args below meth c own Z EL ws P Q M N cells slots pc' L (.long (x.toUInt64 >>> (y &&& 63).toInt64.toUInt64).toInt64 :: rest)) : OWp p l e R s m args below meth c own Z EL ws P Q M N cells slots pc L (.int y :: .long x :: rest) := by
  subst hp; exact OWp.pure (fun T t h k => XS.lushr h hk.1 rfl (hb hk.2.1 hd) rfl k) kk
theorem OWp.lshr {x : Int64} {y : Int32} (hk : OOk p bytes maxL ret nm meth c Z a0 EL) (hd : decode bytes pc = .ok (.lshr, 1)) (hp : pc' = pc + 1) 
    (kk : OWp p l e R s m args below meth c own Z EL ws P Q M N cells slots pc' L (.long (x >>> (y &&& 63).toInt64) :: rest)) : OWp p l e R s m args below meth c own Z EL ws P Q M N cells slots pc L (.int y :: .long x :: rest) := by
  subst hp; exact OWp.pure (fun T t h k => XS.lshr h hk.1 rfl (hb hk.2.1 hd) rfl k) kk
theorem OWp.i2b {x : Int32} (hk : OOk p bytes maxL ret nm meth c Z a0 EL) (hd : decode bytes pc = .ok (.i2b, 1)) (hp : pc' = pc + 1)
    (kk : OWp p l e R s m args below meth c own Z EL ws P Q M N cells slots pc' L (.int x.toInt8.toInt32 :: rest)) : OWp p l e R s m args below meth c own Z EL ws P Q M N cells slots pc L (.int x :: rest) := by
  subst hp; exact OWp.pure (fun T t h k => XS.i2b h hk.1 rfl (hb hk.2.1 hd) rfl k) kk
theorem OWp.i2c {x : Int32} (hk : OOk p bytes maxL ret nm meth c Z a0 EL) (hd : decode bytes pc = .ok (.i2c, 1)) (hp : pc' = pc + 1)
    (kk : OWp p l e R s m args below meth c own Z EL ws P Q M N cells slots pc' L (.int x.toUInt32.toUInt16.toUInt32.toInt32 :: rest)) : OWp p l e R s m args below meth c own Z EL ws P Q M N cells slots pc L (.int x :: rest) := by
  subst hp; exact OWp.pure (fun T t h k => XS.i2c h hk.1 rfl (hb hk.2.1 hd) rfl k) kk
theorem OWp.i2s {x : Int32} (hk : OOk p bytes maxL ret nm meth c Z a0 EL) (hd : decode bytes pc = .ok (.i2s, 1)) (hp : pc' = pc + 1)
    (kk : OWp p l e R s m args below meth c own Z EL ws P Q M N cells slots pc' L (.int x.toInt16.toInt32 :: rest)) : OWp p l e R s m args below meth c own Z EL ws P Q M N cells slots pc L (.int x :: rest) := by
  subst hp; exact OWp.pure (fun T t h k => XS.i2s h hk.1 rfl (hb hk.2.1 hd) rfl k) kk
theorem OWp.i2l {x : Int32} (hk : OOk p bytes maxL ret nm meth c Z a0 EL) (hd : decode bytes pc = .ok (.i2l, 1)) (hp : pc' = pc + 1)
    (kk : OWp p l e R s m args below meth c own Z EL ws P Q M N cells slots pc' L (.long x.toInt64 :: rest)) : OWp p l e R s m args below meth c own Z EL ws P Q M N cells slots pc L (.int x :: rest) := by
  subst hp; exact OWp.pure (fun T t h k => XS.i2l h hk.1 rfl (hb hk.2.1 hd) rfl k) kk
theorem OWp.l2i {x : Int64} (hk : OOk p bytes maxL ret nm meth c Z a0 EL) (hd : decode bytes pc = .ok (.l2i, 1)) (hp : pc' = pc + 1)
    (kk : OWp p l e R s m args below meth c own Z EL ws P Q M N cells slots pc' L (.int x.toInt32 :: rest)) : OWp p l e R s m args below meth c own Z EL ws P Q M N cells slots pc L (.long x :: rest) := by
  subst hp; exact OWp.pure (fun T t h k => XS.l2i h hk.1 rfl (hb hk.2.1 hd) rfl k) kk
theorem OWp.ineg {x : Int32} (hk : OOk p bytes maxL ret nm meth c Z a0 EL) (hd : decode bytes pc = .ok (.ineg, 1)) (hp : pc' = pc + 1)
    (kk : OWp p l e R s m args below meth c own Z EL ws P Q M N cells slots pc' L (.int (-x) :: rest)) : OWp p l e R s m args below meth c own Z EL ws P Q M N cells slots pc L (.int x :: rest) := by
  subst hp; exact OWp.pure (fun T t h k => XS.ineg h hk.1 rfl (hb hk.2.1 hd) rfl k) kk
theorem OWp.istore {k : Nat} {x : Int32} (hk : OOk p bytes maxL ret nm meth c Z a0 EL) (hd : decode bytes pc = .ok (.istore k, 2)) (hp : pc' = pc + 2) (ho : (L[k]?).any o1 = true) (hl : L.set k (.val (.int x)) = L')
    (kk : OWp p l e R s m args below meth c own Z EL ws P Q M N cells slots pc' L' rest) : OWp p l e R s m args below meth c own Z EL ws P Q M N cells slots pc L (.int x :: rest) := by
  subst hp hl; exact OWp.pure (fun T t h k => XS.istore h hk.1 rfl (hb hk.2.1 hd) rfl (store_l ho rfl) k) kk
theorem OWp.istore_n {k : Fin 4} {kn : Nat} {x : Int32} (hk : OOk p bytes maxL ret nm meth c Z a0 EL) (hd : decode bytes pc = .ok (.istore_n k, 1)) (hp : pc' = pc + 1) (hkn : k.val = kn) (ho : (L[kn]?).any o1 = true) (hl : L.set kn (.val (.int x)) = L')
    (kk : OWp p l e R s m args below meth c own Z EL ws P Q M N cells slots pc' L' rest) : OWp p l e R s m args below meth c own Z EL ws P Q M N cells slots pc L (.int x :: rest) := by
  subst hp hl hkn; exact OWp.pure (fun T t h k => XS.istoreN h hk.1 rfl (hb hk.2.1 hd) rfl (store_l ho rfl) k) kk
theorem OWp.astore {k : Nat} {x : Value} (hk : OOk p bytes maxL ret nm meth c Z a0 EL) (hd : decode bytes pc = .ok (.astore k, 2)) (hp : pc' = pc + 2) (hv : x.isRef = true) (ho : (L[k]?).any o1 = true) (hl : L.set k (.val x) = L')
    (kk : OWp p l e R s m args below meth c own Z EL ws P Q M N cells slots pc' L' rest) : OWp p l e R s m args below meth c own Z EL ws P Q M N cells slots pc L (x :: rest) := by
  subst hp hl; exact OWp.pure (fun T t h k => XS.astore h hk.1 rfl (hb hk.2.1 hd) rfl hv (store_l ho (XT.cat1 hv)) k) kk
theorem OWp.astore_n {k : Fin 4} {kn : Nat} {x : Value} (hk : OOk p bytes maxL ret nm meth c Z a0 EL) (hd : decode bytes pc = .ok (.astore_n k, 1)) (hp : pc' = pc + 1) (hkn : k.val = kn) (hv : x.isRef = true) (ho : (L[kn]?).any o1 = true) (hl : L.set kn (.val x) = L')
    (kk : OWp p l e R s m args below meth c own Z EL ws P Q M N cells slots pc' L' rest) : OWp p l e R s m args below meth c own Z EL ws P Q M N cells slots pc L (x :: rest) := by
  subst hp hl hkn; exact OWp.pure (fun T t h k => XS.astoreN h hk.1 rfl (hb hk.2.1 hd) rfl hv (store_l ho (XT.cat1 hv)) k) kk
theorem OWp.lstore {k : Nat} {x : Int64} (hk : OOk p bytes maxL ret nm meth c Z a0 EL) (hd : decode bytes pc = .ok (.lstore k, 2)) (hp : pc' = pc + 2) (hl : storeLocals L.toArray k (.long x) = some L'.toArray)
    (kk : OWp p l e R s m args below meth c own Z EL ws P Q M N cells slots pc' L' rest) : OWp p l e R s m args below meth c own Z EL ws P Q M N cells slots pc L (.long x :: rest) := by
  subst hp; exact OWp.pure (fun T t h k => XS.lstore h hk.1 rfl (hb hk.2.1 hd) rfl hl k) kk
theorem OWp.lstore_n {k : Fin 4} {kn : Nat} {x : Int64} (hk : OOk p bytes maxL ret nm meth c Z a0 EL) (hd : decode bytes pc = .ok (.lstore_n k, 1)) (hp : pc' = pc + 1) (hkn : k.val = kn) (hl : storeLocals L.toArray kn (.long x) = some L'.toArray)
    (kk : OWp p l e R s m args below meth c own Z EL ws P Q M N cells slots pc' L' rest) : OWp p l e R s m args below meth c own Z EL ws P Q M N cells slots pc L (.long x :: rest) := by
  subst hp hkn; exact OWp.pure (fun T t h k => XS.lstoreN h hk.1 rfl (hb hk.2.1 hd) rfl hl k) kk
theorem OWp.iinc {k : Nat} {cst : Int} {x z : Int32} (hk : OOk p bytes maxL ret nm meth c Z a0 EL) (hd : decode bytes pc = .ok (.iinc k cst, 3)) (hp : pc' = pc + 3) (hx : L[k]? = some (.val (.int x))) (hz : Int32.ofInt cst = z) (hl : L.set k (.val (.int (x + z))) = L')
    (kk : OWp p l e R s m args below meth c own Z EL ws P Q M N cells slots pc' L' S) : OWp p l e R s m args below meth c own Z EL ws P Q M N cells slots pc L S := by
  subst hp hl hz; exact OWp.pure (fun T t h k => XS.iinc h hk.1 rfl (hb hk.2.1 hd) (by simpa using hx) (store_l (by rw [hx]; rfl) rfl) k) kk
theorem OWp.dup {x : Value} (hk : OOk p bytes maxL ret nm meth c Z a0 EL) (hd : decode bytes pc = .ok (.dup, 1)) (hp : pc' = pc + 1) (hc : x.category = 1)
    (kk : OWp p l e R s m args below meth c own Z EL ws P Q M N cells slots pc' L (x :: x :: rest)) : OWp p l e R s m args below meth c own Z EL ws P Q M N cells slots pc L (x :: rest) := by
  subst hp; exact OWp.pure (fun T t h k => XS.dup h hk.1 rfl (hb hk.2.1 hd) rfl hc k) kk
theorem OWp.dup_x1 {x y : Value} (hk : OOk p bytes maxL ret nm meth c Z a0 EL) (hd : decode bytes pc = .ok (.dup_x1, 1)) (hp : pc' = pc + 1) (hc : x.category = 1) (hc' : y.category = 1)
    (kk : OWp p l e R s m args below meth c own Z EL ws P Q M N cells slots pc' L (x :: y :: x :: rest)) : OWp p l e R s m args below meth c own Z EL ws P Q M N cells slots pc L (x :: y :: rest) := by
  subst hp; exact OWp.pure (fun T t h k => XS.dupX1 h hk.1 rfl (hb hk.2.1 hd) rfl hc hc' k) kk
theorem OWp.dup2 {x y : Value} (hk : OOk p bytes maxL ret nm meth c Z a0 EL) (hd : decode bytes pc = .ok (.dup2, 1)) (hp : pc' = pc + 1) (hc : x.category = 1) (hc' : y.category = 1)
    (kk : OWp p l e R s m args below meth c own Z EL ws P Q M N cells slots pc' L (x :: y :: x :: y :: rest)) : OWp p l e R s m args below meth c own Z EL ws P Q M N cells slots pc L (x :: y :: rest) := by
  subst hp; exact OWp.pure (fun T t h k => XT.dup2 h hk.1 rfl (hb hk.2.1 hd) rfl hc hc' k) kk
theorem OWp.pop {x : Value} (hk : OOk p bytes maxL ret nm meth c Z a0 EL) (hd : decode bytes pc = .ok (.pop, 1)) (hp : pc' = pc + 1) (hc : x.category = 1)
    (kk : OWp p l e R s m args below meth c own Z EL ws P Q M N cells slots pc' L rest) : OWp p l e R s m args below meth c own Z EL ws P Q M N cells slots pc L (x :: rest) := by
  subst hp; exact OWp.pure (fun T t h k => XS.pop h hk.1 rfl (hb hk.2.1 hd) rfl hc k) kk
theorem OWp.goto {o : Int} (hk : OOk p bytes maxL ret nm meth c Z a0 EL) (hd : decode bytes pc = .ok (.goto o, 3)) (ho : 0 ≤ (pc : Int) + o) (hp : ((pc : Int) + o).toNat = pc')
    (kk : OWp p l e R s m args below meth c own Z EL ws P Q M N cells slots pc' L S) : OWp p l e R s m args below meth c own Z EL ws P Q M N cells slots pc L S := by
  exact OWp.pure (fun T t h k => XS.goto h hk.1 rfl (pc0 := pc) rfl (hb hk.2.1 hd) ho hp k) kk
theorem OWp.ifYes {cd : ClassFile.Cond} {x : Int32} {o : Int} (hk : OOk p bytes maxL ret nm meth c Z a0 EL) (hd : decode bytes pc = .ok (.ifCond cd o, 3)) (hc : ifCond.holds cd x = true) (ho : 0 ≤ (pc : Int) + o) (hp : ((pc : Int) + o).toNat = pc')
    (kk : OWp p l e R s m args below meth c own Z EL ws P Q M N cells slots pc' L rest) : OWp p l e R s m args below meth c own Z EL ws P Q M N cells slots pc L (.int x :: rest) := by
  exact OWp.pure (fun T t h k => XS.ifYes h hk.1 rfl (pc0 := pc) rfl (hb hk.2.1 hd) rfl hc ho hp k) kk
theorem OWp.ifNo {cd : ClassFile.Cond} {x : Int32} {o : Int} (hk : OOk p bytes maxL ret nm meth c Z a0 EL) (hd : decode bytes pc = .ok (.ifCond cd o, 3)) (hc : ifCond.holds cd x = false) (hp : pc' = pc + 3)
    (kk : OWp p l e R s m args below meth c own Z EL ws P Q M N cells slots pc' L rest) : OWp p l e R s m args below meth c own Z EL ws P Q M N cells slots pc L (.int x :: rest) := by
  subst hp; exact OWp.pure (fun T t h k => XS.ifNo h hk.1 rfl (hb hk.2.1 hd) rfl hc k) kk
theorem OWp.icmpYes {cd : ClassFile.Cond} {x y : Int32} {o : Int} (hk : OOk p bytes maxL ret nm meth c Z a0 EL) (hd : decode bytes pc = .ok (.if_icmp cd o, 3)) (hc : if_icmp.holds cd x y = true) (ho : 0 ≤ (pc : Int) + o) (hp : ((pc : Int) + o).toNat = pc')
    (kk : OWp p l e R s m args below meth c own Z EL ws P Q M N cells slots pc' L rest) : OWp p l e R s m args below meth c own Z EL ws P Q M N cells slots pc L (.int y :: .int x :: rest) := by
  exact OWp.pure (fun T t h k => XS.icmpYes h hk.1 rfl (pc0 := pc) rfl (hb hk.2.1 hd) rfl hc ho hp k) kk
theorem OWp.icmpNo {cd : ClassFile.Cond} {x y : Int32} {o : Int} (hk : OOk p bytes maxL ret nm meth c Z a0 EL) (hd : decode bytes pc = .ok (.if_icmp cd o, 3)) (hc : if_icmp.holds cd x y = false) (hp : pc' = pc + 3)
    (kk : OWp p l e R s m args below meth c own Z EL ws P Q M N cells slots pc' L rest) : OWp p l e R s m args below meth c own Z EL ws P Q M N cells slots pc L (.int y :: .int x :: rest) := by
  subst hp; exact OWp.pure (fun T t h k => XS.icmpNo h hk.1 rfl (hb hk.2.1 hd) rfl hc k) kk
theorem OWp.nullYes {o : Int} (hk : OOk p bytes maxL ret nm meth c Z a0 EL) (hd : decode bytes pc = .ok (.ifnull o, 3)) (ho : 0 ≤ (pc : Int) + o) (hp : ((pc : Int) + o).toNat = pc')
    (kk : OWp p l e R s m args below meth c own Z EL ws P Q M N cells slots pc' L rest) : OWp p l e R s m args below meth c own Z EL ws P Q M N cells slots pc L (.null :: rest) := by
  exact OWp.pure (fun T t h k => XS.ifnullYes h hk.1 rfl (pc0 := pc) rfl (hb hk.2.1 hd) rfl ho hp k) kk
theorem OWp.nullNo {o : Int} {b : Addr} (hk : OOk p bytes maxL ret nm meth c Z a0 EL) (hd : decode bytes pc = .ok (.ifnull o, 3)) (hp : pc' = pc + 3)
    (kk : OWp p l e R s m args below meth c own Z EL ws P Q M N cells slots pc' L rest) : OWp p l e R s m args below meth c own Z EL ws P Q M N cells slots pc L (.ref b :: rest) := by
  subst hp; exact OWp.pure (fun T t h k => XS.ifnullNo h hk.1 rfl (hb hk.2.1 hd) rfl k) kk
theorem OWp.nonnullYes {o : Int} {b : Addr} (hk : OOk p bytes maxL ret nm meth c Z a0 EL) (hd : decode bytes pc = .ok (.ifnonnull o, 3)) (ho : 0 ≤ (pc : Int) + o) (hp : ((pc : Int) + o).toNat = pc')
    (kk : OWp p l e R s m args below meth c own Z EL ws P Q M N cells slots pc' L rest) : OWp p l e R s m args below meth c own Z EL ws P Q M N cells slots pc L (.ref b :: rest) := by
  exact OWp.pure (fun T t h k => XS.ifnonnullYes h hk.1 rfl (pc0 := pc) rfl (hb hk.2.1 hd) rfl ho hp k) kk
theorem OWp.nonnullNo {o : Int} (hk : OOk p bytes maxL ret nm meth c Z a0 EL) (hd : decode bytes pc = .ok (.ifnonnull o, 3)) (hp : pc' = pc + 3)
    (kk : OWp p l e R s m args below meth c own Z EL ws P Q M N cells slots pc' L rest) : OWp p l e R s m args below meth c own Z EL ws P Q M N cells slots pc L (.null :: rest) := by
  subst hp; exact OWp.pure (fun T t h k => XS.ifnonnullNo h hk.1 rfl (hb hk.2.1 hd) rfl k) kk
theorem OWp.acmpYes {cd : ClassFile.ACond} {x y : Value} {o : Int} (hk : OOk p bytes maxL ret nm meth c Z a0 EL) (hd : decode bytes pc = .ok (.if_acmp cd o, 3)) (h1 : x.isRef = true) (h2 : y.isRef = true) (hc : XT.acmp cd x y = true) (ho : 0 ≤ (pc : Int) + o) (hp : ((pc : Int) + o).toNat = pc')
    (kk : OWp p l e R s m args below meth c own Z EL ws P Q M N cells slots pc' L rest) : OWp p l e R s m args below meth c own Z EL ws P Q M N cells slots pc L (y :: x :: rest) := by
  exact OWp.pure (fun T t h k => XT.acmpYes h hk.1 rfl (pc0 := pc) rfl (hb hk.2.1 hd) rfl h1 h2 hc ho hp k) kk
theorem OWp.acmpNo {cd : ClassFile.ACond} {x y : Value} {o : Int} (hk : OOk p bytes maxL ret nm meth c Z a0 EL) (hd : decode bytes pc = .ok (.if_acmp cd o, 3)) (h1 : x.isRef = true) (h2 : y.isRef = true) (hc : XT.acmp cd x y = false) (hp : pc' = pc + 3)
    (kk : OWp p l e R s m args below meth c own Z EL ws P Q M N cells slots pc' L rest) : OWp p l e R s m args below meth c own Z EL ws P Q M N cells slots pc L (y :: x :: rest) := by
  subst hp; exact OWp.pure (fun T t h k => XT.acmpNo h hk.1 rfl (hb hk.2.1 hd) rfl h1 h2 hc k) kk
theorem OWp.lcmp {x y : Int64} (hk : OOk p bytes maxL ret nm meth c Z a0 EL) (hd : decode bytes pc = .ok (.lcmp, 1)) (hp : pc' = pc + 1)
    (kk : OWp p l e R s m args below meth c own Z EL ws P Q M N cells slots pc' L (.int (XT.cmpL x y) :: rest)) : OWp p l e R s m args below meth c own Z EL ws P Q M N cells slots pc L (.long y :: .long x :: rest) := by
  subst hp; exact OWp.pure (fun T t h k => XS.lcmp h hk.1 rfl (hb hk.2.1 hd) rfl k) kk
end Pure
/-! 3. steps that read the heap or the tables, and leave both as they were -/
theorem OWp.pureX (H : ∀ (T target : State) (vm0 : Vm) (locs : List Loc), Stand p l e R (s.setVm vm0) m args below meth c T locs cells slots → Z.Warmed39 vm0 → vm0.findClass own = some m.cls → (∀ q ∈ M ++ (N ++ P), T.heap[q.1]? = some q.2) →
      Steps p.tables e below (T.setTop (mkF m pc' L'.toArray S')) target → Steps p.tables e below (T.setTop (mkF m pc L.toArray S)) target)
    (k : OWp p l e R s m args below meth c own Z EL ws P Q M N cells slots pc' L' S') : OWp p l e R s m args below meth c own Z EL ws P Q M N cells slots pc L S := fun T hT => by
  obtain ⟨U, st, r⟩ := k T hT
  obtain ⟨vm0, k0, locs, X, -, -, hZ, ho, -, I⟩ := hT
  exact ⟨U, H T U vm0 locs X hZ ho (fun q hq => I.at hq) st, r⟩
/-- .. the tables may be warmer behind it -/
theorem OWp.pureT (H : ∀ (T : State) (vm0 : Vm) (locs : List Loc), Stand p l e R (s.setVm vm0) m args below meth c T locs cells slots → Z.Warmed39 vm0 → vm0.findClass own = some m.cls → Ext Z.heap T.heap → (∀ q ∈ M ++ (N ++ P), T.heap[q.1]? = some q.2) →
      ∃ T', Stand p l e R (s.setVm vm0) m args below meth c T' locs cells slots ∧ T'.heap = T.heap ∧ ∀ target, Steps p.tables e below (T'.setTop (mkF m pc' L'.toArray S')) target → Steps p.tables e below (T.setTop (mkF m pc L.toArray S)) target)
    (k : OWp p l e R s m args below meth c own Z EL ws P Q M N cells slots pc' L' S') : OWp p l e R s m args below meth c own Z EL ws P Q M N cells slots pc L S := fun T hT => by
  obtain ⟨vm0, k0, locs, X, hS, hk0, hZ, ho, hL, I⟩ := hT
  obtain ⟨T', X', eh, st⟩ := H T vm0 locs X hZ ho I.2.1 (fun q hq => I.at hq)
  obtain ⟨U, st', r⟩ := k T' ⟨vm0, k0, locs, X', hS, by rw [eh]; exact hk0, hZ, ho, hL, by rw [eh]; exact I⟩
  exact ⟨U, st _ st', r⟩
theorem OWp.irem {x y : Int32} (hk : OOk p bytes maxL ret nm meth c Z a0 EL) (hd : decode bytes pc = .ok (.irem, 1)) (hp : pc' = pc + 1) (hy : y ≠ 0)
    (kk : OWp p l e R s m args below meth c own Z EL ws P Q M N cells slots pc' L (.int (x % y) :: rest)) : OWp p l e R s m args below meth c own Z EL ws P Q M N cells slots pc L (.int y :: .int x :: rest) := by
  subst hp; exact OWp.pureX (fun T t vm0 locs X _ _ _ k => iremM X hk.1 rfl (hb hk.2.1 hd) rfl hy k) kk
theorem OWp.ldcI {index : Nat} {v : Int32} (hk : OOk p bytes maxL ret nm meth c Z a0 EL) (hd : decode bytes pc = .ok (.ldc index, 2)) (hp : pc' = pc + 2) (w : (Jvm.Cond.constant own index v).before a0 Z = true)
    (kk : OWp p l e R s m args below meth c own Z EL ws P Q M N cells slots pc' L (.int v :: S)) : OWp p l e R s m args below meth c own Z EL ws P Q M N cells slots pc L S := by
  subst hp; exact OWp.pureX (fun T t vm0 locs X hZ ho _ k => X.ldcI hk.1 (own := own) ho (mvT (s := s.setVm vm0) hZ w) (g := mkF m pc L.toArray S) rfl (hb hk.2.1 hd) k) kk
theorem OWp.ldc2J {index : Nat} {v : Int64} (hk : OOk p bytes maxL ret nm meth c Z a0 EL) (hd : decode bytes pc = .ok (.ldc2_w index, 3)) (hp : pc' = pc + 3) (w : (Jvm.Cond.constantLong own index v).before a0 Z = true)
    (kk : OWp p l e R s m args below meth c own Z EL ws P Q M N cells slots pc' L (.long v :: S)) : OWp p l e R s m args below meth c own Z EL ws P Q M N cells slots pc L S := by
  subst hp; exact OWp.pureX (fun T t vm0 locs X hZ ho _ k => X.ldc2J hk.1 (own := own) ho (mvT (s := s.setVm vm0) hZ w) (g := mkF m pc L.toArray S) rfl (hb hk.2.1 hd) k) kk
/-- a field of a cell, read through the tables of the start -/
def FC (Z : State) (cl : Cell) (C n d : String) (v : Value) : Prop := ∃ (cf : ClassId) (k : Class) (i : Nat) (f : Field), Z.fieldFound? C n d = some (cf, k, i, f) ∧ f.isStatic = false ∧ cl.vm ≠ .unknown ∧ cl.vm.isStatics = false ∧ Z.vm.assignable cl.cls cf = true ∧ cl.slots[f.slot]? = some v
/-- a cell that is exactly of class C -/
def EC (Z : State) (cl : Cell) (C : String) : Prop := ∃ k : Class, Z.vm.findClass C = some cl.cls ∧ Z.vm.classes[cl.cls]? = some k ∧ cl.vm.isStatics = false ∧ (k.kind = .ordinary → cl.slots.size = k.instanceTypes.size)
/-- an array's cell: its kind and its whole list -/
def AC (Z : State) (cl : Cell) (ty : FieldType) (vs : List Value) : Prop := Z.isArrayOf cl ty ∧ cl.vm ≠ .unknown ∧ cl.slots.toList = vs ∧ vs.length < 2147483648 ∧ ∀ v ∈ vs, fits ty v = true
section Cells
variable {h h' : Heap} {a : Addr} {cl : Cell} {C C' n d O : String} {v w : Value} {ty : FieldType} {vs : List Value}
theorem FC.fld (F : FC Z cl C n d v) (hh : h[a]? = some cl) : Fld Z h a C n d v := by obtain ⟨cf, k, i, f, r⟩ := F; exact ⟨cl, cf, k, i, f, hh, r⟩
theorem FC.of (F : Fld Z h a C n d v) (hh : h[a]? = some cl) : FC Z cl C n d v := by
  obtain ⟨cl', cf, k, i, f, q, r⟩ := F; cases hh.symm.trans q; exact ⟨cf, k, i, f, r⟩
theorem EC.exa (F : EC Z cl C) (hh : h[a]? = some cl) : Exa Z h a C := by obtain ⟨k, r1, r2⟩ := F; exact ⟨cl, k, hh, r1, r2⟩
theorem EC.of (F : Exa Z h a C) (hh : h[a]? = some cl) : EC Z cl C := by
  obtain ⟨cl', k, q, r⟩ := F; cases hh.symm.trans q; exact ⟨k, r⟩
theorem AC.arr (F : AC Z cl ty vs) (hh : h[a]? = some cl) : RoadKit.Arr Z h a cl ty := ⟨hh, F.1, F.2.1⟩
theorem AC.size (F : AC Z cl ty vs) : cl.slots.size = vs.length := by rw [← F.2.2.1]; simp
theorem AC.get (F : AC Z cl ty vs) (i : Nat) : cl.slots[i]? = vs[i]? := by rw [← F.2.2.1]; simp
theorem toNat_lt {j : Int32} {n : Nat} (h0 : ¬ j < 0) (hj : j.toNatClampNeg = n) : j.toInt = n := by rw [nat_of h0, hj]
theorem AC.inb (F : AC Z cl ty vs) {j : Int32} (h0 : ¬ j < 0) (hi : j.toNatClampNeg < vs.length) : ¬ (j < 0 ∨ cl.slots.size ≤ j.toNatClampNeg) := by
  rw [F.size]; intro q; rcases q with q | q
  · exact h0 q
  · omega
theorem AC.set (F : AC Z cl ty vs) {i : Nat} (hv : fits ty v = true) (hi : i < vs.length) : AC Z (cl.setSlot i v) ty (vs.set i v) := by
  obtain ⟨h1, h2, h3, h4, h5⟩ := F
  refine ⟨h1, h2, ?_, by simpa using h4, fun u hu => ?_⟩
  · subst h3; simp [Cell.setSlot]
  · rcases List.mem_or_eq_of_mem_set hu with hu | rfl
    · exact h5 u hu
    · exact hv
theorem AC.congr {n : Nat} {f g : Nat → Value} (F : AC Z cl ty (tab n f)) (h : ∀ j, j < n → f j = g j) : AC Z cl ty (tab n g) := by rw [← tab_congr h]; exact F
theorem AC.new {cA : ClassId} {z : Int32} (A : RoadKit.Arr Z h a (newA cA ty z) ty) (hz : ¬ z < 0) (hd : fits ty (defaultValue ty) = true) : AC Z (newA cA ty z) ty (List.replicate z.toNatClampNeg (defaultValue ty)) :=
  ⟨A.2.1, A.2.2, by simp [newA], by simp only [List.length_replicate]; exact (back32 hz).2, fun u hu => by rw [List.eq_of_mem_replicate hu]; exact hd⟩
/-- as the library's laws ask an array -/
theorem AC.arv (F : AC Z cl ty vs) (hh : h[a]? = some cl) {d : Value} : Arv Z h a cl.cls ty (Int32.ofNat vs.length) vs d := by
  have hl := F.2.2.2.1
  have hn : (Int32.ofNat vs.length).toNatClampNeg = vs.length := by
    rw [Int32.toNatClampNeg, Int32.toInt_ofNat_small (by simpa using hl)]; simp
  have h0 : ¬ Int32.ofNat vs.length < 0 := Int32.ofNat_not_neg (by simpa using hl)
  refine ⟨cl, F.arr hh, rfl, by rw [hn, F.size], h0, fun k hk => ?_, fun k hk => ?_⟩
  · rw [F.size] at hk
    rw [F.get k, List.getD_eq_getElem?_getD, List.getElem?_eq_getElem hk]; rfl
  · rw [F.size] at hk
    rw [List.getD_eq_getElem?_getD, List.getElem?_eq_getElem hk]
    exact F.2.2.2.2 _ (List.getElem_mem hk)
theorem FC.set (F : FC Z cl C n d w) : FC Z (cl.setSlot (RoadKit.slotOf Z C n d) v) C n d v := by
  obtain ⟨cf, k, i, f, h1, h2, h3, h4, h5, h6⟩ := F
  have e : RoadKit.slotOf Z C n d = f.slot := by simp [RoadKit.slotOf, h1]
  refine ⟨cf, k, i, f, h1, h2, h3, h4, h5, ?_⟩
  rw [e]; have := (Array.getElem?_eq_some_iff.mp h6).1; simp [Cell.setSlot, this]
theorem FC.other {sl : Nat} (F : FC Z cl C n d w) (hne : RoadKit.slotOf Z C n d ≠ sl) : FC Z (cl.setSlot sl v) C n d w := by
  obtain ⟨cf, k, i, f, h1, h2, h3, h4, h5, h6⟩ := F
  have e : RoadKit.slotOf Z C n d = f.slot := by simp [RoadKit.slotOf, h1]
  refine ⟨cf, k, i, f, h1, h2, h3, h4, h5, ?_⟩
  rw [e] at hne
  simp only [Cell.setSlot]; rw [Array.getElem?_setIfInBounds_ne (Ne.symm hne)]; exact h6
theorem EC.set {sl : Nat} (F : EC Z cl C) : EC Z (cl.setSlot sl v) C := by
  obtain ⟨k, h1, h2, h3, h4⟩ := F
  exact ⟨k, h1, h2, h3, fun q => by rw [sz_set]; exact h4 q⟩
end Cells
section Reads
variable {a : Addr} {cl : Cell} {ty : FieldType} {vs : List Value} {v : Value} {j : Int32} {index : Nat} {O n d R0 : String}
theorem OWp.getfield (hk : OOk p bytes maxL ret nm meth c Z a0 EL) (hd : decode bytes pc = .ok (.getfield index, 3)) (hp : pc' = pc + 3) (w : (Jvm.Cond.fieldLink own index O n d).before a0 Z = true) (hm : (a, cl) ∈ M ++ (N ++ P)) (F : FC Z cl O n d v)
    (kk : OWp p l e R s m args below meth c own Z EL ws P Q M N cells slots pc' L (v :: rest)) : OWp p l e R s m args below meth c own Z EL ws P Q M N cells slots pc L (.ref a :: rest) := by
  subst hp
  exact OWp.pureT (fun T vm0 locs X hZ ho _ hH => getF (s := s.setVm vm0) (own := own) X hk.1 hZ ho (host := "") (Or.inl w) Via.refl rfl (F.fld (hH _ hm)) (g := mkF m pc L.toArray (.ref a :: rest)) rfl rfl (hb hk.2.1 hd)) kk
theorem OWp.getfieldVia (hk : OOk p bytes maxL ret nm meth c Z a0 EL) (hd : decode bytes pc = .ok (.getfield index, 3)) (hp : pc' = pc + 3) (w : (Jvm.Cond.fieldLink own index R0 n d).before a0 Z = true) (w2 : (Jvm.Cond.sameField R0 O n d).before a0 Z = true) (hm : (a, cl) ∈ M ++ (N ++ P)) (F : FC Z cl O n d v)
    (kk : OWp p l e R s m args below meth c own Z EL ws P Q M N cells slots pc' L (v :: rest)) : OWp p l e R s m args below meth c own Z EL ws P Q M N cells slots pc L (.ref a :: rest) := by
  subst hp
  exact OWp.pureT (fun T vm0 locs X hZ ho _ hH => getF (s := s.setVm vm0) (own := own) X hk.1 hZ ho (host := "") (Or.inl w) (Via.of w2) rfl (F.fld (hH _ hm)) (g := mkF m pc L.toArray (.ref a :: rest)) rfl rfl (hb hk.2.1 hd)) kk
theorem OWp.getstatic (hk : OOk p bytes maxL ret nm meth c Z a0 EL) (hd : decode bytes pc = .ok (.getstatic index, 3)) (hp : pc' = pc + 3) (w : (Jvm.Cond.fieldLink own index O n d).before a0 Z = true) (F : Sta Z Z.heap O n d v)
    (kk : OWp p l e R s m args below meth c own Z EL ws P Q M N cells slots pc' L (v :: S)) : OWp p l e R s m args below meth c own Z EL ws P Q M N cells slots pc L S := by
  subst hp
  exact OWp.pureT (fun T vm0 locs X hZ ho hE hH => getS (s := s.setVm vm0) (own := own) X hk.1 hZ ho (host := "") w Via.refl rfl (Sta.ext hE F) (g := mkF m pc L.toArray S) rfl (hb hk.2.1 hd)) kk
theorem OWp.instY {K : String} (hk : OOk p bytes maxL ret nm meth c Z a0 EL) (hd : decode bytes pc = .ok (.instanceof index, 3)) (hp : pc' = pc + 3) (w : (Jvm.Cond.classLink own index K).before a0 Z = true) (hm : (a, cl) ∈ M ++ (N ++ P)) (F : EC Z cl K)
    (kk : OWp p l e R s m args below meth c own Z EL ws P Q M N cells slots pc' L (.int 1 :: rest)) : OWp p l e R s m args below meth c own Z EL ws P Q M N cells slots pc L (.ref a :: rest) := by
  subst hp
  exact OWp.pureT (fun T vm0 locs X hZ ho hE hH => RoadKit.instY (s := s.setVm vm0) (own := own) X hk.1 hZ ho w rfl (Ins.self (F.exa (hH _ hm))) (g := mkF m pc L.toArray (.ref a :: rest)) rfl rfl (hb hk.2.1 hd)) kk
theorem OWp.castY {K : String} (hk : OOk p bytes maxL ret nm meth c Z a0 EL) (hd : decode bytes pc = .ok (.checkcast index, 3)) (hp : pc' = pc + 3) (w : (Jvm.Cond.classLink own index K).before a0 Z = true) (hm : (a, cl) ∈ M ++ (N ++ P)) (F : EC Z cl K)
    (kk : OWp p l e R s m args below meth c own Z EL ws P Q M N cells slots pc' L (.ref a :: rest)) : OWp p l e R s m args below meth c own Z EL ws P Q M N cells slots pc L (.ref a :: rest) := by
  subst hp
  exact OWp.pureT (fun T vm0 locs X hZ ho hE hH => RoadKit.castY (s := s.setVm vm0) (own := own) X hk.1 hZ ho w rfl (Ins.self (F.exa (hH _ hm))) (g := mkF m pc L.toArray (.ref a :: rest)) rfl rfl (hb hk.2.1 hd)) kk
theorem ofNat_size (n : Nat) : n.toInt32 = Int32.ofNat n := rfl
theorem OWp.arraylength (hk : OOk p bytes maxL ret nm meth c Z a0 EL) (hd : decode bytes pc = .ok (.arraylength, 1)) (hp : pc' = pc + 1) (hm : (a, cl) ∈ M ++ (N ++ P)) (F : AC Z cl ty vs) {z : Int32} (hz : Int32.ofNat vs.length = z)
    (kk : OWp p l e R s m args below meth c own Z EL ws P Q M N cells slots pc' L (.int z :: rest)) : OWp p l e R s m args below meth c own Z EL ws P Q M N cells slots pc L (.ref a :: rest) := by
  subst hp hz
  exact OWp.pureX (fun T t vm0 locs X hZ ho hH k => X.arraylength hk.1 (hH _ hm) (State.isArrayOf_alike hZ.alike F.1) (g := mkF m pc L.toArray (.ref a :: rest)) rfl rfl (hb hk.2.1 hd) t (by rw [F.size]; exact k)) kk
theorem OWp.caload (hk : OOk p bytes maxL ret nm meth c Z a0 EL) (hd : decode bytes pc = .ok (.caload, 1)) (hp : pc' = pc + 1) (hm : (a, cl) ∈ M ++ (N ++ P)) (F : AC Z cl .char vs) (h0 : ¬ j < 0) (hv : vs[j.toNatClampNeg]? = some v)
    (kk : OWp p l e R s m args below meth c own Z EL ws P Q M N cells slots pc' L (v :: rest)) : OWp p l e R s m args below meth c own Z EL ws P Q M N cells slots pc L (.int j :: .ref a :: rest) := by
  subst hp
  exact OWp.pureX (fun T t vm0 locs X hZ ho hH k => X.caload hk.1 (hH _ hm) (State.isArrayOf_alike hZ.alike F.1) F.2.1 (F.inb h0 (List.getElem?_eq_some_iff.mp hv).1) (by rw [F.get]; exact hv) (g := mkF m pc L.toArray (.int j :: .ref a :: rest)) rfl rfl (hb hk.2.1 hd) t k) kk
theorem OWp.baload (hk : OOk p bytes maxL ret nm meth c Z a0 EL) (hd : decode bytes pc = .ok (.baload, 1)) (hp : pc' = pc + 1) (hm : (a, cl) ∈ M ++ (N ++ P)) (F : AC Z cl .byte vs) (h0 : ¬ j < 0) (hv : vs[j.toNatClampNeg]? = some v)
    (kk : OWp p l e R s m args below meth c own Z EL ws P Q M N cells slots pc' L (v :: rest)) : OWp p l e R s m args below meth c own Z EL ws P Q M N cells slots pc L (.int j :: .ref a :: rest) := by
  subst hp
  exact OWp.pureX (fun T t vm0 locs X hZ ho hH k => X.baloadBytes hk.1 (hH _ hm) (State.isArrayOf_alike hZ.alike F.1) F.2.1 (F.inb h0 (List.getElem?_eq_some_iff.mp hv).1) (by rw [F.get]; exact hv) (g := mkF m pc L.toArray (.int j :: .ref a :: rest)) rfl rfl (hb hk.2.1 hd) t k) kk
theorem OWp.initO (hk : OOk p bytes maxL ret nm meth c Z a0 EL) (hd : decode bytes pc = .ok (.invokespecial index, 3)) (hp : pc' = pc + 3) (w1 : (Jvm.Cond.methodLink own index Lib.objectInit).before a0 Z = true) (w2 : (Jvm.Cond.instanceMethod Lib.objectInit).before a0 Z = true)
    (w3 : (Jvm.Cond.code Lib.objectInit ⟨#[0xb1]⟩ 1 none).before a0 Z = true) (hsz : L.length = maxL) (hf : 1 ≤ R.frames) {W : Nat} (hW : (rest.map fun v => v.category).sum = W) (hl : W + 12 ≤ R.locals)
    (kk : OWp p l e R s m args below meth c own Z EL ws P Q M N cells slots pc' L rest) : OWp p l e R s m args below meth c own Z EL ws P Q M N cells slots pc L (.ref a :: rest) := by
  subst hp
  exact OWp.pureT (fun T vm0 locs X hZ ho hE hH => RoadKit.initO (s := s.setVm vm0) (own := own) X hk.1 hZ ho w1 w2 w3 rfl (g := mkF m pc L.toArray (.ref a :: rest)) rfl (by rw [hk.2.2.1]; simpa using hsz) rfl (hb hk.2.1 hd) hf (W := W) (by show 2 * 0 + _ ≤ _; omega) hl) kk
end Reads
/-! 4. steps that make or write cells -/
section Writes
variable {a : Addr} {cl : Cell} {ty : FieldType} {vs : List Value} {v : Value} {j x : Int32} {index i : Nat} {O n d C : String}
theorem OWp.newarray {aty : ArrayType} {z : Int32} {cap : Nat} (hk : OOk p bytes maxL ret nm meth c Z a0 EL) (hd : decode bytes pc = .ok (.newarray aty, 2)) (hp : pc' = pc + 2) (w : (Jvm.Cond.arrayClass (newarray.typeOf aty)).before a0 Z = true)
    (hz : ¬ z < 0) (hcap : z.toNatClampNeg ≤ cap) (hb8 : cap * 8 ≤ 536870912) (hc : cells + 1 ≤ R.cells) (hs : slots + cap ≤ R.slots) (hvs : List.replicate z.toNatClampNeg (defaultValue (newarray.typeOf aty)) = vs)
    (kk : ∀ a cl, AC Z cl (newarray.typeOf aty) vs → OWp p l e R s m args below meth c own Z EL ws P Q ((a, cl) :: M) N (cells + 1) (slots + cap) pc' L (.ref a :: rest)) :
    OWp p l e R s m args below meth c own Z EL ws P Q M N cells slots pc L (.int z :: rest) := fun T hT => by
  subst hp hvs
  obtain ⟨vm0, k0, locs, X, hS, hk0, hZ, ho, hL, I⟩ := hT
  obtain ⟨T', h', cA, X', e', E, A, st⟩ := newP (s := s.setVm vm0) X hk.1 hZ w rfl (g := mkF m pc L.toArray (.int z :: rest)) rfl (hb hk.2.1 hd) rfl hz hcap hb8 hc hs
  subst e'
  obtain ⟨U, st', r⟩ := kk _ _ (AC.new A hz (by cases aty <;> decide)) T' ⟨vm0, k0, locs, X', hS, Nat.le_trans hk0 E.1, hZ, ho, hL, I.alloc E A.1⟩
  exact ⟨U, st _ st', r⟩
theorem OWp.new {nf : Nat} (hk : OOk p bytes maxL ret nm meth c Z a0 EL) (hd : decode bytes pc = .ok (.new index, 3)) (hp : pc' = pc + 3) (w : (Jvm.Cond.classLink own index C).before a0 Z = true) (wi : (Jvm.Cond.instantiable C nf).before a0 Z = true) (wz : (Jvm.Cond.initialized C).before a0 Z = true)
    (hc : cells + 1 ≤ R.cells) (hs : slots + nf ≤ R.slots)
    (kk : ∀ a cl, EC Z cl C → (∀ {O nm d : String} {ty : FieldType}, Laid Z a0 C O nm d → parseFieldDescriptor d = some ty → FC Z cl O nm d (defaultValue ty)) → OWp p l e R s m args below meth c own Z EL ws P Q ((a, cl) :: M) N (cells + 1) (slots + nf) pc' L (.ref a :: S)) :
    OWp p l e R s m args below meth c own Z EL ws P Q M N cells slots pc L S := fun T hT => by
  subst hp
  obtain ⟨vm0, k0, locs, X, hS, hk0, hZ, ho, hL, I⟩ := hT
  obtain ⟨T', h', X', e', E, A, D, ⟨cell, hcell, -, -⟩, st⟩ := newO (s := s.setVm vm0) (own := own) X hk.1 hZ ho w wi wz rfl (g := mkF m pc L.toArray S) rfl (hb hk.2.1 hd) hc hs
  subst e'
  obtain ⟨U, st', r⟩ := kk _ cell (EC.of A hcell) (fun La ht => FC.of (D La ht) hcell) T' ⟨vm0, k0, locs, X', hS, Nat.le_trans hk0 E.1, hZ, ho, hL, I.alloc E hcell⟩
  exact ⟨U, st _ st', r⟩
theorem OWp.wrote {sl : Nat} (hi : M[i]? = some (a, cl)) (H : ∀ (T : State) (vm0 : Vm) (locs : List Loc), Stand p l e R (s.setVm vm0) m args below meth c T locs cells slots → Z.Warmed39 vm0 → vm0.findClass own = some m.cls → T.heap[a]? = some cl →
      ∃ T', Stand p l e R (s.setVm vm0) m args below meth c T' (locs ++ [⟨a, sl⟩]) cells slots ∧ Wr T.heap T'.heap a sl v ∧ ∀ target, Steps p.tables e below (T'.setTop (mkF m pc' L'.toArray S')) target → Steps p.tables e below (T.setTop (mkF m pc L.toArray S)) target)
    (kk : OWp p l e R s m args below meth c own Z EL ws P Q (M.set i (a, cl.setSlot sl v)) N cells slots pc' L' S') : OWp p l e R s m args below meth c own Z EL ws P Q M N cells slots pc L S := fun T hT => by
  obtain ⟨vm0, k0, locs, X, hS, hk0, hZ, ho, hL, I⟩ := hT
  obtain ⟨b1, -, -, b4⟩ := I.2.2.1 _ (List.mem_of_getElem? hi)
  obtain ⟨T', X', W, st⟩ := H T vm0 locs X hZ ho b1
  obtain ⟨U, st', r⟩ := kk T' ⟨vm0, k0, _, X', hS, by rw [W.size]; exact hk0, hZ, ho, fun y hy => by
    rcases List.mem_append.mp hy with hy | hy
    · exact hL y hy
    · cases List.mem_singleton.mp hy; exact b4, I.write hi W⟩
  exact ⟨U, st _ st', r⟩
theorem OWp.castore (hk : OOk p bytes maxL ret nm meth c Z a0 EL) (hd : decode bytes pc = .ok (.castore, 1)) (hp : pc' = pc + 1) (hi : M[i]? = some (a, cl)) (F : AC Z cl .char vs) (h0 : ¬ j < 0) {t : Nat} (ht : j.toNatClampNeg = t) (hlt : t < vs.length)
    (kk : ∀ cl', AC Z cl' .char (vs.set t (.int (nar .char x))) → OWp p l e R s m args below meth c own Z EL ws P Q (M.set i (a, cl')) N cells slots pc' L rest) :
    OWp p l e R s m args below meth c own Z EL ws P Q M N cells slots pc L (.int x :: .int j :: .ref a :: rest) := by
  subst hp ht
  refine OWp.wrote hi (fun T vm0 locs X hZ ho hh => ?_) (kk _ (F.set (fits_nar_char x) hlt))
  obtain ⟨T', h', X', e', W, st⟩ := stC (s := s.setVm vm0) X hk.1 hZ rfl (F.arr hh) (F.inb h0 hlt) (g := mkF m pc L.toArray (.int x :: .int j :: .ref a :: rest)) rfl rfl (hb hk.2.1 hd)
  subst e'
  exact ⟨T', X', W, st⟩
theorem OWp.bastore (hk : OOk p bytes maxL ret nm meth c Z a0 EL) (hd : decode bytes pc = .ok (.bastore, 1)) (hp : pc' = pc + 1) (hi : M[i]? = some (a, cl)) (F : AC Z cl .byte vs) (h0 : ¬ j < 0) {t : Nat} (ht : j.toNatClampNeg = t) (hlt : t < vs.length)
    (kk : ∀ cl', AC Z cl' .byte (vs.set t (.int x.toInt8.toInt32)) → OWp p l e R s m args below meth c own Z EL ws P Q (M.set i (a, cl')) N cells slots pc' L rest) :
    OWp p l e R s m args below meth c own Z EL ws P Q M N cells slots pc L (.int x :: .int j :: .ref a :: rest) := by
  subst hp ht
  refine OWp.wrote hi (fun T vm0 locs X hZ ho hh => ?_) (kk _ (F.set (fits_nar_byte x) hlt))
  obtain ⟨T', h', X', e', W, st⟩ := stB (s := s.setVm vm0) X hk.1 hZ rfl (F.arr hh) (F.inb h0 hlt) (g := mkF m pc L.toArray (.int x :: .int j :: .ref a :: rest)) rfl rfl (hb hk.2.1 hd)
  subst e'
  exact ⟨T', X', W, st⟩
theorem OWp.putfield {old : Value} {nf : Nat} (hk : OOk p bytes maxL ret nm meth c Z a0 EL) (hd : decode bytes pc = .ok (.putfield index, 3)) (hp : pc' = pc + 3) (w : (Jvm.Cond.fieldLink own index O n d).before a0 Z = true) (hi : M[i]? = some (a, cl)) (F : FC Z cl O n d old) (E : EC Z cl C)
    (La : (Jvm.Cond.lays C O n d).before a0 Z = true ∨ ((Jvm.Cond.laysFinal C O n d).before a0 Z = true ∧ own = O ∧ nm = "<init>")) (wi : (Jvm.Cond.instantiable C nf).before a0 Z = true) (hty : parseFieldDescriptor d = some ty) (hn : narrow ty v = v) (hf : fits ty v = true)
    (kk : ∀ cl', EC Z cl' C → FC Z cl' O n d v → (∀ {O' n' d' : String} {w' : Value}, FC Z cl O' n' d' w' → RoadKit.slotOf Z O' n' d' ≠ RoadKit.slotOf Z O n d → FC Z cl' O' n' d' w') → OWp p l e R s m args below meth c own Z EL ws P Q (M.set i (a, cl')) N cells slots pc' L rest) :
    OWp p l e R s m args below meth c own Z EL ws P Q M N cells slots pc L (v :: .ref a :: rest) := by
  subst hp
  refine OWp.wrote hi (fun T vm0 locs X hZ ho hh => ?_) (kk _ E.set F.set (fun G q => G.other q))
  obtain ⟨T', h', X', e', W, st⟩ := putF (s := s.setVm vm0) (own := own) X hk.1 hZ ho (host := "") (Or.inl w) Via.refl rfl (F.fld hh) (E.exa hh) (La.imp id fun q => ⟨q.1, q.2.1, hk.2.2.2.2.2.1.trans q.2.2⟩) wi hty hn hf (g := mkF m pc L.toArray (v :: .ref a :: rest)) rfl rfl (hb hk.2.1 hd)
  subst e'
  exact ⟨T', X', W, st⟩
theorem OWp.freeze (kk : OWp p l e R s m args below meth c own Z EL ws P Q M ((a, cl) :: N) cells slots pc L S) : OWp p l e R s m args below meth c own Z EL ws P Q ((a, cl) :: M) N cells slots pc L S := fun T hT => by
  obtain ⟨vm0, k0, locs, X, hS, hk0, hZ, ho, hL, I⟩ := hT
  exact kk T ⟨vm0, k0, locs, X, hS, hk0, hZ, ho, hL, I.freeze⟩
theorem OWp.perm {M' : Mem} (hp : M'.Perm M) (kk : OWp p l e R s m args below meth c own Z EL ws P Q M' N cells slots pc L S) : OWp p l e R s m args below meth c own Z EL ws P Q M N cells slots pc L S := fun T hT => by
  obtain ⟨vm0, k0, locs, X, hS, hk0, hZ, ho, hL, I⟩ := hT
  exact kk T ⟨vm0, k0, locs, X, hS, hk0, hZ, ho, hL, I.perm hp⟩
/-- frozen cells forgotten -/
theorem OWp.less {N' : Mem} (hn : ∀ q ∈ N', q ∈ N) (kk : OWp p l e R s m args below meth c own Z EL ws P Q M N' cells slots pc L S) : OWp p l e R s m args below meth c own Z EL ws P Q M N cells slots pc L S := fun T hT => by
  obtain ⟨vm0, k0, locs, X, hS, hk0, hZ, ho, hL, C, EZ, hM, hn', hN, hP⟩ := hT
  exact kk T ⟨vm0, k0, locs, X, hS, hk0, hZ, ho, hL, C, EZ, hM, hn', fun q hq => hN q (hn q hq), hP⟩
/-- more room booked than used -/
theorem OWp.more {cells' slots' : Nat} (hc : cells ≤ cells') (hs : slots ≤ slots') (kk : OWp p l e R s m args below meth c own Z EL ws P Q M N cells' slots' pc L S) : OWp p l e R s m args below meth c own Z EL ws P Q M N cells slots pc L S := fun T hT => by
  obtain ⟨vm0, k0, locs, X, r⟩ := hT
  exact kk T ⟨vm0, k0, locs, X.more hc hs, r⟩
end Writes
/-! 5. String constants -/
section Lits
variable {a : Addr} {index n : Nat} {text : String} {vs : List Value}
theorem OWp.ldcO (hk : OOk p bytes maxL ret nm meth c Z a0 EL) (hd : decode bytes pc = .ok (.ldc index, 2)) (hp : pc' = pc + 2) (w : (Jvm.Cond.stringLink own index text).before a0 Z = true) (wS : ∀ a ∈ Bundle.stringAtoms, a.before a0 Z = true)
    (hn : 4 * text.toList.length ≤ n) (hbig : n ≤ 536870912) (hc : cells + 2 ≤ R.cells) (hs : slots + (n + 4) ≤ R.slots)
    (kk : ∀ a, OWp p l e R s m args below meth c own Z EL ws P Q M N (cells + 2) (slots + (n + 4)) pc' L (.ref a :: S)) : OWp p l e R s m args below meth c own Z EL ws P Q M N cells slots pc L S := fun T hT => by
  subst hp
  obtain ⟨vm0, k0, locs, X, hS, hk0, hZ, ho, hL, I⟩ := hT
  obtain ⟨a, T', h', k1, X', e', E, hS', hk1, hZ', ho', C, -, st⟩ := ldcOH X hk.1 hZ ho w wS rfl hS hk0 hk.2.2.2.2.2.2 I.1.1 (g := mkF m pc L.toArray S) rfl (hb hk.2.1 hd) hn hbig hc hs
  subst e'
  obtain ⟨U, st', r⟩ := kk a T' ⟨T'.vm, k1, locs, X', hS', hk1, hZ', ho', hL, I.later C E⟩
  exact ⟨U, st _ st', r⟩
theorem AC.of_arv {h : Heap} {b : Addr} {k : ClassId} {ty : FieldType} {z : Int32} {d : Value} (F : Arv Z h b k ty z vs d) (hl : z.toNatClampNeg = vs.length) : ∃ ct, h[b]? = some ct ∧ AC Z ct ty vs := by
  obtain ⟨ct, A, -, hsz, hz, H, G⟩ := F
  have hlen : ct.slots.size = vs.length := hsz.trans hl
  refine ⟨ct, A.1, A.2.1, A.2.2, ?_, ?_, fun v hv => ?_⟩
  · refine List.ext_getElem? fun i => ?_
    by_cases hi : i < vs.length
    · have q := H i (by omega)
      rw [Array.getElem?_toList, q, List.getD_eq_getElem?_getD, List.getElem?_eq_getElem hi]; rfl
    · rw [List.getElem?_eq_none (by simpa [hlen] using hi), List.getElem?_eq_none (by omega)]
  · rw [← hl]; exact (back32 hz).2
  · obtain ⟨i, hi, rfl⟩ := List.getElem_of_mem hv
    have q := G i (by omega)
    rwa [List.getD_eq_getElem?_getD, List.getElem?_eq_getElem hi] at q
theorem OWp.ldcS (hk : OOk p bytes maxL ret nm meth c Z a0 EL) (hd : decode bytes pc = .ok (.ldc index, 2)) (hp : pc' = pc + 2) (w : (Jvm.Cond.stringLink own index text).before a0 Z = true) (wS : ∀ a ∈ Bundle.stringAtoms, a.before a0 Z = true) (hmem : (own, index) ∈ EL)
    (ht : (∀ c ∈ text.toList, c.toNat < 256) ∧ text.toList.map (fun c => Value.int (Jvm.Lit.byteI c.toNat.toUInt16)) = vs) (hlen : vs.length < 2147483648)
    (hn : 4 * text.toList.length ≤ n) (hbig : n ≤ 536870912) (hc : cells + 2 ≤ R.cells) (hs : slots + (n + 4) ≤ R.slots)
    (kk : ∀ a t cx ct, EC Z cx "java/lang/String" → FC Z cx "java/lang/String" "coder" "B" (.int 0) → FC Z cx "java/lang/String" "value" "[B" (.ref t) → AC Z ct .byte vs →
      OWp p l e R s m args below meth c own Z EL ws P Q M ((a, cx) :: (t, ct) :: N) (cells + 2) (slots + (n + 4)) pc' L (.ref a :: S)) : OWp p l e R s m args below meth c own Z EL ws P Q M N cells slots pc L S := fun T hT => by
  subst hp
  obtain ⟨vm0, k0, locs, X, hS, hk0, hZ, ho, hL, I⟩ := hT
  have hz : (Int32.ofNat vs.length).toNatClampNeg = vs.length := by
    rw [Int32.toNatClampNeg, Int32.toInt_ofNat_small (by simpa using hlen)]; simp
  obtain ⟨a, T', h', k1, b, k, X', e', E, hS', hk1, hZ', ho', q1, q2, q3, q4, q5, q6, C, -, hne, st⟩ := ldcCH X hk.1 hZ ho w wS rfl hS hk0 hk.2.2.2.2.2.2 hmem I.1.1 ht (z := Int32.ofNat vs.length) (Int32.ofNat_not_neg (by simpa using hlen)) hz (g := mkF m pc L.toArray S) rfl (hb hk.2.1 hd) hn hbig hc hs
  subst e'
  have J := I.later C E
  obtain ⟨cx, hcx, -⟩ : ∃ cx : Cell, T'.heap[a]? = some cx ∧ True := by obtain ⟨cx, -, h1, -⟩ := q1; exact ⟨cx, h1, trivial⟩
  obtain ⟨ct, hct, At⟩ := AC.of_arv q4 hz
  have book : ∀ y, (∀ x, Safe Z EL T'.vm T'.heap x → x ≠ y) → s.heap.size ≤ y ∨ y ∈ ws ∨ Bk Z EL s.vm s.heap y := fun y hy => by
    have hB : Bk Z EL T'.vm T'.heap y := Classical.byContradiction fun z => hy y z rfl
    exact (J.1.2.2 y hB).elim (fun z => Or.inr (Or.inr z)) Or.inl
  have nin : ∀ y, (∀ x, Safe Z EL T'.vm T'.heap x → x ≠ y) → y ∉ dom M := fun y hy z => by
    obtain ⟨q, hq, e⟩ := List.mem_map.mp z
    exact hy q.1 (J.2.2.1 q hq).2.1 e
  have J1 := J.learn hct (nin b fun x S => (hne x S).2) (book b fun x S => (hne x S).2)
  have J2 := J1.learn hcx (nin a fun x S => (hne x S).1) (book a fun x S => (hne x S).1)
  obtain ⟨U, st', r⟩ := kk a b cx ct (EC.of q1 hcx) (FC.of q2 hcx) (FC.of q3 hcx) At T' ⟨T'.vm, k1, locs, X', hS', hk1, hZ', ho', hL, J2⟩
  exact ⟨U, st _ st', r⟩
end Lits
/-! 6. calls by contract -/
section Calls
variable {y z : MethodName} {bytes' : ByteArray} {maxL' W : Nat} {ret' : Option FieldType} {rm : Room} {argsL : List Value} {Mi Mr Pc : Mem} {Qc : Option Value → Mem → Mem → Prop} {index : Nat} {a : Addr} {cl : Cell} {C : String} {as' : Array Value}
def OPost (Z : State) (EL : List (String × Nat)) (Mi : Mem) (Qc : Option Value → Mem → Mem → Prop) (rm : Room) (A : Pt) (_ : Array Value) (v : Option Value) (B : Pt) : Prop :=
  ∃ Lc, (∃ M N, Qc v M N ∧ OInv Z EL A.U.vm A.U.heap (dom Mi) B.U.vm B.U.heap M N []) ∧ OKp A.U.heap B.U.heap (dom Mi) ∧ (∀ y ∈ Lc, A.U.heap.size ≤ y.base ∨ y.base ∈ dom Mi) ∧ B.locs = A.locs ++ Lc ∧ B.cells = A.cells + rm.cells ∧ B.slots = A.slots + rm.slots
/-- who pays: a contract -/
theorem oback {vm0 : Vm} {len : Nat} {h : Heap} (hC : OCon l Z EL y bytes' maxL' ret' [] rm as' Mi Pc Qc) (hZ : Z.Warmed39 vm0) (wc : (Jvm.Cond.code y bytes' maxL' ret').before a0 Z = true) (wz : (Jvm.Cond.initialized y.cls).before a0 Z = true)
    (hf : rm.frames + 1 ≤ R.frames) (hl : W + (maxL' + 11) + rm.locals ≤ R.locals) (hEL : EW Z a0 EL) (I : OInv Z EL s.vm s.heap ws vm0 h (Mi ++ Mr) N P) (hp : ∀ q ∈ Pc, q ∈ Mr ++ (N ++ P)) :
    BackS l R p e below (s.setVm vm0) args y len W (fun A a => a = as' ∧ A.U.heap = h ∧ A.cells + rm.cells ≤ R.cells ∧ A.slots + rm.slots ≤ R.slots) (OPost Z EL Mi Qc rm) :=
  BackS.of_freeW (bytes := bytes') (maxL := maxL') (ret := ret') (E := fun _ first o t L k n => k = rm.cells ∧ n = rm.slots ∧ ∃ v, o = .returned v ∧ (∃ M N, Qc v M N ∧ OInv Z EL first.vm first.heap (dom Mi) t.vm t.heap M N []) ∧ OKp first.heap t.heap (dom Mi) ∧ (∀ y ∈ L, first.heap.size ≤ y.base ∨ y.base ∈ dom Mi)) hC hf hl
    (fun m meth c A a Y hp => have hU : Z.Warmed39 A.U.vm := wtrans (s := s.setVm vm0) hZ Y.warmed
      ⟨by show (Jvm.Cond.and _ .tt).before a A.U = true; rw [Cond.before_and, mv hU wc]; rfl, mv hU wc, mv hU wz, hp.2.2.1, hp.2.2.2⟩)
    (fun m meth c A a g mk Y hq => ⟨hq.1, wtrans (s := s.setVm vm0) hZ Y.warmed, by
      have J := I.hand (chat Y.warmed hZ hEL I.1.1) hp
      rw [← hq.2.1] at J
      exact J⟩) (fun _ _ _ _ _ _ _ _ _ => trivial)
    (fun _ _ _ _ ⟨v, L, h1, h2, h3, h4, h5⟩ => ⟨L, _, _, h5, rfl, rfl, v, h1, h2, h3, h4⟩)
    (fun m meth c A a g mk v t L k n Y hp _ _ ⟨e1, e2, v', e3, e4, e5, e6⟩ => by
      cases e3; subst e1 e2
      exact ⟨L, e4, e5, e6, rfl, rfl, rfl⟩)
/-- behind the call -/
theorem OWp.behind {T : State} {vm0 vm1 : Vm} {k0 : Nat} {locs : List Loc} {B : Pt} {v : Option Value} (hEL : EW Z a0 EL) (hS : s.Since vm0 k0) (hk0 : k0 ≤ T.heap.size) (hZ : Z.Warmed39 vm0) (ho : vm0.findClass own = some m.cls) (hL : ∀ y ∈ locs, s.heap.size ≤ y.base ∨ y.base ∈ ws) (I : OInv Z EL s.vm s.heap ws vm0 T.heap (Mi ++ Mr) N P)
    (hW1 : (s.setVm vm0).WarmedH vm1) (X' : Stand p l e R ((s.setVm vm0).setVm B.U.vm) m args below meth c B.U B.locs B.cells B.slots) (hS' : (s.setVm vm0).Since B.U.vm B.U.heap.size) (hgr : T.heap.size ≤ B.U.heap.size) (hpost : OPost Z EL Mi Qc rm ⟨T.setVm vm1, locs, cells, slots⟩ as' v B) :
    ∃ Mo No, Qc v Mo No ∧ OSt p l e R s m args below meth c own Z EL ws P B.U (Mo ++ Mr) (No ++ N) (cells + rm.cells) (slots + rm.slots) := by
  obtain ⟨X2, h2, hZ2, ho2⟩ := rebS hS hk0 X' hS' hgr hZ ho
  obtain ⟨Lc, ⟨Mo, No, hq, J⟩, K, hLc, l1, l2, l3⟩ := hpost
  refine ⟨Mo, No, hq, B.U.vm, _, B.locs, ?_, h2, Nat.le_refl _, hZ2, ho2, fun y hy => ?_, I.call (chat hW1 hZ hEL I.1.1) J K⟩
  · rw [← l2, ← l3]; exact X2
  · rw [l1] at hy
    rcases List.mem_append.mp hy with hy | hy
    · exact hL y hy
    · rcases hLc y hy with q | q
      · exact Or.inl (Nat.le_trans I.1.2.1 q)
      · obtain ⟨r, hr, e⟩ := List.mem_map.mp q
        have := (I.2.2.1 r (List.mem_append_left _ hr)).2.2.2
        rwa [e] at this
theorem OWp.callS (hk : OOk p bytes maxL ret nm meth c Z a0 EL) (hd : decode bytes pc = .ok (.invokestatic index, 3)) (hp : pc' = pc + 3) (w1 : (Jvm.Cond.methodLink own index y).before a0 Z = true) (w2 : (Jvm.Cond.static y).before a0 Z = true) (w3 : (Jvm.Cond.initialized y.cls).before a0 Z = true) (w4 : (Jvm.Cond.code y bytes' maxL' ret').before a0 Z = true)
    (hy : y.cls ≠ "java/lang/invoke/MethodHandle" ∧ y.cls ≠ "java/lang/invoke/VarHandle") (hC : OCon l Z EL y bytes' maxL' ret' [] rm argsL.toArray Mi Pc Qc) (hM : Mi ++ Mr = M) (hPc : ∀ q ∈ Pc, q ∈ Mr ++ (N ++ P)) (hsz : L.length = maxL) (hlen : ∀ sig, parseMethodDescriptor y.desc = some sig → argsL.length = sig.parameters.length) (hst : S = argsL.reverse ++ rest)
    (hW : (rest.map fun v => v.category).sum = W) (hf : rm.frames + 1 ≤ R.frames) (hl : W + (maxL' + 11) + rm.locals ≤ R.locals) (hc : cells + rm.cells ≤ R.cells) (hs : slots + rm.slots ≤ R.slots)
    (kk : ∀ v Mo No, Qc v Mo No → OWp p l e R s m args below meth c own Z EL ws P Q (Mo ++ Mr) (No ++ N) (cells + rm.cells) (slots + rm.slots) pc' L (v.toList ++ rest)) :
    OWp p l e R s m args below meth c own Z EL ws P Q M N cells slots pc L S := fun T hT => by
  subst hp hM
  obtain ⟨vm0, k0, locs, X, hS, hk0, hZ, ho, hL, I⟩ := hT
  obtain ⟨v, vm1, B, hW1, X', hS', hgr, hpost, st⟩ := callSS X hk.1 (own := own) ho (mvT (s := s.setVm vm0) hZ w1) (mvT (s := s.setVm vm0) hZ w2) (mvT (s := s.setVm vm0) hZ w3) (mvT (s := s.setVm vm0) hZ w4) hy (oback (W := W) (as' := argsL.toArray) hC hZ w4 w3 hf hl hk.2.2.2.2.2.2 I hPc)
    (g := mkF m pc L.toArray S) rfl (by rw [hk.2.2.1]; simpa using hsz) hlen hst (by show 2 * 0 + _ ≤ _; omega) (hb hk.2.1 hd) (fun _ _ => ⟨rfl, rfl, hc, hs⟩)
  obtain ⟨Mo, No, hq, hB⟩ := OWp.behind hk.2.2.2.2.2.2 hS hk0 hZ ho hL I hW1 X' hS' hgr hpost
  obtain ⟨U, st', r⟩ := kk v Mo No hq B.U hB
  exact ⟨U, st.trans st', r⟩
theorem OWp.callI (hk : OOk p bytes maxL ret nm meth c Z a0 EL) (hd : decode bytes pc = .ok (.invokespecial index, 3)) (hp : pc' = pc + 3) (hy1 : y.name = "<init>") (w1 : (Jvm.Cond.methodLink own index y).before a0 Z = true) (w2 : (Jvm.Cond.instanceMethod y).before a0 Z = true) (w3 : (Jvm.Cond.initialized y.cls).before a0 Z = true) (w4 : (Jvm.Cond.code y bytes' maxL' none).before a0 Z = true)
    (hy : y.cls ≠ "java/lang/invoke/MethodHandle" ∧ y.cls ≠ "java/lang/invoke/VarHandle") (hC : OCon l Z EL y bytes' maxL' none [] rm (.ref a :: argsL).toArray Mi Pc Qc) (hM : Mi ++ Mr = M) (hPc : ∀ q ∈ Pc, q ∈ Mr ++ (N ++ P)) (hsz : L.length = maxL) (hlen : ∀ sig, parseMethodDescriptor y.desc = some sig → argsL.length = sig.parameters.length) (hst : S = argsL.reverse ++ .ref a :: rest)
    (hW : (rest.map fun v => v.category).sum = W) (hf : rm.frames + 1 ≤ R.frames) (hl : W + (maxL' + 11) + rm.locals ≤ R.locals) (hc : cells + rm.cells ≤ R.cells) (hs : slots + rm.slots ≤ R.slots)
    (kk : ∀ v Mo No, Qc v Mo No → OWp p l e R s m args below meth c own Z EL ws P Q (Mo ++ Mr) (No ++ N) (cells + rm.cells) (slots + rm.slots) pc' L (v.toList ++ rest)) :
    OWp p l e R s m args below meth c own Z EL ws P Q M N cells slots pc L S := fun T hT => by
  subst hp hM
  obtain ⟨vm0, k0, locs, X, hS, hk0, hZ, ho, hL, I⟩ := hT
  obtain ⟨v, vm1, B, hW1, X', hS', hgr, hpost, st⟩ := X.specialBackS hk.1 (own := own) hy1 ho (mvT (s := s.setVm vm0) hZ w1) (mvT (s := s.setVm vm0) hZ w2) (mvT (s := s.setVm vm0) hZ w4) hy (oback (W := W) (as' := (.ref a :: argsL).toArray) hC hZ w4 w3 hf hl hk.2.2.2.2.2.2 I hPc)
    (g := mkF m pc L.toArray S) rfl (by rw [hk.2.2.1]; simpa using hsz) (Steps.refl _) (a := a) hlen hst (by show 2 * 0 + _ ≤ _; omega) (hb hk.2.1 hd) (fun _ _ => ⟨rfl, rfl, hc, hs⟩)
  obtain ⟨Mo, No, hq, hB⟩ := OWp.behind hk.2.2.2.2.2.2 hS hk0 hZ ho hL I hW1 X' hS' hgr hpost
  obtain ⟨U, st', r⟩ := kk v Mo No hq B.U hB
  exact ⟨U, st.trans st', r⟩
theorem OWp.callV (hk : OOk p bytes maxL ret nm meth c Z a0 EL) (hd : decode bytes pc = .ok (.invokevirtual index, 3)) (hp : pc' = pc + 3) (w1 : (Jvm.Cond.methodLink own index y).before a0 Z = true) (w2 : (Jvm.Cond.declares y).before a0 Z = true) (nf : ∀ vm0, Z.Warmed39 vm0 → NotFace (s.setVm vm0) y) (w5 : (Jvm.Cond.selects C y z).before a0 Z = true) (w6 : (Jvm.Cond.instanceMethod z).before a0 Z = true)
    (w3 : (Jvm.Cond.initialized z.cls).before a0 Z = true) (w4 : (Jvm.Cond.code z bytes' maxL' ret').before a0 Z = true) (hy : y.cls ≠ "java/lang/invoke/MethodHandle" ∧ y.cls ≠ "java/lang/invoke/VarHandle")
    (hm : (a, cl) ∈ M ++ (N ++ P)) (E : EC Z cl C)
    (hC : OCon l Z EL z bytes' maxL' ret' [] rm (.ref a :: argsL).toArray Mi Pc Qc) (hM : Mi ++ Mr = M) (hPc : ∀ q ∈ Pc, q ∈ Mr ++ (N ++ P)) (hsz : L.length = maxL) (hlen : ∀ sig, parseMethodDescriptor y.desc = some sig → argsL.length = sig.parameters.length) (hst : S = argsL.reverse ++ .ref a :: rest)
    (hW : (rest.map fun v => v.category).sum = W) (hf : rm.frames + 1 ≤ R.frames) (hl : W + (maxL' + 11) + rm.locals ≤ R.locals) (hc : cells + rm.cells ≤ R.cells) (hs : slots + rm.slots ≤ R.slots)
    (kk : ∀ v Mo No, Qc v Mo No → OWp p l e R s m args below meth c own Z EL ws P Q (Mo ++ Mr) (No ++ N) (cells + rm.cells) (slots + rm.slots) pc' L (v.toList ++ rest)) :
    OWp p l e R s m args below meth c own Z EL ws P Q M N cells slots pc L S := fun T hT => by
  subst hp hM
  obtain ⟨vm0, k0, locs, X, hS, hk0, hZ, ho, hL, I⟩ := hT
  obtain ⟨cB, kB, qa, qb, qc⟩ := isOf (s := s.setVm vm0) (T := T) hZ rfl (E.exa (I.at hm))
  obtain ⟨v, vm1, B, hW1, X', hS', hgr, hpost, st⟩ := X.virtualBackS hk.1 (own := own) ho (mvT (s := s.setVm vm0) hZ w1) (mvT (s := s.setVm vm0) hZ w2) (nf vm0 hZ) (mvT (s := s.setVm vm0) hZ w5) (mvT (s := s.setVm vm0) hZ w6) hy (oback (W := W) (as' := (.ref a :: argsL).toArray) hC hZ w4 w3 hf hl hk.2.2.2.2.2.2 I hPc) qa qc
    (g := mkF m pc L.toArray S) rfl (by rw [hk.2.2.1]; simpa using hsz) (Steps.refl _) hlen hst (by show 2 * 0 + _ ≤ _; omega) (hb hk.2.1 hd) (fun _ _ => ⟨rfl, rfl, hc, hs⟩)
  obtain ⟨Mo, No, hq, hB⟩ := OWp.behind hk.2.2.2.2.2.2 hS hk0 hZ ho hL I hW1 X' hS' hgr hpost
  obtain ⟨U, st', r⟩ := kk v Mo No hq B.U hB
  exact ⟨U, st.trans st', r⟩
theorem nfs {y : MethodName} (w : (Jvm.Cond.selects C y y).before a0 Z = true) : ∀ vm0, Z.Warmed39 vm0 → NotFace (s.setVm vm0) y := fun vm0 hZ => notFace_of_selects (args := #[]) (mvT (s := s.setVm vm0) hZ w)
end Calls
/-! 7. the end -/
section Ends
variable {v : Option Value} {M' N' : Mem} {w : Value} {x : Int32} {t : FieldType}
theorem OWp.leave (hk : OOk p bytes maxL ret nm meth c Z a0 EL) (hv : ret = none → v = none) (hQ : Q v M' N') (hm : M'.Sublist M) (hn : ∀ q ∈ N', q ∈ N) (hc : cells ≤ R.cells) (hs : slots ≤ R.slots)
    (H : ∀ (T : State) (vm0 : Vm) (locs : List Loc) (fs : List Frame), Stand p l e R (s.setVm vm0) m args below meth c T locs cells slots → (∀ (f : JFrame) (acts : List Action), f.method = m → f.locked = none → f.entered = [] → (doReturn e (T.setTop f) acts v).1 = T.setFrames fs) → Steps p.tables e below (T.setTop (mkF m pc L.toArray S)) (T.setFrames fs)) :
    OWp p l e R s m args below meth c own Z EL ws P Q M N cells slots pc L S := fun T hT => by
  obtain ⟨vm0, k0, locs, X, hS, hk0, hZ, ho, hL, I⟩ := hT
  obtain ⟨fs, h1, h2, h3, h4⟩ := X.leaveW hS hk0 (v := v) (fun q => hv (hk.2.2.2.1.symm.trans q)) hk.2.2.2.2.1
  refine ⟨T.setFrames fs, H T vm0 locs fs X h1, v, locs, h2, h3, ⟨M', N', hQ, ?_⟩, (show OKp s.heap T.heap ws from okp_of X hL), hL, h4.1, h4.2.1, h4.2.2.1, h4.2.2.2.mono hc hs⟩
  exact (I.later (chat X.warmed hZ hk.2.2.2.2.2.2 I.1.1) (ext_refl _)).sub hm hn
theorem OWp.ret0 (hk : OOk p bytes maxL none nm meth c Z a0 EL) (hd : decode bytes pc = .ok (.return_, 1)) (hQ : Q none M' N') (hm : M'.Sublist M) (hn : ∀ q ∈ N', q ∈ N) (hc : cells ≤ R.cells) (hs : slots ≤ R.slots) :
    OWp p l e R s m args below meth c own Z EL ws P Q M N cells slots pc L [] :=
  OWp.leave hk (fun _ => rfl) hQ hm hn hc hs fun T vm0 locs fs X h1 => X.returnOut hk.1 hk.2.2.2.1 (hb hk.2.1 hd) h1
theorem OWp.retI (hk : OOk p bytes maxL (some .int) nm meth c Z a0 EL) (hd : decode bytes pc = .ok (.ireturn, 1)) (hQ : Q (some (.int x)) M' N') (hm : M'.Sublist M) (hn : ∀ q ∈ N', q ∈ N) (hc : cells ≤ R.cells) (hs : slots ≤ R.slots) :
    OWp p l e R s m args below meth c own Z EL ws P Q M N cells slots pc L (.int x :: rest) :=
  OWp.leave hk (fun q => by cases q) hQ hm hn hc hs fun T vm0 locs fs X h1 => retOut X hk.1 hk.2.2.2.1 rfl (Or.inl ⟨rfl, Or.inl rfl, x, rfl⟩) (hb hk.2.1 hd) h1
theorem OWp.retN (hk : OOk p bytes maxL (some t) nm meth c Z a0 EL) (ht : t = .boolean ∨ t = .byte ∨ t = .char ∨ t = .short) (hd : decode bytes pc = .ok (.ireturn, 1)) (hQ : Q (some (.int (nar t x))) M' N') (hm : M'.Sublist M) (hn : ∀ q ∈ N', q ∈ N) (hc : cells ≤ R.cells) (hs : slots ≤ R.slots) :
    OWp p l e R s m args below meth c own Z EL ws P Q M N cells slots pc L (.int x :: rest) :=
  OWp.leave hk (fun q => by cases q) hQ hm hn hc hs fun T vm0 locs fs X h1 => RoadKit.retN X hk.1 hk.2.2.2.1 ht (hb hk.2.1 hd) h1
theorem OWp.retA (hk : OOk p bytes maxL (some t) nm meth c Z a0 EL) (ht : t.isReference = true) (hw : w.isRef = true) (hnw : narrow t w = w) (hd : decode bytes pc = .ok (.areturn, 1)) (hQ : Q (some w) M' N') (hm : M'.Sublist M) (hn : ∀ q ∈ N', q ∈ N) (hc : cells ≤ R.cells) (hs : slots ≤ R.slots) :
    OWp p l e R s m args below meth c own Z EL ws P Q M N cells slots pc L (w :: rest) :=
  OWp.leave hk (fun q => by cases q) hQ hm hn hc hs fun T vm0 locs fs X h1 => retOut X hk.1 hk.2.2.2.1 hnw (Or.inr (Or.inr (Or.inr (Or.inr ⟨rfl, ht, hw⟩)))) (hb hk.2.1 hd) h1
end Ends
/-! 8. System.arraycopy -/
section Copy
theorem OInv.put {vmS vm : Vm} {h0 h h' : Heap} {i : Nat} {a : Addr} {cl cl' : Cell} (I : OInv Z EL vmS h0 ws vm h M N P) (hi : M[i]? = some (a, cl)) (K : Keep h h' [a]) (hc : h'[a]? = some cl') : OInv Z EL vmS h0 ws vm h' (M.set i (a, cl')) N P := by
  obtain ⟨C, EZ, hM, hn, hN, hP⟩ := I
  obtain ⟨b1, b2, b3, b4⟩ := hM _ (List.mem_of_getElem? hi)
  have ne : ∀ {y : Addr} {cy : Cell}, y ≠ a → h[y]? = some cy → h'[y]? = some cy := fun {y cy} q r => K.2.1 y cy r fun z => q (List.mem_singleton.mp z)
  have hs : ∀ x ∈ [a], Safe Z EL vm h x := fun x hx => by cases List.mem_singleton.mp hx; exact b2
  have dm := dom_set (c' := cl') hi
  refine ⟨C.trans (CHr.keep K hs C.1), ⟨Nat.le_trans EZ.1 K.1, fun y cy q => ?_⟩, fun q hq => ?_, by rw [dm]; exact hn, fun q hq => ?_, fun q hq => ?_⟩
  · exact ne (Nat.ne_of_lt (Nat.lt_of_lt_of_le (lt_of q) b3)) (EZ.2 _ _ q)
  · rcases mem_set hn hi q hq with rfl | ⟨hq, e⟩
    · exact ⟨hc, Safe.keep K hs C.1 b2, b3, b4⟩
    · obtain ⟨a1, a2, a3, a4⟩ := hM q hq
      exact ⟨ne e a1, Safe.keep K hs C.1 a2, a3, a4⟩
  · obtain ⟨a1, a2, a3⟩ := hN q hq
    exact ⟨ne (fun z => a2 (by rw [z]; exact List.mem_map.mpr ⟨_, List.mem_of_getElem? hi, rfl⟩)) a1, by rw [dm]; exact a2, a3⟩
  · obtain ⟨a1, a2⟩ := hP q hq
    exact ⟨ne (fun z => a2 (by rw [z]; exact List.mem_map.mpr ⟨_, List.mem_of_getElem? hi, rfl⟩)) a1, by rw [dm]; exact a2⟩
/-- the places written, said by the cells' addresses alone -/
theorem restand {s' T : State} {locs : List Loc} (X : Stand p l e R s' m args below meth c T locs cells slots) (hK : OKp s'.heap T.heap ws) : ∃ L2, Stand p l e R s' m args below meth c T L2 cells slots ∧ ∀ y ∈ L2, y.base ∈ ws := by
  refine ⟨ws.flatMap fun a => (List.range ((T.heap[a]?.map fun q => q.slots.size).getD 0)).map fun i => (⟨a, i⟩ : Loc), { X with same := ?_ }, fun y hy => ?_⟩
  · obtain ⟨q1, q2, q3, q4, q5, q6⟩ := X.same
    refine ⟨q1, q2, q3, q4, q5, fun a ca ha => ?_⟩
    obtain ⟨c', r1, r2, r3, r4⟩ := q6 a ca ha
    refine ⟨c', r1, r2, r3, fun i hi => ?_⟩
    by_cases hw : a ∈ ws
    · have hlt : ¬ i < c'.slots.size := fun z => hi (List.mem_flatMap.mpr ⟨a, hw, List.mem_map.mpr ⟨i, List.mem_range.mpr (by
        have r1' : T.heap[a]? = some c' := r1
        rw [r1']; exact z), rfl⟩⟩)
      rw [Array.getElem?_eq_none (Nat.not_lt.mp hlt), Array.getElem?_eq_none (by rw [← r3]; exact Nat.not_lt.mp hlt)]
    · have e := hK.2 a ca ha hw
      have r1' : T.heap[a]? = some c' := r1
      rw [show c' = ca from Option.some.inj (r1'.symm.trans e)]
  · obtain ⟨a, ha, hb⟩ := List.mem_flatMap.mp hy
    obtain ⟨i, -, rfl⟩ := List.mem_map.mp hb
    exact ha
theorem OWp.arraycopy {index i : Nat} {a b : Addr} {ca cb : Cell} {ty : FieldType} {n1 n2 sp dp nn : Nat} {f g : Nat → Value} {W : Nat} (hk : OOk p bytes maxL ret nm meth c Z a0 EL) (hd : decode bytes pc = .ok (.invokestatic index, 3)) (hp : pc' = pc + 3)
    (w1 : (Jvm.Cond.methodLink own index Jvm.Stand.acN).before a0 Z = true) (w2 : (Jvm.Cond.native Jvm.Stand.acN).before a0 Z = true) (w3 : (Jvm.Cond.static Jvm.Stand.acN).before a0 Z = true) (w4 : (Jvm.Cond.initialized "java/lang/System").before a0 Z = true)
    (hm : (a, ca) ∈ M ++ (N ++ P)) (A : AC Z ca ty (tab n1 f)) (hi : M[i]? = some (b, cb)) (B : AC Z cb ty (tab n2 g)) (hty : refKind ty = false) (h1 : sp + nn ≤ n1) (h2 : dp + nn ≤ n2) (hsz : L.length = maxL) (hf : 1 ≤ R.frames) (hW : (rest.map fun v => v.category).sum = W) (hlo : W + (nativeFrameWords "java/lang/System" "arraycopy" 5 + 11) ≤ R.locals)
    (kk : ∀ cb', AC Z cb' ty (tab n2 fun j => if dp ≤ j ∧ j < dp + nn then f (sp + (j - dp)) else g j) → OWp p l e R s m args below meth c own Z EL ws P Q (M.set i (b, cb')) N cells slots pc' L rest) :
    OWp p l e R s m args below meth c own Z EL ws P Q M N cells slots pc L (.int (Int32.ofNat nn) :: .int (Int32.ofNat dp) :: .ref b :: .int (Int32.ofNat sp) :: .ref a :: rest) := fun T hT => by
  subst hp
  obtain ⟨vm0, k0, locs, X, hS, hk0, hZ, ho, hL, I⟩ := hT
  obtain ⟨b1, b2, b3, b4⟩ := I.2.2.1 _ (List.mem_of_getElem? hi)
  have l1 : n1 < 2147483648 := by have := A.2.2.2.1; rwa [tab_len] at this
  have l2 : n2 < 2147483648 := by have := B.2.2.2.1; rwa [tab_len] at this
  have A' : Arv Z T.heap a ca.cls ty (Int32.ofNat n1) (tab n1 f) (.int 0) := by have := A.arv (d := .int 0) (I.at hm); rwa [tab_len] at this
  have B' : Arv Z T.heap b cb.cls ty (Int32.ofNat n2) (tab n2 g) (.int 0) := by have := B.arv (d := .int 0) b1; rwa [tab_len] at this
  obtain ⟨T', h', L', X', e', -, K, B2, st⟩ := cpA (s := s.setVm vm0) (own := own) X hk.1 hZ ho w1 w2 w3 w4 rfl A' B' (Or.inl ⟨rfl, hty⟩) (sp := Int32.ofNat sp) (dp := Int32.ofNat dp) (nn := Int32.ofNat nn) (n_nn (by omega)) (n_nn (by omega)) (n_nn (by omega))
    (by rw [n_nat (by omega), n_nat (by omega), n_nat (by omega)]; exact h1) (by rw [n_nat (by omega), n_nat (by omega), n_nat (by omega)]; exact h2) rfl (by rw [n_nat (by omega), n_nat (by omega), tab_len]; exact h2) (n0 := 0) (fun _ _ => Nat.zero_le _) (Nat.zero_le _)
    (g := mkF m pc L.toArray (.int (Int32.ofNat nn) :: .int (Int32.ofNat dp) :: .ref b :: .int (Int32.ofNat sp) :: .ref a :: rest)) (rest := rest) rfl (by rw [hk.2.2.1]; simpa using hsz) rfl (hb hk.2.1 hd) hf (W := W) (by show 2 * 0 + _ ≤ _; omega) hlo
  subst e'
  rw [n_nat (show nn < 2147483648 by omega), n_nat (show dp < 2147483648 by omega), n_nat (show sp < 2147483648 by omega)] at B2
  have el : (tab n2 g).take dp ++ (List.range nn).map (fun i => (tab n1 f).getD (sp + i) (.int 0)) ++ (tab n2 g).drop (dp + nn) = tab n2 fun j => if dp ≤ j ∧ j < dp + nn then f (sp + (j - dp)) else g j := by
    refine List.ext_getElem? fun j => ?_
    by_cases hj : j < n2
    · rw [tab_get hj]
      by_cases c1 : j < dp
      · rw [List.getElem?_append_left (by simp [tab_len]; omega), List.getElem?_append_left (by simp [tab_len]; omega), List.getElem?_take, if_pos c1, tab_get hj, if_neg (by omega)]
      · by_cases c2 : j < dp + nn
        · rw [List.getElem?_append_left (by simp [tab_len]; omega), List.getElem?_append_right (by simp [tab_len]; omega)]
          have e1 : ((tab n2 g).take dp).length = dp := by simp [tab_len]; omega
          rw [e1, List.getElem?_map, List.getElem?_range (by omega), if_pos ⟨by omega, c2⟩]
          simp only [Option.map_some]
          rw [List.getD_eq_getElem?_getD, tab_get (by omega)]; rfl
        · have e1 : ((tab n2 g).take dp ++ (List.range nn).map (fun i => (tab n1 f).getD (sp + i) (.int 0))).length = dp + nn := by simp [tab_len]; omega
          rw [List.getElem?_append_right (by rw [e1]; omega), e1, List.getElem?_drop, show dp + nn + (j - (dp + nn)) = j by omega, tab_get hj, if_neg (by omega)]
    · rw [List.getElem?_eq_none (by simp [tab_len]; omega), List.getElem?_eq_none (by simp [tab_len]; omega)]
  rw [el] at B2
  obtain ⟨cb', hcb, AB⟩ := AC.of_arv B2 (by rw [n_nat l2, tab_len])
  have hK0 := okp_of X hL
  have hK1 : OKp s.heap T'.heap (b :: ws) := ⟨Nat.le_trans hK0.1 K.1, fun x cx q1 q2 => K.2.1 x cx (hK0.2 x cx q1 fun z => q2 (List.mem_cons_of_mem _ z)) fun z => q2 (by rw [List.mem_singleton.mp z]; exact List.mem_cons_self ..)⟩
  obtain ⟨L2, X2, hL2⟩ := restand (s' := s.setVm vm0) X' hK1
  obtain ⟨U, st', r⟩ := kk cb' AB T' ⟨vm0, k0, L2, X2, hS, Nat.le_trans hk0 K.1, hZ, ho, fun y hy => by
    rcases List.mem_cons.mp (hL2 y hy) with q | q
    · rw [q]; exact b4
    · exact Or.inr q, I.put hi K hcb⟩
  exact ⟨U, st _ st', r⟩
end Copy
end Walk
end Jvm.OwnKit
namespace Jvm.OwnKit
open Jvm Jvm.ClassFile Sem Op Lib Jvm.Free Jvm.Stand Jvm.LawKit Jvm.RoadKit Bundle
/-! what is known of a String: its chars -/
section StrDefs
def lo8 (c : Int32) : Int32 := c.toInt8.toInt32
def hi8 (c : Int32) : Int32 := (c >>> ((8 : Int32) &&& 31)).toInt8.toInt32
def lw8 (c : Int32) : Int32 := (c >>> ((0 : Int32) &&& 31)).toInt8.toInt32
def lat (cs : List Int32) : Bool := cs.all fun c => !decide (255 < c)
def cdOf (cs : List Int32) : Int32 := if lat cs then 0 else 1
def oWide (cs : List Int32) : List Value := tab (2 * cs.length) fun j => .int (if j % 2 = 0 then lw8 (cs.getD (j / 2) 0) else hi8 (cs.getD (j / 2) 0))
def oBytes (cs : List Int32) : List Value := if lat cs then tab cs.length (fun j => .int (lo8 (cs.getD j 0))) else oWide cs
def Chars (cs : List Int32) : Prop := (∀ c ∈ cs, ¬ c < 0 ∧ ¬ (65535 : Int32) < c) ∧ cs.length ≤ 4000
def SC (Z : State) (t : Addr) (cx ct : Cell) (cs : List Int32) : Prop :=
  EC Z cx "java/lang/String" ∧ FC Z cx "java/lang/String" "value" "[B" (.ref t) ∧ FC Z cx "java/lang/String" "coder" "B" (.int (cdOf cs)) ∧ AC Z ct .byte (oBytes cs) ∧ Chars cs
theorem lat_iff {cs : List Int32} : lat cs = true ↔ ∀ c ∈ cs, ¬ (255 : Int32) < c := by simp [lat]
theorem cd_cases (cs : List Int32) : (lat cs = true ∧ cdOf cs = 0) ∨ (lat cs = false ∧ cdOf cs = 1) := by
  cases h : lat cs
  · exact Or.inr ⟨rfl, by simp [cdOf, h]⟩
  · exact Or.inl ⟨rfl, by simp [cdOf, h]⟩
theorem nar_cd (cs : List Int32) : nar .byte (cdOf cs) = cdOf cs := by rcases cd_cases cs with ⟨-, h⟩ | ⟨-, h⟩ <;> rw [h] <;> decide
theorem bytes_len (cs : List Int32) : (oBytes cs).length = if lat cs then cs.length else 2 * cs.length := by
  unfold oBytes; split <;> simp [oWide, tab_len]
theorem bytes_lat {cs : List Int32} (h : lat cs = true) : oBytes cs = tab cs.length (fun j => .int (lo8 (cs.getD j 0))) := by simp [oBytes, h]
theorem bytes_wide {cs : List Int32} (h : lat cs = false) : oBytes cs = oWide cs := by simp [oBytes, h]
theorem getD_mem {cs : List Int32} {i : Nat} (hi : i < cs.length) : cs.getD i 0 ∈ cs := by
  rw [List.getD_eq_getElem?_getD, List.getElem?_eq_getElem hi]; exact List.getElem_mem hi
/-- length()'s shift -/
theorem shr_len (cs : List Int32) (h : cs.length ≤ 4000) : Int32.ofNat (oBytes cs).length >>> (cdOf cs &&& 31) = Int32.ofNat cs.length := by
  rw [bytes_len]
  rcases cd_cases cs with ⟨h1, h2⟩ | ⟨h1, h2⟩
  · rw [h2, h1, if_pos rfl]
    apply i_eq
    rw [c_ishr _ 0 0 (by decide)]; simp
  · rw [h2, h1, if_neg (by decide)]
    apply i_eq
    rw [c_ishr _ 1 1 (by decide), n_int (by omega), n_int (by omega)]; omega
theorem lo8_back {c : Int32} (h0 : ¬ c < 0) (h1 : ¬ (255 : Int32) < c) : (lo8 c &&& 255).toUInt32.toUInt16.toUInt32.toInt32 = c := by
  rw [i2c_mask]
  apply i_eq
  rw [c_mask _ 255 8 (by decide) (by decide)]
  have q := c_i2b c
  rw [i_lt] at h0 h1
  have e0 : (0 : Int32).toInt = 0 := by decide
  have e1 : (255 : Int32).toInt = 255 := by decide
  rw [e0] at h0; rw [e1] at h1
  have : (lo8 c).toInt = c.toInt8.toInt32.toInt := rfl
  rw [this]; omega
theorem nar_char_id {c : Int32} (h0 : ¬ c < 0) (h1 : ¬ (65535 : Int32) < c) : nar .char c = c := by
  apply i_eq
  have q := c_i2c c
  rw [i_lt] at h0 h1
  have e0 : (0 : Int32).toInt = 0 := by decide
  have e1 : (65535 : Int32).toInt = 65535 := by decide
  rw [e0] at h0; rw [e1] at h1
  show c.toUInt32.toUInt16.toUInt32.toInt32.toInt = _
  omega
theorem nar_bool01 {x : Int32} (h : x = 0 ∨ x = 1) : nar .boolean x = x := by rcases h with rfl | rfl <;> decide
theorem fits_cd (cs : List Int32) : fits .byte (.int (cdOf cs)) = true := by rcases cd_cases cs with ⟨-, h⟩ | ⟨-, h⟩ <;> rw [h] <;> decide
/-- coderFromArrayLen's answer -/
theorem cfl_val {cs : List Int32} {n : Nat} (hn : cs.length = n) (h4 : cs.length ≤ 4000) (h0 : 0 < n) : (XT.ushr (Int32.ofNat n - Int32.ofNat (oBytes cs).length) 31).toInt8.toInt32 = cdOf cs := by
  rw [bytes_len]
  rcases cd_cases cs with ⟨h1, h2⟩ | ⟨h1, h2⟩
  · rw [h2, h1, if_pos rfl, hn, Int32.sub_self]; decide
  · rw [h2, h1, if_neg (by decide)]
    have e : XT.ushr (Int32.ofNat n - Int32.ofNat (2 * cs.length)) 31 = 1 := by
      apply i_eq
      have q := c_isub (Int32.ofNat n) (Int32.ofNat (2 * cs.length))
      have r := rng32 (Int32.ofNat n - Int32.ofNat (2 * cs.length))
      rw [n_int (by omega), n_int (by omega)] at q
      have u := c_iushr (Int32.ofNat n - Int32.ofNat (2 * cs.length)) 31 31 (by decide) (by decide)
      have e1 : (1 : Int32).toInt = 1 := by decide
      show ((Int32.ofNat n - Int32.ofNat (2 * cs.length)).toUInt32 >>> ((31 : Int32) &&& 31).toUInt32).toInt32.toInt = _
      rw [u, e1]
      omega
    rw [e]; decide
theorem shl_1 (n : Nat) (h : n ≤ 100000) : Int32.ofNat n <<< ((1 : Int32) &&& 31) = Int32.ofNat (2 * n) := by
  apply i_eq
  have q := c_ishl (Int32.ofNat n) 1 1 (by decide)
  have r := rng32 (Int32.ofNat n <<< ((1 : Int32) &&& 31))
  rw [n_int (by omega)] at q
  rw [n_int (by omega)]
  omega
theorem wide_lo {cs : List Int32} {i : Nat} (hi : i < cs.length) : (oWide cs)[2 * i]? = some (.int (lw8 (cs.getD i 0))) := by
  unfold oWide; rw [tab_get (by omega), if_pos (by omega), show 2 * i / 2 = i by omega]
theorem wide_hi {cs : List Int32} {i : Nat} (hi : i < cs.length) : (oWide cs)[2 * i + 1]? = some (.int (hi8 (cs.getD i 0))) := by
  unfold oWide; rw [tab_get (by omega), if_neg (by omega), show (2 * i + 1) / 2 = i by omega]
theorem wide_back {c : Int32} (h0 : ¬ c < 0) (h1 : ¬ (65535 : Int32) < c) : (((lw8 c &&& 255) <<< ((0 : Int32) &&& 31)) ||| ((hi8 c &&& 255) <<< ((8 : Int32) &&& 31))).toUInt32.toUInt16.toUInt32.toInt32 = c := by
  have a1 := c_ishr c 0 0 (by decide)
  have a2 := c_i2b (c >>> ((0 : Int32) &&& 31))
  have a3 := c_mask (lw8 c) 255 8 (by decide) (by decide)
  have a4 := c_ishl (lw8 c &&& 255) 0 0 (by decide)
  have b1 := c_ishr c 8 8 (by decide)
  have b2 := c_i2b (c >>> ((8 : Int32) &&& 31))
  have b3 := c_mask (hi8 c) 255 8 (by decide) (by decide)
  have b4 := c_ishl (hi8 c &&& 255) 8 8 (by decide)
  have r1 := rng32 ((lw8 c &&& 255) <<< ((0 : Int32) &&& 31))
  have r2 := rng32 ((hi8 c &&& 255) <<< ((8 : Int32) &&& 31))
  have e1 : (lw8 c).toInt = (c >>> ((0 : Int32) &&& 31)).toInt8.toInt32.toInt := rfl
  have e2 : (hi8 c).toInt = (c >>> ((8 : Int32) &&& 31)).toInt8.toInt32.toInt := rfl
  have z0 : (0 : Int32).toInt = 0 := by decide
  have z1 : (65535 : Int32).toInt = 65535 := by decide
  rw [i_lt, z0] at h0
  rw [i_lt, z1] at h1
  have p8 : ((2 ^ 8 : Nat) : Int) = 256 := by decide
  have p0 : ((2 ^ 0 : Nat) : Int) = 1 := by decide
  rw [p0] at a1 a4
  rw [p8] at a3 b1 b3 b4
  have o := c_or' ((lw8 c &&& 255) <<< ((0 : Int32) &&& 31)) ((hi8 c &&& 255) <<< ((8 : Int32) &&& 31)) 8 (by decide) 256 (by decide) (by omega) (by omega) (by omega)
  have u := c_i2c (((lw8 c &&& 255) <<< ((0 : Int32) &&& 31)) ||| ((hi8 c &&& 255) <<< ((8 : Int32) &&& 31)))
  apply i_eq
  omega
theorem ch_nil : Chars [] := ⟨fun _ h => (nomatch h), by decide⟩
theorem ch_cons {cs : List Int32} (v : Int32) (h : Chars cs) (hl : cs.length < 4000) : Chars (nar .char v :: cs) := ⟨fun c hc => by
  rcases List.mem_cons.mp hc with rfl | hc
  · exact rng_char (fits_nar_char v)
  · exact h.1 c hc, hl⟩
theorem lt_65535 {c : Int32} (h : ¬ (255 : Int32) < c) : ¬ (65535 : Int32) < c := by
  rw [i_lt] at h ⊢
  have e1 : (255 : Int32).toInt = 255 := by decide
  have e2 : (65535 : Int32).toInt = 65535 := by decide
  omega
theorem msk_lat (v : Int32) : ¬ (v &&& 255).toUInt32.toUInt16.toUInt32.toInt32 < 0 ∧ ¬ (255 : Int32) < (v &&& 255).toUInt32.toUInt16.toUInt32.toInt32 := by
  rw [i2c_mask]
  have h := c_and v 255 (by decide)
  have e1 : (255 : Int32).toInt = 255 := by decide
  have e2 : (0 : Int32).toInt = 0 := by decide
  rw [i_lt, i_lt]; omega
theorem msk_nar (v : Int32) : ¬ (255 : Int32) < nar .char (v &&& 255).toUInt32.toUInt16.toUInt32.toInt32 := by
  rw [nar_char_id (msk_lat v).1 (lt_65535 (msk_lat v).2)]; exact (msk_lat v).2
theorem lo8_inj {x y : Int32} (h0 : ¬ x < 0) (h1 : ¬ (255 : Int32) < x) (k0 : ¬ y < 0) (k1 : ¬ (255 : Int32) < y) (h : lo8 x = lo8 y) : x = y := by
  rw [← lo8_back h0 h1, ← lo8_back k0 k1, h]
/-- r: where ch lies first among cs, or -1 -/
def IdxR (cs : List Int32) (ch r : Int32) : Prop := (r = -1 ∧ ∀ j, j < cs.length → ¬ cs.getD j 0 = ch) ∨ ∃ i, i < cs.length ∧ r = Int32.ofNat i ∧ cs.getD i 0 = ch ∧ ∀ j, j < i → ¬ cs.getD j 0 = ch
theorem shr_1 (n : Nat) (h : n ≤ 100000) : Int32.ofNat (2 * n) >>> ((1 : Int32) &&& 31) = Int32.ofNat n := by
  apply i_eq
  rw [c_ishr _ 1 1 (by decide), n_int (by omega), n_int (by omega)]; omega
theorem lt_65536 {c : Int32} (h : ¬ (65535 : Int32) < c) : c < 65536 := by
  rw [i_lt] at h ⊢
  have e1 : (65536 : Int32).toInt = 65536 := by decide
  have e2 : (65535 : Int32).toInt = 65535 := by decide
  omega
theorem lat_cons {c : Int32} {cs : List Int32} (h : ¬ (255 : Int32) < c) (hl : lat cs = true) : lat (c :: cs) = true := lat_iff.mpr fun q hq => by
  rcases List.mem_cons.mp hq with rfl | hq
  · exact h
  · exact lat_iff.mp hl q hq
theorem nar_nar (x : Int32) : nar .char (nar .char x) = nar .char x := nar_char_id (rng_char (fits_nar_char x)).1 (rng_char (fits_nar_char x)).2
theorem n_sub {a b : Nat} (h : a ≤ b) (hb : b < 2147483648) : Int32.ofNat b - Int32.ofNat a = Int32.ofNat (b - a) := by
  rw [← Int32.toInt_inj, n_int (by omega)]
  have q := c_isub (Int32.ofNat b) (Int32.ofNat a)
  rw [n_int hb, n_int (by omega)] at q
  have r := rng32 (Int32.ofNat b - Int32.ofNat a)
  omega
def subL (cs : List Int32) (a b : Nat) : List Int32 := (cs.drop a).take (b - a)
theorem subL_len {cs : List Int32} {a b : Nat} (hb : b ≤ cs.length) : (subL cs a b).length = b - a := by simp [subL]; omega
theorem subL_get {cs : List Int32} {a b j : Nat} (hj : j < b - a) : (subL cs a b).getD j 0 = cs.getD (a + j) 0 := by
  rw [List.getD_eq_getElem?_getD, List.getD_eq_getElem?_getD, subL, List.getElem?_take, if_pos hj, List.getElem?_drop]
theorem subL_mem {cs : List Int32} {a b : Nat} {c : Int32} (h : c ∈ subL cs a b) : c ∈ cs := List.mem_of_mem_drop (List.mem_of_mem_take h)
theorem subL_lat {cs : List Int32} {a b : Nat} (h : lat cs = true) : lat (subL cs a b) = true := lat_iff.mpr fun c hc => lat_iff.mp h c (subL_mem hc)
theorem subL_ch {cs : List Int32} {a b : Nat} (h : Chars cs) : Chars (subL cs a b) := ⟨fun c hc => h.1 c (subL_mem hc), by have := h.2; simp [subL]; omega⟩
theorem subL_all (cs : List Int32) : subL cs 0 cs.length = cs := by simp [subL]
end StrDefs
end Jvm.OwnKit
namespace Jvm.Pilot.@@N@@
open Jvm Jvm.ClassFile Sem Op Lib Jvm.Free Jvm.Stand Jvm.LawKit Jvm.RoadKit Bundle Jvm.OwnKit Jvm.Pilot.@@N@@.Jvm.D
abbrev kCap : Nat := 4
theorem pd_0 : parseMethodDescriptor "()B" = some ⟨[], some .byte⟩ := by decide +kernel
theorem pd_1 : parseMethodDescriptor "([CI[BII)I" = some ⟨[(.array .char), .int, (.array .byte), .int, .int], some .int⟩ := by decide +kernel
theorem pd_2 : parseMethodDescriptor "([CII)[B" = some ⟨[(.array .char), .int, .int], some (.array .byte)⟩ := by decide +kernel
theorem pd_3 : parseMethodDescriptor "([BI)B" = some ⟨[(.array .byte), .int], some .byte⟩ := by decide +kernel
theorem pd_4 : parseMethodDescriptor "([CIILjava/lang/Void;)V" = some ⟨[(.array .char), .int, .int, (.object "java/lang/Void")], none⟩ := by decide +kernel
theorem pd_5 : parseMethodDescriptor "(IILjava/util/function/BiFunction;)I" = some ⟨[.int, .int, (.object "java/util/function/BiFunction")], some .int⟩ := by decide +kernel
theorem pd_6 : parseMethodDescriptor "(II)V" = some ⟨[.int, .int], none⟩ := by decide +kernel
theorem pd_7 : parseMethodDescriptor "()Z" = some ⟨[], some .boolean⟩ := by decide +kernel
theorem pd_8 : parseMethodDescriptor "([BI)C" = some ⟨[(.array .byte), .int], some .char⟩ := by decide +kernel
theorem pd_9 : parseMethodDescriptor "(IIILjava/util/function/BiFunction;)I" = some ⟨[.int, .int, .int, (.object "java/util/function/BiFunction")], some .int⟩ := by decide +kernel
theorem pd_10 : parseMethodDescriptor "(II)I" = some ⟨[.int, .int], some .int⟩ := by decide +kernel
theorem pd_11 : parseMethodDescriptor "([BII)[B" = some ⟨[(.array .byte), .int, .int], some (.array .byte)⟩ := by decide +kernel
theorem pd_12 : parseMethodDescriptor "([BB)V" = some ⟨[(.array .byte), .byte], none⟩ := by decide +kernel
theorem pd_13 : parseMethodDescriptor "()I" = some ⟨[], some .int⟩ := by decide +kernel
theorem pd_14 : parseMethodDescriptor "(III)V" = some ⟨[.int, .int, .int], none⟩ := by decide +kernel
theorem pd_15 : parseMethodDescriptor "([BII)Ljava/lang/String;" = some ⟨[(.array .byte), .int, .int], some (.object "java/lang/String")⟩ := by decide +kernel
theorem pd_16 : parseMethodDescriptor "(I)Z" = some ⟨[.int], some .boolean⟩ := by decide +kernel
theorem pd_17 : parseMethodDescriptor "([BII)I" = some ⟨[(.array .byte), .int, .int], some .int⟩ := by decide +kernel
theorem pd_18 : parseMethodDescriptor "(II)Ljava/lang/String;" = some ⟨[.int, .int], some (.object "java/lang/String")⟩ := by decide +kernel
theorem pd_19 : parseMethodDescriptor "(I)C" = some ⟨[.int], some .char⟩ := by decide +kernel
theorem pd_20 : parseMethodDescriptor "(I)I" = some ⟨[.int], some .int⟩ := by decide +kernel
theorem pd_21 : parseMethodDescriptor "(I)Ljava/lang/String;" = some ⟨[.int], some (.object "java/lang/String")⟩ := by decide +kernel
theorem pd_22 : parseMethodDescriptor "([C)V" = some ⟨[(.array .char)], none⟩ := by decide +kernel
theorem pd_23 : parseMethodDescriptor "(Ljava/lang/String;)Ljava/lang/String;" = some ⟨[(.object "java/lang/String")], some (.object "java/lang/String")⟩ := by decide +kernel
theorem pd_24 : parseMethodDescriptor "(Ljava/lang/String;I[CI)Z" = some ⟨[(.object "java/lang/String"), .int, (.array .char), .int], some .boolean⟩ := by decide +kernel
theorem str_atoms {Z : State} {a0 : Array Value} (hw : ∀ d ∈ tables_1, d.before a0 Z = true) : ∀ a ∈ Bundle.stringAtoms, a.before a0 Z = true := fun d hd => by
  simp only [Bundle.stringAtoms, List.mem_cons, List.not_mem_nil, or_false] at hd
  rcases hd with rfl | rfl | rfl | rfl | rfl | rfl | rfl
  · exact (hw _ (List.mem_of_getElem? (i := 8) rfl))
  · exact (hw _ (List.mem_of_getElem? (i := 7) rfl))
  · exact (hw _ (List.mem_of_getElem? (i := 20) rfl))
  · exact (hw _ (List.mem_of_getElem? (i := 21) rfl))
  · exact (hw _ (List.mem_of_getElem? (i := 22) rfl))
  · exact (hw _ (List.mem_of_getElem? (i := 23) rfl))
  · exact (hw _ (List.mem_of_getElem? (i := 24) rfl))
theorem d_COD_0 : decode jdk_42_method_152_code 0 = .ok (.getstatic 38, 3) := by decide +kernel
theorem d_COD_3 : decode jdk_42_method_152_code 3 = .ok (.ifCond .eq 10, 3) := by decide +kernel
theorem d_COD_6 : decode jdk_42_method_152_code 6 = .ok (.aload_n 0, 1) := by decide +kernel
theorem d_COD_7 : decode jdk_42_method_152_code 7 = .ok (.getfield 15, 3) := by decide +kernel
theorem d_COD_10 : decode jdk_42_method_152_code 10 = .ok (.goto 4, 3) := by decide +kernel
theorem d_COD_13 : decode jdk_42_method_152_code 13 = .ok (.iconst 1, 1) := by decide +kernel
theorem d_COD_14 : decode jdk_42_method_152_code 14 = .ok (.ireturn, 1) := by decide +kernel
theorem pn_COD : plainFor (⟨"java/lang/String", "coder", "()B"⟩ : MethodName) = true := by first | exact plainFor_of_name (by first | (simp [plainName, overriddenIn]; done) | decide +kernel) | decide +kernel
theorem d_LEN_0 : decode jdk_42_method_54_code 0 = .ok (.aload_n 0, 1) := by decide +kernel
theorem d_LEN_1 : decode jdk_42_method_54_code 1 = .ok (.getfield 9, 3) := by decide +kernel
theorem d_LEN_4 : decode jdk_42_method_54_code 4 = .ok (.arraylength, 1) := by decide +kernel
theorem d_LEN_5 : decode jdk_42_method_54_code 5 = .ok (.aload_n 0, 1) := by decide +kernel
theorem d_LEN_6 : decode jdk_42_method_54_code 6 = .ok (.invokevirtual 335, 3) := by decide +kernel
theorem d_LEN_9 : decode jdk_42_method_54_code 9 = .ok (.ishr, 1) := by decide +kernel
theorem d_LEN_10 : decode jdk_42_method_54_code 10 = .ok (.ireturn, 1) := by decide +kernel
theorem pn_LEN : plainFor (⟨"java/lang/String", "length", "()I"⟩ : MethodName) = true := by first | exact plainFor_of_name (by first | (simp [plainName, overriddenIn]; done) | decide +kernel) | decide +kernel
section StrA
variable {l : Launch} {Z : State} {a0 : Array Value} {EL : List (String × Nat)} {zc : Int32} {x t : Addr} {cx ct : Cell} {cs : List Int32}
theorem c_COD (hw : ∀ d ∈ tables_1, d.before a0 Z = true) (hEL : EW Z a0 EL) (O2 : Sta Z Z.heap "java/lang/String" "COMPACT_STRINGS" "Z" (.int zc)) (hzc : ¬ zc = 0) (hs : SC Z t cx ct cs) :
    OCon l Z EL (⟨"java/lang/String", "coder", "()B"⟩ : MethodName) jdk_42_method_152_code 1 (some .byte) [] ({ frames := 0, cells := 0, slots := 0, locals := 0 } : Room) #[.ref x] [] [(x, cx), (t, ct)] (fun v M N => v = some (.int (cdOf cs)) ∧ M = [] ∧ N = []) := by
  refine OCon.of_wp (L0 := [.val (.ref x)]) pn_COD hEL (fun m => by first | (simp [entryFrame, mkF, argsToLocals, Value.category]; done) | rfl) ?_
  intro p e s m below meth c hk
  refine OWp.getstatic hk d_COD_0 (pc' := 3) rfl (hw _ (List.mem_of_getElem? (i := 46) rfl)) O2 ?_
  refine OWp.ifNo hk d_COD_3 (XT.i0_eq_f hzc) (pc' := 6) rfl ?_
  refine OWp.aload_n hk d_COD_6 (pc' := 7) rfl rfl rfl ?_
  refine OWp.getfield hk d_COD_7 (pc' := 10) rfl (hw _ (List.mem_of_getElem? (i := 26) rfl)) (by simp) hs.2.2.1 ?_
  refine OWp.goto hk d_COD_10 (by decide) (pc' := 14) rfl ?_
  exact OWp.retN hk (Or.inr (Or.inl rfl)) d_COD_14 ⟨by rw [nar_cd], rfl, rfl⟩ (List.Sublist.refl _) (fun _ h => h) (by decide) (by decide)
theorem c_LEN (hw : ∀ d ∈ tables_1, d.before a0 Z = true) (hEL : EW Z a0 EL) (O2 : Sta Z Z.heap "java/lang/String" "COMPACT_STRINGS" "Z" (.int zc)) (hzc : ¬ zc = 0) (hs : SC Z t cx ct cs) :
    OCon l Z EL (⟨"java/lang/String", "length", "()I"⟩ : MethodName) jdk_42_method_54_code 1 (some .int) [] ({ frames := 1, cells := 0, slots := 0, locals := 13 } : Room) #[.ref x] [] [(x, cx), (t, ct)] (fun v M N => v = some (.int (Int32.ofNat cs.length)) ∧ M = [] ∧ N = []) := by
  refine OCon.of_wp (L0 := [.val (.ref x)]) pn_LEN hEL (fun m => by first | (simp [entryFrame, mkF, argsToLocals, Value.category]; done) | rfl) ?_
  intro p e s m below meth c hk
  refine OWp.aload_n hk d_LEN_0 (pc' := 1) rfl rfl rfl ?_
  refine OWp.getfield hk d_LEN_1 (pc' := 4) rfl (hw _ (List.mem_of_getElem? (i := 25) rfl)) (by simp) hs.2.1 ?_
  refine OWp.arraylength hk d_LEN_4 (pc' := 5) rfl (by simp) hs.2.2.2.1 rfl ?_
  refine OWp.aload_n hk d_LEN_5 (pc' := 6) rfl rfl rfl ?_
  refine OWp.callV hk d_LEN_6 (pc' := 9) rfl (hw _ (List.mem_of_getElem? (i := 41) rfl)) (hw _ (List.mem_of_getElem? (i := 42) rfl)) (nfs (hw _ (List.mem_of_getElem? (i := 44) rfl))) (hw _ (List.mem_of_getElem? (i := 44) rfl)) (hw _ (List.mem_of_getElem? (i := 43) rfl)) (hw _ (List.mem_of_getElem? (i := 8) rfl)) (hw _ (List.mem_of_getElem? (i := 45) rfl)) (by decide) (by simp) hs.1 (c_COD hw hEL O2 hzc hs) rfl (by simp) rfl (lenOf pd_0 rfl) rfl (W := 1) rfl (by first | decide | (dsimp only; omega)) (by first | decide | (dsimp only; omega)) (by first | decide | (dsimp only; omega)) (by first | decide | (dsimp only; omega)) ?_
  rintro _ _ _ ⟨rfl, rfl, rfl⟩
  refine OWp.ishr hk d_LEN_9 (pc' := 10) rfl ?_
  exact OWp.retI hk d_LEN_10 ⟨by rw [shr_len _ hs.2.2.2.2.2], rfl, rfl⟩ (List.Sublist.refl _) (fun _ h => h) (by decide) (by decide)
end StrA
theorem d_CM5_0 : decode jdk_52_method_21_code 0 = .ok (.iconst 0, 1) := by decide +kernel
theorem d_CM5_1 : decode jdk_52_method_21_code 1 = .ok (.istore 5, 2) := by decide +kernel
theorem d_CM5_3 : decode jdk_52_method_21_code 3 = .ok (.iload 5, 2) := by decide +kernel
theorem d_CM5_5 : decode jdk_52_method_21_code 5 = .ok (.iload 4, 2) := by decide +kernel
theorem d_CM5_7 : decode jdk_52_method_21_code 7 = .ok (.if_icmp .ge 37, 3) := by decide +kernel
theorem d_CM5_10 : decode jdk_52_method_21_code 10 = .ok (.aload_n 0, 1) := by decide +kernel
theorem d_CM5_11 : decode jdk_52_method_21_code 11 = .ok (.iload_n 1, 1) := by decide +kernel
theorem d_CM5_12 : decode jdk_52_method_21_code 12 = .ok (.caload, 1) := by decide +kernel
theorem d_CM5_13 : decode jdk_52_method_21_code 13 = .ok (.istore 6, 2) := by decide +kernel
theorem d_CM5_15 : decode jdk_52_method_21_code 15 = .ok (.iload 6, 2) := by decide +kernel
theorem d_CM5_17 : decode jdk_52_method_21_code 17 = .ok (.sipush 255, 3) := by decide +kernel
theorem d_CM5_20 : decode jdk_52_method_21_code 20 = .ok (.if_icmp .le 6, 3) := by decide +kernel
theorem d_CM5_23 : decode jdk_52_method_21_code 23 = .ok (.iload 5, 2) := by decide +kernel
theorem d_CM5_25 : decode jdk_52_method_21_code 25 = .ok (.ireturn, 1) := by decide +kernel
theorem d_CM5_26 : decode jdk_52_method_21_code 26 = .ok (.aload_n 2, 1) := by decide +kernel
theorem d_CM5_27 : decode jdk_52_method_21_code 27 = .ok (.iload_n 3, 1) := by decide +kernel
theorem d_CM5_28 : decode jdk_52_method_21_code 28 = .ok (.iload 6, 2) := by decide +kernel
theorem d_CM5_30 : decode jdk_52_method_21_code 30 = .ok (.i2b, 1) := by decide +kernel
theorem d_CM5_31 : decode jdk_52_method_21_code 31 = .ok (.bastore, 1) := by decide +kernel
theorem d_CM5_32 : decode jdk_52_method_21_code 32 = .ok (.iinc 1 1, 3) := by decide +kernel
theorem d_CM5_35 : decode jdk_52_method_21_code 35 = .ok (.iinc 3 1, 3) := by decide +kernel
theorem d_CM5_38 : decode jdk_52_method_21_code 38 = .ok (.iinc 5 1, 3) := by decide +kernel
theorem d_CM5_41 : decode jdk_52_method_21_code 41 = .ok (.goto (-38), 3) := by decide +kernel
theorem d_CM5_44 : decode jdk_52_method_21_code 44 = .ok (.iload 4, 2) := by decide +kernel
theorem d_CM5_46 : decode jdk_52_method_21_code 46 = .ok (.ireturn, 1) := by decide +kernel
theorem pn_CM5 : plainFor (⟨"java/lang/StringUTF16", "compress", "([CI[BII)I"⟩ : MethodName) = true := by first | exact plainFor_of_name (by first | (simp [plainName, overriddenIn]; done) | decide +kernel) | decide +kernel
theorem d_CFL_0 : decode jdk_52_method_15_code 0 = .ok (.iload_n 1, 1) := by decide +kernel
theorem d_CFL_1 : decode jdk_52_method_15_code 1 = .ok (.aload_n 0, 1) := by decide +kernel
theorem d_CFL_2 : decode jdk_52_method_15_code 2 = .ok (.arraylength, 1) := by decide +kernel
theorem d_CFL_3 : decode jdk_52_method_15_code 3 = .ok (.isub, 1) := by decide +kernel
theorem d_CFL_4 : decode jdk_52_method_15_code 4 = .ok (.bipush 31, 2) := by decide +kernel
theorem d_CFL_6 : decode jdk_52_method_15_code 6 = .ok (.iushr, 1) := by decide +kernel
theorem d_CFL_7 : decode jdk_52_method_15_code 7 = .ok (.i2b, 1) := by decide +kernel
theorem d_CFL_8 : decode jdk_52_method_15_code 8 = .ok (.ireturn, 1) := by decide +kernel
theorem pn_CFL : plainFor (⟨"java/lang/StringUTF16", "coderFromArrayLen", "([BI)B"⟩ : MethodName) = true := by first | exact plainFor_of_name (by first | (simp [plainName, overriddenIn]; done) | decide +kernel) | decide +kernel
section StrCM5
variable {l : Launch} {Z : State} {a0 : Array Value} {EL : List (String × Nat)} {b d : Addr} {cb cd : Cell} {cs : List Int32} {n : Nat}
theorem c_CM5 (hw : ∀ d ∈ tables_1, d.before a0 Z = true) (hEL : EW Z a0 EL) (hA : AC Z cb .char (tab n fun j => .int (cs.getD j 0))) (hn : cs.length = n) (hcs : Chars cs) (hD : AC Z cd .byte (tab n fun _ => .int 0)) :
    OCon l Z EL (⟨"java/lang/StringUTF16", "compress", "([CI[BII)I"⟩ : MethodName) jdk_52_method_21_code 7 (some .int) [] ({ frames := 0, cells := 0, slots := 0, locals := 0 } : Room) #[.ref b, .int 0, .ref d, .int 0, .int (Int32.ofNat n)] [(d, cd)] [(b, cb)]
      (fun v M N => N = [] ∧ ∃ k cd', k ≤ n ∧ v = some (.int (Int32.ofNat k)) ∧ M = [(d, cd')] ∧ (k = n → lat cs = true ∧ AC Z cd' .byte (tab n fun j => .int (lo8 (cs.getD j 0)))) ∧ (k < n → (255 : Int32) < cs.getD k 0)) := by
  refine OCon.of_wp (L0 := [.val (.ref b), .val (.int 0), .val (.ref d), .val (.int 0), .val (.int (Int32.ofNat n)), .unset, .unset]) pn_CM5 hEL (fun m => by first | (simp [entryFrame, mkF, argsToLocals, Value.category]; done) | rfl) ?_
  intro p e s m below meth c hk
  have hn4 := hcs.2
  have loop : ∀ (k i : Nat) (cd' : Cell) (o6 : Slot), i + k = n → (∀ j, j < i → ¬ (255 : Int32) < cs.getD j 0) → AC Z cd' .byte (tab n fun j => if j < i then .int (lo8 (cs.getD j 0)) else .int 0) → o1 o6 = true →
      OWp p l e ({ frames := 0, cells := 0, slots := 0, locals := 0 } : Room) s m #[.ref b, .int 0, .ref d, .int 0, .int (Int32.ofNat n)] below meth c "java/lang/StringUTF16" Z EL (dom [(d, cd)]) [(b, cb)]
        (fun v M N => N = [] ∧ ∃ k cd', k ≤ n ∧ v = some (.int (Int32.ofNat k)) ∧ M = [(d, cd')] ∧ (k = n → lat cs = true ∧ AC Z cd' .byte (tab n fun j => .int (lo8 (cs.getD j 0)))) ∧ (k < n → (255 : Int32) < cs.getD k 0))
        [(d, cd')] [] 0 0 3 [.val (.ref b), .val (.int (Int32.ofNat i)), .val (.ref d), .val (.int (Int32.ofNat i)), .val (.int (Int32.ofNat n)), .val (.int (Int32.ofNat i)), o6] [] := by
    intro k
    induction k with
    | zero =>
      intro i cd' o6 hik hlo hD' ho6
      refine OWp.iload hk d_CM5_3 (pc' := 5) rfl rfl ?_
      refine OWp.iload hk d_CM5_5 (pc' := 7) rfl rfl ?_
      refine OWp.icmpYes hk d_CM5_7 (XT.ii_ge_t (by rw [n_lt (by omega) (by omega)]; omega)) (by decide) (pc' := 44) rfl ?_
      refine OWp.iload hk d_CM5_44 (pc' := 46) rfl rfl ?_
      have hlat : lat cs = true := lat_iff.mpr fun c hc => by
        obtain ⟨j, hj, rfl⟩ := List.getElem_of_mem hc
        have := hlo j (by omega)
        rwa [List.getD_eq_getElem?_getD, List.getElem?_eq_getElem hj] at this
      have hfin : AC Z cd' .byte (tab n fun j => .int (lo8 (cs.getD j 0))) := hD'.congr fun j hj => by rw [if_pos (by omega)]
      exact OWp.retI hk d_CM5_46 ⟨rfl, n, cd', Nat.le_refl _, rfl, rfl, fun _ => ⟨hlat, hfin⟩, fun q => absurd q (Nat.lt_irrefl _)⟩ (List.Sublist.refl _) (fun _ h => h) (by decide) (by decide)
    | succ k ih =>
      intro i cd' o6 hik hlo hD' ho6
      have hi : i < n := by omega
      have hc := hcs.1 _ (getD_mem (i := i) (by omega))
      refine OWp.iload hk d_CM5_3 (pc' := 5) rfl rfl ?_
      refine OWp.iload hk d_CM5_5 (pc' := 7) rfl rfl ?_
      refine OWp.icmpNo hk d_CM5_7 (XT.ii_ge_f (by rw [n_lt (by omega) (by omega)]; omega)) (pc' := 10) rfl ?_
      refine OWp.aload_n hk d_CM5_10 (pc' := 11) rfl rfl rfl ?_
      refine OWp.iload_n hk d_CM5_11 (pc' := 12) rfl rfl ?_
      refine OWp.caload hk d_CM5_12 (pc' := 13) rfl (by simp) hA (n_nn (by omega)) (by rw [n_nat (by omega)]; exact tab_get hi) ?_
      refine OWp.istore hk d_CM5_13 (pc' := 15) rfl ho6 (by simp only [List.set_cons_zero, List.set_cons_succ]; rfl) ?_
      refine OWp.iload hk d_CM5_15 (pc' := 17) rfl rfl ?_
      refine OWp.sipush hk d_CM5_17 (pc' := 20) rfl (z := 255) rfl ?_
      by_cases h255 : (255 : Int32) < cs.getD i 0
      · refine OWp.icmpNo hk d_CM5_20 (XT.ii_le_f h255) (pc' := 23) rfl ?_
        refine OWp.iload hk d_CM5_23 (pc' := 25) rfl rfl ?_
        exact OWp.retI hk d_CM5_25 ⟨rfl, i, cd', Nat.le_of_lt hi, rfl, rfl, fun q => absurd q (Nat.ne_of_lt hi), fun _ => h255⟩ (List.Sublist.refl _) (fun _ h => h) (by decide) (by decide)
      · refine OWp.icmpYes hk d_CM5_20 (XT.ii_le_t h255) (by decide) (pc' := 26) rfl ?_
        refine OWp.aload_n hk d_CM5_26 (pc' := 27) rfl rfl rfl ?_
        refine OWp.iload_n hk d_CM5_27 (pc' := 28) rfl rfl ?_
        refine OWp.iload hk d_CM5_28 (pc' := 30) rfl rfl ?_
        refine OWp.i2b hk d_CM5_30 (pc' := 31) rfl ?_
        refine OWp.bastore hk d_CM5_31 (pc' := 32) rfl (i := 0) rfl hD' (n_nn (by omega)) (n_nat (by omega)) (by rw [tab_len]; exact hi) ?_
        intro cd2 hD2
        simp only [List.nil_append, List.cons_append, List.set_cons_zero]
        refine OWp.iinc hk d_CM5_32 (pc' := 35) rfl rfl (z := 1) rfl (by simp only [List.set_cons_zero, List.set_cons_succ]; rfl) ?_
        refine OWp.iinc hk d_CM5_35 (pc' := 38) rfl rfl (z := 1) rfl (by simp only [List.set_cons_zero, List.set_cons_succ]; rfl) ?_
        refine OWp.iinc hk d_CM5_38 (pc' := 41) rfl rfl (z := 1) rfl (by simp only [List.set_cons_zero, List.set_cons_succ]; rfl) ?_
        refine OWp.goto hk d_CM5_41 (by decide) (pc' := 3) rfl ?_
        rw [n_succ]
        refine ih (i + 1) cd2 (.val (.int (cs.getD i 0))) (by omega) (fun j hj => ?_) ?_ rfl
        · by_cases e : j = i
          · subst e; exact h255
          · exact hlo j (by omega)
        · rw [tab_set] at hD2
          refine hD2.congr fun j hj => ?_
          by_cases e : j = i
          · subst e; simp [lo8]
          · simp only [e, if_false]
            by_cases q : j < i
            · rw [if_pos q, if_pos (by omega)]
            · rw [if_neg q, if_neg (by omega)]
  refine OWp.iconst hk d_CM5_0 (pc' := 1) rfl (z := 0) rfl ?_
  refine OWp.istore hk d_CM5_1 (pc' := 3) rfl rfl (by simp only [List.set_cons_zero, List.set_cons_succ]; rfl) ?_
  exact loop n 0 cd .unset (by omega) (fun j hj => absurd hj (Nat.not_lt_zero _)) (hD.congr fun j hj => by rw [if_neg (Nat.not_lt_zero _)]) rfl
theorem c_CFL (hw : ∀ d ∈ tables_1, d.before a0 Z = true) (hEL : EW Z a0 EL) {vs : List Value} {z : Int32} (hD : AC Z cd .byte vs) (hz : (XT.ushr (Int32.ofNat n - Int32.ofNat vs.length) 31).toInt8.toInt32 = z) (hz2 : nar .byte z = z) :
    OCon l Z EL (⟨"java/lang/StringUTF16", "coderFromArrayLen", "([BI)B"⟩ : MethodName) jdk_52_method_15_code 2 (some .byte) [] ({ frames := 0, cells := 0, slots := 0, locals := 0 } : Room) #[.ref d, .int (Int32.ofNat n)] [] [(d, cd)] (fun v M N => v = some (.int z) ∧ M = [] ∧ N = []) := by
  refine OCon.of_wp (L0 := [.val (.ref d), .val (.int (Int32.ofNat n))]) pn_CFL hEL (fun m => by first | (simp [entryFrame, mkF, argsToLocals, Value.category]; done) | rfl) ?_
  intro p e s m below meth c hk
  refine OWp.iload_n hk d_CFL_0 (pc' := 1) rfl rfl ?_
  refine OWp.aload_n hk d_CFL_1 (pc' := 2) rfl rfl rfl ?_
  refine OWp.arraylength hk d_CFL_2 (pc' := 3) rfl (by simp) hD rfl ?_
  refine OWp.isub hk d_CFL_3 (pc' := 4) rfl ?_
  refine OWp.bipush hk d_CFL_4 (pc' := 6) rfl (z := 31) rfl ?_
  refine OWp.iushr hk d_CFL_6 (pc' := 7) rfl ?_
  refine OWp.i2b hk d_CFL_7 (pc' := 8) rfl ?_
  exact OWp.retN hk (Or.inr (Or.inl rfl)) d_CFL_8 ⟨by rw [hz, hz2], rfl, rfl⟩ (List.Sublist.refl _) (fun _ h => h) (by decide) (by decide)
end StrCM5
theorem d_CM3_0 : decode jdk_52_method_16_code 0 = .ok (.iload_n 2, 1) := by decide +kernel
theorem d_CM3_1 : decode jdk_52_method_16_code 1 = .ok (.newarray .byte, 2) := by decide +kernel
theorem d_CM3_3 : decode jdk_52_method_16_code 3 = .ok (.astore_n 3, 1) := by decide +kernel
theorem d_CM3_4 : decode jdk_52_method_16_code 4 = .ok (.aload_n 0, 1) := by decide +kernel
theorem d_CM3_5 : decode jdk_52_method_16_code 5 = .ok (.iload_n 1, 1) := by decide +kernel
theorem d_CM3_6 : decode jdk_52_method_16_code 6 = .ok (.aload_n 3, 1) := by decide +kernel
theorem d_CM3_7 : decode jdk_52_method_16_code 7 = .ok (.iconst 0, 1) := by decide +kernel
theorem d_CM3_8 : decode jdk_52_method_16_code 8 = .ok (.iload_n 2, 1) := by decide +kernel
theorem d_CM3_9 : decode jdk_52_method_16_code 9 = .ok (.invokestatic 115, 3) := by decide +kernel
theorem d_CM3_12 : decode jdk_52_method_16_code 12 = .ok (.istore 4, 2) := by decide +kernel
theorem d_CM3_14 : decode jdk_52_method_16_code 14 = .ok (.iload 4, 2) := by decide +kernel
theorem d_CM3_16 : decode jdk_52_method_16_code 16 = .ok (.iload_n 2, 1) := by decide +kernel
theorem d_CM3_17 : decode jdk_52_method_16_code 17 = .ok (.if_icmp .eq 40, 3) := by decide +kernel
theorem d_CM3_20 : decode jdk_52_method_16_code 20 = .ok (.aload_n 0, 1) := by decide +kernel
theorem d_CM3_21 : decode jdk_52_method_16_code 21 = .ok (.iload_n 1, 1) := by decide +kernel
theorem d_CM3_22 : decode jdk_52_method_16_code 22 = .ok (.iload_n 2, 1) := by decide +kernel
theorem d_CM3_23 : decode jdk_52_method_16_code 23 = .ok (.invokestatic 119, 3) := by decide +kernel
theorem d_CM3_26 : decode jdk_52_method_16_code 26 = .ok (.astore 5, 2) := by decide +kernel
theorem d_CM3_28 : decode jdk_52_method_16_code 28 = .ok (.aload 5, 2) := by decide +kernel
theorem d_CM3_30 : decode jdk_52_method_16_code 30 = .ok (.iload 4, 2) := by decide +kernel
theorem d_CM3_32 : decode jdk_52_method_16_code 32 = .ok (.invokestatic 71, 3) := by decide +kernel
theorem d_CM3_35 : decode jdk_52_method_16_code 35 = .ok (.sipush 255, 3) := by decide +kernel
theorem d_CM3_38 : decode jdk_52_method_16_code 38 = .ok (.if_icmp .gt 16, 3) := by decide +kernel
theorem d_CM3_41 : decode jdk_52_method_16_code 41 = .ok (.aload 5, 2) := by decide +kernel
theorem d_CM3_43 : decode jdk_52_method_16_code 43 = .ok (.iconst 0, 1) := by decide +kernel
theorem d_CM3_44 : decode jdk_52_method_16_code 44 = .ok (.aload_n 3, 1) := by decide +kernel
theorem d_CM3_45 : decode jdk_52_method_16_code 45 = .ok (.iconst 0, 1) := by decide +kernel
theorem d_CM3_46 : decode jdk_52_method_16_code 46 = .ok (.iload_n 2, 1) := by decide +kernel
theorem d_CM3_47 : decode jdk_52_method_16_code 47 = .ok (.invokestatic 123, 3) := by decide +kernel
theorem d_CM3_50 : decode jdk_52_method_16_code 50 = .ok (.iload_n 2, 1) := by decide +kernel
theorem d_CM3_51 : decode jdk_52_method_16_code 51 = .ok (.if_icmp .eq 6, 3) := by decide +kernel
theorem d_CM3_54 : decode jdk_52_method_16_code 54 = .ok (.aload 5, 2) := by decide +kernel
theorem d_CM3_56 : decode jdk_52_method_16_code 56 = .ok (.areturn, 1) := by decide +kernel
theorem d_CM3_57 : decode jdk_52_method_16_code 57 = .ok (.aload_n 3, 1) := by decide +kernel
theorem d_CM3_58 : decode jdk_52_method_16_code 58 = .ok (.areturn, 1) := by decide +kernel
theorem pn_CM3 : plainFor (⟨"java/lang/StringUTF16", "compress", "([CII)[B"⟩ : MethodName) = true := by first | exact plainFor_of_name (by first | (simp [plainName, overriddenIn]; done) | decide +kernel) | decide +kernel
section StrCM3L
variable {l : Launch} {Z : State} {a0 : Array Value} {EL : List (String × Nat)} {zc : Int32} {b x : Addr} {cb cx : Cell} {cs : List Int32} {n : Nat}
theorem c_CM3L (hw : ∀ d ∈ tables_1, d.before a0 Z = true) (hEL : EW Z a0 EL) (hA : AC Z cb .char (tab n fun j => .int (cs.getD j 0))) (hn : cs.length = n) (hcs : Chars cs) (hl : lat cs = true) (hcap : n ≤ kCap) :
    OCon l Z EL (⟨"java/lang/StringUTF16", "compress", "([CII)[B"⟩ : MethodName) jdk_52_method_16_code 6 (some (.array .byte)) [] ({ frames := 1, cells := 1, slots := kCap, locals := 18 } : Room) #[.ref b, .int 0, .int (Int32.ofNat n)] [] [(b, cb)]
      (fun v M N => M = [] ∧ ∃ t ct, v = some (.ref t) ∧ N = [(t, ct)] ∧ AC Z ct .byte (oBytes cs)) := by
  refine OCon.of_wp (L0 := [.val (.ref b), .val (.int 0), .val (.int (Int32.ofNat n)), .unset, .unset, .unset]) pn_CM3 hEL (fun m => by first | (simp [entryFrame, mkF, argsToLocals, Value.category]; done) | rfl) ?_
  intro p e s m below meth c hk
  have hn4 := hcs.2
  refine OWp.iload_n hk d_CM3_0 (pc' := 1) rfl rfl ?_
  refine OWp.newarray hk d_CM3_1 (pc' := 3) rfl (hw _ (List.mem_of_getElem? (i := 20) rfl)) (n_nn (by omega)) (cap := kCap) (by rw [n_nat (by omega)]; exact hcap) (by decide) (by decide) (by decide) (vs := tab n fun _ => .int 0) (by rw [n_nat (by omega)]; exact tab_rep _ _) ?_
  intro d cd hD
  refine OWp.astore_n hk d_CM3_3 (pc' := 4) rfl (kn := 3) rfl rfl rfl (by simp only [List.set_cons_zero, List.set_cons_succ]; rfl) ?_
  refine OWp.aload_n hk d_CM3_4 (pc' := 5) rfl rfl rfl ?_
  refine OWp.iload_n hk d_CM3_5 (pc' := 6) rfl rfl ?_
  refine OWp.aload_n hk d_CM3_6 (pc' := 7) rfl rfl rfl ?_
  refine OWp.iconst hk d_CM3_7 (pc' := 8) rfl (z := 0) rfl ?_
  refine OWp.iload_n hk d_CM3_8 (pc' := 9) rfl rfl ?_
  refine OWp.callS hk d_CM3_9 (pc' := 12) rfl (hw _ (List.mem_of_getElem? (i := 94) rfl)) (hw _ (List.mem_of_getElem? (i := 95) rfl)) (hw _ (List.mem_of_getElem? (i := 92) rfl)) (hw _ (List.mem_of_getElem? (i := 96) rfl)) (by decide) (c_CM5 (cs := cs) hw hEL hA hn hcs hD) rfl (by simp) rfl (lenOf pd_1 rfl) rfl (W := 0) rfl (by first | decide | (dsimp only; omega)) (by first | decide | (dsimp only; omega)) (by first | decide | (dsimp only; omega)) (by first | decide | (dsimp only; omega)) ?_
  rintro _ _ _ ⟨rfl, k, cd2, hk1, rfl, rfl, hfull, hpart⟩
  have hkn : k = n := by
    rcases Nat.lt_or_eq_of_le hk1 with q | q
    · exact absurd (hpart q) (lat_iff.mp hl _ (getD_mem (by omega)))
    · exact q
  subst hkn
  refine OWp.istore hk d_CM3_12 (pc' := 14) rfl rfl (by simp only [List.set_cons_zero, List.set_cons_succ]; rfl) ?_
  refine OWp.iload hk d_CM3_14 (pc' := 16) rfl rfl ?_
  refine OWp.iload_n hk d_CM3_16 (pc' := 17) rfl rfl ?_
  refine OWp.icmpYes hk d_CM3_17 (XT.ii_eq_t rfl) (by decide) (pc' := 57) rfl ?_
  refine OWp.aload_n hk d_CM3_57 (pc' := 58) rfl rfl rfl ?_
  refine OWp.freeze ?_
  exact OWp.retA hk rfl rfl rfl d_CM3_58 ⟨rfl, d, cd2, rfl, rfl, by rw [bytes_lat hl, hn]; exact (hfull rfl).2⟩ (List.Sublist.refl _) (fun _ h => h) (by decide) (by decide)
end StrCM3L
theorem d_S4_0 : decode jdk_42_method_149_code 0 = .ok (.aload_n 0, 1) := by decide +kernel
theorem d_S4_1 : decode jdk_42_method_149_code 1 = .ok (.invokespecial 1, 3) := by decide +kernel
theorem d_S4_4 : decode jdk_42_method_149_code 4 = .ok (.iload_n 3, 1) := by decide +kernel
theorem d_S4_5 : decode jdk_42_method_149_code 5 = .ok (.ifCond .ne 22, 3) := by decide +kernel
theorem d_S4_8 : decode jdk_42_method_149_code 8 = .ok (.aload_n 0, 1) := by decide +kernel
theorem d_S4_9 : decode jdk_42_method_149_code 9 = .ok (.ldc 7, 2) := by decide +kernel
theorem d_S4_11 : decode jdk_42_method_149_code 11 = .ok (.getfield 9, 3) := by decide +kernel
theorem d_S4_14 : decode jdk_42_method_149_code 14 = .ok (.putfield 9, 3) := by decide +kernel
theorem d_S4_17 : decode jdk_42_method_149_code 17 = .ok (.aload_n 0, 1) := by decide +kernel
theorem d_S4_18 : decode jdk_42_method_149_code 18 = .ok (.ldc 7, 2) := by decide +kernel
theorem d_S4_20 : decode jdk_42_method_149_code 20 = .ok (.getfield 15, 3) := by decide +kernel
theorem d_S4_23 : decode jdk_42_method_149_code 23 = .ok (.putfield 15, 3) := by decide +kernel
theorem d_S4_26 : decode jdk_42_method_149_code 26 = .ok (.return_, 1) := by decide +kernel
theorem d_S4_27 : decode jdk_42_method_149_code 27 = .ok (.getstatic 38, 3) := by decide +kernel
theorem d_S4_30 : decode jdk_42_method_149_code 30 = .ok (.ifCond .eq 28, 3) := by decide +kernel
theorem d_S4_33 : decode jdk_42_method_149_code 33 = .ok (.aload_n 1, 1) := by decide +kernel
theorem d_S4_34 : decode jdk_42_method_149_code 34 = .ok (.iload_n 2, 1) := by decide +kernel
theorem d_S4_35 : decode jdk_42_method_149_code 35 = .ok (.iload_n 3, 1) := by decide +kernel
theorem d_S4_36 : decode jdk_42_method_149_code 36 = .ok (.invokestatic 177, 3) := by decide +kernel
theorem d_S4_39 : decode jdk_42_method_149_code 39 = .ok (.astore 5, 2) := by decide +kernel
theorem d_S4_41 : decode jdk_42_method_149_code 41 = .ok (.aload_n 0, 1) := by decide +kernel
theorem d_S4_42 : decode jdk_42_method_149_code 42 = .ok (.aload 5, 2) := by decide +kernel
theorem d_S4_44 : decode jdk_42_method_149_code 44 = .ok (.iload_n 3, 1) := by decide +kernel
theorem d_S4_45 : decode jdk_42_method_149_code 45 = .ok (.invokestatic 47, 3) := by decide +kernel
theorem d_S4_48 : decode jdk_42_method_149_code 48 = .ok (.putfield 15, 3) := by decide +kernel
theorem d_S4_51 : decode jdk_42_method_149_code 51 = .ok (.aload_n 0, 1) := by decide +kernel
theorem d_S4_52 : decode jdk_42_method_149_code 52 = .ok (.aload 5, 2) := by decide +kernel
theorem d_S4_54 : decode jdk_42_method_149_code 54 = .ok (.putfield 9, 3) := by decide +kernel
theorem d_S4_57 : decode jdk_42_method_149_code 57 = .ok (.return_, 1) := by decide +kernel
theorem d_S4_58 : decode jdk_42_method_149_code 58 = .ok (.aload_n 0, 1) := by decide +kernel
theorem d_S4_59 : decode jdk_42_method_149_code 59 = .ok (.iconst 1, 1) := by decide +kernel
theorem d_S4_60 : decode jdk_42_method_149_code 60 = .ok (.putfield 15, 3) := by decide +kernel
theorem d_S4_63 : decode jdk_42_method_149_code 63 = .ok (.aload_n 0, 1) := by decide +kernel
theorem d_S4_64 : decode jdk_42_method_149_code 64 = .ok (.aload_n 1, 1) := by decide +kernel
theorem d_S4_65 : decode jdk_42_method_149_code 65 = .ok (.iload_n 2, 1) := by decide +kernel
theorem d_S4_66 : decode jdk_42_method_149_code 66 = .ok (.iload_n 3, 1) := by decide +kernel
theorem d_S4_67 : decode jdk_42_method_149_code 67 = .ok (.invokestatic 180, 3) := by decide +kernel
theorem d_S4_70 : decode jdk_42_method_149_code 70 = .ok (.putfield 9, 3) := by decide +kernel
theorem d_S4_73 : decode jdk_42_method_149_code 73 = .ok (.return_, 1) := by decide +kernel
theorem pn_S4 : plainFor (⟨"java/lang/String", "<init>", "([CIILjava/lang/Void;)V"⟩ : MethodName) = true := by first | exact plainFor_of_name (by first | (simp [plainName, overriddenIn]; done) | decide +kernel) | decide +kernel
section StrS4
variable {l : Launch} {Z : State} {a0 : Array Value} {EL : List (String × Nat)} {zc : Int32} {b x : Addr} {cb cx : Cell} {cs : List Int32} {n : Nat} {rm3 : Room}
theorem c_S4 (hw : ∀ d ∈ tables_1, d.before a0 Z = true) (hEL : EW Z a0 EL) (O2 : Sta Z Z.heap "java/lang/String" "COMPACT_STRINGS" "Z" (.int zc)) (hzc : ¬ zc = 0) (hE : EC Z cx "java/lang/String") {v0 v1 : Value} (hV : FC Z cx "java/lang/String" "value" "[B" v0) (hC : FC Z cx "java/lang/String" "coder" "B" v1)
    (hA : AC Z cb .char (tab n fun j => .int (cs.getD j 0))) (hn : cs.length = n) (hcs : Chars cs) (hmem : ("java/lang/String", 7) ∈ EL)
    (h3 : 0 < n → OCon l Z EL (⟨"java/lang/StringUTF16", "compress", "([CII)[B"⟩ : MethodName) jdk_52_method_16_code 6 (some (.array .byte)) [] rm3 #[.ref b, .int 0, .int (Int32.ofNat n)] [] [(b, cb)] (fun v M N => M = [] ∧ ∃ t ct, v = some (.ref t) ∧ N = [(t, ct)] ∧ AC Z ct .byte (oBytes cs))) :
    OCon l Z EL (⟨"java/lang/String", "<init>", "([CIILjava/lang/Void;)V"⟩ : MethodName) jdk_42_method_149_code 6 none [] ({ frames := rm3.frames + 1, cells := rm3.cells + 4, slots := rm3.slots + 8, locals := 17 + rm3.locals } : Room) #[.ref x, .ref b, .int 0, .int (Int32.ofNat n), .null] [(x, cx)] [(b, cb)]
      (fun v M N => v = none ∧ M = [] ∧ ∃ t cx' ct, N = [(x, cx'), (t, ct)] ∧ SC Z t cx' ct cs) := by
  refine OCon.of_wp (L0 := [.val (.ref x), .val (.ref b), .val (.int 0), .val (.int (Int32.ofNat n)), .val .null, .unset]) pn_S4 hEL (fun m => by first | (simp [entryFrame, mkF, argsToLocals, Value.category]; done) | rfl) ?_
  intro p e s m below meth c hk
  have hn4 := hcs.2
  refine OWp.aload_n hk d_S4_0 (pc' := 1) rfl rfl rfl ?_
  refine OWp.initO hk d_S4_1 (pc' := 4) rfl (hw _ (List.mem_of_getElem? (i := 16) rfl)) (hw _ (List.mem_of_getElem? (i := 17) rfl)) (hw _ (List.mem_of_getElem? (i := 18) rfl)) rfl (by first | decide | (dsimp only; omega)) (W := 0) rfl (by first | decide | (dsimp only; omega)) ?_
  refine OWp.iload_n hk d_S4_4 (pc' := 5) rfl rfl ?_
  rcases Nat.eq_zero_or_pos n with h0 | h0
  · refine OWp.ifNo hk d_S4_5 (XT.i0_ne_f (by rw [h0]; rfl)) (pc' := 8) rfl ?_
    refine OWp.aload_n hk d_S4_8 (pc' := 9) rfl rfl rfl ?_
    refine OWp.ldcS hk d_S4_9 (pc' := 11) rfl (hw _ (List.mem_of_getElem? (i := 19) rfl)) (str_atoms hw) hmem (vs := []) ⟨by decide, by decide⟩ (by decide) (n := 0) (by decide) (by decide) (by dsimp only; omega) (by dsimp only; omega) ?_
    intro a1 t1 ca1 ct1 hE1 hC1 hV1 hA1
    refine OWp.getfield hk d_S4_11 (pc' := 14) rfl (hw _ (List.mem_of_getElem? (i := 25) rfl)) (by simp) hV1 ?_
    refine OWp.putfield hk d_S4_14 (pc' := 17) rfl (hw _ (List.mem_of_getElem? (i := 25) rfl)) (i := 0) rfl hV hE (Or.inr ⟨(hw _ (List.mem_of_getElem? (i := 21) rfl)), rfl, rfl⟩) (hw _ (List.mem_of_getElem? (i := 7) rfl)) (ty := .array .byte) (by decide) rfl rfl ?_
    intro cx2 hE2 hV2 hK2
    have hC2 := hK2 hC (slot_ne (Or.inr (hw _ (List.mem_of_getElem? (i := 22) rfl))) (Or.inr (hw _ (List.mem_of_getElem? (i := 21) rfl))) (by decide) (t := .byte) (by decide) (t' := .array .byte) (by decide))
    simp only [List.nil_append, List.cons_append, List.set_cons_zero]
    refine OWp.aload_n hk d_S4_17 (pc' := 18) rfl rfl rfl ?_
    refine OWp.ldcS hk d_S4_18 (pc' := 20) rfl (hw _ (List.mem_of_getElem? (i := 19) rfl)) (str_atoms hw) hmem (vs := []) ⟨by decide, by decide⟩ (by decide) (n := 0) (by decide) (by decide) (by dsimp only; omega) (by dsimp only; omega) ?_
    intro a2 t2 ca2 ct2 hE3 hC3 hV3 hA3
    refine OWp.getfield hk d_S4_20 (pc' := 23) rfl (hw _ (List.mem_of_getElem? (i := 26) rfl)) (by simp) hC3 ?_
    refine OWp.putfield hk d_S4_23 (pc' := 26) rfl (hw _ (List.mem_of_getElem? (i := 26) rfl)) (i := 0) rfl hC2 hE2 (Or.inr ⟨(hw _ (List.mem_of_getElem? (i := 22) rfl)), rfl, rfl⟩) (hw _ (List.mem_of_getElem? (i := 7) rfl)) (ty := .byte) (by decide) rfl rfl ?_
    intro cx4 hE4 hC4 hK4
    have hV4 := hK4 hV2 (slot_ne (Or.inr (hw _ (List.mem_of_getElem? (i := 21) rfl))) (Or.inr (hw _ (List.mem_of_getElem? (i := 22) rfl))) (by decide) (t := .array .byte) (by decide) (t' := .byte) (by decide))
    simp only [List.nil_append, List.cons_append, List.set_cons_zero]
    refine OWp.freeze ?_
    have hcs0 : cs = [] := List.eq_nil_of_length_eq_zero (by omega)
    subst hcs0
    exact OWp.ret0 hk d_S4_26 (N' := [(x, cx4), (t1, ct1)]) ⟨rfl, rfl, t1, cx4, ct1, rfl, hE4, hV4, hC4, hA1, hcs⟩ (List.Sublist.refl _) (by simp) (by dsimp only; omega) (by dsimp only; omega)
  · refine OWp.ifYes hk d_S4_5 (XT.i0_ne_t (by rw [show (0 : Int32) = Int32.ofNat 0 from rfl, n_inj (by omega) (by omega)]; omega)) (by decide) (pc' := 27) rfl ?_
    refine OWp.getstatic hk d_S4_27 (pc' := 30) rfl (hw _ (List.mem_of_getElem? (i := 46) rfl)) O2 ?_
    refine OWp.ifNo hk d_S4_30 (XT.i0_eq_f hzc) (pc' := 33) rfl ?_
    refine OWp.aload_n hk d_S4_33 (pc' := 34) rfl rfl rfl ?_
    refine OWp.iload_n hk d_S4_34 (pc' := 35) rfl rfl ?_
    refine OWp.iload_n hk d_S4_35 (pc' := 36) rfl rfl ?_
    refine OWp.callS hk d_S4_36 (pc' := 39) rfl (hw _ (List.mem_of_getElem? (i := 90) rfl)) (hw _ (List.mem_of_getElem? (i := 91) rfl)) (hw _ (List.mem_of_getElem? (i := 92) rfl)) (hw _ (List.mem_of_getElem? (i := 93) rfl)) (by decide) (h3 h0) rfl (by simp) rfl (lenOf pd_2 rfl) rfl (W := 0) rfl (by first | decide | (dsimp only; omega)) (by first | decide | (dsimp only; omega)) (by first | decide | (dsimp only; omega)) (by first | decide | (dsimp only; omega)) ?_
    rintro _ _ _ ⟨rfl, t, ct, rfl, rfl, hT⟩
    refine OWp.astore hk d_S4_39 (pc' := 41) rfl rfl rfl (by simp only [List.set_cons_zero, List.set_cons_succ]; rfl) ?_
    refine OWp.aload_n hk d_S4_41 (pc' := 42) rfl rfl rfl ?_
    refine OWp.aload hk d_S4_42 (pc' := 44) rfl rfl rfl ?_
    refine OWp.iload_n hk d_S4_44 (pc' := 45) rfl rfl ?_
    refine OWp.callS hk d_S4_45 (pc' := 48) rfl (hw _ (List.mem_of_getElem? (i := 97) rfl)) (hw _ (List.mem_of_getElem? (i := 98) rfl)) (hw _ (List.mem_of_getElem? (i := 92) rfl)) (hw _ (List.mem_of_getElem? (i := 99) rfl)) (by decide) (c_CFL (n := n) hw hEL hT (z := cdOf cs) (cfl_val hn hcs.2 h0) (nar_cd cs)) rfl (by simp) rfl (lenOf pd_3 rfl) rfl (W := 1) rfl (by first | decide | (dsimp only; omega)) (by first | decide | (dsimp only; omega)) (by first | decide | (dsimp only; omega)) (by first | decide | (dsimp only; omega)) ?_
    rintro _ _ _ ⟨rfl, rfl, rfl⟩
    refine OWp.putfield hk d_S4_48 (pc' := 51) rfl (hw _ (List.mem_of_getElem? (i := 26) rfl)) (i := 0) rfl hC hE (Or.inr ⟨(hw _ (List.mem_of_getElem? (i := 22) rfl)), rfl, rfl⟩) (hw _ (List.mem_of_getElem? (i := 7) rfl)) (ty := .byte) (by decide) (congrArg Value.int (nar_cd cs)) (fits_cd cs) ?_
    intro cx2 hE2 hC2 hK2
    have hV2 := hK2 hV (slot_ne (Or.inr (hw _ (List.mem_of_getElem? (i := 21) rfl))) (Or.inr (hw _ (List.mem_of_getElem? (i := 22) rfl))) (by decide) (t := .array .byte) (by decide) (t' := .byte) (by decide))
    simp only [List.nil_append, List.cons_append, List.set_cons_zero]
    refine OWp.aload_n hk d_S4_51 (pc' := 52) rfl rfl rfl ?_
    refine OWp.aload hk d_S4_52 (pc' := 54) rfl rfl rfl ?_
    refine OWp.putfield hk d_S4_54 (pc' := 57) rfl (hw _ (List.mem_of_getElem? (i := 25) rfl)) (i := 0) rfl hV2 hE2 (Or.inr ⟨(hw _ (List.mem_of_getElem? (i := 21) rfl)), rfl, rfl⟩) (hw _ (List.mem_of_getElem? (i := 7) rfl)) (ty := .array .byte) (by decide) rfl rfl ?_
    intro cx3 hE3 hV3 hK3
    have hC3 := hK3 hC2 (slot_ne (Or.inr (hw _ (List.mem_of_getElem? (i := 22) rfl))) (Or.inr (hw _ (List.mem_of_getElem? (i := 21) rfl))) (by decide) (t := .byte) (by decide) (t' := .array .byte) (by decide))
    simp only [List.nil_append, List.cons_append, List.set_cons_zero]
    refine OWp.freeze ?_
    exact OWp.ret0 hk d_S4_57 ⟨rfl, rfl, t, cx3, ct, rfl, hE3, hV3, hC3, hT, hcs⟩ (List.Sublist.refl _) (fun _ h => h) (by dsimp only; omega) (by dsimp only; omega)
end StrS4
theorem d_S1_0 : decode jdk_42_method_3_code 0 = .ok (.aload_n 0, 1) := by decide +kernel
theorem d_S1_1 : decode jdk_42_method_3_code 1 = .ok (.aload_n 1, 1) := by decide +kernel
theorem d_S1_2 : decode jdk_42_method_3_code 2 = .ok (.iconst 0, 1) := by decide +kernel
theorem d_S1_3 : decode jdk_42_method_3_code 3 = .ok (.aload_n 1, 1) := by decide +kernel
theorem d_S1_4 : decode jdk_42_method_3_code 4 = .ok (.arraylength, 1) := by decide +kernel
theorem d_S1_5 : decode jdk_42_method_3_code 5 = .ok (.aconst_null, 1) := by decide +kernel
theorem d_S1_6 : decode jdk_42_method_3_code 6 = .ok (.invokespecial 27, 3) := by decide +kernel
theorem d_S1_9 : decode jdk_42_method_3_code 9 = .ok (.return_, 1) := by decide +kernel
theorem pn_S1 : plainFor (⟨"java/lang/String", "<init>", "([C)V"⟩ : MethodName) = true := by first | exact plainFor_of_name (by first | (simp [plainName, overriddenIn]; done) | decide +kernel) | decide +kernel
section StrS1
variable {l : Launch} {Z : State} {a0 : Array Value} {EL : List (String × Nat)} {b x : Addr} {cb cx : Cell} {n : Nat}
/-- the constructor of one argument hands on -/
theorem c_S1 (hw : ∀ d ∈ tables_1, d.before a0 Z = true) (hEL : EW Z a0 EL) {rm : Room} {vs : List Value} {Q : Option Value → Mem → Mem → Prop} (hA : AC Z cb .char vs) (hn : vs.length = n) (hQ : ∀ v M N, Q v M N → v = none ∧ M = [])
    (h4 : OCon l Z EL (⟨"java/lang/String", "<init>", "([CIILjava/lang/Void;)V"⟩ : MethodName) jdk_42_method_149_code 6 none [] rm #[.ref x, .ref b, .int 0, .int (Int32.ofNat n), .null] [(x, cx)] [(b, cb)] Q) :
    OCon l Z EL (⟨"java/lang/String", "<init>", "([C)V"⟩ : MethodName) jdk_42_method_3_code 2 none [] ({ frames := rm.frames + 1, cells := rm.cells, slots := rm.slots, locals := 17 + rm.locals } : Room) #[.ref x, .ref b] [(x, cx)] [(b, cb)] Q := by
  refine OCon.of_wp (L0 := [.val (.ref x), .val (.ref b)]) pn_S1 hEL (fun m => by first | (simp [entryFrame, mkF, argsToLocals, Value.category]; done) | rfl) ?_
  intro p e s m below meth c hk
  refine OWp.aload_n hk d_S1_0 (pc' := 1) rfl rfl rfl ?_
  refine OWp.aload_n hk d_S1_1 (pc' := 2) rfl rfl rfl ?_
  refine OWp.iconst hk d_S1_2 (pc' := 3) rfl (z := 0) rfl ?_
  refine OWp.aload_n hk d_S1_3 (pc' := 4) rfl rfl rfl ?_
  refine OWp.arraylength hk d_S1_4 (pc' := 5) rfl (by simp) hA (by rw [hn]) ?_
  refine OWp.aconst_null hk d_S1_5 (pc' := 6) rfl ?_
  refine OWp.callI hk d_S1_6 (pc' := 9) rfl rfl (hw _ (List.mem_of_getElem? (i := 12) rfl)) (hw _ (List.mem_of_getElem? (i := 13) rfl)) (hw _ (List.mem_of_getElem? (i := 8) rfl)) (hw _ (List.mem_of_getElem? (i := 15) rfl)) (by decide) h4 rfl (by simp) rfl (lenOf pd_4 rfl) rfl (W := 0) rfl (by first | decide | (dsimp only; omega)) (by first | decide | (dsimp only; omega)) (by first | decide | (dsimp only; omega)) (by first | decide | (dsimp only; omega)) ?_
  intro v M N q
  obtain ⟨rfl, rfl⟩ := hQ v M N q
  exact OWp.ret0 hk d_S1_9 q (List.Sublist.refl _) (fun _ h => by simpa using h) (by dsimp only; omega) (by dsimp only; omega)
end StrS1
section StrNewLE
variable {l : Launch} {Z : State} {a0 : Array Value} {EL : List (String × Nat)} {zc : Int32} {b x : Addr} {cb cx : Cell} {cs : List Int32}
set_option maxRecDepth 65536 in
theorem c_NEW (hw : ∀ d ∈ tables_1, d.before a0 Z = true) (hEL : EW Z a0 EL) (O2 : Sta Z Z.heap "java/lang/String" "COMPACT_STRINGS" "Z" (.int zc)) (hzc : ¬ zc = 0)
    (hmem : ("java/lang/String", 7) ∈ EL) (hE : EC Z cx "java/lang/String") {v0 v1 : Value} (hV : FC Z cx "java/lang/String" "value" "[B" v0) (hC : FC Z cx "java/lang/String" "coder" "B" v1) (hA : AC Z cb .char (cs.map Value.int)) (hcs : Chars cs) (hl : lat cs = true) (hcap : cs.length ≤ kCap) :
    OCon l Z EL (⟨"java/lang/String", "<init>", "([C)V"⟩ : MethodName) jdk_42_method_3_code 2 none [] ({ frames := 3, cells := 5, slots := kCap + 8, locals := 52 } : Room) #[.ref x, .ref b] [(x, cx)] [(b, cb)]
      (fun v M N => v = none ∧ M = [] ∧ ∃ t cx' ct, N = [(x, cx'), (t, ct)] ∧ SC Z t cx' ct cs) := by
  have hA2 : AC Z cb .char (tab cs.length fun j => .int (cs.getD j 0)) := by rw [← map_tab]; exact hA
  exact c_S1 (rm := ({ frames := 2, cells := 5, slots := kCap + 8, locals := 35 } : Room)) hw hEL hA2 (tab_len _ _) (fun _ _ _ q => ⟨q.1, q.2.1⟩) (c_S4 (rm3 := ({ frames := 1, cells := 1, slots := kCap, locals := 18 } : Room)) (cs := cs) hw hEL O2 hzc hE hV hC hA2 rfl hcs hmem (fun _ => c_CM3L (cs := cs) hw hEL hA2 rfl hcs hl hcap))
end StrNewLE
theorem d_ISL_0 : decode jdk_42_method_154_code 0 = .ok (.getstatic 38, 3) := by decide +kernel
theorem d_ISL_3 : decode jdk_42_method_154_code 3 = .ok (.ifCond .eq 14, 3) := by decide +kernel
theorem d_ISL_6 : decode jdk_42_method_154_code 6 = .ok (.aload_n 0, 1) := by decide +kernel
theorem d_ISL_7 : decode jdk_42_method_154_code 7 = .ok (.getfield 15, 3) := by decide +kernel
theorem d_ISL_10 : decode jdk_42_method_154_code 10 = .ok (.ifCond .ne 7, 3) := by decide +kernel
theorem d_ISL_13 : decode jdk_42_method_154_code 13 = .ok (.iconst 1, 1) := by decide +kernel
theorem d_ISL_14 : decode jdk_42_method_154_code 14 = .ok (.goto 4, 3) := by decide +kernel
theorem d_ISL_17 : decode jdk_42_method_154_code 17 = .ok (.iconst 0, 1) := by decide +kernel
theorem d_ISL_18 : decode jdk_42_method_154_code 18 = .ok (.ireturn, 1) := by decide +kernel
theorem pn_ISL : plainFor (⟨"java/lang/String", "isLatin1", "()Z"⟩ : MethodName) = true := by first | exact plainFor_of_name (by first | (simp [plainName, overriddenIn]; done) | decide +kernel) | decide +kernel
section StrISL
variable {l : Launch} {Z : State} {a0 : Array Value} {EL : List (String × Nat)} {zc : Int32} {x t : Addr} {cx ct : Cell} {cs : List Int32}
theorem c_ISL (hw : ∀ d ∈ tables_1, d.before a0 Z = true) (hEL : EW Z a0 EL) (O2 : Sta Z Z.heap "java/lang/String" "COMPACT_STRINGS" "Z" (.int zc)) (hzc : ¬ zc = 0) (hs : SC Z t cx ct cs) :
    OCon l Z EL (⟨"java/lang/String", "isLatin1", "()Z"⟩ : MethodName) jdk_42_method_154_code 1 (some .boolean) [] ({ frames := 0, cells := 0, slots := 0, locals := 0 } : Room) #[.ref x] [] [(x, cx), (t, ct)] (fun v M N => v = some (.int (if lat cs then 1 else 0)) ∧ M = [] ∧ N = []) := by
  refine OCon.of_wp (L0 := [.val (.ref x)]) pn_ISL hEL (fun m => by first | (simp [entryFrame, mkF, argsToLocals, Value.category]; done) | rfl) ?_
  intro p e s m below meth c hk
  refine OWp.getstatic hk d_ISL_0 (pc' := 3) rfl (hw _ (List.mem_of_getElem? (i := 46) rfl)) O2 ?_
  refine OWp.ifNo hk d_ISL_3 (XT.i0_eq_f hzc) (pc' := 6) rfl ?_
  refine OWp.aload_n hk d_ISL_6 (pc' := 7) rfl rfl rfl ?_
  refine OWp.getfield hk d_ISL_7 (pc' := 10) rfl (hw _ (List.mem_of_getElem? (i := 26) rfl)) (by simp) hs.2.2.1 ?_
  rcases cd_cases cs with ⟨h1, h2⟩ | ⟨h1, h2⟩
  · refine OWp.ifNo hk d_ISL_10 (XT.i0_ne_f h2) (pc' := 13) rfl ?_
    refine OWp.iconst hk d_ISL_13 (pc' := 14) rfl (z := 1) rfl ?_
    refine OWp.goto hk d_ISL_14 (by decide) (pc' := 18) rfl ?_
    exact OWp.retN hk (Or.inl rfl) d_ISL_18 ⟨by rw [h1]; rfl, rfl, rfl⟩ (List.Sublist.refl _) (fun _ h => h) (by decide) (by decide)
  · refine OWp.ifYes hk d_ISL_10 (XT.i0_ne_t (by rw [h2]; decide)) (by decide) (pc' := 17) rfl ?_
    refine OWp.iconst hk d_ISL_17 (pc' := 18) rfl (z := 0) rfl ?_
    exact OWp.retN hk (Or.inl rfl) d_ISL_18 ⟨by rw [h1]; rfl, rfl, rfl⟩ (List.Sublist.refl _) (fun _ h => h) (by decide) (by decide)
end StrISL
theorem d_PCI_0 : decode jdk_41_method_11_code 0 = .ok (.iload_n 0, 1) := by decide +kernel
theorem d_PCI_1 : decode jdk_41_method_11_code 1 = .ok (.ifCond .lt 8, 3) := by decide +kernel
theorem d_PCI_4 : decode jdk_41_method_11_code 4 = .ok (.iload_n 0, 1) := by decide +kernel
theorem d_PCI_5 : decode jdk_41_method_11_code 5 = .ok (.iload_n 1, 1) := by decide +kernel
theorem d_PCI_6 : decode jdk_41_method_11_code 6 = .ok (.if_icmp .lt 10, 3) := by decide +kernel
theorem d_PCI_9 : decode jdk_41_method_11_code 9 = .ok (.aload_n 2, 1) := by decide +kernel
theorem d_PCI_10 : decode jdk_41_method_11_code 10 = .ok (.iload_n 0, 1) := by decide +kernel
theorem d_PCI_11 : decode jdk_41_method_11_code 11 = .ok (.iload_n 1, 1) := by decide +kernel
theorem d_PCI_12 : decode jdk_41_method_11_code 12 = .ok (.invokestatic 95, 3) := by decide +kernel
theorem d_PCI_15 : decode jdk_41_method_11_code 15 = .ok (.athrow, 1) := by decide +kernel
theorem d_PCI_16 : decode jdk_41_method_11_code 16 = .ok (.iload_n 0, 1) := by decide +kernel
theorem d_PCI_17 : decode jdk_41_method_11_code 17 = .ok (.ireturn, 1) := by decide +kernel
theorem pn_PCI : plainFor (⟨"jdk/internal/util/Preconditions", "checkIndex", "(IILjava/util/function/BiFunction;)I"⟩ : MethodName) = true := by first | exact plainFor_of_name (by first | (simp [plainName, overriddenIn]; done) | decide +kernel) | decide +kernel
theorem d_CKI_0 : decode jdk_42_method_155_code 0 = .ok (.iload_n 0, 1) := by decide +kernel
theorem d_CKI_1 : decode jdk_42_method_155_code 1 = .ok (.iload_n 1, 1) := by decide +kernel
theorem d_CKI_2 : decode jdk_42_method_155_code 2 = .ok (.getstatic 1053, 3) := by decide +kernel
theorem d_CKI_5 : decode jdk_42_method_155_code 5 = .ok (.invokestatic 1059, 3) := by decide +kernel
theorem d_CKI_8 : decode jdk_42_method_155_code 8 = .ok (.pop, 1) := by decide +kernel
theorem d_CKI_9 : decode jdk_42_method_155_code 9 = .ok (.return_, 1) := by decide +kernel
theorem pn_CKI : plainFor (⟨"java/lang/String", "checkIndex", "(II)V"⟩ : MethodName) = true := by first | exact plainFor_of_name (by first | (simp [plainName, overriddenIn]; done) | decide +kernel) | decide +kernel
theorem d_LCA_0 : decode jdk_43_method_2_code 0 = .ok (.iload_n 1, 1) := by decide +kernel
theorem d_LCA_1 : decode jdk_43_method_2_code 1 = .ok (.aload_n 0, 1) := by decide +kernel
theorem d_LCA_2 : decode jdk_43_method_2_code 2 = .ok (.arraylength, 1) := by decide +kernel
theorem d_LCA_3 : decode jdk_43_method_2_code 3 = .ok (.invokestatic 9, 3) := by decide +kernel
theorem d_LCA_6 : decode jdk_43_method_2_code 6 = .ok (.aload_n 0, 1) := by decide +kernel
theorem d_LCA_7 : decode jdk_43_method_2_code 7 = .ok (.iload_n 1, 1) := by decide +kernel
theorem d_LCA_8 : decode jdk_43_method_2_code 8 = .ok (.baload, 1) := by decide +kernel
theorem d_LCA_9 : decode jdk_43_method_2_code 9 = .ok (.sipush 255, 3) := by decide +kernel
theorem d_LCA_12 : decode jdk_43_method_2_code 12 = .ok (.iand, 1) := by decide +kernel
theorem d_LCA_13 : decode jdk_43_method_2_code 13 = .ok (.i2c, 1) := by decide +kernel
theorem d_LCA_14 : decode jdk_43_method_2_code 14 = .ok (.ireturn, 1) := by decide +kernel
theorem pn_LCA : plainFor (⟨"java/lang/StringLatin1", "charAt", "([BI)C"⟩ : MethodName) = true := by first | exact plainFor_of_name (by first | (simp [plainName, overriddenIn]; done) | decide +kernel) | decide +kernel
theorem d_CHA_0 : decode jdk_42_method_56_code 0 = .ok (.aload_n 0, 1) := by decide +kernel
theorem d_CHA_1 : decode jdk_42_method_56_code 1 = .ok (.invokevirtual 492, 3) := by decide +kernel
theorem d_CHA_4 : decode jdk_42_method_56_code 4 = .ok (.ifCond .eq 12, 3) := by decide +kernel
theorem d_CHA_7 : decode jdk_42_method_56_code 7 = .ok (.aload_n 0, 1) := by decide +kernel
theorem d_CHA_8 : decode jdk_42_method_56_code 8 = .ok (.getfield 9, 3) := by decide +kernel
theorem d_CHA_11 : decode jdk_42_method_56_code 11 = .ok (.iload_n 1, 1) := by decide +kernel
theorem d_CHA_12 : decode jdk_42_method_56_code 12 = .ok (.invokestatic 495, 3) := by decide +kernel
theorem d_CHA_15 : decode jdk_42_method_56_code 15 = .ok (.ireturn, 1) := by decide +kernel
theorem d_CHA_16 : decode jdk_42_method_56_code 16 = .ok (.aload_n 0, 1) := by decide +kernel
theorem d_CHA_17 : decode jdk_42_method_56_code 17 = .ok (.getfield 9, 3) := by decide +kernel
theorem d_CHA_20 : decode jdk_42_method_56_code 20 = .ok (.iload_n 1, 1) := by decide +kernel
theorem d_CHA_21 : decode jdk_42_method_56_code 21 = .ok (.invokestatic 498, 3) := by decide +kernel
theorem d_CHA_24 : decode jdk_42_method_56_code 24 = .ok (.ireturn, 1) := by decide +kernel
theorem pn_CHA : plainFor (⟨"java/lang/String", "charAt", "(I)C"⟩ : MethodName) = true := by first | exact plainFor_of_name (by first | (simp [plainName, overriddenIn]; done) | decide +kernel) | decide +kernel
section StrCh
variable {l : Launch} {Z : State} {a0 : Array Value} {EL : List (String × Nat)} {zc : Int32} {x t : Addr} {cx ct : Cell} {cs : List Int32} {fm : Value} {i n : Nat}
theorem c_PCI (hw : ∀ d ∈ tables_1, d.before a0 Z = true) (hEL : EW Z a0 EL) (hf : fm.isRef = true) (hi : i < n) (hn : n < 2147483648) :
    OCon l Z EL (⟨"jdk/internal/util/Preconditions", "checkIndex", "(IILjava/util/function/BiFunction;)I"⟩ : MethodName) jdk_41_method_11_code 3 (some .int) [] ({ frames := 0, cells := 0, slots := 0, locals := 0 } : Room) #[.int (Int32.ofNat i), .int (Int32.ofNat n), fm] [] [] (fun v M N => v = some (.int (Int32.ofNat i)) ∧ M = [] ∧ N = []) := by
  refine OCon.of_wp (L0 := [.val (.int (Int32.ofNat i)), .val (.int (Int32.ofNat n)), .val fm]) pn_PCI hEL (fun m => by rcases ref_cases hf with rfl | ⟨_, rfl⟩ <;> first | (simp [entryFrame, mkF, argsToLocals, Value.category]; done) | rfl) ?_
  intro p e s m below meth c hk
  refine OWp.iload_n hk d_PCI_0 (pc' := 1) rfl rfl ?_
  refine OWp.ifNo hk d_PCI_1 (XT.i0_lt_f (n_nn (by omega))) (pc' := 4) rfl ?_
  refine OWp.iload_n hk d_PCI_4 (pc' := 5) rfl rfl ?_
  refine OWp.iload_n hk d_PCI_5 (pc' := 6) rfl rfl ?_
  refine OWp.icmpYes hk d_PCI_6 (XT.ii_lt_t ((n_lt (by omega) hn).mpr hi)) (by decide) (pc' := 16) rfl ?_
  refine OWp.iload_n hk d_PCI_16 (pc' := 17) rfl rfl ?_
  exact OWp.retI hk d_PCI_17 ⟨rfl, rfl, rfl⟩ (List.Sublist.refl _) (fun _ h => h) (by decide) (by decide)
theorem c_CKI (hw : ∀ d ∈ tables_1, d.before a0 Z = true) (hEL : EW Z a0 EL) (O4 : Sta Z Z.heap "jdk/internal/util/Preconditions" "SIOOBE_FORMATTER" "Ljava/util/function/BiFunction;" fm) (hf : fm.isRef = true) (hi : i < n) (hn : n < 2147483648) :
    OCon l Z EL (⟨"java/lang/String", "checkIndex", "(II)V"⟩ : MethodName) jdk_42_method_155_code 2 none [] ({ frames := 1, cells := 0, slots := 0, locals := 14 } : Room) #[.int (Int32.ofNat i), .int (Int32.ofNat n)] [] [] (fun v M N => v = none ∧ M = [] ∧ N = []) := by
  refine OCon.of_wp (L0 := [.val (.int (Int32.ofNat i)), .val (.int (Int32.ofNat n))]) pn_CKI hEL (fun m => by first | (simp [entryFrame, mkF, argsToLocals, Value.category]; done) | rfl) ?_
  intro p e s m below meth c hk
  refine OWp.iload_n hk d_CKI_0 (pc' := 1) rfl rfl ?_
  refine OWp.iload_n hk d_CKI_1 (pc' := 2) rfl rfl ?_
  refine OWp.getstatic hk d_CKI_2 (pc' := 5) rfl (hw _ (List.mem_of_getElem? (i := 81) rfl)) O4 ?_
  refine OWp.callS hk d_CKI_5 (pc' := 8) rfl (hw _ (List.mem_of_getElem? (i := 115) rfl)) (hw _ (List.mem_of_getElem? (i := 116) rfl)) (hw _ (List.mem_of_getElem? (i := 82) rfl)) (hw _ (List.mem_of_getElem? (i := 117) rfl)) (by decide) (c_PCI hw hEL hf hi hn) rfl (by simp) rfl (lenOf pd_5 rfl) rfl (W := 0) rfl (by first | decide | (dsimp only; omega)) (by first | decide | (dsimp only; omega)) (by first | decide | (dsimp only; omega)) (by first | decide | (dsimp only; omega)) ?_
  rintro _ _ _ ⟨rfl, rfl, rfl⟩
  refine OWp.pop hk d_CKI_8 (pc' := 9) rfl rfl ?_
  exact OWp.ret0 hk d_CKI_9 ⟨rfl, rfl, rfl⟩ (List.Sublist.refl _) (fun _ h => h) (by decide) (by decide)
theorem c_LCA (hw : ∀ d ∈ tables_1, d.before a0 Z = true) (hEL : EW Z a0 EL) (O4 : Sta Z Z.heap "jdk/internal/util/Preconditions" "SIOOBE_FORMATTER" "Ljava/util/function/BiFunction;" fm) (hf : fm.isRef = true) (hs : SC Z t cx ct cs) (hl : lat cs = true) (hi : i < cs.length) :
    OCon l Z EL (⟨"java/lang/StringLatin1", "charAt", "([BI)C"⟩ : MethodName) jdk_43_method_2_code 2 (some .char) [] ({ frames := 2, cells := 0, slots := 0, locals := 27 } : Room) #[.ref t, .int (Int32.ofNat i)] [] [(x, cx), (t, ct)] (fun v M N => v = some (.int (cs.getD i 0)) ∧ M = [] ∧ N = []) := by
  refine OCon.of_wp (L0 := [.val (.ref t), .val (.int (Int32.ofNat i))]) pn_LCA hEL (fun m => by first | (simp [entryFrame, mkF, argsToLocals, Value.category]; done) | rfl) ?_
  intro p e s m below meth c hk
  have hA := hs.2.2.2.1
  have hc4 := hs.2.2.2.2.2
  rw [bytes_lat hl] at hA
  have hc := hs.2.2.2.2.1 _ (getD_mem hi)
  have h255 := lat_iff.mp hl _ (getD_mem hi)
  refine OWp.iload_n hk d_LCA_0 (pc' := 1) rfl rfl ?_
  refine OWp.aload_n hk d_LCA_1 (pc' := 2) rfl rfl rfl ?_
  refine OWp.arraylength hk d_LCA_2 (pc' := 3) rfl (by simp) hA (z := Int32.ofNat cs.length) (by rw [tab_len]) ?_
  refine OWp.callS hk d_LCA_3 (pc' := 6) rfl (hw _ (List.mem_of_getElem? (i := 112) rfl)) (hw _ (List.mem_of_getElem? (i := 113) rfl)) (hw _ (List.mem_of_getElem? (i := 8) rfl)) (hw _ (List.mem_of_getElem? (i := 114) rfl)) (by decide) (c_CKI hw hEL O4 hf hi (by omega)) rfl (by simp) rfl (lenOf pd_6 rfl) rfl (W := 0) rfl (by first | decide | (dsimp only; omega)) (by first | decide | (dsimp only; omega)) (by first | decide | (dsimp only; omega)) (by first | decide | (dsimp only; omega)) ?_
  rintro _ _ _ ⟨rfl, rfl, rfl⟩
  refine OWp.aload_n hk d_LCA_6 (pc' := 7) rfl rfl rfl ?_
  refine OWp.iload_n hk d_LCA_7 (pc' := 8) rfl rfl ?_
  refine OWp.baload hk d_LCA_8 (pc' := 9) rfl (by simp) hA (n_nn (by omega)) (by rw [n_nat (by omega)]; exact tab_get hi) ?_
  refine OWp.sipush hk d_LCA_9 (pc' := 12) rfl (z := 255) rfl ?_
  refine OWp.iand hk d_LCA_12 (pc' := 13) rfl ?_
  refine OWp.i2c hk d_LCA_13 (pc' := 14) rfl ?_
  exact OWp.retN hk (Or.inr (Or.inr (Or.inl rfl))) d_LCA_14 ⟨by rw [lo8_back hc.1 h255, nar_char_id hc.1 hc.2], rfl, rfl⟩ (List.Sublist.refl _) (fun _ h => h) (by decide) (by decide)
theorem c_CHA (hw : ∀ d ∈ tables_1, d.before a0 Z = true) (hEL : EW Z a0 EL) (O2 : Sta Z Z.heap "java/lang/String" "COMPACT_STRINGS" "Z" (.int zc)) (hzc : ¬ zc = 0) (O4 : Sta Z Z.heap "jdk/internal/util/Preconditions" "SIOOBE_FORMATTER" "Ljava/util/function/BiFunction;" fm) (hf : fm.isRef = true) (hs : SC Z t cx ct cs) (hl : lat cs = true) (hi : i < cs.length) :
    OCon l Z EL (⟨"java/lang/String", "charAt", "(I)C"⟩ : MethodName) jdk_42_method_56_code 2 (some .char) [] ({ frames := 3, cells := 0, slots := 0, locals := 40 } : Room) #[.ref x, .int (Int32.ofNat i)] [] [(x, cx), (t, ct)] (fun v M N => v = some (.int (cs.getD i 0)) ∧ M = [] ∧ N = []) := by
  refine OCon.of_wp (L0 := [.val (.ref x), .val (.int (Int32.ofNat i))]) pn_CHA hEL (fun m => by first | (simp [entryFrame, mkF, argsToLocals, Value.category]; done) | rfl) ?_
  intro p e s m below meth c hk
  have hc := hs.2.2.2.2.1 _ (getD_mem hi)
  refine OWp.aload_n hk d_CHA_0 (pc' := 1) rfl rfl rfl ?_
  refine OWp.callV hk d_CHA_1 (pc' := 4) rfl (hw _ (List.mem_of_getElem? (i := 52) rfl)) (hw _ (List.mem_of_getElem? (i := 53) rfl)) (nfs (hw _ (List.mem_of_getElem? (i := 55) rfl))) (hw _ (List.mem_of_getElem? (i := 55) rfl)) (hw _ (List.mem_of_getElem? (i := 54) rfl)) (hw _ (List.mem_of_getElem? (i := 8) rfl)) (hw _ (List.mem_of_getElem? (i := 56) rfl)) (by decide) (by simp) hs.1 (c_ISL hw hEL O2 hzc hs) rfl (by simp) rfl (lenOf pd_7 rfl) rfl (W := 0) rfl (by first | decide | (dsimp only; omega)) (by first | decide | (dsimp only; omega)) (by first | decide | (dsimp only; omega)) (by first | decide | (dsimp only; omega)) ?_
  rintro _ _ _ ⟨rfl, rfl, rfl⟩
  refine OWp.ifNo hk d_CHA_4 (XT.i0_eq_f (by rw [hl]; decide)) (pc' := 7) rfl ?_
  refine OWp.aload_n hk d_CHA_7 (pc' := 8) rfl rfl rfl ?_
  refine OWp.getfield hk d_CHA_8 (pc' := 11) rfl (hw _ (List.mem_of_getElem? (i := 25) rfl)) (by simp) hs.2.1 ?_
  refine OWp.iload_n hk d_CHA_11 (pc' := 12) rfl rfl ?_
  refine OWp.callS hk d_CHA_12 (pc' := 15) rfl (hw _ (List.mem_of_getElem? (i := 109) rfl)) (hw _ (List.mem_of_getElem? (i := 110) rfl)) (hw _ (List.mem_of_getElem? (i := 59) rfl)) (hw _ (List.mem_of_getElem? (i := 111) rfl)) (by decide) (c_LCA (x := x) hw hEL O4 hf hs hl hi) rfl (by simp) rfl (lenOf pd_8 rfl) rfl (W := 0) rfl (by first | decide | (dsimp only; omega)) (by first | decide | (dsimp only; omega)) (by first | decide | (dsimp only; omega)) (by first | decide | (dsimp only; omega)) ?_
  rintro _ _ _ ⟨rfl, rfl, rfl⟩
  exact OWp.retN hk (Or.inr (Or.inr (Or.inl rfl))) d_CHA_15 ⟨by rw [nar_char_id hc.1 hc.2], rfl, rfl⟩ (List.Sublist.refl _) (fun _ h => h) (by decide) (by decide)
end StrCh
theorem d_CBE_0 : decode jdk_42_method_158_code 0 = .ok (.iload_n 0, 1) := by decide +kernel
theorem d_CBE_1 : decode jdk_42_method_158_code 1 = .ok (.iload_n 1, 1) := by decide +kernel
theorem d_CBE_2 : decode jdk_42_method_158_code 2 = .ok (.iload_n 2, 1) := by decide +kernel
theorem d_CBE_3 : decode jdk_42_method_158_code 3 = .ok (.getstatic 1053, 3) := by decide +kernel
theorem d_CBE_6 : decode jdk_42_method_158_code 6 = .ok (.invokestatic 1062, 3) := by decide +kernel
theorem d_CBE_9 : decode jdk_42_method_158_code 9 = .ok (.pop, 1) := by decide +kernel
theorem d_CBE_10 : decode jdk_42_method_158_code 10 = .ok (.return_, 1) := by decide +kernel
theorem pn_CBE : plainFor (⟨"java/lang/String", "checkBoundsBeginEnd", "(III)V"⟩ : MethodName) = true := by first | exact plainFor_of_name (by first | (simp [plainName, overriddenIn]; done) | decide +kernel) | decide +kernel
theorem d_PFT_0 : decode jdk_41_method_12_code 0 = .ok (.iload_n 0, 1) := by decide +kernel
theorem d_PFT_1 : decode jdk_41_method_12_code 1 = .ok (.ifCond .lt 13, 3) := by decide +kernel
theorem d_PFT_4 : decode jdk_41_method_12_code 4 = .ok (.iload_n 0, 1) := by decide +kernel
theorem d_PFT_5 : decode jdk_41_method_12_code 5 = .ok (.iload_n 1, 1) := by decide +kernel
theorem d_PFT_6 : decode jdk_41_method_12_code 6 = .ok (.if_icmp .gt 8, 3) := by decide +kernel
theorem d_PFT_9 : decode jdk_41_method_12_code 9 = .ok (.iload_n 1, 1) := by decide +kernel
theorem d_PFT_10 : decode jdk_41_method_12_code 10 = .ok (.iload_n 2, 1) := by decide +kernel
theorem d_PFT_11 : decode jdk_41_method_12_code 11 = .ok (.if_icmp .le 11, 3) := by decide +kernel
theorem d_PFT_14 : decode jdk_41_method_12_code 14 = .ok (.aload_n 3, 1) := by decide +kernel
theorem d_PFT_15 : decode jdk_41_method_12_code 15 = .ok (.iload_n 0, 1) := by decide +kernel
theorem d_PFT_16 : decode jdk_41_method_12_code 16 = .ok (.iload_n 1, 1) := by decide +kernel
theorem d_PFT_17 : decode jdk_41_method_12_code 17 = .ok (.iload_n 2, 1) := by decide +kernel
theorem d_PFT_18 : decode jdk_41_method_12_code 18 = .ok (.invokestatic 99, 3) := by decide +kernel
theorem d_PFT_21 : decode jdk_41_method_12_code 21 = .ok (.athrow, 1) := by decide +kernel
theorem d_PFT_22 : decode jdk_41_method_12_code 22 = .ok (.iload_n 0, 1) := by decide +kernel
theorem d_PFT_23 : decode jdk_41_method_12_code 23 = .ok (.ireturn, 1) := by decide +kernel
theorem pn_PFT : plainFor (⟨"jdk/internal/util/Preconditions", "checkFromToIndex", "(IIILjava/util/function/BiFunction;)I"⟩ : MethodName) = true := by first | exact plainFor_of_name (by first | (simp [plainName, overriddenIn]; done) | decide +kernel) | decide +kernel
section StrCBE
variable {l : Launch} {Z : State} {a0 : Array Value} {EL : List (String × Nat)} {a b n : Nat} {fm : Value}
theorem c_PFT (hw : ∀ d ∈ tables_1, d.before a0 Z = true) (hEL : EW Z a0 EL) (hf : fm.isRef = true) (hab : a ≤ b) (hbn : b ≤ n) (hn : n < 2147483648) :
    OCon l Z EL (⟨"jdk/internal/util/Preconditions", "checkFromToIndex", "(IIILjava/util/function/BiFunction;)I"⟩ : MethodName) jdk_41_method_12_code 4 (some .int) [] ({ frames := 0, cells := 0, slots := 0, locals := 0 } : Room) #[.int (Int32.ofNat a), .int (Int32.ofNat b), .int (Int32.ofNat n), fm] [] [] (fun v M N => v = some (.int (Int32.ofNat a)) ∧ M = [] ∧ N = []) := by
  refine OCon.of_wp (L0 := [.val (.int (Int32.ofNat a)), .val (.int (Int32.ofNat b)), .val (.int (Int32.ofNat n)), .val fm]) pn_PFT hEL (fun m => by rcases ref_cases hf with rfl | ⟨_, rfl⟩ <;> first | (simp [entryFrame, mkF, argsToLocals, Value.category]; done) | rfl) ?_
  intro p e s m below meth c hk
  refine OWp.iload_n hk d_PFT_0 (pc' := 1) rfl rfl ?_
  refine OWp.ifNo hk d_PFT_1 (XT.i0_lt_f (n_nn (by omega))) (pc' := 4) rfl ?_
  refine OWp.iload_n hk d_PFT_4 (pc' := 5) rfl rfl ?_
  refine OWp.iload_n hk d_PFT_5 (pc' := 6) rfl rfl ?_
  refine OWp.icmpNo hk d_PFT_6 (XT.ii_gt_f (by rw [n_lt (by omega) (by omega)]; omega)) (pc' := 9) rfl ?_
  refine OWp.iload_n hk d_PFT_9 (pc' := 10) rfl rfl ?_
  refine OWp.iload_n hk d_PFT_10 (pc' := 11) rfl rfl ?_
  refine OWp.icmpYes hk d_PFT_11 (XT.ii_le_t (by rw [n_lt (by omega) (by omega)]; omega)) (by decide) (pc' := 22) rfl ?_
  refine OWp.iload_n hk d_PFT_22 (pc' := 23) rfl rfl ?_
  exact OWp.retI hk d_PFT_23 ⟨rfl, rfl, rfl⟩ (List.Sublist.refl _) (fun _ h => h) (by decide) (by decide)
theorem c_CBE (hw : ∀ d ∈ tables_1, d.before a0 Z = true) (hEL : EW Z a0 EL) (O4 : Sta Z Z.heap "jdk/internal/util/Preconditions" "SIOOBE_FORMATTER" "Ljava/util/function/BiFunction;" fm) (hf : fm.isRef = true) (hab : a ≤ b) (hbn : b ≤ n) (hn : n < 2147483648) :
    OCon l Z EL (⟨"java/lang/String", "checkBoundsBeginEnd", "(III)V"⟩ : MethodName) jdk_42_method_158_code 3 none [] ({ frames := 1, cells := 0, slots := 0, locals := 15 } : Room) #[.int (Int32.ofNat a), .int (Int32.ofNat b), .int (Int32.ofNat n)] [] [] (fun v M N => v = none ∧ M = [] ∧ N = []) := by
  refine OCon.of_wp (L0 := [.val (.int (Int32.ofNat a)), .val (.int (Int32.ofNat b)), .val (.int (Int32.ofNat n))]) pn_CBE hEL (fun m => by first | (simp [entryFrame, mkF, argsToLocals, Value.category]; done) | rfl) ?_
  intro p e s m below meth c hk
  refine OWp.iload_n hk d_CBE_0 (pc' := 1) rfl rfl ?_
  refine OWp.iload_n hk d_CBE_1 (pc' := 2) rfl rfl ?_
  refine OWp.iload_n hk d_CBE_2 (pc' := 3) rfl rfl ?_
  refine OWp.getstatic hk d_CBE_3 (pc' := 6) rfl (hw _ (List.mem_of_getElem? (i := 81) rfl)) O4 ?_
  refine OWp.callS hk d_CBE_6 (pc' := 9) rfl (hw _ (List.mem_of_getElem? (i := 83) rfl)) (hw _ (List.mem_of_getElem? (i := 84) rfl)) (hw _ (List.mem_of_getElem? (i := 82) rfl)) (hw _ (List.mem_of_getElem? (i := 85) rfl)) (by decide) (c_PFT hw hEL hf hab hbn hn) rfl (by simp) rfl (lenOf pd_9 rfl) rfl (W := 0) rfl (by first | decide | (dsimp only; omega)) (by first | decide | (dsimp only; omega)) (by first | decide | (dsimp only; omega)) (by first | decide | (dsimp only; omega)) ?_
  rintro _ _ _ ⟨rfl, rfl, rfl⟩
  refine OWp.pop hk d_CBE_9 (pc' := 10) rfl rfl ?_
  exact OWp.ret0 hk d_CBE_10 ⟨rfl, rfl, rfl⟩ (List.Sublist.refl _) (fun _ h => h) (by decide) (by decide)
end StrCBE
theorem d_MIN_0 : decode jdk_29_method_69_code 0 = .ok (.iload_n 0, 1) := by decide +kernel
theorem d_MIN_1 : decode jdk_29_method_69_code 1 = .ok (.iload_n 1, 1) := by decide +kernel
theorem d_MIN_2 : decode jdk_29_method_69_code 2 = .ok (.if_icmp .gt 7, 3) := by decide +kernel
theorem d_MIN_5 : decode jdk_29_method_69_code 5 = .ok (.iload_n 0, 1) := by decide +kernel
theorem d_MIN_6 : decode jdk_29_method_69_code 6 = .ok (.goto 4, 3) := by decide +kernel
theorem d_MIN_9 : decode jdk_29_method_69_code 9 = .ok (.iload_n 1, 1) := by decide +kernel
theorem d_MIN_10 : decode jdk_29_method_69_code 10 = .ok (.ireturn, 1) := by decide +kernel
theorem pn_MIN : plainFor (⟨"java/lang/Math", "min", "(II)I"⟩ : MethodName) = true := by first | exact plainFor_of_name (by first | (simp [plainName, overriddenIn]; done) | decide +kernel) | decide +kernel
section strMin
variable {l : Launch} {Z : State} {a0 : Array Value} {EL : List (String × Nat)} {zc ch a b : Int32} {x t : Addr} {cx ct : Cell} {cs : List Int32} {n : Nat}
theorem c_MIN (hw : ∀ d ∈ tables_1, d.before a0 Z = true) (hEL : EW Z a0 EL) :
    OCon l Z EL (⟨"java/lang/Math", "min", "(II)I"⟩ : MethodName) jdk_29_method_69_code 2 (some .int) [] ({ frames := 0, cells := 0, slots := 0, locals := 0 } : Room) #[.int a, .int b] [] [] (fun v M N => v = some (.int (if b < a then b else a)) ∧ M = [] ∧ N = []) := by
  refine OCon.of_wp (L0 := [.val (.int a), .val (.int b)]) pn_MIN hEL (fun m => by first | (simp [entryFrame, mkF, argsToLocals, Value.category]; done) | rfl) ?_
  intro p e s m below meth c hk
  refine OWp.iload_n hk d_MIN_0 (pc' := 1) rfl rfl ?_
  refine OWp.iload_n hk d_MIN_1 (pc' := 2) rfl rfl ?_
  by_cases h : b < a
  · refine OWp.icmpYes hk d_MIN_2 (XT.ii_gt_t h) (by decide) (pc' := 9) rfl ?_
    refine OWp.iload_n hk d_MIN_9 (pc' := 10) rfl rfl ?_
    exact OWp.retI hk d_MIN_10 ⟨by rw [if_pos h], rfl, rfl⟩ (List.Sublist.refl _) (fun _ h => h) (by decide) (by decide)
  · refine OWp.icmpNo hk d_MIN_2 (XT.ii_gt_f h) (pc' := 5) rfl ?_
    refine OWp.iload_n hk d_MIN_5 (pc' := 6) rfl rfl ?_
    refine OWp.goto hk d_MIN_6 (by decide) (pc' := 10) rfl ?_
    exact OWp.retI hk d_MIN_10 ⟨by rw [if_neg h], rfl, rfl⟩ (List.Sublist.refl _) (fun _ h => h) (by decide) (by decide)
end strMin
theorem d_CENI_0 : decode jdk_43_method_4_code 0 = .ok (.iload_n 0, 1) := by decide +kernel
theorem d_CENI_1 : decode jdk_43_method_4_code 1 = .ok (.ifCond .lt 14, 3) := by decide +kernel
theorem d_CENI_4 : decode jdk_43_method_4_code 4 = .ok (.iload_n 0, 1) := by decide +kernel
theorem d_CENI_5 : decode jdk_43_method_4_code 5 = .ok (.sipush 255, 3) := by decide +kernel
theorem d_CENI_8 : decode jdk_43_method_4_code 8 = .ok (.if_icmp .gt 7, 3) := by decide +kernel
theorem d_CENI_11 : decode jdk_43_method_4_code 11 = .ok (.iconst 1, 1) := by decide +kernel
theorem d_CENI_12 : decode jdk_43_method_4_code 12 = .ok (.goto 4, 3) := by decide +kernel
theorem d_CENI_15 : decode jdk_43_method_4_code 15 = .ok (.iconst 0, 1) := by decide +kernel
theorem d_CENI_16 : decode jdk_43_method_4_code 16 = .ok (.ireturn, 1) := by decide +kernel
theorem pn_CENI : plainFor (⟨"java/lang/StringLatin1", "canEncode", "(I)Z"⟩ : MethodName) = true := by first | exact plainFor_of_name (by first | (simp [plainName, overriddenIn]; done) | decide +kernel) | decide +kernel
section strCenI
variable {l : Launch} {Z : State} {a0 : Array Value} {EL : List (String × Nat)} {zc ch a b : Int32} {x t : Addr} {cx ct : Cell} {cs : List Int32} {n : Nat}
theorem c_CENI (hw : ∀ d ∈ tables_1, d.before a0 Z = true) (hEL : EW Z a0 EL) (h0 : ¬ ch < 0) (h1 : ¬ (255 : Int32) < ch) :
    OCon l Z EL (⟨"java/lang/StringLatin1", "canEncode", "(I)Z"⟩ : MethodName) jdk_43_method_4_code 1 (some .boolean) [] ({ frames := 0, cells := 0, slots := 0, locals := 0 } : Room) #[.int ch] [] [] (fun v M N => v = some (.int 1) ∧ M = [] ∧ N = []) := by
  refine OCon.of_wp (L0 := [.val (.int ch)]) pn_CENI hEL (fun m => by first | (simp [entryFrame, mkF, argsToLocals, Value.category]; done) | rfl) ?_
  intro p e s m below meth c hk
  refine OWp.iload_n hk d_CENI_0 (pc' := 1) rfl rfl ?_
  refine OWp.ifNo hk d_CENI_1 (XT.i0_lt_f h0) (pc' := 4) rfl ?_
  refine OWp.iload_n hk d_CENI_4 (pc' := 5) rfl rfl ?_
  refine OWp.sipush hk d_CENI_5 (pc' := 8) rfl (z := 255) rfl ?_
  refine OWp.icmpNo hk d_CENI_8 (XT.ii_gt_f h1) (pc' := 11) rfl ?_
  refine OWp.iconst hk d_CENI_11 (pc' := 12) rfl (z := 1) rfl ?_
  refine OWp.goto hk d_CENI_12 (by decide) (pc' := 16) rfl ?_
  exact OWp.retN hk (Or.inl rfl) d_CENI_16 ⟨rfl, rfl, rfl⟩ (List.Sublist.refl _) (fun _ h => h) (by decide) (by decide)
end strCenI
theorem d_SBB_0 : decode jdk_42_method_151_code 0 = .ok (.aload_n 0, 1) := by decide +kernel
theorem d_SBB_1 : decode jdk_42_method_151_code 1 = .ok (.invokespecial 1, 3) := by decide +kernel
theorem d_SBB_4 : decode jdk_42_method_151_code 4 = .ok (.aload_n 0, 1) := by decide +kernel
theorem d_SBB_5 : decode jdk_42_method_151_code 5 = .ok (.aload_n 1, 1) := by decide +kernel
theorem d_SBB_6 : decode jdk_42_method_151_code 6 = .ok (.putfield 9, 3) := by decide +kernel
theorem d_SBB_9 : decode jdk_42_method_151_code 9 = .ok (.aload_n 0, 1) := by decide +kernel
theorem d_SBB_10 : decode jdk_42_method_151_code 10 = .ok (.iload_n 2, 1) := by decide +kernel
theorem d_SBB_11 : decode jdk_42_method_151_code 11 = .ok (.putfield 15, 3) := by decide +kernel
theorem d_SBB_14 : decode jdk_42_method_151_code 14 = .ok (.return_, 1) := by decide +kernel
theorem pn_SBB : plainFor (⟨"java/lang/String", "<init>", "([BB)V"⟩ : MethodName) = true := by first | exact plainFor_of_name (by first | (simp [plainName, overriddenIn]; done) | decide +kernel) | decide +kernel
section StrSBB
variable {l : Launch} {Z : State} {a0 : Array Value} {EL : List (String × Nat)} {zc c : Int32} {x t : Addr} {cx ct : Cell} {cs : List Int32}
/-- the private constructor over a byte[] and its coder -/
theorem c_SBB (hw : ∀ d ∈ tables_1, d.before a0 Z = true) (hEL : EW Z a0 EL) (hE : EC Z cx "java/lang/String") {v0 v1 : Value} (F_value : FC Z cx "java/lang/String" "value" "[B" v0) (F_coder : FC Z cx "java/lang/String" "coder" "B" v1) (hT : AC Z ct .byte (oBytes cs)) (hcs : Chars cs) (hc : c = cdOf cs) :
    OCon l Z EL (⟨"java/lang/String", "<init>", "([BB)V"⟩ : MethodName) jdk_42_method_151_code 3 none [] ({ frames := 1, cells := 0, slots := 0, locals := 12 } : Room) #[.ref x, .ref t, .int c] [(x, cx)] []
      (fun v M N => v = none ∧ M = [] ∧ ∃ cx', N = [(x, cx')] ∧ SC Z t cx' ct cs) := by
  subst hc
  refine OCon.of_wp (L0 := [.val (.ref x), .val (.ref t), .val (.int (cdOf cs))]) pn_SBB hEL (fun m => by first | (simp [entryFrame, mkF, argsToLocals, Value.category]; done) | rfl) ?_
  intro p e s m below meth c' hk
  refine OWp.aload_n hk d_SBB_0 (pc' := 1) rfl rfl rfl ?_
  refine OWp.initO hk d_SBB_1 (pc' := 4) rfl (hw _ (List.mem_of_getElem? (i := 16) rfl)) (hw _ (List.mem_of_getElem? (i := 17) rfl)) (hw _ (List.mem_of_getElem? (i := 18) rfl)) rfl (by first | decide | (dsimp only; omega)) (W := 0) rfl (by first | decide | (dsimp only; omega)) ?_
  refine OWp.aload_n hk d_SBB_4 (pc' := 5) rfl rfl rfl ?_
  refine OWp.aload_n hk d_SBB_5 (pc' := 6) rfl rfl rfl ?_
  refine OWp.putfield hk d_SBB_6 (pc' := 9) rfl (hw _ (List.mem_of_getElem? (i := 25) rfl)) (i := 0) rfl F_value hE (Or.inr ⟨(hw _ (List.mem_of_getElem? (i := 21) rfl)), rfl, rfl⟩) (hw _ (List.mem_of_getElem? (i := 7) rfl)) (ty := (.array .byte)) (by decide) rfl rfl ?_
  intro ck hE F_value hK
  have F_coder := hK F_coder (slot_ne (Or.inr (hw _ (List.mem_of_getElem? (i := 22) rfl))) (Or.inr (hw _ (List.mem_of_getElem? (i := 21) rfl))) (by decide) (t := .byte) (by decide) (t' := (.array .byte)) (by decide))
  simp only [List.nil_append, List.cons_append, List.set_cons_zero]
  refine OWp.aload_n hk d_SBB_9 (pc' := 10) rfl rfl rfl ?_
  refine OWp.iload_n hk d_SBB_10 (pc' := 11) rfl rfl ?_
  refine OWp.putfield hk d_SBB_11 (pc' := 14) rfl (hw _ (List.mem_of_getElem? (i := 26) rfl)) (i := 0) rfl F_coder hE (Or.inr ⟨(hw _ (List.mem_of_getElem? (i := 22) rfl)), rfl, rfl⟩) (hw _ (List.mem_of_getElem? (i := 7) rfl)) (ty := .byte) (by decide) (congrArg Value.int (nar_cd cs)) (fits_cd cs) ?_
  intro cx3 hE3 hC3 hK3
  have hV3 := hK3 F_value (slot_ne (Or.inr (hw _ (List.mem_of_getElem? (i := 21) rfl))) (Or.inr (hw _ (List.mem_of_getElem? (i := 22) rfl))) (by decide) (t := .array .byte) (by decide) (t' := .byte) (by decide))
  simp only [List.nil_append, List.cons_append, List.set_cons_zero]
  refine OWp.freeze ?_
  exact OWp.ret0 hk d_SBB_14 ⟨rfl, rfl, cx3, rfl, hE3, hV3, hC3, hT, hcs⟩ (List.Sublist.refl _) (fun _ h => h) (by decide) (by decide)
end StrSBB
theorem d_CHL_0 : decode jdk_65_method_131_code 0 = .ok (.iload_n 1, 1) := by decide +kernel
theorem d_CHL_1 : decode jdk_65_method_131_code 1 = .ok (.iload_n 0, 1) := by decide +kernel
theorem d_CHL_2 : decode jdk_65_method_131_code 2 = .ok (.if_icmp .ge 35, 3) := by decide +kernel
theorem d_CHL_5 : decode jdk_65_method_131_code 5 = .ok (.new 43, 3) := by decide +kernel
theorem d_CHL_8 : decode jdk_65_method_131_code 8 = .ok (.dup, 1) := by decide +kernel
theorem d_CHL_9 : decode jdk_65_method_131_code 9 = .ok (.new 45, 3) := by decide +kernel
theorem d_CHL_12 : decode jdk_65_method_131_code 12 = .ok (.dup, 1) := by decide +kernel
theorem d_CHL_13 : decode jdk_65_method_131_code 13 = .ok (.invokespecial 47, 3) := by decide +kernel
theorem d_CHL_16 : decode jdk_65_method_131_code 16 = .ok (.iload_n 0, 1) := by decide +kernel
theorem d_CHL_17 : decode jdk_65_method_131_code 17 = .ok (.invokevirtual 54, 3) := by decide +kernel
theorem d_CHL_20 : decode jdk_65_method_131_code 20 = .ok (.ldc_w 337, 3) := by decide +kernel
theorem d_CHL_23 : decode jdk_65_method_131_code 23 = .ok (.invokevirtual 50, 3) := by decide +kernel
theorem d_CHL_26 : decode jdk_65_method_131_code 26 = .ok (.iload_n 1, 1) := by decide +kernel
theorem d_CHL_27 : decode jdk_65_method_131_code 27 = .ok (.invokevirtual 54, 3) := by decide +kernel
theorem d_CHL_30 : decode jdk_65_method_131_code 30 = .ok (.invokevirtual 61, 3) := by decide +kernel
theorem d_CHL_33 : decode jdk_65_method_131_code 33 = .ok (.invokespecial 65, 3) := by decide +kernel
theorem d_CHL_36 : decode jdk_65_method_131_code 36 = .ok (.athrow, 1) := by decide +kernel
theorem d_CHL_37 : decode jdk_65_method_131_code 37 = .ok (.return_, 1) := by decide +kernel
theorem pn_CHL : plainFor (⟨"java/util/Arrays", "checkLength", "(II)V"⟩ : MethodName) = true := by first | exact plainFor_of_name (by first | (simp [plainName, overriddenIn]; done) | decide +kernel) | decide +kernel
theorem d_CRB_0 : decode jdk_65_method_133_code 0 = .ok (.iload_n 1, 1) := by decide +kernel
theorem d_CRB_1 : decode jdk_65_method_133_code 1 = .ok (.iload_n 2, 1) := by decide +kernel
theorem d_CRB_2 : decode jdk_65_method_133_code 2 = .ok (.invokestatic 343, 3) := by decide +kernel
theorem d_CRB_5 : decode jdk_65_method_133_code 5 = .ok (.iload_n 2, 1) := by decide +kernel
theorem d_CRB_6 : decode jdk_65_method_133_code 6 = .ok (.iload_n 1, 1) := by decide +kernel
theorem d_CRB_7 : decode jdk_65_method_133_code 7 = .ok (.isub, 1) := by decide +kernel
theorem d_CRB_8 : decode jdk_65_method_133_code 8 = .ok (.istore_n 3, 1) := by decide +kernel
theorem d_CRB_9 : decode jdk_65_method_133_code 9 = .ok (.iload_n 3, 1) := by decide +kernel
theorem d_CRB_10 : decode jdk_65_method_133_code 10 = .ok (.newarray .byte, 2) := by decide +kernel
theorem d_CRB_12 : decode jdk_65_method_133_code 12 = .ok (.astore 4, 2) := by decide +kernel
theorem d_CRB_14 : decode jdk_65_method_133_code 14 = .ok (.aload_n 0, 1) := by decide +kernel
theorem d_CRB_15 : decode jdk_65_method_133_code 15 = .ok (.iload_n 1, 1) := by decide +kernel
theorem d_CRB_16 : decode jdk_65_method_133_code 16 = .ok (.aload 4, 2) := by decide +kernel
theorem d_CRB_18 : decode jdk_65_method_133_code 18 = .ok (.iconst 0, 1) := by decide +kernel
theorem d_CRB_19 : decode jdk_65_method_133_code 19 = .ok (.aload_n 0, 1) := by decide +kernel
theorem d_CRB_20 : decode jdk_65_method_133_code 20 = .ok (.arraylength, 1) := by decide +kernel
theorem d_CRB_21 : decode jdk_65_method_133_code 21 = .ok (.iload_n 1, 1) := by decide +kernel
theorem d_CRB_22 : decode jdk_65_method_133_code 22 = .ok (.isub, 1) := by decide +kernel
theorem d_CRB_23 : decode jdk_65_method_133_code 23 = .ok (.iload_n 3, 1) := by decide +kernel
theorem d_CRB_24 : decode jdk_65_method_133_code 24 = .ok (.invokestatic 304, 3) := by decide +kernel
theorem d_CRB_27 : decode jdk_65_method_133_code 27 = .ok (.invokestatic 150, 3) := by decide +kernel
theorem d_CRB_30 : decode jdk_65_method_133_code 30 = .ok (.aload 4, 2) := by decide +kernel
theorem d_CRB_32 : decode jdk_65_method_133_code 32 = .ok (.areturn, 1) := by decide +kernel
theorem pn_CRB : plainFor (⟨"java/util/Arrays", "copyOfRangeByte", "([BII)[B"⟩ : MethodName) = true := by first | exact plainFor_of_name (by first | (simp [plainName, overriddenIn]; done) | decide +kernel) | decide +kernel
theorem d_COR_0 : decode jdk_65_method_132_code 0 = .ok (.iload_n 1, 1) := by decide +kernel
theorem d_COR_1 : decode jdk_65_method_132_code 1 = .ok (.ifCond .ne 9, 3) := by decide +kernel
theorem d_COR_4 : decode jdk_65_method_132_code 4 = .ok (.iload_n 2, 1) := by decide +kernel
theorem d_COR_5 : decode jdk_65_method_132_code 5 = .ok (.aload_n 0, 1) := by decide +kernel
theorem d_COR_6 : decode jdk_65_method_132_code 6 = .ok (.arraylength, 1) := by decide +kernel
theorem d_COR_7 : decode jdk_65_method_132_code 7 = .ok (.if_icmp .eq 10, 3) := by decide +kernel
theorem d_COR_10 : decode jdk_65_method_132_code 10 = .ok (.aload_n 0, 1) := by decide +kernel
theorem d_COR_11 : decode jdk_65_method_132_code 11 = .ok (.iload_n 1, 1) := by decide +kernel
theorem d_COR_12 : decode jdk_65_method_132_code 12 = .ok (.iload_n 2, 1) := by decide +kernel
theorem d_COR_13 : decode jdk_65_method_132_code 13 = .ok (.invokestatic 339, 3) := by decide +kernel
theorem d_COR_16 : decode jdk_65_method_132_code 16 = .ok (.areturn, 1) := by decide +kernel
theorem d_COR_17 : decode jdk_65_method_132_code 17 = .ok (.aload_n 0, 1) := by decide +kernel
theorem d_COR_18 : decode jdk_65_method_132_code 18 = .ok (.invokevirtual 310, 3) := by decide +kernel
theorem d_COR_21 : decode jdk_65_method_132_code 21 = .ok (.checkcast 311, 3) := by decide +kernel
theorem d_COR_24 : decode jdk_65_method_132_code 24 = .ok (.areturn, 1) := by decide +kernel
theorem pn_COR : plainFor (⟨"java/util/Arrays", "copyOfRange", "([BII)[B"⟩ : MethodName) = true := by first | exact plainFor_of_name (by first | (simp [plainName, overriddenIn]; done) | decide +kernel) | decide +kernel
theorem d_LNS_0 : decode jdk_43_method_47_code 0 = .ok (.iload_n 2, 1) := by decide +kernel
theorem d_LNS_1 : decode jdk_43_method_47_code 1 = .ok (.ifCond .ne 6, 3) := by decide +kernel
theorem d_LNS_4 : decode jdk_43_method_47_code 4 = .ok (.ldc 151, 2) := by decide +kernel
theorem d_LNS_6 : decode jdk_43_method_47_code 6 = .ok (.areturn, 1) := by decide +kernel
theorem d_LNS_7 : decode jdk_43_method_47_code 7 = .ok (.new 1, 3) := by decide +kernel
theorem d_LNS_10 : decode jdk_43_method_47_code 10 = .ok (.dup, 1) := by decide +kernel
theorem d_LNS_11 : decode jdk_43_method_47_code 11 = .ok (.aload_n 0, 1) := by decide +kernel
theorem d_LNS_12 : decode jdk_43_method_47_code 12 = .ok (.iload_n 1, 1) := by decide +kernel
theorem d_LNS_13 : decode jdk_43_method_47_code 13 = .ok (.iload_n 1, 1) := by decide +kernel
theorem d_LNS_14 : decode jdk_43_method_47_code 14 = .ok (.iload_n 2, 1) := by decide +kernel
theorem d_LNS_15 : decode jdk_43_method_47_code 15 = .ok (.iadd, 1) := by decide +kernel
theorem d_LNS_16 : decode jdk_43_method_47_code 16 = .ok (.invokestatic 232, 3) := by decide +kernel
theorem d_LNS_19 : decode jdk_43_method_47_code 19 = .ok (.iconst 0, 1) := by decide +kernel
theorem d_LNS_20 : decode jdk_43_method_47_code 20 = .ok (.invokespecial 112, 3) := by decide +kernel
theorem d_LNS_23 : decode jdk_43_method_47_code 23 = .ok (.areturn, 1) := by decide +kernel
theorem pn_LNS : plainFor (⟨"java/lang/StringLatin1", "newString", "([BII)Ljava/lang/String;"⟩ : MethodName) = true := by first | exact plainFor_of_name (by first | (simp [plainName, overriddenIn]; done) | decide +kernel) | decide +kernel
theorem d_SUB_0 : decode jdk_42_method_92_code 0 = .ok (.aload_n 0, 1) := by decide +kernel
theorem d_SUB_1 : decode jdk_42_method_92_code 1 = .ok (.invokevirtual 505, 3) := by decide +kernel
theorem d_SUB_4 : decode jdk_42_method_92_code 4 = .ok (.istore_n 3, 1) := by decide +kernel
theorem d_SUB_5 : decode jdk_42_method_92_code 5 = .ok (.iload_n 1, 1) := by decide +kernel
theorem d_SUB_6 : decode jdk_42_method_92_code 6 = .ok (.iload_n 2, 1) := by decide +kernel
theorem d_SUB_7 : decode jdk_42_method_92_code 7 = .ok (.iload_n 3, 1) := by decide +kernel
theorem d_SUB_8 : decode jdk_42_method_92_code 8 = .ok (.invokestatic 521, 3) := by decide +kernel
theorem d_SUB_11 : decode jdk_42_method_92_code 11 = .ok (.iload_n 1, 1) := by decide +kernel
theorem d_SUB_12 : decode jdk_42_method_92_code 12 = .ok (.ifCond .ne 10, 3) := by decide +kernel
theorem d_SUB_15 : decode jdk_42_method_92_code 15 = .ok (.iload_n 2, 1) := by decide +kernel
theorem d_SUB_16 : decode jdk_42_method_92_code 16 = .ok (.iload_n 3, 1) := by decide +kernel
theorem d_SUB_17 : decode jdk_42_method_92_code 17 = .ok (.if_icmp .ne 5, 3) := by decide +kernel
theorem d_SUB_20 : decode jdk_42_method_92_code 20 = .ok (.aload_n 0, 1) := by decide +kernel
theorem d_SUB_21 : decode jdk_42_method_92_code 21 = .ok (.areturn, 1) := by decide +kernel
theorem d_SUB_22 : decode jdk_42_method_92_code 22 = .ok (.iload_n 2, 1) := by decide +kernel
theorem d_SUB_23 : decode jdk_42_method_92_code 23 = .ok (.iload_n 1, 1) := by decide +kernel
theorem d_SUB_24 : decode jdk_42_method_92_code 24 = .ok (.isub, 1) := by decide +kernel
theorem d_SUB_25 : decode jdk_42_method_92_code 25 = .ok (.istore 4, 2) := by decide +kernel
theorem d_SUB_27 : decode jdk_42_method_92_code 27 = .ok (.aload_n 0, 1) := by decide +kernel
theorem d_SUB_28 : decode jdk_42_method_92_code 28 = .ok (.invokevirtual 492, 3) := by decide +kernel
theorem d_SUB_31 : decode jdk_42_method_92_code 31 = .ok (.ifCond .eq 16, 3) := by decide +kernel
theorem d_SUB_34 : decode jdk_42_method_92_code 34 = .ok (.aload_n 0, 1) := by decide +kernel
theorem d_SUB_35 : decode jdk_42_method_92_code 35 = .ok (.getfield 9, 3) := by decide +kernel
theorem d_SUB_38 : decode jdk_42_method_92_code 38 = .ok (.iload_n 1, 1) := by decide +kernel
theorem d_SUB_39 : decode jdk_42_method_92_code 39 = .ok (.iload 4, 2) := by decide +kernel
theorem d_SUB_41 : decode jdk_42_method_92_code 41 = .ok (.invokestatic 685, 3) := by decide +kernel
theorem d_SUB_44 : decode jdk_42_method_92_code 44 = .ok (.goto 13, 3) := by decide +kernel
theorem d_SUB_47 : decode jdk_42_method_92_code 47 = .ok (.aload_n 0, 1) := by decide +kernel
theorem d_SUB_48 : decode jdk_42_method_92_code 48 = .ok (.getfield 9, 3) := by decide +kernel
theorem d_SUB_51 : decode jdk_42_method_92_code 51 = .ok (.iload_n 1, 1) := by decide +kernel
theorem d_SUB_52 : decode jdk_42_method_92_code 52 = .ok (.iload 4, 2) := by decide +kernel
theorem d_SUB_54 : decode jdk_42_method_92_code 54 = .ok (.invokestatic 689, 3) := by decide +kernel
theorem d_SUB_57 : decode jdk_42_method_92_code 57 = .ok (.areturn, 1) := by decide +kernel
theorem pn_SUB : plainFor (⟨"java/lang/String", "substring", "(II)Ljava/lang/String;"⟩ : MethodName) = true := by first | exact plainFor_of_name (by first | (simp [plainName, overriddenIn]; done) | decide +kernel) | decide +kernel
section StrSub
variable {l : Launch} {Z : State} {a0 : Array Value} {EL : List (String × Nat)} {zc : Int32} {x t : Addr} {cx ct : Cell} {cs : List Int32} {fm : Value} {a b n : Nat} {f : Nat → Value}
theorem c_CHL (hw : ∀ d ∈ tables_1, d.before a0 Z = true) (hEL : EW Z a0 EL) (hab : a ≤ b) (hb : b < 2147483648) :
    OCon l Z EL (⟨"java/util/Arrays", "checkLength", "(II)V"⟩ : MethodName) jdk_65_method_131_code 2 none [] ({ frames := 0, cells := 0, slots := 0, locals := 0 } : Room) #[.int (Int32.ofNat a), .int (Int32.ofNat b)] [] [] (fun v M N => v = none ∧ M = [] ∧ N = []) := by
  refine OCon.of_wp (L0 := [.val (.int (Int32.ofNat a)), .val (.int (Int32.ofNat b))]) pn_CHL hEL (fun m => by first | (simp [entryFrame, mkF, argsToLocals, Value.category]; done) | rfl) ?_
  intro p e s m below meth c hk
  refine OWp.iload_n hk d_CHL_0 (pc' := 1) rfl rfl ?_
  refine OWp.iload_n hk d_CHL_1 (pc' := 2) rfl rfl ?_
  refine OWp.icmpYes hk d_CHL_2 (XT.ii_ge_t (by rw [n_lt (by omega) (by omega)]; omega)) (by decide) (pc' := 37) rfl ?_
  exact OWp.ret0 hk d_CHL_37 ⟨rfl, rfl, rfl⟩ (List.Sublist.refl _) (fun _ h => h) (by decide) (by decide)
theorem c_CRB (hw : ∀ d ∈ tables_1, d.before a0 Z = true) (hEL : EW Z a0 EL) (hA : AC Z ct .byte (tab n f)) (hab : a ≤ b) (hbn : b ≤ n) (hcap : b - a ≤ kCap) :
    OCon l Z EL (⟨"java/util/Arrays", "copyOfRangeByte", "([BII)[B"⟩ : MethodName) jdk_65_method_133_code 5 (some (.array .byte)) [] ({ frames := 1, cells := 1, slots := kCap, locals := 18 } : Room) #[.ref t, .int (Int32.ofNat a), .int (Int32.ofNat b)] [] [(t, ct)] (fun v M N => M = [] ∧ ∃ u cu, v = some (.ref u) ∧ N = [(u, cu)] ∧ AC Z cu .byte (tab (b - a) fun j => f (a + j))) := by
  have hn : n < 2147483648 := by have := hA.2.2.2.1; rwa [tab_len] at this
  refine OCon.of_wp (L0 := [.val (.ref t), .val (.int (Int32.ofNat a)), .val (.int (Int32.ofNat b)), .unset, .unset]) pn_CRB hEL (fun m => by first | (simp [entryFrame, mkF, argsToLocals, Value.category]; done) | rfl) ?_
  intro p e s m below meth c hk
  refine OWp.iload_n hk d_CRB_0 (pc' := 1) rfl rfl ?_
  refine OWp.iload_n hk d_CRB_1 (pc' := 2) rfl rfl ?_
  refine OWp.callS hk d_CRB_2 (pc' := 5) rfl (hw _ (List.mem_of_getElem? (i := 126) rfl)) (hw _ (List.mem_of_getElem? (i := 127) rfl)) (hw _ (List.mem_of_getElem? (i := 121) rfl)) (hw _ (List.mem_of_getElem? (i := 128) rfl)) (by decide) (c_CHL hw hEL hab (by omega)) rfl (by simp) rfl (lenOf pd_6 rfl) rfl (W := 0) rfl (by first | decide | (dsimp only; omega)) (by first | decide | (dsimp only; omega)) (by first | decide | (dsimp only; omega)) (by first | decide | (dsimp only; omega)) ?_
  rintro _ _ _ ⟨rfl, rfl, rfl⟩
  refine OWp.iload_n hk d_CRB_5 (pc' := 6) rfl rfl ?_
  refine OWp.iload_n hk d_CRB_6 (pc' := 7) rfl rfl ?_
  refine OWp.isub hk d_CRB_7 (pc' := 8) rfl ?_
  rw [n_sub hab (by omega)]
  refine OWp.istore_n hk d_CRB_8 (pc' := 9) rfl (kn := 3) rfl rfl (by simp only [List.set_cons_zero, List.set_cons_succ]; rfl) ?_
  refine OWp.iload_n hk d_CRB_9 (pc' := 10) rfl rfl ?_
  refine OWp.newarray hk d_CRB_10 (pc' := 12) rfl (hw _ (List.mem_of_getElem? (i := 20) rfl)) (n_nn (by omega)) (cap := kCap) (by rw [n_nat (by omega)]; exact hcap) (by decide) (by decide) (by decide) (vs := tab (b - a) fun _ => .int 0) (by rw [n_nat (by omega)]; exact tab_rep _ _) ?_
  intro d cd hD
  refine OWp.astore hk d_CRB_12 (pc' := 14) rfl rfl rfl (by simp only [List.set_cons_zero, List.set_cons_succ]; rfl) ?_
  refine OWp.aload_n hk d_CRB_14 (pc' := 15) rfl rfl rfl ?_
  refine OWp.iload_n hk d_CRB_15 (pc' := 16) rfl rfl ?_
  refine OWp.aload hk d_CRB_16 (pc' := 18) rfl rfl rfl ?_
  refine OWp.iconst hk d_CRB_18 (pc' := 19) rfl (z := 0) rfl ?_
  refine OWp.aload_n hk d_CRB_19 (pc' := 20) rfl rfl rfl ?_
  refine OWp.arraylength hk d_CRB_20 (pc' := 21) rfl (by simp) hA (z := Int32.ofNat n) (by rw [tab_len]) ?_
  refine OWp.iload_n hk d_CRB_21 (pc' := 22) rfl rfl ?_
  refine OWp.isub hk d_CRB_22 (pc' := 23) rfl ?_
  rw [n_sub (show a ≤ n by omega) (by omega)]
  refine OWp.iload_n hk d_CRB_23 (pc' := 24) rfl rfl ?_
  refine OWp.callS hk d_CRB_24 (pc' := 27) rfl (hw _ (List.mem_of_getElem? (i := 129) rfl)) (hw _ (List.mem_of_getElem? (i := 65) rfl)) (hw _ (List.mem_of_getElem? (i := 66) rfl)) (hw _ (List.mem_of_getElem? (i := 67) rfl)) (by decide) (c_MIN hw hEL) rfl (by simp) rfl (lenOf pd_10 rfl) rfl (W := 4) rfl (by first | decide | (dsimp only; omega)) (by first | decide | (dsimp only; omega)) (by first | decide | (dsimp only; omega)) (by first | decide | (dsimp only; omega)) ?_
  rintro _ _ _ ⟨rfl, rfl, rfl⟩
  have hmin : (if Int32.ofNat (b - a) < Int32.ofNat (n - a) then Int32.ofNat (b - a) else Int32.ofNat (n - a)) = Int32.ofNat (b - a) := by
    split
    · rfl
    · rename_i q; rw [n_lt (by omega) (by omega)] at q; rw [show n - a = b - a by omega]
  rw [hmin]
  refine OWp.arraycopy hk d_CRB_27 (pc' := 30) rfl (hw _ (List.mem_of_getElem? (i := 130) rfl)) (hw _ (List.mem_of_getElem? (i := 133) rfl)) (hw _ (List.mem_of_getElem? (i := 131) rfl)) (hw _ (List.mem_of_getElem? (i := 132) rfl)) (by simp) (sp := a) (dp := 0) (nn := b - a) hA (i := 0) rfl hD rfl (by omega) (by omega) rfl (by first | decide | (dsimp only; omega)) (W := 0) rfl (by first | decide | (dsimp only; omega)) ?_
  intro cd2 hD2
  simp only [List.nil_append, List.cons_append, List.set_cons_zero]
  refine OWp.aload hk d_CRB_30 (pc' := 32) rfl rfl rfl ?_
  refine OWp.freeze ?_
  exact OWp.retA hk rfl rfl rfl d_CRB_32 ⟨rfl, d, cd2, rfl, rfl, hD2.congr fun j hj => by rw [if_pos ⟨Nat.zero_le _, by omega⟩, Nat.sub_zero]⟩ (List.Sublist.refl _) (fun _ h => h) (by decide) (by decide)
theorem c_COR (hw : ∀ d ∈ tables_1, d.before a0 Z = true) (hEL : EW Z a0 EL) (hA : AC Z ct .byte (tab n f)) (hab : a ≤ b) (hbn : b ≤ n) (hcap : b - a ≤ kCap) (hne : ¬ (a = 0 ∧ b = n)) :
    OCon l Z EL (⟨"java/util/Arrays", "copyOfRange", "([BII)[B"⟩ : MethodName) jdk_65_method_132_code 3 (some (.array .byte)) [] ({ frames := 2, cells := 1, slots := kCap, locals := 34 } : Room) #[.ref t, .int (Int32.ofNat a), .int (Int32.ofNat b)] [] [(t, ct)] (fun v M N => M = [] ∧ ∃ u cu, v = some (.ref u) ∧ N = [(u, cu)] ∧ AC Z cu .byte (tab (b - a) fun j => f (a + j))) := by
  have hn : n < 2147483648 := by have := hA.2.2.2.1; rwa [tab_len] at this
  refine OCon.of_wp (L0 := [.val (.ref t), .val (.int (Int32.ofNat a)), .val (.int (Int32.ofNat b))]) pn_COR hEL (fun m => by first | (simp [entryFrame, mkF, argsToLocals, Value.category]; done) | rfl) ?_
  intro p e s m below meth c hk
  have tail : OWp p l e ({ frames := 2, cells := 1, slots := kCap, locals := 34 } : Room) s m #[.ref t, .int (Int32.ofNat a), .int (Int32.ofNat b)] below meth c "java/util/Arrays" Z EL (dom []) [(t, ct)] (fun v M N => M = [] ∧ ∃ u cu, v = some (.ref u) ∧ N = [(u, cu)] ∧ AC Z cu .byte (tab (b - a) fun j => f (a + j))) [] [] 0 0 10 [.val (.ref t), .val (.int (Int32.ofNat a)), .val (.int (Int32.ofNat b))] [] := by
    refine OWp.aload_n hk d_COR_10 (pc' := 11) rfl rfl rfl ?_
    refine OWp.iload_n hk d_COR_11 (pc' := 12) rfl rfl ?_
    refine OWp.iload_n hk d_COR_12 (pc' := 13) rfl rfl ?_
    refine OWp.callS hk d_COR_13 (pc' := 16) rfl (hw _ (List.mem_of_getElem? (i := 123) rfl)) (hw _ (List.mem_of_getElem? (i := 124) rfl)) (hw _ (List.mem_of_getElem? (i := 121) rfl)) (hw _ (List.mem_of_getElem? (i := 125) rfl)) (by decide) (c_CRB hw hEL hA hab hbn hcap) rfl (by simp) rfl (lenOf pd_11 rfl) rfl (W := 0) rfl (by first | decide | (dsimp only; omega)) (by first | decide | (dsimp only; omega)) (by first | decide | (dsimp only; omega)) (by first | decide | (dsimp only; omega)) ?_
    rintro _ _ _ ⟨rfl, u, cu, rfl, rfl, hU⟩
    exact OWp.retA hk rfl rfl rfl d_COR_16 ⟨rfl, u, cu, rfl, rfl, hU⟩ (List.Sublist.refl _) (fun _ h => by simpa using h) (by decide) (by decide)
  refine OWp.iload_n hk d_COR_0 (pc' := 1) rfl rfl ?_
  by_cases h0 : a = 0
  · refine OWp.ifNo hk d_COR_1 (XT.i0_ne_f (by rw [h0]; rfl)) (pc' := 4) rfl ?_
    refine OWp.iload_n hk d_COR_4 (pc' := 5) rfl rfl ?_
    refine OWp.aload_n hk d_COR_5 (pc' := 6) rfl rfl rfl ?_
    refine OWp.arraylength hk d_COR_6 (pc' := 7) rfl (by simp) hA (z := Int32.ofNat n) (by rw [tab_len]) ?_
    refine OWp.icmpNo hk d_COR_7 (XT.ii_eq_f (by rw [n_inj (by omega) (by omega)]; exact fun q => hne ⟨h0, q⟩)) (pc' := 10) rfl ?_
    exact tail
  · refine OWp.ifYes hk d_COR_1 (XT.i0_ne_t (by rw [show (0 : Int32) = Int32.ofNat 0 from rfl, n_inj (by omega) (by omega)]; exact h0)) (by decide) (pc' := 10) rfl ?_
    exact tail
theorem c_LNS (hw : ∀ d ∈ tables_1, d.before a0 Z = true) (hEL : EW Z a0 EL) (hmem : ("java/lang/StringLatin1", 151) ∈ EL) (hA : AC Z ct .byte (oBytes cs)) (hl : lat cs = true) (hcs : Chars cs) (hab : a ≤ b) (hbn : b ≤ cs.length) (hcap : b - a ≤ kCap) (hne : ¬ (a = 0 ∧ b = cs.length)) :
    OCon l Z EL (⟨"java/lang/StringLatin1", "newString", "([BII)Ljava/lang/String;"⟩ : MethodName) jdk_43_method_47_code 3 (some (.object "java/lang/String")) [] ({ frames := 3, cells := 2, slots := kCap + 4, locals := 50 } : Room) #[.ref t, .int (Int32.ofNat a), .int (Int32.ofNat (b - a))] [] [(t, ct)] (fun v M N => M = [] ∧ ∃ y u cy cu, v = some (.ref y) ∧ N = [(y, cy), (u, cu)] ∧ SC Z u cy cu (subL cs a b)) := by
  have hc4 := hcs.2
  refine OCon.of_wp (L0 := [.val (.ref t), .val (.int (Int32.ofNat a)), .val (.int (Int32.ofNat (b - a)))]) pn_LNS hEL (fun m => by first | (simp [entryFrame, mkF, argsToLocals, Value.category]; done) | rfl) ?_
  intro p e s m below meth c hk
  rw [bytes_lat hl] at hA
  refine OWp.iload_n hk d_LNS_0 (pc' := 1) rfl rfl ?_
  by_cases h0 : b - a = 0
  · refine OWp.ifNo hk d_LNS_1 (XT.i0_ne_f (by rw [h0]; rfl)) (pc' := 4) rfl ?_
    refine OWp.ldcS hk d_LNS_4 (pc' := 6) rfl (hw _ (List.mem_of_getElem? (i := 103) rfl)) (str_atoms hw) hmem (vs := []) ⟨by decide, by decide⟩ (by decide) (n := 0) (by decide) (by decide) (by decide) (by decide) ?_
    intro a1 t1 ca1 ct1 hE1 hC1 hV1 hA1
    have e0 : subL cs a b = [] := List.eq_nil_of_length_eq_zero (by rw [subL_len hbn]; exact h0)
    exact OWp.retA hk rfl rfl rfl d_LNS_6 ⟨rfl, a1, t1, ca1, ct1, rfl, rfl, by rw [e0]; exact ⟨hE1, hV1, hC1, hA1, ch_nil⟩⟩ (List.Sublist.refl _) (fun _ h => h) (by decide) (by decide)
  · refine OWp.ifYes hk d_LNS_1 (XT.i0_ne_t (by rw [show (0 : Int32) = Int32.ofNat 0 from rfl, n_inj (by omega) (by omega)]; exact h0)) (by decide) (pc' := 7) rfl ?_
    refine OWp.new hk d_LNS_7 (pc' := 10) rfl (hw _ (List.mem_of_getElem? (i := 118) rfl)) (hw _ (List.mem_of_getElem? (i := 7) rfl)) (hw _ (List.mem_of_getElem? (i := 8) rfl)) (by decide) (by decide) ?_
    intro x cx hE hD
    have hV : FC Z cx "java/lang/String" "value" "[B" .null := hD (Or.inr (hw _ (List.mem_of_getElem? (i := 21) rfl))) (ty := .array .byte) (by decide)
    have hC : FC Z cx "java/lang/String" "coder" "B" (.int 0) := hD (Or.inr (hw _ (List.mem_of_getElem? (i := 22) rfl))) (ty := .byte) (by decide)
    refine OWp.dup hk d_LNS_10 (pc' := 11) rfl rfl ?_
    refine OWp.aload_n hk d_LNS_11 (pc' := 12) rfl rfl rfl ?_
    refine OWp.iload_n hk d_LNS_12 (pc' := 13) rfl rfl ?_
    refine OWp.iload_n hk d_LNS_13 (pc' := 14) rfl rfl ?_
    refine OWp.iload_n hk d_LNS_14 (pc' := 15) rfl rfl ?_
    refine OWp.iadd hk d_LNS_15 (pc' := 16) rfl ?_
    rw [n_add, show a + (b - a) = b by omega]
    refine OWp.callS hk d_LNS_16 (pc' := 19) rfl (hw _ (List.mem_of_getElem? (i := 119) rfl)) (hw _ (List.mem_of_getElem? (i := 120) rfl)) (hw _ (List.mem_of_getElem? (i := 121) rfl)) (hw _ (List.mem_of_getElem? (i := 122) rfl)) (by decide) (c_COR hw hEL hA hab hbn hcap hne) rfl (by simp) rfl (lenOf pd_11 rfl) rfl (W := 2) rfl (by first | decide | (dsimp only; omega)) (by first | decide | (dsimp only; omega)) (by first | decide | (dsimp only; omega)) (by first | decide | (dsimp only; omega)) ?_
    rintro _ _ _ ⟨rfl, u, cu, rfl, rfl, hU⟩
    refine OWp.iconst hk d_LNS_19 (pc' := 20) rfl (z := 0) rfl ?_
    have hU2 : AC Z cu .byte (oBytes (subL cs a b)) := by
      rw [bytes_lat (subL_lat hl), subL_len hbn]
      exact hU.congr fun j hj => by rw [subL_get hj]
    refine OWp.callI hk d_LNS_20 (pc' := 23) rfl rfl (hw _ (List.mem_of_getElem? (i := 134) rfl)) (hw _ (List.mem_of_getElem? (i := 135) rfl)) (hw _ (List.mem_of_getElem? (i := 8) rfl)) (hw _ (List.mem_of_getElem? (i := 136) rfl)) (by decide) (c_SBB hw hEL hE hV hC hU2 (subL_ch hcs) (by simp [cdOf, subL_lat hl])) rfl (by simp) rfl (lenOf pd_12 rfl) rfl (W := 1) rfl (by first | decide | (dsimp only; omega)) (by first | decide | (dsimp only; omega)) (by first | decide | (dsimp only; omega)) (by first | decide | (dsimp only; omega)) ?_
    rintro _ _ _ ⟨rfl, rfl, cx2, rfl, hS⟩
    exact OWp.retA hk rfl rfl rfl d_LNS_23 ⟨rfl, x, u, cx2, cu, rfl, rfl, hS⟩ (List.Sublist.refl _) (fun _ h => by simpa using h) (by decide) (by decide)
theorem c_SUB (hw : ∀ d ∈ tables_1, d.before a0 Z = true) (hEL : EW Z a0 EL) (O2 : Sta Z Z.heap "java/lang/String" "COMPACT_STRINGS" "Z" (.int zc)) (hzc : ¬ zc = 0) (O4 : Sta Z Z.heap "jdk/internal/util/Preconditions" "SIOOBE_FORMATTER" "Ljava/util/function/BiFunction;" fm) (hf : fm.isRef = true) (hmem : ("java/lang/StringLatin1", 151) ∈ EL) (hs : SC Z t cx ct cs) (hl : lat cs = true) (hab : a ≤ b) (hbn : b ≤ cs.length) (hcap : b - a ≤ kCap) :
    OCon l Z EL (⟨"java/lang/String", "substring", "(II)Ljava/lang/String;"⟩ : MethodName) jdk_42_method_92_code 5 (some (.object "java/lang/String")) [] ({ frames := 4, cells := 2, slots := kCap + 4, locals := 64 } : Room) #[.ref x, .int (Int32.ofNat a), .int (Int32.ofNat b)] [] [(x, cx), (t, ct)]
      (fun v M N => M = [] ∧ ∃ y u cy cu, v = some (.ref y) ∧ SC Z u cy cu (subL cs a b) ∧ ((N = [] ∧ y = x ∧ u = t ∧ cy = cx ∧ cu = ct) ∨ N = [(y, cy), (u, cu)])) := by
  have hc4 := hs.2.2.2.2.2
  refine OCon.of_wp (L0 := [.val (.ref x), .val (.int (Int32.ofNat a)), .val (.int (Int32.ofNat b)), .unset, .unset]) pn_SUB hEL (fun m => by first | (simp [entryFrame, mkF, argsToLocals, Value.category]; done) | rfl) ?_
  intro p e s m below meth c hk
  refine OWp.aload_n hk d_SUB_0 (pc' := 1) rfl rfl rfl ?_
  refine OWp.callV hk d_SUB_1 (pc' := 4) rfl (hw _ (List.mem_of_getElem? (i := 36) rfl)) (hw _ (List.mem_of_getElem? (i := 37) rfl)) (nfs (hw _ (List.mem_of_getElem? (i := 39) rfl))) (hw _ (List.mem_of_getElem? (i := 39) rfl)) (hw _ (List.mem_of_getElem? (i := 38) rfl)) (hw _ (List.mem_of_getElem? (i := 8) rfl)) (hw _ (List.mem_of_getElem? (i := 40) rfl)) (by decide) (by simp) hs.1 (c_LEN hw hEL O2 hzc hs) rfl (by simp) rfl (lenOf pd_13 rfl) rfl (W := 0) rfl (by first | decide | (dsimp only; omega)) (by first | decide | (dsimp only; omega)) (by first | decide | (dsimp only; omega)) (by first | decide | (dsimp only; omega)) ?_
  rintro _ _ _ ⟨rfl, rfl, rfl⟩
  refine OWp.istore_n hk d_SUB_4 (pc' := 5) rfl (kn := 3) rfl rfl (by simp only [List.set_cons_zero, List.set_cons_succ]; rfl) ?_
  refine OWp.iload_n hk d_SUB_5 (pc' := 6) rfl rfl ?_
  refine OWp.iload_n hk d_SUB_6 (pc' := 7) rfl rfl ?_
  refine OWp.iload_n hk d_SUB_7 (pc' := 8) rfl rfl ?_
  refine OWp.callS hk d_SUB_8 (pc' := 11) rfl (hw _ (List.mem_of_getElem? (i := 78) rfl)) (hw _ (List.mem_of_getElem? (i := 79) rfl)) (hw _ (List.mem_of_getElem? (i := 8) rfl)) (hw _ (List.mem_of_getElem? (i := 80) rfl)) (by decide) (c_CBE hw hEL O4 hf hab hbn (by omega)) rfl (by simp) rfl (lenOf pd_14 rfl) rfl (W := 0) rfl (by first | decide | (dsimp only; omega)) (by first | decide | (dsimp only; omega)) (by first | decide | (dsimp only; omega)) (by first | decide | (dsimp only; omega)) ?_
  rintro _ _ _ ⟨rfl, rfl, rfl⟩
  have tail : ¬ (a = 0 ∧ b = cs.length) → OWp p l e ({ frames := 4, cells := 2, slots := kCap + 4, locals := 64 } : Room) s m #[.ref x, .int (Int32.ofNat a), .int (Int32.ofNat b)] below meth c "java/lang/String" Z EL (dom []) [(x, cx), (t, ct)] (fun v M N => M = [] ∧ ∃ y u cy cu, v = some (.ref y) ∧ SC Z u cy cu (subL cs a b) ∧ ((N = [] ∧ y = x ∧ u = t ∧ cy = cx ∧ cu = ct) ∨ N = [(y, cy), (u, cu)])) [] [] 0 0 22 [.val (.ref x), .val (.int (Int32.ofNat a)), .val (.int (Int32.ofNat b)), .val (.int (Int32.ofNat cs.length)), .unset] [] := by
    intro hne
    refine OWp.iload_n hk d_SUB_22 (pc' := 23) rfl rfl ?_
    refine OWp.iload_n hk d_SUB_23 (pc' := 24) rfl rfl ?_
    refine OWp.isub hk d_SUB_24 (pc' := 25) rfl ?_
    rw [n_sub hab (by omega)]
    refine OWp.istore hk d_SUB_25 (pc' := 27) rfl rfl (by simp only [List.set_cons_zero, List.set_cons_succ]; rfl) ?_
    refine OWp.aload_n hk d_SUB_27 (pc' := 28) rfl rfl rfl ?_
    refine OWp.callV hk d_SUB_28 (pc' := 31) rfl (hw _ (List.mem_of_getElem? (i := 52) rfl)) (hw _ (List.mem_of_getElem? (i := 53) rfl)) (nfs (hw _ (List.mem_of_getElem? (i := 55) rfl))) (hw _ (List.mem_of_getElem? (i := 55) rfl)) (hw _ (List.mem_of_getElem? (i := 54) rfl)) (hw _ (List.mem_of_getElem? (i := 8) rfl)) (hw _ (List.mem_of_getElem? (i := 56) rfl)) (by decide) (by simp) hs.1 (c_ISL hw hEL O2 hzc hs) rfl (by simp) rfl (lenOf pd_7 rfl) rfl (W := 0) rfl (by first | decide | (dsimp only; omega)) (by first | decide | (dsimp only; omega)) (by first | decide | (dsimp only; omega)) (by first | decide | (dsimp only; omega)) ?_
    rintro _ _ _ ⟨rfl, rfl, rfl⟩
    refine OWp.ifNo hk d_SUB_31 (XT.i0_eq_f (by rw [hl]; decide)) (pc' := 34) rfl ?_
    refine OWp.aload_n hk d_SUB_34 (pc' := 35) rfl rfl rfl ?_
    refine OWp.getfield hk d_SUB_35 (pc' := 38) rfl (hw _ (List.mem_of_getElem? (i := 25) rfl)) (by simp) hs.2.1 ?_
    refine OWp.iload_n hk d_SUB_38 (pc' := 39) rfl rfl ?_
    refine OWp.iload hk d_SUB_39 (pc' := 41) rfl rfl ?_
    refine OWp.callS hk d_SUB_41 (pc' := 44) rfl (hw _ (List.mem_of_getElem? (i := 100) rfl)) (hw _ (List.mem_of_getElem? (i := 101) rfl)) (hw _ (List.mem_of_getElem? (i := 59) rfl)) (hw _ (List.mem_of_getElem? (i := 102) rfl)) (by decide) (c_LNS hw hEL hmem hs.2.2.2.1 hl hs.2.2.2.2 hab hbn hcap hne) rfl (by simp) rfl (lenOf pd_15 rfl) rfl (W := 0) rfl (by first | decide | (dsimp only; omega)) (by first | decide | (dsimp only; omega)) (by first | decide | (dsimp only; omega)) (by first | decide | (dsimp only; omega)) ?_
    rintro _ _ _ ⟨rfl, y, u, cy, cu, rfl, rfl, hS⟩
    refine OWp.goto hk d_SUB_44 (by decide) (pc' := 57) rfl ?_
    exact OWp.retA hk rfl rfl rfl d_SUB_57 ⟨rfl, y, u, cy, cu, rfl, hS, Or.inr rfl⟩ (List.Sublist.refl _) (fun _ h => by simpa using h) (by decide) (by decide)
  refine OWp.iload_n hk d_SUB_11 (pc' := 12) rfl rfl ?_
  by_cases h0 : a = 0
  · refine OWp.ifNo hk d_SUB_12 (XT.i0_ne_f (by rw [h0]; rfl)) (pc' := 15) rfl ?_
    refine OWp.iload_n hk d_SUB_15 (pc' := 16) rfl rfl ?_
    refine OWp.iload_n hk d_SUB_16 (pc' := 17) rfl rfl ?_
    by_cases h1 : b = cs.length
    · refine OWp.icmpNo hk d_SUB_17 (XT.ii_ne_f (by rw [h1])) (pc' := 20) rfl ?_
      refine OWp.aload_n hk d_SUB_20 (pc' := 21) rfl rfl rfl ?_
      exact OWp.retA hk rfl rfl rfl d_SUB_21 ⟨rfl, x, t, cx, ct, rfl, by rw [h0, h1, subL_all]; exact hs, Or.inl ⟨rfl, rfl, rfl, rfl, rfl⟩⟩ (List.Sublist.refl _) (fun _ h => h) (by decide) (by decide)
    · refine OWp.icmpYes hk d_SUB_17 (XT.ii_ne_t (by rw [n_inj (by omega) (by omega)]; exact h1)) (by decide) (pc' := 22) rfl ?_
      exact tail fun q => h1 q.2
  · refine OWp.ifYes hk d_SUB_12 (XT.i0_ne_t (by rw [show (0 : Int32) = Int32.ofNat 0 from rfl, n_inj (by omega) (by omega)]; exact h0)) (by decide) (pc' := 22) rfl ?_
    exact tail fun q => h0 q.1
end StrSub
theorem d_LLX_0 : decode jdk_43_method_27_code 0 = .ok (.iload_n 1, 1) := by decide +kernel
theorem d_LLX_1 : decode jdk_43_method_27_code 1 = .ok (.invokestatic 88, 3) := by decide +kernel
theorem d_LLX_4 : decode jdk_43_method_27_code 4 = .ok (.ifCond .ne 5, 3) := by decide +kernel
theorem d_LLX_7 : decode jdk_43_method_27_code 7 = .ok (.iconst (-1), 1) := by decide +kernel
theorem d_LLX_8 : decode jdk_43_method_27_code 8 = .ok (.ireturn, 1) := by decide +kernel
theorem d_LLX_9 : decode jdk_43_method_27_code 9 = .ok (.iload_n 2, 1) := by decide +kernel
theorem d_LLX_10 : decode jdk_43_method_27_code 10 = .ok (.aload_n 0, 1) := by decide +kernel
theorem d_LLX_11 : decode jdk_43_method_27_code 11 = .ok (.arraylength, 1) := by decide +kernel
theorem d_LLX_12 : decode jdk_43_method_27_code 12 = .ok (.iconst 1, 1) := by decide +kernel
theorem d_LLX_13 : decode jdk_43_method_27_code 13 = .ok (.isub, 1) := by decide +kernel
theorem d_LLX_14 : decode jdk_43_method_27_code 14 = .ok (.invokestatic 38, 3) := by decide +kernel
theorem d_LLX_17 : decode jdk_43_method_27_code 17 = .ok (.istore_n 3, 1) := by decide +kernel
theorem d_LLX_18 : decode jdk_43_method_27_code 18 = .ok (.iload_n 3, 1) := by decide +kernel
theorem d_LLX_19 : decode jdk_43_method_27_code 19 = .ok (.ifCond .lt 19, 3) := by decide +kernel
theorem d_LLX_22 : decode jdk_43_method_27_code 22 = .ok (.aload_n 0, 1) := by decide +kernel
theorem d_LLX_23 : decode jdk_43_method_27_code 23 = .ok (.iload_n 3, 1) := by decide +kernel
theorem d_LLX_24 : decode jdk_43_method_27_code 24 = .ok (.baload, 1) := by decide +kernel
theorem d_LLX_25 : decode jdk_43_method_27_code 25 = .ok (.iload_n 1, 1) := by decide +kernel
theorem d_LLX_26 : decode jdk_43_method_27_code 26 = .ok (.i2b, 1) := by decide +kernel
theorem d_LLX_27 : decode jdk_43_method_27_code 27 = .ok (.if_icmp .ne 5, 3) := by decide +kernel
theorem d_LLX_30 : decode jdk_43_method_27_code 30 = .ok (.iload_n 3, 1) := by decide +kernel
theorem d_LLX_31 : decode jdk_43_method_27_code 31 = .ok (.ireturn, 1) := by decide +kernel
theorem d_LLX_32 : decode jdk_43_method_27_code 32 = .ok (.iinc 3 (-1), 3) := by decide +kernel
theorem d_LLX_35 : decode jdk_43_method_27_code 35 = .ok (.goto (-17), 3) := by decide +kernel
theorem d_LLX_38 : decode jdk_43_method_27_code 38 = .ok (.iconst (-1), 1) := by decide +kernel
theorem d_LLX_39 : decode jdk_43_method_27_code 39 = .ok (.ireturn, 1) := by decide +kernel
theorem pn_LLX : plainFor (⟨"java/lang/StringLatin1", "lastIndexOf", "([BII)I"⟩ : MethodName) = true := by first | exact plainFor_of_name (by first | (simp [plainName, overriddenIn]; done) | decide +kernel) | decide +kernel
theorem d_LI2_0 : decode jdk_42_method_83_code 0 = .ok (.aload_n 0, 1) := by decide +kernel
theorem d_LI2_1 : decode jdk_42_method_83_code 1 = .ok (.invokevirtual 492, 3) := by decide +kernel
theorem d_LI2_4 : decode jdk_42_method_83_code 4 = .ok (.ifCond .eq 15, 3) := by decide +kernel
theorem d_LI2_7 : decode jdk_42_method_83_code 7 = .ok (.aload_n 0, 1) := by decide +kernel
theorem d_LI2_8 : decode jdk_42_method_83_code 8 = .ok (.getfield 9, 3) := by decide +kernel
theorem d_LI2_11 : decode jdk_42_method_83_code 11 = .ok (.iload_n 1, 1) := by decide +kernel
theorem d_LI2_12 : decode jdk_42_method_83_code 12 = .ok (.iload_n 2, 1) := by decide +kernel
theorem d_LI2_13 : decode jdk_42_method_83_code 13 = .ok (.invokestatic 644, 3) := by decide +kernel
theorem d_LI2_16 : decode jdk_42_method_83_code 16 = .ok (.goto 12, 3) := by decide +kernel
theorem d_LI2_19 : decode jdk_42_method_83_code 19 = .ok (.aload_n 0, 1) := by decide +kernel
theorem d_LI2_20 : decode jdk_42_method_83_code 20 = .ok (.getfield 9, 3) := by decide +kernel
theorem d_LI2_23 : decode jdk_42_method_83_code 23 = .ok (.iload_n 1, 1) := by decide +kernel
theorem d_LI2_24 : decode jdk_42_method_83_code 24 = .ok (.iload_n 2, 1) := by decide +kernel
theorem d_LI2_25 : decode jdk_42_method_83_code 25 = .ok (.invokestatic 646, 3) := by decide +kernel
theorem d_LI2_28 : decode jdk_42_method_83_code 28 = .ok (.ireturn, 1) := by decide +kernel
theorem pn_LI2 : plainFor (⟨"java/lang/String", "lastIndexOf", "(II)I"⟩ : MethodName) = true := by first | exact plainFor_of_name (by first | (simp [plainName, overriddenIn]; done) | decide +kernel) | decide +kernel
theorem d_LI1_0 : decode jdk_42_method_82_code 0 = .ok (.aload_n 0, 1) := by decide +kernel
theorem d_LI1_1 : decode jdk_42_method_82_code 1 = .ok (.iload_n 1, 1) := by decide +kernel
theorem d_LI1_2 : decode jdk_42_method_82_code 2 = .ok (.aload_n 0, 1) := by decide +kernel
theorem d_LI1_3 : decode jdk_42_method_82_code 3 = .ok (.invokevirtual 505, 3) := by decide +kernel
theorem d_LI1_6 : decode jdk_42_method_82_code 6 = .ok (.iconst 1, 1) := by decide +kernel
theorem d_LI1_7 : decode jdk_42_method_82_code 7 = .ok (.isub, 1) := by decide +kernel
theorem d_LI1_8 : decode jdk_42_method_82_code 8 = .ok (.invokevirtual 641, 3) := by decide +kernel
theorem d_LI1_11 : decode jdk_42_method_82_code 11 = .ok (.ireturn, 1) := by decide +kernel
theorem pn_LI1 : plainFor (⟨"java/lang/String", "lastIndexOf", "(I)I"⟩ : MethodName) = true := by first | exact plainFor_of_name (by first | (simp [plainName, overriddenIn]; done) | decide +kernel) | decide +kernel
theorem d_SUB1_0 : decode jdk_42_method_91_code 0 = .ok (.aload_n 0, 1) := by decide +kernel
theorem d_SUB1_1 : decode jdk_42_method_91_code 1 = .ok (.iload_n 1, 1) := by decide +kernel
theorem d_SUB1_2 : decode jdk_42_method_91_code 2 = .ok (.aload_n 0, 1) := by decide +kernel
theorem d_SUB1_3 : decode jdk_42_method_91_code 3 = .ok (.invokevirtual 505, 3) := by decide +kernel
theorem d_SUB1_6 : decode jdk_42_method_91_code 6 = .ok (.invokevirtual 681, 3) := by decide +kernel
theorem d_SUB1_9 : decode jdk_42_method_91_code 9 = .ok (.areturn, 1) := by decide +kernel
theorem pn_SUB1 : plainFor (⟨"java/lang/String", "substring", "(I)Ljava/lang/String;"⟩ : MethodName) = true := by first | exact plainFor_of_name (by first | (simp [plainName, overriddenIn]; done) | decide +kernel) | decide +kernel
section StrLix
variable {l : Launch} {Z : State} {a0 : Array Value} {EL : List (String × Nat)} {zc ch : Int32} {x t : Addr} {cx ct : Cell} {cs : List Int32} {fm : Value} {a : Nat}
/-- r: where ch lies last among cs, or -1 -/
def IdxL (cs : List Int32) (ch r : Int32) : Prop := (r = -1 ∧ ∀ j, j < cs.length → ¬ cs.getD j 0 = ch) ∨ ∃ i, i < cs.length ∧ r = Int32.ofNat i ∧ cs.getD i 0 = ch ∧ ∀ j, i < j → j < cs.length → ¬ cs.getD j 0 = ch
theorem c_LLX (hw : ∀ d ∈ tables_1, d.before a0 Z = true) (hEL : EW Z a0 EL) (h0 : ¬ ch < 0) (h1 : ¬ (255 : Int32) < ch) (hs : SC Z t cx ct cs) (hl : lat cs = true) :
    OCon l Z EL (⟨"java/lang/StringLatin1", "lastIndexOf", "([BII)I"⟩ : MethodName) jdk_43_method_27_code 4 (some .int) [] ({ frames := 1, cells := 0, slots := 0, locals := 13 } : Room) #[.ref t, .int ch, .int (Int32.ofNat cs.length - 1)] [] [(t, ct)] (fun v M N => M = [] ∧ N = [] ∧ ∃ r, v = some (.int r) ∧ IdxL cs ch r) := by
  refine OCon.of_wp (L0 := [.val (.ref t), .val (.int ch), .val (.int (Int32.ofNat cs.length - 1)), .unset]) pn_LLX hEL (fun m => by first | (simp [entryFrame, mkF, argsToLocals, Value.category]; done) | rfl) ?_
  intro p e s m below meth c hk
  have hA := hs.2.2.2.1
  have hc4 := hs.2.2.2.2.2
  rw [bytes_lat hl] at hA
  have loop : ∀ (k : Nat), k ≤ cs.length → (∀ j, k ≤ j → j < cs.length → ¬ cs.getD j 0 = ch) →
      OWp p l e ({ frames := 1, cells := 0, slots := 0, locals := 13 } : Room) s m #[.ref t, .int ch, .int (Int32.ofNat cs.length - 1)] below meth c "java/lang/StringLatin1" Z EL (dom []) [(t, ct)] (fun v M N => M = [] ∧ N = [] ∧ ∃ r, v = some (.int r) ∧ IdxL cs ch r)
        [] [] 0 0 18 [.val (.ref t), .val (.int ch), .val (.int (Int32.ofNat cs.length - 1)), .val (.int (Int32.ofNat k - 1))] [] := by
    intro k
    induction k with
    | zero =>
      intro _ hno
      refine OWp.iload_n hk d_LLX_18 (pc' := 19) rfl rfl ?_
      refine OWp.ifYes hk d_LLX_19 (XT.i0_lt_t (by decide)) (by decide) (pc' := 38) rfl ?_
      refine OWp.iconst hk d_LLX_38 (pc' := 39) rfl (z := -1) rfl ?_
      exact OWp.retI hk d_LLX_39 ⟨rfl, rfl, _, rfl, Or.inl ⟨rfl, fun j hj => hno j (Nat.zero_le _) hj⟩⟩ (List.Sublist.refl _) (fun _ h => h) (by decide) (by decide)
    | succ k ih =>
      intro hik hno
      have hi : k < cs.length := by omega
      have hc := hs.2.2.2.2.1 _ (getD_mem hi)
      have h255 := lat_iff.mp hl _ (getD_mem hi)
      have ek : Int32.ofNat (k + 1) - 1 = Int32.ofNat k := n_sub (a := 1) (b := k + 1) (by omega) (by omega)
      rw [ek]
      refine OWp.iload_n hk d_LLX_18 (pc' := 19) rfl rfl ?_
      refine OWp.ifNo hk d_LLX_19 (XT.i0_lt_f (n_nn (by omega))) (pc' := 22) rfl ?_
      refine OWp.aload_n hk d_LLX_22 (pc' := 23) rfl rfl rfl ?_
      refine OWp.iload_n hk d_LLX_23 (pc' := 24) rfl rfl ?_
      refine OWp.baload hk d_LLX_24 (pc' := 25) rfl (by simp) hA (n_nn (by omega)) (by rw [n_nat (by omega)]; exact tab_get hi) ?_
      refine OWp.iload_n hk d_LLX_25 (pc' := 26) rfl rfl ?_
      refine OWp.i2b hk d_LLX_26 (pc' := 27) rfl ?_
      by_cases q : cs.getD k 0 = ch
      · refine OWp.icmpNo hk d_LLX_27 (XT.ii_ne_f (by rw [q]; rfl)) (pc' := 30) rfl ?_
        refine OWp.iload_n hk d_LLX_30 (pc' := 31) rfl rfl ?_
        exact OWp.retI hk d_LLX_31 ⟨rfl, rfl, _, rfl, Or.inr ⟨k, hi, rfl, q, fun j q1 q2 => hno j q1 q2⟩⟩ (List.Sublist.refl _) (fun _ h => h) (by decide) (by decide)
      · refine OWp.icmpYes hk d_LLX_27 (XT.ii_ne_t (fun z => q (lo8_inj hc.1 h255 h0 h1 z))) (by decide) (pc' := 32) rfl ?_
        refine OWp.iinc hk d_LLX_32 (pc' := 35) rfl rfl (z := -1) rfl (by simp only [List.set_cons_zero, List.set_cons_succ]; rfl) ?_
        refine OWp.goto hk d_LLX_35 (by decide) (pc' := 18) rfl ?_
        rw [show Int32.ofNat k + -1 = Int32.ofNat k - 1 from (Int32.sub_eq_add_neg ..).symm]
        refine ih (by omega) fun j q1 q2 => ?_
        by_cases e : j = k
        · subst e; exact q
        · exact hno j (by omega) q2
  refine OWp.iload_n hk d_LLX_0 (pc' := 1) rfl rfl ?_
  refine OWp.callS hk d_LLX_1 (pc' := 4) rfl (hw _ (List.mem_of_getElem? (i := 61) rfl)) (hw _ (List.mem_of_getElem? (i := 62) rfl)) (hw _ (List.mem_of_getElem? (i := 59) rfl)) (hw _ (List.mem_of_getElem? (i := 63) rfl)) (by decide) (c_CENI hw hEL h0 h1) rfl (by simp) rfl (lenOf pd_16 rfl) rfl (W := 0) rfl (by first | decide | (dsimp only; omega)) (by first | decide | (dsimp only; omega)) (by first | decide | (dsimp only; omega)) (by first | decide | (dsimp only; omega)) ?_
  rintro _ _ _ ⟨rfl, rfl, rfl⟩
  refine OWp.ifYes hk d_LLX_4 (XT.i0_ne_t (by decide)) (by decide) (pc' := 9) rfl ?_
  refine OWp.iload_n hk d_LLX_9 (pc' := 10) rfl rfl ?_
  refine OWp.aload_n hk d_LLX_10 (pc' := 11) rfl rfl rfl ?_
  refine OWp.arraylength hk d_LLX_11 (pc' := 12) rfl (by simp) hA (z := Int32.ofNat cs.length) (by rw [tab_len]) ?_
  refine OWp.iconst hk d_LLX_12 (pc' := 13) rfl (z := 1) rfl ?_
  refine OWp.isub hk d_LLX_13 (pc' := 14) rfl ?_
  refine OWp.callS hk d_LLX_14 (pc' := 17) rfl (hw _ (List.mem_of_getElem? (i := 64) rfl)) (hw _ (List.mem_of_getElem? (i := 65) rfl)) (hw _ (List.mem_of_getElem? (i := 66) rfl)) (hw _ (List.mem_of_getElem? (i := 67) rfl)) (by decide) (c_MIN hw hEL) rfl (by simp) rfl (lenOf pd_10 rfl) rfl (W := 0) rfl (by first | decide | (dsimp only; omega)) (by first | decide | (dsimp only; omega)) (by first | decide | (dsimp only; omega)) (by first | decide | (dsimp only; omega)) ?_
  rintro _ _ _ ⟨rfl, rfl, rfl⟩
  rw [ite_self]
  refine OWp.istore_n hk d_LLX_17 (pc' := 18) rfl (kn := 3) rfl rfl (by simp only [List.set_cons_zero, List.set_cons_succ]; rfl) ?_
  exact loop cs.length (Nat.le_refl _) fun j q1 q2 => by omega
theorem c_LI2 (hw : ∀ d ∈ tables_1, d.before a0 Z = true) (hEL : EW Z a0 EL) (O2 : Sta Z Z.heap "java/lang/String" "COMPACT_STRINGS" "Z" (.int zc)) (hzc : ¬ zc = 0) (h0 : ¬ ch < 0) (h1 : ¬ (255 : Int32) < ch) (hs : SC Z t cx ct cs) (hl : lat cs = true) :
    OCon l Z EL (⟨"java/lang/String", "lastIndexOf", "(II)I"⟩ : MethodName) jdk_42_method_83_code 3 (some .int) [] ({ frames := 2, cells := 0, slots := 0, locals := 28 } : Room) #[.ref x, .int ch, .int (Int32.ofNat cs.length - 1)] [] [(x, cx), (t, ct)] (fun v M N => M = [] ∧ N = [] ∧ ∃ r, v = some (.int r) ∧ IdxL cs ch r) := by
  refine OCon.of_wp (L0 := [.val (.ref x), .val (.int ch), .val (.int (Int32.ofNat cs.length - 1))]) pn_LI2 hEL (fun m => by first | (simp [entryFrame, mkF, argsToLocals, Value.category]; done) | rfl) ?_
  intro p e s m below meth c hk
  refine OWp.aload_n hk d_LI2_0 (pc' := 1) rfl rfl rfl ?_
  refine OWp.callV hk d_LI2_1 (pc' := 4) rfl (hw _ (List.mem_of_getElem? (i := 52) rfl)) (hw _ (List.mem_of_getElem? (i := 53) rfl)) (nfs (hw _ (List.mem_of_getElem? (i := 55) rfl))) (hw _ (List.mem_of_getElem? (i := 55) rfl)) (hw _ (List.mem_of_getElem? (i := 54) rfl)) (hw _ (List.mem_of_getElem? (i := 8) rfl)) (hw _ (List.mem_of_getElem? (i := 56) rfl)) (by decide) (by simp) hs.1 (c_ISL hw hEL O2 hzc hs) rfl (by simp) rfl (lenOf pd_7 rfl) rfl (W := 0) rfl (by first | decide | (dsimp only; omega)) (by first | decide | (dsimp only; omega)) (by first | decide | (dsimp only; omega)) (by first | decide | (dsimp only; omega)) ?_
  rintro _ _ _ ⟨rfl, rfl, rfl⟩
  refine OWp.ifNo hk d_LI2_4 (XT.i0_eq_f (by rw [hl]; decide)) (pc' := 7) rfl ?_
  refine OWp.aload_n hk d_LI2_7 (pc' := 8) rfl rfl rfl ?_
  refine OWp.getfield hk d_LI2_8 (pc' := 11) rfl (hw _ (List.mem_of_getElem? (i := 25) rfl)) (by simp) hs.2.1 ?_
  refine OWp.iload_n hk d_LI2_11 (pc' := 12) rfl rfl ?_
  refine OWp.iload_n hk d_LI2_12 (pc' := 13) rfl rfl ?_
  refine OWp.callS hk d_LI2_13 (pc' := 16) rfl (hw _ (List.mem_of_getElem? (i := 57) rfl)) (hw _ (List.mem_of_getElem? (i := 58) rfl)) (hw _ (List.mem_of_getElem? (i := 59) rfl)) (hw _ (List.mem_of_getElem? (i := 60) rfl)) (by decide) (c_LLX hw hEL h0 h1 hs hl) rfl (by simp) rfl (lenOf pd_17 rfl) rfl (W := 0) rfl (by first | decide | (dsimp only; omega)) (by first | decide | (dsimp only; omega)) (by first | decide | (dsimp only; omega)) (by first | decide | (dsimp only; omega)) ?_
  rintro _ _ _ ⟨rfl, rfl, r, rfl, hr⟩
  refine OWp.goto hk d_LI2_16 (by decide) (pc' := 28) rfl ?_
  exact OWp.retI hk d_LI2_28 ⟨rfl, rfl, r, rfl, hr⟩ (List.Sublist.refl _) (fun _ h => h) (by decide) (by decide)
theorem c_LI1 (hw : ∀ d ∈ tables_1, d.before a0 Z = true) (hEL : EW Z a0 EL) (O2 : Sta Z Z.heap "java/lang/String" "COMPACT_STRINGS" "Z" (.int zc)) (hzc : ¬ zc = 0) (h0 : ¬ ch < 0) (h1 : ¬ (255 : Int32) < ch) (hs : SC Z t cx ct cs) (hl : lat cs = true) :
    OCon l Z EL (⟨"java/lang/String", "lastIndexOf", "(I)I"⟩ : MethodName) jdk_42_method_82_code 2 (some .int) [] ({ frames := 3, cells := 0, slots := 0, locals := 42 } : Room) #[.ref x, .int ch] [] [(x, cx), (t, ct)] (fun v M N => M = [] ∧ N = [] ∧ ∃ r, v = some (.int r) ∧ IdxL cs ch r) := by
  refine OCon.of_wp (L0 := [.val (.ref x), .val (.int ch)]) pn_LI1 hEL (fun m => by first | (simp [entryFrame, mkF, argsToLocals, Value.category]; done) | rfl) ?_
  intro p e s m below meth c hk
  refine OWp.aload_n hk d_LI1_0 (pc' := 1) rfl rfl rfl ?_
  refine OWp.iload_n hk d_LI1_1 (pc' := 2) rfl rfl ?_
  refine OWp.aload_n hk d_LI1_2 (pc' := 3) rfl rfl rfl ?_
  refine OWp.callV hk d_LI1_3 (pc' := 6) rfl (hw _ (List.mem_of_getElem? (i := 36) rfl)) (hw _ (List.mem_of_getElem? (i := 37) rfl)) (nfs (hw _ (List.mem_of_getElem? (i := 39) rfl))) (hw _ (List.mem_of_getElem? (i := 39) rfl)) (hw _ (List.mem_of_getElem? (i := 38) rfl)) (hw _ (List.mem_of_getElem? (i := 8) rfl)) (hw _ (List.mem_of_getElem? (i := 40) rfl)) (by decide) (by simp) hs.1 (c_LEN hw hEL O2 hzc hs) rfl (by simp) rfl (lenOf pd_13 rfl) rfl (W := 2) rfl (by first | decide | (dsimp only; omega)) (by first | decide | (dsimp only; omega)) (by first | decide | (dsimp only; omega)) (by first | decide | (dsimp only; omega)) ?_
  rintro _ _ _ ⟨rfl, rfl, rfl⟩
  refine OWp.iconst hk d_LI1_6 (pc' := 7) rfl (z := 1) rfl ?_
  refine OWp.isub hk d_LI1_7 (pc' := 8) rfl ?_
  refine OWp.callV hk d_LI1_8 (pc' := 11) rfl (hw _ (List.mem_of_getElem? (i := 47) rfl)) (hw _ (List.mem_of_getElem? (i := 48) rfl)) (nfs (hw _ (List.mem_of_getElem? (i := 50) rfl))) (hw _ (List.mem_of_getElem? (i := 50) rfl)) (hw _ (List.mem_of_getElem? (i := 49) rfl)) (hw _ (List.mem_of_getElem? (i := 8) rfl)) (hw _ (List.mem_of_getElem? (i := 51) rfl)) (by decide) (by simp) hs.1 (c_LI2 hw hEL O2 hzc h0 h1 hs hl) rfl (by simp) rfl (lenOf pd_10 rfl) rfl (W := 0) rfl (by first | decide | (dsimp only; omega)) (by first | decide | (dsimp only; omega)) (by first | decide | (dsimp only; omega)) (by first | decide | (dsimp only; omega)) ?_
  rintro _ _ _ ⟨rfl, rfl, r, rfl, hr⟩
  exact OWp.retI hk d_LI1_11 ⟨rfl, rfl, r, rfl, hr⟩ (List.Sublist.refl _) (fun _ h => h) (by decide) (by decide)
theorem c_SUB1 (hw : ∀ d ∈ tables_1, d.before a0 Z = true) (hEL : EW Z a0 EL) (O2 : Sta Z Z.heap "java/lang/String" "COMPACT_STRINGS" "Z" (.int zc)) (hzc : ¬ zc = 0) (O4 : Sta Z Z.heap "jdk/internal/util/Preconditions" "SIOOBE_FORMATTER" "Ljava/util/function/BiFunction;" fm) (hf : fm.isRef = true) (hmem : ("java/lang/StringLatin1", 151) ∈ EL) (hs : SC Z t cx ct cs) (hl : lat cs = true) (hab : a ≤ cs.length) (hcap : cs.length ≤ kCap) :
    OCon l Z EL (⟨"java/lang/String", "substring", "(I)Ljava/lang/String;"⟩ : MethodName) jdk_42_method_91_code 2 (some (.object "java/lang/String")) [] ({ frames := 5, cells := 2, slots := kCap + 4, locals := 80 } : Room) #[.ref x, .int (Int32.ofNat a)] [] [(x, cx), (t, ct)]
      (fun v M N => M = [] ∧ ∃ y u cy cu, v = some (.ref y) ∧ SC Z u cy cu (subL cs a cs.length) ∧ ((N = [] ∧ y = x ∧ u = t ∧ cy = cx ∧ cu = ct) ∨ N = [(y, cy), (u, cu)])) := by
  refine OCon.of_wp (L0 := [.val (.ref x), .val (.int (Int32.ofNat a))]) pn_SUB1 hEL (fun m => by first | (simp [entryFrame, mkF, argsToLocals, Value.category]; done) | rfl) ?_
  intro p e s m below meth c hk
  refine OWp.aload_n hk d_SUB1_0 (pc' := 1) rfl rfl rfl ?_
  refine OWp.iload_n hk d_SUB1_1 (pc' := 2) rfl rfl ?_
  refine OWp.aload_n hk d_SUB1_2 (pc' := 3) rfl rfl rfl ?_
  refine OWp.callV hk d_SUB1_3 (pc' := 6) rfl (hw _ (List.mem_of_getElem? (i := 36) rfl)) (hw _ (List.mem_of_getElem? (i := 37) rfl)) (nfs (hw _ (List.mem_of_getElem? (i := 39) rfl))) (hw _ (List.mem_of_getElem? (i := 39) rfl)) (hw _ (List.mem_of_getElem? (i := 38) rfl)) (hw _ (List.mem_of_getElem? (i := 8) rfl)) (hw _ (List.mem_of_getElem? (i := 40) rfl)) (by decide) (by simp) hs.1 (c_LEN hw hEL O2 hzc hs) rfl (by simp) rfl (lenOf pd_13 rfl) rfl (W := 2) rfl (by first | decide | (dsimp only; omega)) (by first | decide | (dsimp only; omega)) (by first | decide | (dsimp only; omega)) (by first | decide | (dsimp only; omega)) ?_
  rintro _ _ _ ⟨rfl, rfl, rfl⟩
  refine OWp.callV hk d_SUB1_6 (pc' := 9) rfl (hw _ (List.mem_of_getElem? (i := 73) rfl)) (hw _ (List.mem_of_getElem? (i := 74) rfl)) (nfs (hw _ (List.mem_of_getElem? (i := 76) rfl))) (hw _ (List.mem_of_getElem? (i := 76) rfl)) (hw _ (List.mem_of_getElem? (i := 75) rfl)) (hw _ (List.mem_of_getElem? (i := 8) rfl)) (hw _ (List.mem_of_getElem? (i := 77) rfl)) (by decide) (by simp) hs.1 (c_SUB hw hEL O2 hzc O4 hf hmem hs hl hab (Nat.le_refl _) (by omega)) rfl (by simp) rfl (lenOf pd_18 rfl) rfl (W := 0) rfl (by first | decide | (dsimp only; omega)) (by first | decide | (dsimp only; omega)) (by first | decide | (dsimp only; omega)) (by first | decide | (dsimp only; omega)) ?_
  rintro _ _ _ ⟨rfl, y, u, cy, cu, rfl, hS, hN⟩
  exact OWp.retA hk rfl rfl rfl d_SUB1_9 ⟨rfl, y, u, cy, cu, rfl, hS, hN⟩ (List.Sublist.refl _) (fun _ h => by simpa using h) (by decide) (by decide)
end StrLix
theorem d_DRAW_0 : decode method_2_code 0 = .ok (.iload_n 0, 1) := by decide +kernel
theorem d_DRAW_1 : decode method_2_code 1 = .ok (.iconst 3, 1) := by decide +kernel
theorem d_DRAW_2 : decode method_2_code 2 = .ok (.iand, 1) := by decide +kernel
theorem d_DRAW_3 : decode method_2_code 3 = .ok (.ifCond .ne 6, 3) := by decide +kernel
theorem d_DRAW_6 : decode method_2_code 6 = .ok (.bipush 46, 2) := by decide +kernel
theorem d_DRAW_8 : decode method_2_code 8 = .ok (.ireturn, 1) := by decide +kernel
theorem d_DRAW_9 : decode method_2_code 9 = .ok (.iload_n 0, 1) := by decide +kernel
theorem d_DRAW_10 : decode method_2_code 10 = .ok (.iconst 2, 1) := by decide +kernel
theorem d_DRAW_11 : decode method_2_code 11 = .ok (.iushr, 1) := by decide +kernel
theorem d_DRAW_12 : decode method_2_code 12 = .ok (.sipush 255, 3) := by decide +kernel
theorem d_DRAW_15 : decode method_2_code 15 = .ok (.iand, 1) := by decide +kernel
theorem d_DRAW_16 : decode method_2_code 16 = .ok (.i2c, 1) := by decide +kernel
theorem d_DRAW_17 : decode method_2_code 17 = .ok (.ireturn, 1) := by decide +kernel
theorem pn_DRAW : plainFor (⟨"com/example/goals_to_queue/goalstoqueue/QueueEntrySimpleNamePinLaw", "draw", "(I)C"⟩ : MethodName) = true := by first | exact plainFor_of_name (by first | (simp [plainName, overriddenIn]; done) | decide +kernel) | decide +kernel
theorem d_SAME_0 : decode method_3_code 0 = .ok (.iload_n 1, 1) := by decide +kernel
theorem d_SAME_1 : decode method_3_code 1 = .ok (.aload_n 0, 1) := by decide +kernel
theorem d_SAME_2 : decode method_3_code 2 = .ok (.invokevirtual 7, 3) := by decide +kernel
theorem d_SAME_5 : decode method_3_code 5 = .ok (.if_icmp .lt 5, 3) := by decide +kernel
theorem d_SAME_8 : decode method_3_code 8 = .ok (.iconst 1, 1) := by decide +kernel
theorem d_SAME_9 : decode method_3_code 9 = .ok (.ireturn, 1) := by decide +kernel
theorem d_SAME_10 : decode method_3_code 10 = .ok (.aload_n 0, 1) := by decide +kernel
theorem d_SAME_11 : decode method_3_code 11 = .ok (.iload_n 1, 1) := by decide +kernel
theorem d_SAME_12 : decode method_3_code 12 = .ok (.invokevirtual 13, 3) := by decide +kernel
theorem d_SAME_15 : decode method_3_code 15 = .ok (.aload_n 2, 1) := by decide +kernel
theorem d_SAME_16 : decode method_3_code 16 = .ok (.iload_n 3, 1) := by decide +kernel
theorem d_SAME_17 : decode method_3_code 17 = .ok (.iload_n 1, 1) := by decide +kernel
theorem d_SAME_18 : decode method_3_code 18 = .ok (.iadd, 1) := by decide +kernel
theorem d_SAME_19 : decode method_3_code 19 = .ok (.caload, 1) := by decide +kernel
theorem d_SAME_20 : decode method_3_code 20 = .ok (.if_icmp .ne 7, 3) := by decide +kernel
theorem d_SAME_23 : decode method_3_code 23 = .ok (.iconst 1, 1) := by decide +kernel
theorem d_SAME_24 : decode method_3_code 24 = .ok (.goto 4, 3) := by decide +kernel
theorem d_SAME_27 : decode method_3_code 27 = .ok (.iconst 0, 1) := by decide +kernel
theorem d_SAME_28 : decode method_3_code 28 = .ok (.ireturn, 1) := by decide +kernel
theorem pn_SAME : plainFor (⟨"com/example/goals_to_queue/goalstoqueue/QueueEntrySimpleNamePinLaw", "same", "(Ljava/lang/String;I[CI)Z"⟩ : MethodName) = true := by first | exact plainFor_of_name (by first | (simp [plainName, overriddenIn]; done) | decide +kernel) | decide +kernel
theorem d_SN_0 : decode prog_26_method_18_code 0 = .ok (.aload_n 0, 1) := by decide +kernel
theorem d_SN_1 : decode prog_26_method_18_code 1 = .ok (.aload_n 0, 1) := by decide +kernel
theorem d_SN_2 : decode prog_26_method_18_code 2 = .ok (.bipush 46, 2) := by decide +kernel
theorem d_SN_4 : decode prog_26_method_18_code 4 = .ok (.invokevirtual 143, 3) := by decide +kernel
theorem d_SN_7 : decode prog_26_method_18_code 7 = .ok (.iconst 1, 1) := by decide +kernel
theorem d_SN_8 : decode prog_26_method_18_code 8 = .ok (.iadd, 1) := by decide +kernel
theorem d_SN_9 : decode prog_26_method_18_code 9 = .ok (.invokevirtual 149, 3) := by decide +kernel
theorem d_SN_12 : decode prog_26_method_18_code 12 = .ok (.areturn, 1) := by decide +kernel
theorem pn_SN : plainFor (⟨"com/example/goals_to_queue/goalstoqueue/QueueEntry", "simpleName", "(Ljava/lang/String;)Ljava/lang/String;"⟩ : MethodName) = true := by first | exact plainFor_of_name (by first | (simp [plainName, overriddenIn]; done) | decide +kernel) | decide +kernel
theorem pn_law : plainFor (⟨"com/example/goals_to_queue/goalstoqueue/QueueEntrySimpleNamePinLaw", "law", "(IIIII)Z"⟩ : MethodName) = true := by first | exact plainFor_of_name (by first | (simp [plainName, overriddenIn]; done) | decide +kernel) | decide +kernel
section Own
variable {l : Launch} {Z : State} {a0 : Array Value} {EL : List (String × Nat)} {zc b : Int32} {x y z t k a : Addr} {cx ct ck ca : Cell} {cs : List Int32} {fm v0 v1 : Value} {vs : List Value} {j st : Nat}
theorem c_DRAW (hw : ∀ d ∈ tables_1, d.before a0 Z = true) (hEL : EW Z a0 EL) (q0 : Int32) :
    OCon l Z EL (⟨"com/example/goals_to_queue/goalstoqueue/QueueEntrySimpleNamePinLaw", "draw", "(I)C"⟩ : MethodName) method_2_code 1 (some .char) [] ({ frames := 0, cells := 0, slots := 0, locals := 0 } : Room) #[.int q0] [] []
      (fun v M N => M = [] ∧ N = [] ∧ ∃ c, v = some (.int c) ∧ nar .char c = c ∧ ¬ c < 0 ∧ ¬ (255 : Int32) < c) := by
  refine OCon.of_wp (L0 := [.val (.int q0)]) pn_DRAW hEL (fun m => by first | (simp [entryFrame, mkF, argsToLocals, Value.category]; done) | rfl) ?_
  intro p e s m below meth c hk
  refine OWp.iload_n hk d_DRAW_0 (pc' := 1) rfl rfl ?_
  refine OWp.iconst hk d_DRAW_1 (pc' := 2) rfl (z := 3) rfl ?_
  refine OWp.iand hk d_DRAW_2 (pc' := 3) rfl ?_
  by_cases h0 : q0 &&& 3 = 0
  · refine OWp.ifNo hk d_DRAW_3 (XT.i0_ne_f h0) (pc' := 6) rfl ?_
    refine OWp.bipush hk d_DRAW_6 (pc' := 8) rfl (z := 46) rfl ?_
    exact OWp.retN hk (Or.inr (Or.inr (Or.inl rfl))) d_DRAW_8 ⟨rfl, rfl, 46, rfl, by decide, by decide, by decide⟩ (List.Sublist.refl _) (fun _ h => h) (by decide) (by decide)
  · refine OWp.ifYes hk d_DRAW_3 (XT.i0_ne_t h0) (by decide) (pc' := 9) rfl ?_
    refine OWp.iload_n hk d_DRAW_9 (pc' := 10) rfl rfl ?_
    refine OWp.iconst hk d_DRAW_10 (pc' := 11) rfl (z := 2) rfl ?_
    refine OWp.iushr hk d_DRAW_11 (pc' := 12) rfl ?_
    refine OWp.sipush hk d_DRAW_12 (pc' := 15) rfl (z := 255) rfl ?_
    refine OWp.iand hk d_DRAW_15 (pc' := 16) rfl ?_
    refine OWp.i2c hk d_DRAW_16 (pc' := 17) rfl ?_
    exact OWp.retN hk (Or.inr (Or.inr (Or.inl rfl))) d_DRAW_17 ⟨rfl, rfl, _, rfl, nar_nar _, by rw [nar_char_id (msk_lat _).1 (lt_65535 (msk_lat _).2)]; exact msk_lat _⟩ (List.Sublist.refl _) (fun _ h => h) (by decide) (by decide)
theorem c_SAME (hw : ∀ d ∈ tables_1, d.before a0 Z = true) (hEL : EW Z a0 EL) (O2 : Sta Z Z.heap "java/lang/String" "COMPACT_STRINGS" "Z" (.int zc)) (hzc : ¬ zc = 0) (O4 : Sta Z Z.heap "jdk/internal/util/Preconditions" "SIOOBE_FORMATTER" "Ljava/util/function/BiFunction;" fm) (hf : fm.isRef = true) (hs : SC Z t cx ct cs) (hl : lat cs = true) (hA : AC Z ca .char vs) (hj : j < 4000) (hst : st ≤ 4000) (hyes : j < cs.length → vs[st + j]? = some (.int (cs.getD j 0))) :
    OCon l Z EL (⟨"com/example/goals_to_queue/goalstoqueue/QueueEntrySimpleNamePinLaw", "same", "(Ljava/lang/String;I[CI)Z"⟩ : MethodName) method_3_code 4 (some .boolean) [] ({ frames := 4, cells := 0, slots := 0, locals := 53 } : Room) #[.ref x, .int (Int32.ofNat j), .ref a, .int (Int32.ofNat st)] [] [(x, cx), (t, ct), (a, ca)] (fun v M N => v = some (.int 1) ∧ M = [] ∧ N = []) := by
  refine OCon.of_wp (L0 := [.val (.ref x), .val (.int (Int32.ofNat j)), .val (.ref a), .val (.int (Int32.ofNat st))]) pn_SAME hEL (fun m => by first | (simp [entryFrame, mkF, argsToLocals, Value.category]; done) | rfl) ?_
  intro p e s m below meth c hk
  have h4 := hs.2.2.2.2.2
  refine OWp.iload_n hk d_SAME_0 (pc' := 1) rfl rfl ?_
  refine OWp.aload_n hk d_SAME_1 (pc' := 2) rfl rfl rfl ?_
  refine OWp.callV hk d_SAME_2 (pc' := 5) rfl (hw _ (List.mem_of_getElem? (i := 86) rfl)) (hw _ (List.mem_of_getElem? (i := 37) rfl)) (nfs (hw _ (List.mem_of_getElem? (i := 39) rfl))) (hw _ (List.mem_of_getElem? (i := 39) rfl)) (hw _ (List.mem_of_getElem? (i := 38) rfl)) (hw _ (List.mem_of_getElem? (i := 8) rfl)) (hw _ (List.mem_of_getElem? (i := 40) rfl)) (by decide) (by simp) hs.1 (c_LEN hw hEL O2 hzc hs) rfl (by simp) rfl (lenOf pd_13 rfl) rfl (W := 1) rfl (by first | decide | (dsimp only; omega)) (by first | decide | (dsimp only; omega)) (by first | decide | (dsimp only; omega)) (by first | decide | (dsimp only; omega)) ?_
  rintro _ _ _ ⟨rfl, rfl, rfl⟩
  by_cases q : j < cs.length
  · refine OWp.icmpYes hk d_SAME_5 (XT.ii_lt_t (by rw [n_lt (by omega) (by omega)]; exact q)) (by decide) (pc' := 10) rfl ?_
    refine OWp.aload_n hk d_SAME_10 (pc' := 11) rfl rfl rfl ?_
    refine OWp.iload_n hk d_SAME_11 (pc' := 12) rfl rfl ?_
    refine OWp.callV hk d_SAME_12 (pc' := 15) rfl (hw _ (List.mem_of_getElem? (i := 104) rfl)) (hw _ (List.mem_of_getElem? (i := 105) rfl)) (nfs (hw _ (List.mem_of_getElem? (i := 107) rfl))) (hw _ (List.mem_of_getElem? (i := 107) rfl)) (hw _ (List.mem_of_getElem? (i := 106) rfl)) (hw _ (List.mem_of_getElem? (i := 8) rfl)) (hw _ (List.mem_of_getElem? (i := 108) rfl)) (by decide) (by simp) hs.1 (c_CHA (i := j) hw hEL O2 hzc O4 hf hs hl q) rfl (by simp) rfl (lenOf pd_19 rfl) rfl (W := 0) rfl (by first | decide | (dsimp only; omega)) (by first | decide | (dsimp only; omega)) (by first | decide | (dsimp only; omega)) (by first | decide | (dsimp only; omega)) ?_
    rintro _ _ _ ⟨rfl, rfl, rfl⟩
    refine OWp.aload_n hk d_SAME_15 (pc' := 16) rfl rfl rfl ?_
    refine OWp.iload_n hk d_SAME_16 (pc' := 17) rfl rfl ?_
    refine OWp.iload_n hk d_SAME_17 (pc' := 18) rfl rfl ?_
    refine OWp.iadd hk d_SAME_18 (pc' := 19) rfl ?_
    rw [n_add]
    refine OWp.caload hk d_SAME_19 (pc' := 20) rfl (by simp) hA (n_nn (by omega)) (by rw [n_nat (by omega)]; exact hyes q) ?_
    refine OWp.icmpNo hk d_SAME_20 (XT.ii_ne_f rfl) (pc' := 23) rfl ?_
    refine OWp.iconst hk d_SAME_23 (pc' := 24) rfl (z := 1) rfl ?_
    refine OWp.goto hk d_SAME_24 (by decide) (pc' := 28) rfl ?_
    exact OWp.retN hk (Or.inl rfl) d_SAME_28 ⟨rfl, rfl, rfl⟩ (List.Sublist.refl _) (fun _ h => h) (by decide) (by decide)
  · refine OWp.icmpNo hk d_SAME_5 (XT.ii_lt_f (by rw [n_lt (by omega) (by omega)]; exact q)) (pc' := 8) rfl ?_
    refine OWp.iconst hk d_SAME_8 (pc' := 9) rfl (z := 1) rfl ?_
    exact OWp.retN hk (Or.inl rfl) d_SAME_9 ⟨rfl, rfl, rfl⟩ (List.Sublist.refl _) (fun _ h => h) (by decide) (by decide)
/-- st: just behind the last ch of cs's first j chars, or 0 -/
def Lst (cs : List Int32) (ch : Int32) (j st : Nat) : Prop := st ≤ cs.length ∧ (0 < st → cs.getD (st - 1) 0 = ch) ∧ ∀ i, st ≤ i → i < j → i < cs.length → ¬ cs.getD i 0 = ch
theorem Lst.uniq {cs : List Int32} {ch : Int32} {j k k' : Nat} (hj : cs.length ≤ j) (h : Lst cs ch j k) (h' : Lst cs ch j k') : k = k' := by
  have a1 := h.1
  have a2 := h'.1
  rcases Nat.lt_trichotomy k k' with q | q | q
  · exact absurd (h'.2.1 (by omega)) (h.2.2 (k' - 1) (by omega) (by omega) (by omega))
  · exact q
  · exact absurd (h.2.1 (by omega)) (h'.2.2 (k - 1) (by omega) (by omega) (by omega))
theorem c_SN (hw : ∀ d ∈ tables_1, d.before a0 Z = true) (hEL : EW Z a0 EL) (O2 : Sta Z Z.heap "java/lang/String" "COMPACT_STRINGS" "Z" (.int zc)) (hzc : ¬ zc = 0) (O4 : Sta Z Z.heap "jdk/internal/util/Preconditions" "SIOOBE_FORMATTER" "Ljava/util/function/BiFunction;" fm) (hf : fm.isRef = true) (hmem : ("java/lang/StringLatin1", 151) ∈ EL) (hs : SC Z t cx ct cs) (hl : lat cs = true) (hcap : cs.length ≤ kCap) :
    OCon l Z EL (⟨"com/example/goals_to_queue/goalstoqueue/QueueEntry", "simpleName", "(Ljava/lang/String;)Ljava/lang/String;"⟩ : MethodName) prog_26_method_18_code 1 (some (.object "java/lang/String")) [] ({ frames := 6, cells := 2, slots := kCap + 4, locals := 93 } : Room) #[.ref x] [] [(x, cx), (t, ct)]
      (fun v M N => M = [] ∧ ∃ y u cy cu k, v = some (.ref y) ∧ Lst cs 46 4 k ∧ SC Z u cy cu (subL cs k cs.length) ∧ ((N = [] ∧ y = x ∧ u = t ∧ cy = cx ∧ cu = ct) ∨ N = [(y, cy), (u, cu)])) := by
  refine OCon.of_wp (L0 := [.val (.ref x)]) pn_SN hEL (fun m => by first | (simp [entryFrame, mkF, argsToLocals, Value.category]; done) | rfl) ?_
  intro p e s m below meth c hk
  have h4 := hs.2.2.2.2.2
  refine OWp.aload_n hk d_SN_0 (pc' := 1) rfl rfl rfl ?_
  refine OWp.aload_n hk d_SN_1 (pc' := 2) rfl rfl rfl ?_
  refine OWp.bipush hk d_SN_2 (pc' := 4) rfl (z := 46) rfl ?_
  refine OWp.callV hk d_SN_4 (pc' := 7) rfl (hw _ (List.mem_of_getElem? (i := 31) rfl)) (hw _ (List.mem_of_getElem? (i := 32) rfl)) (nfs (hw _ (List.mem_of_getElem? (i := 34) rfl))) (hw _ (List.mem_of_getElem? (i := 34) rfl)) (hw _ (List.mem_of_getElem? (i := 33) rfl)) (hw _ (List.mem_of_getElem? (i := 8) rfl)) (hw _ (List.mem_of_getElem? (i := 35) rfl)) (by decide) (by simp) hs.1 (c_LI1 hw hEL O2 hzc (by decide) (by decide) hs hl) rfl (by simp) rfl (lenOf pd_20 rfl) rfl (W := 1) rfl (by first | decide | (dsimp only; omega)) (by first | decide | (dsimp only; omega)) (by first | decide | (dsimp only; omega)) (by first | decide | (dsimp only; omega)) ?_
  rintro _ _ _ ⟨rfl, rfl, r, rfl, hr⟩
  obtain ⟨k, ek, hL⟩ : ∃ k : Nat, r + 1 = Int32.ofNat k ∧ Lst cs 46 4 k := by
    rcases hr with ⟨rfl, hno⟩ | ⟨i, hi, rfl, hat, haft⟩
    · exact ⟨0, by decide, Nat.zero_le _, fun q => absurd q (Nat.lt_irrefl _), fun i _ _ q => hno i q⟩
    · exact ⟨i + 1, n_succ i, hi, fun _ => hat, fun j q1 _ q2 => haft j q1 q2⟩
  refine OWp.iconst hk d_SN_7 (pc' := 8) rfl (z := 1) rfl ?_
  refine OWp.iadd hk d_SN_8 (pc' := 9) rfl ?_
  rw [ek]
  refine OWp.callV hk d_SN_9 (pc' := 12) rfl (hw _ (List.mem_of_getElem? (i := 68) rfl)) (hw _ (List.mem_of_getElem? (i := 69) rfl)) (nfs (hw _ (List.mem_of_getElem? (i := 71) rfl))) (hw _ (List.mem_of_getElem? (i := 71) rfl)) (hw _ (List.mem_of_getElem? (i := 70) rfl)) (hw _ (List.mem_of_getElem? (i := 8) rfl)) (hw _ (List.mem_of_getElem? (i := 72) rfl)) (by decide) (by simp) hs.1 (c_SUB1 hw hEL O2 hzc O4 hf hmem hs hl hL.1 hcap) rfl (by simp) rfl (lenOf pd_21 rfl) rfl (W := 0) rfl (by first | decide | (dsimp only; omega)) (by first | decide | (dsimp only; omega)) (by first | decide | (dsimp only; omega)) (by first | decide | (dsimp only; omega)) ?_
  rintro _ _ _ ⟨rfl, y, u, cy, cu, rfl, hS, hN⟩
  exact OWp.retA hk rfl rfl rfl d_SN_12 ⟨rfl, y, u, cy, cu, k, rfl, hL, hS, hN⟩ (List.Sublist.refl _) (fun _ h => by simpa using h) (by decide) (by decide)
theorem rem5 (i : Int32) : ∃ n : Nat, n < 5 ∧ (i &&& 2147483647) % 5 = Int32.ofNat n := by
  have h := c_and i 2147483647 (by decide)
  have e6 : (5 : Int32).toInt = 5 := by decide
  have r := (c_irem (i &&& 2147483647) 5 5 e6).1 (by omega)
  refine ⟨((i &&& 2147483647) % 5).toInt.toNat, by omega, i_eq ?_⟩
  rw [n_int (by omega)]; omega
end Own
section Law
variable {l : Launch} {Z : State} {a0 : Array Value} {EL : List (String × Nat)} {zc : Int32} {am al : Addr} {fm : Value}
set_option maxRecDepth 65536 in
theorem c_law (hw : ∀ d ∈ tables_1, d.before a0 Z = true) (hEL : EW Z a0 EL) (O2 : Sta Z Z.heap "java/lang/String" "COMPACT_STRINGS" "Z" (.int zc)) (hzc : ¬ zc = 0) (O4 : Sta Z Z.heap "jdk/internal/util/Preconditions" "SIOOBE_FORMATTER" "Ljava/util/function/BiFunction;" fm) (hf : fm.isRef = true)
    (hmem : ("java/lang/String", 7) ∈ EL) (hmem2 : ("java/lang/StringLatin1", 151) ∈ EL) (p1 p2 p3 p4 p5 : Int32) :
    OCon l Z EL x code maxLocals ret tables_1 room_1 #[.int p1, .int p2, .int p3, .int p4, .int p5] [] [] (fun v _ _ => v = some (.int 1)) := by
  refine OCon.of_wp (L0 := [.val (.int p1), .val (.int p2), .val (.int p3), .val (.int p4), .val (.int p5), .unset, .unset, .unset, .unset, .unset, .unset]) pn_law hEL (fun m => by first | (simp [entryFrame, mkF, argsToLocals, Value.category, maxLocals]; done) | rfl) ?_
  intro p e s m below meth c hk
  obtain ⟨n, hn5, en⟩ := rem5 p5
  refine OWp.iconst hk at_0 (pc' := 1) rfl (z := 4) rfl ?_
  refine OWp.newarray hk at_1 (pc' := 3) rfl (hw _ (List.mem_of_getElem? (i := 0) rfl)) (by decide) (cap := 4) (by decide) (by decide) (by decide) (by decide) (vs := [.int 0, .int 0, .int 0, .int 0]) rfl ?_
  intro src csr hA
  refine OWp.dup hk at_3 (pc' := 4) rfl rfl ?_
  refine OWp.iconst hk at_4 (pc' := 5) rfl (z := 0) rfl ?_
  refine OWp.iload_n hk at_5 (pc' := 6) rfl rfl ?_
  refine OWp.callS hk at_6 (pc' := 9) rfl (hw _ (List.mem_of_getElem? (i := 1) rfl)) (hw _ (List.mem_of_getElem? (i := 2) rfl)) (hw _ (List.mem_of_getElem? (i := 3) rfl)) (hw _ (List.mem_of_getElem? (i := 4) rfl)) (by decide) (c_DRAW hw hEL p1) rfl (by simp) rfl (lenOf pd_19 rfl) rfl (W := 3) rfl (by first | decide | (dsimp only; omega)) (by first | decide | (dsimp only; omega)) (by first | decide | (dsimp only; omega)) (by first | decide | (dsimp only; omega)) ?_
  rintro _ _ _ ⟨rfl, rfl, c0, rfl, m0, u0, w0⟩
  simp only [List.nil_append]
  refine OWp.castore hk at_9 (pc' := 10) rfl (i := 0) rfl hA (by decide) (t := 0) (by decide) (Nat.le_of_ble_eq_true rfl) ?_
  clear hA
  intro csr hA
  simp only [List.nil_append, List.cons_append, List.set_cons_zero, List.set_cons_succ] at hA ⊢
  refine OWp.dup hk at_10 (pc' := 11) rfl rfl ?_
  refine OWp.iconst hk at_11 (pc' := 12) rfl (z := 1) rfl ?_
  refine OWp.iload_n hk at_12 (pc' := 13) rfl rfl ?_
  refine OWp.callS hk at_13 (pc' := 16) rfl (hw _ (List.mem_of_getElem? (i := 1) rfl)) (hw _ (List.mem_of_getElem? (i := 2) rfl)) (hw _ (List.mem_of_getElem? (i := 3) rfl)) (hw _ (List.mem_of_getElem? (i := 4) rfl)) (by decide) (c_DRAW hw hEL p2) rfl (by simp) rfl (lenOf pd_19 rfl) rfl (W := 3) rfl (by first | decide | (dsimp only; omega)) (by first | decide | (dsimp only; omega)) (by first | decide | (dsimp only; omega)) (by first | decide | (dsimp only; omega)) ?_
  rintro _ _ _ ⟨rfl, rfl, c1, rfl, m1, u1, w1⟩
  simp only [List.nil_append]
  refine OWp.castore hk at_16 (pc' := 17) rfl (i := 0) rfl hA (by decide) (t := 1) (by decide) (Nat.le_of_ble_eq_true rfl) ?_
  clear hA
  intro csr hA
  simp only [List.nil_append, List.cons_append, List.set_cons_zero, List.set_cons_succ] at hA ⊢
  refine OWp.dup hk at_17 (pc' := 18) rfl rfl ?_
  refine OWp.iconst hk at_18 (pc' := 19) rfl (z := 2) rfl ?_
  refine OWp.iload_n hk at_19 (pc' := 20) rfl rfl ?_
  refine OWp.callS hk at_20 (pc' := 23) rfl (hw _ (List.mem_of_getElem? (i := 1) rfl)) (hw _ (List.mem_of_getElem? (i := 2) rfl)) (hw _ (List.mem_of_getElem? (i := 3) rfl)) (hw _ (List.mem_of_getElem? (i := 4) rfl)) (by decide) (c_DRAW hw hEL p3) rfl (by simp) rfl (lenOf pd_19 rfl) rfl (W := 3) rfl (by first | decide | (dsimp only; omega)) (by first | decide | (dsimp only; omega)) (by first | decide | (dsimp only; omega)) (by first | decide | (dsimp only; omega)) ?_
  rintro _ _ _ ⟨rfl, rfl, c2, rfl, m2, u2, w2⟩
  simp only [List.nil_append]
  refine OWp.castore hk at_23 (pc' := 24) rfl (i := 0) rfl hA (by decide) (t := 2) (by decide) (Nat.le_of_ble_eq_true rfl) ?_
  clear hA
  intro csr hA
  simp only [List.nil_append, List.cons_append, List.set_cons_zero, List.set_cons_succ] at hA ⊢
  refine OWp.dup hk at_24 (pc' := 25) rfl rfl ?_
  refine OWp.iconst hk at_25 (pc' := 26) rfl (z := 3) rfl ?_
  refine OWp.iload_n hk at_26 (pc' := 27) rfl rfl ?_
  refine OWp.callS hk at_27 (pc' := 30) rfl (hw _ (List.mem_of_getElem? (i := 1) rfl)) (hw _ (List.mem_of_getElem? (i := 2) rfl)) (hw _ (List.mem_of_getElem? (i := 3) rfl)) (hw _ (List.mem_of_getElem? (i := 4) rfl)) (by decide) (c_DRAW hw hEL p4) rfl (by simp) rfl (lenOf pd_19 rfl) rfl (W := 3) rfl (by first | decide | (dsimp only; omega)) (by first | decide | (dsimp only; omega)) (by first | decide | (dsimp only; omega)) (by first | decide | (dsimp only; omega)) ?_
  rintro _ _ _ ⟨rfl, rfl, c3, rfl, m3, u3, w3⟩
  simp only [List.nil_append]
  refine OWp.castore hk at_30 (pc' := 31) rfl (i := 0) rfl hA (by decide) (t := 3) (by decide) (Nat.le_of_ble_eq_true rfl) ?_
  clear hA
  intro csr hA
  simp only [List.nil_append, List.cons_append, List.set_cons_zero, List.set_cons_succ] at hA ⊢
  rw [m0, m1, m2, m3] at hA
  refine OWp.freeze ?_
  refine OWp.astore hk at_31 (pc' := 33) rfl rfl rfl (by simp only [List.set_cons_zero, List.set_cons_succ]; rfl) ?_
  refine OWp.iload hk at_33 (pc' := 35) rfl rfl ?_
  refine OWp.ldcI hk at_35 (pc' := 37) rfl (hw _ (List.mem_of_getElem? (i := 5) rfl)) ?_
  refine OWp.iand hk at_37 (pc' := 38) rfl ?_
  refine OWp.iconst hk at_38 (pc' := 39) rfl (z := 5) rfl ?_
  refine OWp.irem hk at_39 (pc' := 40) rfl (by decide) ?_
  rw [en]
  refine OWp.istore hk at_40 (pc' := 42) rfl rfl (by simp only [List.set_cons_zero, List.set_cons_succ]; rfl) ?_
  refine OWp.iload hk at_42 (pc' := 44) rfl rfl ?_
  have hl4 : lat [c0, c1, c2, c3] = true := lat_cons w0 (lat_cons w1 (lat_cons w2 (lat_cons w3 rfl)))
  have hch4 : Chars [c0, c1, c2, c3] := by
    have := ch_cons c0 (ch_cons c1 (ch_cons c2 (ch_cons c3 ch_nil (by simp)) (by simp)) (by simp)) (by simp)
    rwa [m0, m1, m2, m3] at this
  have hlen : (subL [c0, c1, c2, c3] 0 n).length = n := subL_len (by simp; omega)
  have hcap : (subL [c0, c1, c2, c3] 0 n).length ≤ kCap := by rw [hlen]; show n ≤ 4; omega
  have hat : ∀ j, j < n → (subL [c0, c1, c2, c3] 0 n).getD j 0 = [c0, c1, c2, c3].getD j 0 := fun j hj => by rw [subL_get (by omega), Nat.zero_add]
  have tailC : ∀ (cells slots : Nat) (a : Addr) (ca : Cell), cells ≤ 2 → slots ≤ 40 → AC Z ca .char ((subL [c0, c1, c2, c3] 0 n).map Value.int) → OWp p l e room_1 s m #[.int p1, .int p2, .int p3, .int p4, .int p5] below meth c x.cls Z EL (dom []) [] (fun v _ _ => v = some (.int 1)) [(a, ca)] [(src, csr)] cells slots 172 [.val (.int p1), .val (.int p2), .val (.int p3), .val (.int p4), .val (.int p5), .val (.ref src), .val (.int (Int32.ofNat n)), .val (.ref a), .unset, .unset, .unset] [] := by
    intro cells slots a ca hce hsl hB
    refine OWp.more (cells' := 2) (slots' := 40) hce hsl ?_
    refine OWp.new hk at_172 (pc' := 175) rfl (hw _ (List.mem_of_getElem? (i := 6) rfl)) (hw _ (List.mem_of_getElem? (i := 7) rfl)) (hw _ (List.mem_of_getElem? (i := 8) rfl)) (by decide) (by decide) ?_
    intro sx cx hE hD
    have hV : FC Z cx "java/lang/String" "value" "[B" .null := hD (Or.inr (hw _ (List.mem_of_getElem? (i := 21) rfl))) (ty := .array .byte) (by decide)
    have hC : FC Z cx "java/lang/String" "coder" "B" (.int 0) := hD (Or.inr (hw _ (List.mem_of_getElem? (i := 22) rfl))) (ty := .byte) (by decide)
    refine OWp.dup hk at_175 (pc' := 176) rfl rfl ?_
    refine OWp.aload hk at_176 (pc' := 178) rfl rfl rfl ?_
    refine OWp.perm (M' := [(a, ca), (sx, cx)]) (List.Perm.swap ..) ?_
    refine OWp.freeze ?_
    refine OWp.callI hk at_178 (pc' := 181) rfl rfl (hw _ (List.mem_of_getElem? (i := 9) rfl)) (hw _ (List.mem_of_getElem? (i := 10) rfl)) (hw _ (List.mem_of_getElem? (i := 8) rfl)) (hw _ (List.mem_of_getElem? (i := 11) rfl)) (by decide) (c_NEW hw hEL O2 hzc hmem hE hV hC hB (subL_ch hch4) (subL_lat hl4) hcap) rfl (by simp) rfl (lenOf pd_22 rfl) rfl (W := 1) rfl (by first | decide | (dsimp only; omega)) (by first | decide | (dsimp only; omega)) (by first | decide | (dsimp only; omega)) (by first | decide | (dsimp only; omega)) ?_
    rintro _ _ _ ⟨rfl, rfl, t, cx2, ct, rfl, hs⟩
    refine OWp.less (N' := [(sx, cx2), (t, ct), (src, csr)]) (by simp) ?_
    refine OWp.callS hk at_181 (pc' := 184) rfl (hw _ (List.mem_of_getElem? (i := 27) rfl)) (hw _ (List.mem_of_getElem? (i := 28) rfl)) (hw _ (List.mem_of_getElem? (i := 29) rfl)) (hw _ (List.mem_of_getElem? (i := 30) rfl)) (by decide) (c_SN hw hEL O2 hzc O4 hf hmem2 hs (subL_lat hl4) hcap) rfl (by simp) rfl (lenOf pd_23 rfl) rfl (W := 0) rfl (by first | decide | (dsimp only; omega)) (by first | decide | (dsimp only; omega)) (by first | decide | (dsimp only; omega)) (by first | decide | (dsimp only; omega)) ?_
    rintro _ _ _ ⟨rfl, y, u, cy, cu, k', rfl, hk1, hS, hN⟩
    refine OWp.less (N' := [(y, cy), (u, cu), (src, csr)]) (by rcases hN with ⟨rfl, rfl, rfl, rfl, rfl⟩ | rfl <;> simp) ?_
    refine OWp.astore hk at_184 (pc' := 186) rfl rfl rfl (by simp only [List.set_cons_zero, List.set_cons_succ]; rfl) ?_
    refine OWp.iconst hk at_186 (pc' := 187) rfl (z := -1) rfl ?_
    refine OWp.istore hk at_187 (pc' := 189) rfl rfl (by simp only [List.set_cons_zero, List.set_cons_succ]; rfl) ?_
    have tail0 : ∀ (w : Int32) (st : Nat), w + 1 = Int32.ofNat st → Lst (subL [c0, c1, c2, c3] 0 n) 46 4 st → OWp p l e room_1 s m #[.int p1, .int p2, .int p3, .int p4, .int p5] below meth c x.cls Z EL (dom []) [] (fun v _ _ => v = some (.int 1)) [] [(y, cy), (u, cu), (src, csr)] 10 64 260 [.val (.int p1), .val (.int p2), .val (.int p3), .val (.int p4), .val (.int p5), .val (.ref src), .val (.int (Int32.ofNat n)), .val (.ref a), .val (.ref y), .val (.int w), .unset] [] := by
      intro w st ew hst
      have ek := Lst.uniq (by rw [hlen]; omega) hst hk1
      subst ek
      have hkn : st ≤ n := by rw [← hlen]; exact hst.1
      have hlk : (subL (subL [c0, c1, c2, c3] 0 n) st (subL [c0, c1, c2, c3] 0 n).length).length = n - st := by rw [subL_len (Nat.le_refl _), hlen]
      have hlS : lat (subL (subL [c0, c1, c2, c3] 0 n) st (subL [c0, c1, c2, c3] 0 n).length) = true := subL_lat (subL_lat hl4)
      have hgk : ∀ j, j < (subL (subL [c0, c1, c2, c3] 0 n) st (subL [c0, c1, c2, c3] 0 n).length).length → [Value.int c0, .int c1, .int c2, .int c3][st + j]? = some (.int ((subL (subL [c0, c1, c2, c3] 0 n) st (subL [c0, c1, c2, c3] 0 n).length).getD j 0)) := fun j hj => by
        rw [hlk] at hj
        rw [subL_get (by rw [hlen]; omega), hat _ (by omega)]
        have hlt : st + j < [c0, c1, c2, c3].length := by simp; omega
        show ([c0, c1, c2, c3].map Value.int)[st + j]? = _
        rw [List.getElem?_map, List.getD_eq_getElem?_getD, List.getElem?_eq_getElem hlt]; rfl
      refine OWp.iload hk at_260 (pc' := 262) rfl rfl ?_
      refine OWp.iconst hk at_262 (pc' := 263) rfl (z := 1) rfl ?_
      refine OWp.iadd hk at_263 (pc' := 264) rfl ?_
      rw [ew]
      refine OWp.istore hk at_264 (pc' := 266) rfl rfl (by simp only [List.set_cons_zero, List.set_cons_succ]; rfl) ?_
      refine OWp.aload hk at_266 (pc' := 268) rfl rfl rfl ?_
      refine OWp.callV hk at_268 (pc' := 271) rfl (hw _ (List.mem_of_getElem? (i := 86) rfl)) (hw _ (List.mem_of_getElem? (i := 37) rfl)) (nfs (hw _ (List.mem_of_getElem? (i := 39) rfl))) (hw _ (List.mem_of_getElem? (i := 39) rfl)) (hw _ (List.mem_of_getElem? (i := 38) rfl)) (hw _ (List.mem_of_getElem? (i := 8) rfl)) (hw _ (List.mem_of_getElem? (i := 40) rfl)) (by decide) (by simp) hS.1 (c_LEN hw hEL O2 hzc hS) rfl (by simp) rfl (lenOf pd_13 rfl) rfl (W := 0) rfl (by first | decide | (dsimp only; omega)) (by first | decide | (dsimp only; omega)) (by first | decide | (dsimp only; omega)) (by first | decide | (dsimp only; omega)) ?_
      rintro _ _ _ ⟨rfl, rfl, rfl⟩
      refine OWp.iload hk at_271 (pc' := 273) rfl rfl ?_
      refine OWp.iload hk at_273 (pc' := 275) rfl rfl ?_
      refine OWp.isub hk at_275 (pc' := 276) rfl ?_
      refine OWp.icmpYes hk at_276 (XT.ii_eq_t (by rw [hlk, n_sub hkn (by omega)])) (by decide) (pc' := 281) rfl ?_
      refine OWp.aload hk at_281 (pc' := 283) rfl rfl rfl ?_
      refine OWp.iconst hk at_283 (pc' := 284) rfl (z := 0) rfl ?_
      refine OWp.aload hk at_284 (pc' := 286) rfl rfl rfl ?_
      refine OWp.iload hk at_286 (pc' := 288) rfl rfl ?_
      refine OWp.callS hk at_288 (pc' := 291) rfl (hw _ (List.mem_of_getElem? (i := 87) rfl)) (hw _ (List.mem_of_getElem? (i := 88) rfl)) (hw _ (List.mem_of_getElem? (i := 3) rfl)) (hw _ (List.mem_of_getElem? (i := 89) rfl)) (by decide) (c_SAME (j := 0) hw hEL O2 hzc O4 hf hS hlS hA (by decide) (by omega) (hgk 0)) rfl (by simp) rfl (lenOf pd_24 rfl) rfl (W := 0) rfl (by first | decide | (dsimp only; omega)) (by first | decide | (dsimp only; omega)) (by first | decide | (dsimp only; omega)) (by first | decide | (dsimp only; omega)) ?_
      rintro _ _ _ ⟨rfl, rfl, rfl⟩
      refine OWp.ifNo hk at_291 (XT.i0_eq_f (by decide)) (pc' := 294) rfl ?_
      refine OWp.aload hk at_294 (pc' := 296) rfl rfl rfl ?_
      refine OWp.iconst hk at_296 (pc' := 297) rfl (z := 1) rfl ?_
      refine OWp.aload hk at_297 (pc' := 299) rfl rfl rfl ?_
      refine OWp.iload hk at_299 (pc' := 301) rfl rfl ?_
      refine OWp.callS hk at_301 (pc' := 304) rfl (hw _ (List.mem_of_getElem? (i := 87) rfl)) (hw _ (List.mem_of_getElem? (i := 88) rfl)) (hw _ (List.mem_of_getElem? (i := 3) rfl)) (hw _ (List.mem_of_getElem? (i := 89) rfl)) (by decide) (c_SAME (j := 1) hw hEL O2 hzc O4 hf hS hlS hA (by decide) (by omega) (hgk 1)) rfl (by simp) rfl (lenOf pd_24 rfl) rfl (W := 0) rfl (by first | decide | (dsimp only; omega)) (by first | decide | (dsimp only; omega)) (by first | decide | (dsimp only; omega)) (by first | decide | (dsimp only; omega)) ?_
      rintro _ _ _ ⟨rfl, rfl, rfl⟩
      refine OWp.ifNo hk at_304 (XT.i0_eq_f (by decide)) (pc' := 307) rfl ?_
      refine OWp.aload hk at_307 (pc' := 309) rfl rfl rfl ?_
      refine OWp.iconst hk at_309 (pc' := 310) rfl (z := 2) rfl ?_
      refine OWp.aload hk at_310 (pc' := 312) rfl rfl rfl ?_
      refine OWp.iload hk at_312 (pc' := 314) rfl rfl ?_
      refine OWp.callS hk at_314 (pc' := 317) rfl (hw _ (List.mem_of_getElem? (i := 87) rfl)) (hw _ (List.mem_of_getElem? (i := 88) rfl)) (hw _ (List.mem_of_getElem? (i := 3) rfl)) (hw _ (List.mem_of_getElem? (i := 89) rfl)) (by decide) (c_SAME (j := 2) hw hEL O2 hzc O4 hf hS hlS hA (by decide) (by omega) (hgk 2)) rfl (by simp) rfl (lenOf pd_24 rfl) rfl (W := 0) rfl (by first | decide | (dsimp only; omega)) (by first | decide | (dsimp only; omega)) (by first | decide | (dsimp only; omega)) (by first | decide | (dsimp only; omega)) ?_
      rintro _ _ _ ⟨rfl, rfl, rfl⟩
      refine OWp.ifNo hk at_317 (XT.i0_eq_f (by decide)) (pc' := 320) rfl ?_
      refine OWp.aload hk at_320 (pc' := 322) rfl rfl rfl ?_
      refine OWp.iconst hk at_322 (pc' := 323) rfl (z := 3) rfl ?_
      refine OWp.aload hk at_323 (pc' := 325) rfl rfl rfl ?_
      refine OWp.iload hk at_325 (pc' := 327) rfl rfl ?_
      refine OWp.callS hk at_327 (pc' := 330) rfl (hw _ (List.mem_of_getElem? (i := 87) rfl)) (hw _ (List.mem_of_getElem? (i := 88) rfl)) (hw _ (List.mem_of_getElem? (i := 3) rfl)) (hw _ (List.mem_of_getElem? (i := 89) rfl)) (by decide) (c_SAME (j := 3) hw hEL O2 hzc O4 hf hS hlS hA (by decide) (by omega) (hgk 3)) rfl (by simp) rfl (lenOf pd_24 rfl) rfl (W := 0) rfl (by first | decide | (dsimp only; omega)) (by first | decide | (dsimp only; omega)) (by first | decide | (dsimp only; omega)) (by first | decide | (dsimp only; omega)) ?_
      rintro _ _ _ ⟨rfl, rfl, rfl⟩
      refine OWp.ifNo hk at_330 (XT.i0_eq_f (by decide)) (pc' := 333) rfl ?_
      refine OWp.iconst hk at_333 (pc' := 334) rfl (z := 1) rfl ?_
      refine OWp.goto hk at_334 (by decide) (pc' := 338) rfl ?_
      exact OWp.retN hk (Or.inl rfl) at_338 (M' := []) (N' := []) rfl (List.nil_sublist _) (by simp) (by decide) (by decide)
    have stage3 : ∀ (w : Int32) (st : Nat), w + 1 = Int32.ofNat st → Lst (subL [c0, c1, c2, c3] 0 n) 46 3 st → OWp p l e room_1 s m #[.int p1, .int p2, .int p3, .int p4, .int p5] below meth c x.cls Z EL (dom []) [] (fun v _ _ => v = some (.int 1)) [] [(y, cy), (u, cu), (src, csr)] 10 64 242 [.val (.int p1), .val (.int p2), .val (.int p3), .val (.int p4), .val (.int p5), .val (.ref src), .val (.int (Int32.ofNat n)), .val (.ref a), .val (.ref y), .val (.int w), .unset] [] := by
      intro w st ew hst
      refine OWp.iload hk at_242 (pc' := 244) rfl rfl ?_
      refine OWp.iconst hk at_244 (pc' := 245) rfl (z := 3) rfl ?_
      by_cases g : n ≤ 3
      · refine OWp.icmpYes hk at_245 (XT.ii_le_t (by rw [show (3 : Int32) = Int32.ofNat 3 from rfl, n_lt (by omega) (by omega)]; omega)) (by decide) (pc' := 260) rfl ?_
        exact tail0 w st ew ⟨hst.1, hst.2.1, fun i q1 q2 q3 => hst.2.2 i q1 (by rw [hlen] at q3; omega) q3⟩
      refine OWp.icmpNo hk at_245 (XT.ii_le_f (by rw [show (3 : Int32) = Int32.ofNat 3 from rfl, n_lt (by omega) (by omega)]; omega)) (pc' := 248) rfl ?_
      refine OWp.aload hk at_248 (pc' := 250) rfl rfl rfl ?_
      refine OWp.iconst hk at_250 (pc' := 251) rfl (z := 3) rfl ?_
      refine OWp.caload hk at_251 (pc' := 252) rfl (by simp) hA (by decide) rfl ?_
      refine OWp.bipush hk at_252 (pc' := 254) rfl (z := 46) rfl ?_
      by_cases h : c3 = 46
      · refine OWp.icmpNo hk at_254 (XT.ii_ne_f h) (pc' := 257) rfl ?_
        refine OWp.iconst hk at_257 (pc' := 258) rfl (z := 3) rfl ?_
        refine OWp.istore hk at_258 (pc' := 260) rfl rfl (by simp only [List.set_cons_zero, List.set_cons_succ]; rfl) ?_
        exact tail0 _ 4 (by decide) ⟨by rw [hlen]; omega, fun _ => (hat 3 (by omega)).trans h, fun i q1 q2 q3 => by omega⟩
      · refine OWp.icmpYes hk at_254 (XT.ii_ne_t h) (by decide) (pc' := 260) rfl ?_
        exact tail0 w st ew ⟨hst.1, hst.2.1, fun i q1 q2 q3 => by
          by_cases e : i = 3
          · rw [e, hat 3 (by omega)]; exact h
          · exact hst.2.2 i q1 (by omega) q3⟩
    have stage2 : ∀ (w : Int32) (st : Nat), w + 1 = Int32.ofNat st → Lst (subL [c0, c1, c2, c3] 0 n) 46 2 st → OWp p l e room_1 s m #[.int p1, .int p2, .int p3, .int p4, .int p5] below meth c x.cls Z EL (dom []) [] (fun v _ _ => v = some (.int 1)) [] [(y, cy), (u, cu), (src, csr)] 10 64 224 [.val (.int p1), .val (.int p2), .val (.int p3), .val (.int p4), .val (.int p5), .val (.ref src), .val (.int (Int32.ofNat n)), .val (.ref a), .val (.ref y), .val (.int w), .unset] [] := by
      intro w st ew hst
      refine OWp.iload hk at_224 (pc' := 226) rfl rfl ?_
      refine OWp.iconst hk at_226 (pc' := 227) rfl (z := 2) rfl ?_
      by_cases g : n ≤ 2
      · refine OWp.icmpYes hk at_227 (XT.ii_le_t (by rw [show (2 : Int32) = Int32.ofNat 2 from rfl, n_lt (by omega) (by omega)]; omega)) (by decide) (pc' := 242) rfl ?_
        exact stage3 w st ew ⟨hst.1, hst.2.1, fun i q1 q2 q3 => hst.2.2 i q1 (by rw [hlen] at q3; omega) q3⟩
      refine OWp.icmpNo hk at_227 (XT.ii_le_f (by rw [show (2 : Int32) = Int32.ofNat 2 from rfl, n_lt (by omega) (by omega)]; omega)) (pc' := 230) rfl ?_
      refine OWp.aload hk at_230 (pc' := 232) rfl rfl rfl ?_
      refine OWp.iconst hk at_232 (pc' := 233) rfl (z := 2) rfl ?_
      refine OWp.caload hk at_233 (pc' := 234) rfl (by simp) hA (by decide) rfl ?_
      refine OWp.bipush hk at_234 (pc' := 236) rfl (z := 46) rfl ?_
      by_cases h : c2 = 46
      · refine OWp.icmpNo hk at_236 (XT.ii_ne_f h) (pc' := 239) rfl ?_
        refine OWp.iconst hk at_239 (pc' := 240) rfl (z := 2) rfl ?_
        refine OWp.istore hk at_240 (pc' := 242) rfl rfl (by simp only [List.set_cons_zero, List.set_cons_succ]; rfl) ?_
        exact stage3 _ 3 (by decide) ⟨by rw [hlen]; omega, fun _ => (hat 2 (by omega)).trans h, fun i q1 q2 q3 => by omega⟩
      · refine OWp.icmpYes hk at_236 (XT.ii_ne_t h) (by decide) (pc' := 242) rfl ?_
        exact stage3 w st ew ⟨hst.1, hst.2.1, fun i q1 q2 q3 => by
          by_cases e : i = 2
          · rw [e, hat 2 (by omega)]; exact h
          · exact hst.2.2 i q1 (by omega) q3⟩
    have stage1 : ∀ (w : Int32) (st : Nat), w + 1 = Int32.ofNat st → Lst (subL [c0, c1, c2, c3] 0 n) 46 1 st → OWp p l e room_1 s m #[.int p1, .int p2, .int p3, .int p4, .int p5] below meth c x.cls Z EL (dom []) [] (fun v _ _ => v = some (.int 1)) [] [(y, cy), (u, cu), (src, csr)] 10 64 206 [.val (.int p1), .val (.int p2), .val (.int p3), .val (.int p4), .val (.int p5), .val (.ref src), .val (.int (Int32.ofNat n)), .val (.ref a), .val (.ref y), .val (.int w), .unset] [] := by
      intro w st ew hst
      refine OWp.iload hk at_206 (pc' := 208) rfl rfl ?_
      refine OWp.iconst hk at_208 (pc' := 209) rfl (z := 1) rfl ?_
      by_cases g : n ≤ 1
      · refine OWp.icmpYes hk at_209 (XT.ii_le_t (by rw [show (1 : Int32) = Int32.ofNat 1 from rfl, n_lt (by omega) (by omega)]; omega)) (by decide) (pc' := 224) rfl ?_
        exact stage2 w st ew ⟨hst.1, hst.2.1, fun i q1 q2 q3 => hst.2.2 i q1 (by rw [hlen] at q3; omega) q3⟩
      refine OWp.icmpNo hk at_209 (XT.ii_le_f (by rw [show (1 : Int32) = Int32.ofNat 1 from rfl, n_lt (by omega) (by omega)]; omega)) (pc' := 212) rfl ?_
      refine OWp.aload hk at_212 (pc' := 214) rfl rfl rfl ?_
      refine OWp.iconst hk at_214 (pc' := 215) rfl (z := 1) rfl ?_
      refine OWp.caload hk at_215 (pc' := 216) rfl (by simp) hA (by decide) rfl ?_
      refine OWp.bipush hk at_216 (pc' := 218) rfl (z := 46) rfl ?_
      by_cases h : c1 = 46
      · refine OWp.icmpNo hk at_218 (XT.ii_ne_f h) (pc' := 221) rfl ?_
        refine OWp.iconst hk at_221 (pc' := 222) rfl (z := 1) rfl ?_
        refine OWp.istore hk at_222 (pc' := 224) rfl rfl (by simp only [List.set_cons_zero, List.set_cons_succ]; rfl) ?_
        exact stage2 _ 2 (by decide) ⟨by rw [hlen]; omega, fun _ => (hat 1 (by omega)).trans h, fun i q1 q2 q3 => by omega⟩
      · refine OWp.icmpYes hk at_218 (XT.ii_ne_t h) (by decide) (pc' := 224) rfl ?_
        exact stage2 w st ew ⟨hst.1, hst.2.1, fun i q1 q2 q3 => by
          by_cases e : i = 1
          · rw [e, hat 1 (by omega)]; exact h
          · exact hst.2.2 i q1 (by omega) q3⟩
    have stage0 : ∀ (w : Int32) (st : Nat), w + 1 = Int32.ofNat st → Lst (subL [c0, c1, c2, c3] 0 n) 46 0 st → OWp p l e room_1 s m #[.int p1, .int p2, .int p3, .int p4, .int p5] below meth c x.cls Z EL (dom []) [] (fun v _ _ => v = some (.int 1)) [] [(y, cy), (u, cu), (src, csr)] 10 64 189 [.val (.int p1), .val (.int p2), .val (.int p3), .val (.int p4), .val (.int p5), .val (.ref src), .val (.int (Int32.ofNat n)), .val (.ref a), .val (.ref y), .val (.int w), .unset] [] := by
      intro w st ew hst
      refine OWp.iload hk at_189 (pc' := 191) rfl rfl ?_
      by_cases g : n ≤ 0
      · refine OWp.ifYes hk at_191 (XT.i0_le_t (by rw [show (0 : Int32) = Int32.ofNat 0 from rfl, n_lt (by omega) (by omega)]; omega)) (by decide) (pc' := 206) rfl ?_
        exact stage1 w st ew ⟨hst.1, hst.2.1, fun i q1 q2 q3 => hst.2.2 i q1 (by rw [hlen] at q3; omega) q3⟩
      refine OWp.ifNo hk at_191 (XT.i0_le_f (by rw [show (0 : Int32) = Int32.ofNat 0 from rfl, n_lt (by omega) (by omega)]; omega)) (pc' := 194) rfl ?_
      refine OWp.aload hk at_194 (pc' := 196) rfl rfl rfl ?_
      refine OWp.iconst hk at_196 (pc' := 197) rfl (z := 0) rfl ?_
      refine OWp.caload hk at_197 (pc' := 198) rfl (by simp) hA (by decide) rfl ?_
      refine OWp.bipush hk at_198 (pc' := 200) rfl (z := 46) rfl ?_
      by_cases h : c0 = 46
      · refine OWp.icmpNo hk at_200 (XT.ii_ne_f h) (pc' := 203) rfl ?_
        refine OWp.iconst hk at_203 (pc' := 204) rfl (z := 0) rfl ?_
        refine OWp.istore hk at_204 (pc' := 206) rfl rfl (by simp only [List.set_cons_zero, List.set_cons_succ]; rfl) ?_
        exact stage1 _ 1 (by decide) ⟨by rw [hlen]; omega, fun _ => (hat 0 (by omega)).trans h, fun i q1 q2 q3 => by omega⟩
      · refine OWp.icmpYes hk at_200 (XT.ii_ne_t h) (by decide) (pc' := 206) rfl ?_
        exact stage1 w st ew ⟨hst.1, hst.2.1, fun i q1 q2 q3 => by
          by_cases e : i = 0
          · rw [e, hat 0 (by omega)]; exact h
          · exact hst.2.2 i q1 (by omega) q3⟩
    exact stage0 (-1) 0 (by decide) ⟨Nat.zero_le _, fun q => absurd q (Nat.lt_irrefl _), fun i _ q _ => absurd q (Nat.not_lt_zero _)⟩
  by_cases e0 : n = 0
  · subst e0
    refine OWp.ifNo hk at_44 (XT.i0_ne_f rfl) (pc' := 47) rfl ?_
    refine OWp.iconst hk at_47 (pc' := 48) rfl (z := 0) rfl ?_
    refine OWp.newarray hk at_48 (pc' := 50) rfl (hw _ (List.mem_of_getElem? (i := 0) rfl)) (by decide) (cap := 4) (by decide) (by decide) (by decide) (by decide) (vs := []) rfl ?_
    intro b cb hB
    refine OWp.astore hk at_50 (pc' := 52) rfl rfl rfl (by simp only [List.set_cons_zero, List.set_cons_succ]; rfl) ?_
    refine OWp.goto hk at_52 (by decide) (pc' := 172) rfl ?_
    exact tailC _ _ b cb (by decide) (by decide) hB
  refine OWp.ifYes hk at_44 (XT.i0_ne_t (by rw [show (0 : Int32) = Int32.ofNat 0 from rfl, n_inj (by omega) (by omega)]; exact e0)) (by decide) (pc' := 55) rfl ?_
  refine OWp.iload hk at_55 (pc' := 57) rfl rfl ?_
  refine OWp.iconst hk at_57 (pc' := 58) rfl (z := 1) rfl ?_
  by_cases e1 : n = 1
  · subst e1
    refine OWp.icmpNo hk at_58 (XT.ii_ne_f rfl) (pc' := 61) rfl ?_
    refine OWp.iconst hk at_61 (pc' := 62) rfl (z := 1) rfl ?_
    refine OWp.newarray hk at_62 (pc' := 64) rfl (hw _ (List.mem_of_getElem? (i := 0) rfl)) (by decide) (cap := 4) (by decide) (by decide) (by decide) (by decide) (vs := [.int 0]) rfl ?_
    intro b cb hB
    refine OWp.dup hk at_64 (pc' := 65) rfl rfl ?_
    refine OWp.iconst hk at_65 (pc' := 66) rfl (z := 0) rfl ?_
    refine OWp.aload hk at_66 (pc' := 68) rfl rfl rfl ?_
    refine OWp.iconst hk at_68 (pc' := 69) rfl (z := 0) rfl ?_
    refine OWp.caload hk at_69 (pc' := 70) rfl (by simp) hA (by decide) rfl ?_
    refine OWp.castore hk at_70 (pc' := 71) rfl (i := 0) rfl hB (by decide) (t := 0) (by decide) (Nat.le_of_ble_eq_true rfl) ?_
    clear hB
    intro cb hB
    simp only [List.nil_append, List.cons_append, List.set_cons_zero, List.set_cons_succ] at hB ⊢
    refine OWp.astore hk at_71 (pc' := 73) rfl rfl rfl (by simp only [List.set_cons_zero, List.set_cons_succ]; rfl) ?_
    refine OWp.goto hk at_73 (by decide) (pc' := 172) rfl ?_
    rw [m0] at hB
    exact tailC _ _ b cb (by decide) (by decide) hB
  refine OWp.icmpYes hk at_58 (XT.ii_ne_t (by rw [show (1 : Int32) = Int32.ofNat 1 from rfl, n_inj (by omega) (by omega)]; exact e1)) (by decide) (pc' := 76) rfl ?_
  refine OWp.iload hk at_76 (pc' := 78) rfl rfl ?_
  refine OWp.iconst hk at_78 (pc' := 79) rfl (z := 2) rfl ?_
  by_cases e2 : n = 2
  · subst e2
    refine OWp.icmpNo hk at_79 (XT.ii_ne_f rfl) (pc' := 82) rfl ?_
    refine OWp.iconst hk at_82 (pc' := 83) rfl (z := 2) rfl ?_
    refine OWp.newarray hk at_83 (pc' := 85) rfl (hw _ (List.mem_of_getElem? (i := 0) rfl)) (by decide) (cap := 4) (by decide) (by decide) (by decide) (by decide) (vs := [.int 0, .int 0]) rfl ?_
    intro b cb hB
    refine OWp.dup hk at_85 (pc' := 86) rfl rfl ?_
    refine OWp.iconst hk at_86 (pc' := 87) rfl (z := 0) rfl ?_
    refine OWp.aload hk at_87 (pc' := 89) rfl rfl rfl ?_
    refine OWp.iconst hk at_89 (pc' := 90) rfl (z := 0) rfl ?_
    refine OWp.caload hk at_90 (pc' := 91) rfl (by simp) hA (by decide) rfl ?_
    refine OWp.castore hk at_91 (pc' := 92) rfl (i := 0) rfl hB (by decide) (t := 0) (by decide) (Nat.le_of_ble_eq_true rfl) ?_
    clear hB
    intro cb hB
    simp only [List.nil_append, List.cons_append, List.set_cons_zero, List.set_cons_succ] at hB ⊢
    refine OWp.dup hk at_92 (pc' := 93) rfl rfl ?_
    refine OWp.iconst hk at_93 (pc' := 94) rfl (z := 1) rfl ?_
    refine OWp.aload hk at_94 (pc' := 96) rfl rfl rfl ?_
    refine OWp.iconst hk at_96 (pc' := 97) rfl (z := 1) rfl ?_
    refine OWp.caload hk at_97 (pc' := 98) rfl (by simp) hA (by decide) rfl ?_
    refine OWp.castore hk at_98 (pc' := 99) rfl (i := 0) rfl hB (by decide) (t := 1) (by decide) (Nat.le_of_ble_eq_true rfl) ?_
    clear hB
    intro cb hB
    simp only [List.nil_append, List.cons_append, List.set_cons_zero, List.set_cons_succ] at hB ⊢
    refine OWp.astore hk at_99 (pc' := 101) rfl rfl rfl (by simp only [List.set_cons_zero, List.set_cons_succ]; rfl) ?_
    refine OWp.goto hk at_101 (by decide) (pc' := 172) rfl ?_
    rw [m0, m1] at hB
    exact tailC _ _ b cb (by decide) (by decide) hB
  refine OWp.icmpYes hk at_79 (XT.ii_ne_t (by rw [show (2 : Int32) = Int32.ofNat 2 from rfl, n_inj (by omega) (by omega)]; exact e2)) (by decide) (pc' := 104) rfl ?_
  refine OWp.iload hk at_104 (pc' := 106) rfl rfl ?_
  refine OWp.iconst hk at_106 (pc' := 107) rfl (z := 3) rfl ?_
  by_cases e3 : n = 3
  · subst e3
    refine OWp.icmpNo hk at_107 (XT.ii_ne_f rfl) (pc' := 110) rfl ?_
    refine OWp.iconst hk at_110 (pc' := 111) rfl (z := 3) rfl ?_
    refine OWp.newarray hk at_111 (pc' := 113) rfl (hw _ (List.mem_of_getElem? (i := 0) rfl)) (by decide) (cap := 4) (by decide) (by decide) (by decide) (by decide) (vs := [.int 0, .int 0, .int 0]) rfl ?_
    intro b cb hB
    refine OWp.dup hk at_113 (pc' := 114) rfl rfl ?_
    refine OWp.iconst hk at_114 (pc' := 115) rfl (z := 0) rfl ?_
    refine OWp.aload hk at_115 (pc' := 117) rfl rfl rfl ?_
    refine OWp.iconst hk at_117 (pc' := 118) rfl (z := 0) rfl ?_
    refine OWp.caload hk at_118 (pc' := 119) rfl (by simp) hA (by decide) rfl ?_
    refine OWp.castore hk at_119 (pc' := 120) rfl (i := 0) rfl hB (by decide) (t := 0) (by decide) (Nat.le_of_ble_eq_true rfl) ?_
    clear hB
    intro cb hB
    simp only [List.nil_append, List.cons_append, List.set_cons_zero, List.set_cons_succ] at hB ⊢
    refine OWp.dup hk at_120 (pc' := 121) rfl rfl ?_
    refine OWp.iconst hk at_121 (pc' := 122) rfl (z := 1) rfl ?_
    refine OWp.aload hk at_122 (pc' := 124) rfl rfl rfl ?_
    refine OWp.iconst hk at_124 (pc' := 125) rfl (z := 1) rfl ?_
    refine OWp.caload hk at_125 (pc' := 126) rfl (by simp) hA (by decide) rfl ?_
    refine OWp.castore hk at_126 (pc' := 127) rfl (i := 0) rfl hB (by decide) (t := 1) (by decide) (Nat.le_of_ble_eq_true rfl) ?_
    clear hB
    intro cb hB
    simp only [List.nil_append, List.cons_append, List.set_cons_zero, List.set_cons_succ] at hB ⊢
    refine OWp.dup hk at_127 (pc' := 128) rfl rfl ?_
    refine OWp.iconst hk at_128 (pc' := 129) rfl (z := 2) rfl ?_
    refine OWp.aload hk at_129 (pc' := 131) rfl rfl rfl ?_
    refine OWp.iconst hk at_131 (pc' := 132) rfl (z := 2) rfl ?_
    refine OWp.caload hk at_132 (pc' := 133) rfl (by simp) hA (by decide) rfl ?_
    refine OWp.castore hk at_133 (pc' := 134) rfl (i := 0) rfl hB (by decide) (t := 2) (by decide) (Nat.le_of_ble_eq_true rfl) ?_
    clear hB
    intro cb hB
    simp only [List.nil_append, List.cons_append, List.set_cons_zero, List.set_cons_succ] at hB ⊢
    refine OWp.astore hk at_134 (pc' := 136) rfl rfl rfl (by simp only [List.set_cons_zero, List.set_cons_succ]; rfl) ?_
    refine OWp.goto hk at_136 (by decide) (pc' := 172) rfl ?_
    rw [m0, m1, m2] at hB
    exact tailC _ _ b cb (by decide) (by decide) hB
  refine OWp.icmpYes hk at_107 (XT.ii_ne_t (by rw [show (3 : Int32) = Int32.ofNat 3 from rfl, n_inj (by omega) (by omega)]; exact e3)) (by decide) (pc' := 139) rfl ?_
  obtain rfl : n = 4 := by omega
  refine OWp.iconst hk at_139 (pc' := 140) rfl (z := 4) rfl ?_
  refine OWp.newarray hk at_140 (pc' := 142) rfl (hw _ (List.mem_of_getElem? (i := 0) rfl)) (by decide) (cap := 4) (by decide) (by decide) (by decide) (by decide) (vs := [.int 0, .int 0, .int 0, .int 0]) rfl ?_
  intro b cb hB
  refine OWp.dup hk at_142 (pc' := 143) rfl rfl ?_
  refine OWp.iconst hk at_143 (pc' := 144) rfl (z := 0) rfl ?_
  refine OWp.aload hk at_144 (pc' := 146) rfl rfl rfl ?_
  refine OWp.iconst hk at_146 (pc' := 147) rfl (z := 0) rfl ?_
  refine OWp.caload hk at_147 (pc' := 148) rfl (by simp) hA (by decide) rfl ?_
  refine OWp.castore hk at_148 (pc' := 149) rfl (i := 0) rfl hB (by decide) (t := 0) (by decide) (Nat.le_of_ble_eq_true rfl) ?_
  clear hB
  intro cb hB
  simp only [List.nil_append, List.cons_append, List.set_cons_zero, List.set_cons_succ] at hB ⊢
  refine OWp.dup hk at_149 (pc' := 150) rfl rfl ?_
  refine OWp.iconst hk at_150 (pc' := 151) rfl (z := 1) rfl ?_
  refine OWp.aload hk at_151 (pc' := 153) rfl rfl rfl ?_
  refine OWp.iconst hk at_153 (pc' := 154) rfl (z := 1) rfl ?_
  refine OWp.caload hk at_154 (pc' := 155) rfl (by simp) hA (by decide) rfl ?_
  refine OWp.castore hk at_155 (pc' := 156) rfl (i := 0) rfl hB (by decide) (t := 1) (by decide) (Nat.le_of_ble_eq_true rfl) ?_
  clear hB
  intro cb hB
  simp only [List.nil_append, List.cons_append, List.set_cons_zero, List.set_cons_succ] at hB ⊢
  refine OWp.dup hk at_156 (pc' := 157) rfl rfl ?_
  refine OWp.iconst hk at_157 (pc' := 158) rfl (z := 2) rfl ?_
  refine OWp.aload hk at_158 (pc' := 160) rfl rfl rfl ?_
  refine OWp.iconst hk at_160 (pc' := 161) rfl (z := 2) rfl ?_
  refine OWp.caload hk at_161 (pc' := 162) rfl (by simp) hA (by decide) rfl ?_
  refine OWp.castore hk at_162 (pc' := 163) rfl (i := 0) rfl hB (by decide) (t := 2) (by decide) (Nat.le_of_ble_eq_true rfl) ?_
  clear hB
  intro cb hB
  simp only [List.nil_append, List.cons_append, List.set_cons_zero, List.set_cons_succ] at hB ⊢
  refine OWp.dup hk at_163 (pc' := 164) rfl rfl ?_
  refine OWp.iconst hk at_164 (pc' := 165) rfl (z := 3) rfl ?_
  refine OWp.aload hk at_165 (pc' := 167) rfl rfl rfl ?_
  refine OWp.iconst hk at_167 (pc' := 168) rfl (z := 3) rfl ?_
  refine OWp.caload hk at_168 (pc' := 169) rfl (by simp) hA (by decide) rfl ?_
  refine OWp.castore hk at_169 (pc' := 170) rfl (i := 0) rfl hB (by decide) (t := 3) (by decide) (Nat.le_of_ble_eq_true rfl) ?_
  clear hB
  intro cb hB
  simp only [List.nil_append, List.cons_append, List.set_cons_zero, List.set_cons_succ] at hB ⊢
  refine OWp.astore hk at_170 (pc' := 172) rfl rfl rfl (by simp only [List.set_cons_zero, List.set_cons_succ]; rfl) ?_
  rw [m0, m1, m2, m3] at hB
  exact tailC _ _ b cb (by decide) (by decide) hB
set_option maxRecDepth 65536 in
set_option maxHeartbeats 40000000 in
theorem comes_1 {Post : Tables → Env → Array Value → State → Outcome → State → Prop} (hpost : ∀ tb e args s v u, (limb_1_1.after args s (.returned v) u = true ∧ limb_1_2.after args s (.returned v) u = true ∧ True) → ReturnedEndW s (.returned v) u (Jvm.fieldLocs frame_1_writes args s ++ Jvm.arrayLocs frame_1_arrays args s ++ Jvm.staticLocs frame_1_statics s) 24 2176 → Post tb e args s (.returned v) u) :
    ArmFor flags0 classFile x code maxLocals ret World_1 tables_1 room_1 Calls_1 rest_1 Pre_1 Post := by
  intro l hfl _ _ p e ha hc hk s m args below hf hA hF happ hP
  obtain ⟨hcalls, hrest, hpre⟩ := hP
  obtain ⟨-, -, -, hnamed, -, -, -, hat⟩ := (Spec.applies_iff hf).mp happ
  obtain ⟨hg, hn⟩ := and_e (Cond.before_iff.mp (show (Jvm.Cond.and given_1 narrow_1).before args s = true from hpre))
  obtain ⟨g0, r0⟩ := and_e hg
  obtain ⟨q0, r1⟩ := and_e r0
  obtain ⟨q1, r2⟩ := and_e r1
  obtain ⟨q2, r3⟩ := and_e r2
  obtain ⟨q3, r4⟩ := and_e r3
  obtain ⟨w0, w1, w2, w3, w4, rfl⟩ : ∃ w0 w1 w2 w3 w4 : Value, args = #[w0, w1, w2, w3, w4] := by
    have hs : args.size = 5 := by simpa [Cond.value, given_1] using g0
    obtain ⟨L⟩ := args
    match L, hs with
    | [w0, w1, w2, w3, w4], _ => exact ⟨w0, w1, w2, w3, w4, rfl⟩
  have hw := fun d (hd : d ∈ tables_1) => atoms_spec (ws := Jvm.Cond.code x code maxLocals ret :: tables_1) hat d (List.mem_cons_of_mem _ hd)
  obtain ⟨hsets, hown0⟩ := atoms_of _ (rest_1_c_eq ▸ (show rest_1_c.before _ s = true from hrest))
  have hfit : Fit s := fun {y c} hc i hi => by
    obtain ⟨ha, rfl⟩ := Array.getElem?_eq_some_iff.mp hc
    have q := List.all_eq_true.mp ((Array.all_eq_true_iff_forall_mem.mp hF) _ (Array.getElem_mem ha)) i (List.mem_range.mpr hi)
    simpa [Array.getElem?_eq_getElem hi] using q
  obtain ⟨i0, e0⟩ := is_v q0
  obtain rfl : w0 = (.int i0) := Option.some.inj e0
  obtain ⟨i1, e1⟩ := is_v q1
  obtain rfl : w1 = (.int i1) := Option.some.inj e1
  obtain ⟨i2, e2⟩ := is_v q2
  obtain rfl : w2 = (.int i2) := Option.some.inj e2
  obtain ⟨i3, e3⟩ := is_v q3
  obtain rfl : w3 = (.int i3) := Option.some.inj e3
  obtain ⟨i4, e4⟩ := is_v r4
  obtain rfl : w4 = (.int i4) := Option.some.inj e4
  obtain ⟨zc, ezc⟩ := is_v (Cond.before_iff.mp (hsets _ (List.mem_of_getElem? (i := 1) rfl)))
  have O2 : Sta s s.heap "java/lang/String" "COMPACT_STRINGS" "Z" (.int zc) := Sta.start ezc (Or.inl (hsets _ (List.mem_of_getElem? (i := 0) rfl)))
  have hzc : ¬ (zc = (0 : Int32)) := gotF (Cond.eq_ints ezc (Term.int_eval (0))) (not_v (Cond.before_iff.mp (hsets _ (List.mem_of_getElem? (i := 2) rfl))))
  obtain ⟨fm, efm, hfm⟩ := isR_v (Cond.before_iff.mp (hsets _ (List.mem_of_getElem? (i := 8) rfl)))
  have O4 : Sta s s.heap "jdk/internal/util/Preconditions" "SIOOBE_FORMATTER" "Ljava/util/function/BiFunction;" fm := Sta.start efm (Or.inl (hsets _ (List.mem_of_getElem? (i := 7) rfl)))
  have hEL : EW s #[.int i0, .int i1, .int i2, .int i3, .int i4] consts_1 := (EW.cons (hw _ (List.mem_of_getElem? (i := 19) rfl)) (by decide) (EW.cons (hw _ (List.mem_of_getElem? (i := 103) rfl)) (by decide) EW.nil))
  have hCH : CHv s consts_1 s.vm s.heap := CHv.start hEL (fun p hp => hcalls.1 p hp) (hsets _ (List.mem_of_getElem? (i := 2) rfl)) (hw _ (List.mem_of_getElem? (i := 20) rfl)) (hw _ (List.mem_of_getElem? (i := 7) rfl))
  have I0 : OInv s consts_1 s.vm s.heap (dom []) s.vm s.heap [] [] [] := ⟨CHr.refl hCH, ext_refl _, fun _ h => (nomatch h), List.nodup_nil, fun _ h => (nomatch h), fun _ h => (nomatch h)⟩
  obtain ⟨n, o, h1, h2, h3, v, L, rfl, ⟨M, N, rfl, -⟩, -, hL, hq⟩ := c_law (l := l) hw hEL O2 hzc O4 hfm (List.mem_of_getElem? (i := 0) rfl) (List.mem_of_getElem? (i := 1) rfl) i0 i1 i2 i3 i4 p e ha hc hk s m _ below hf ((Spec.applies_iff_loose hf).mp happ).1 ⟨rfl, State.Warmed39.refl s, I0⟩ trivial
  refine ⟨n, _, h1, h2, h3, hpost _ _ _ _ _ _ ⟨Cond.after_iff.mpr rfl, Cond.after_iff.mpr (eq_i res_at (Term.int_eval (1)) rfl), trivial⟩ ⟨hq.1, hq.2.1, hq.2.2.1, (hq.2.2.2.sift fun y hy => Or.inr ((hL y hy).elim id fun z => (nomatch z))).mono (by decide) (by decide)⟩⟩
theorem main_1_1 : Claimed_1_1 := comes_1 fun _ _ _ _ _ _ h hF => ⟨h.1, hF⟩
theorem main_1_2 : Claimed_1_2 := comes_1 fun _ _ _ _ _ _ h hF => ⟨h.2.1, hF⟩
end Law
end Jvm.Pilot.@@N@@
namespace Jvm.Pilot.@@N@@
open Jvm Jvm.ClassFile Sem Op Lib Jvm.Free Jvm.Stand Jvm.Pilot.@@N@@.Jvm.D
/-! MADE BY PROGRAM (witnessworld.py) out of the Statement's table words and the real class files: 23 classes; the members and pool entries that the words name. The judged class is class 1, her method 3. -/
namespace start1
open Jvm.ClassFile
def u (s : String) : CpInfo := .utf8 (stringToUtf16 s)
/-- a pool by its gaps: so many unusable entries, then the entry; so many at the end -/
def gap : Nat → List CpInfo → List CpInfo
  | 0, r => r
  | n + 1, r => .unusable :: gap n r
def poolList (es : List (Nat × CpInfo)) (last : Nat) : List CpInfo := es.foldr (fun e r => gap e.1 (e.2 :: r)) (gap last [])
def pool (es : List (Nat × CpInfo)) (last : Nat) : Array CpInfo := ⟨poolList es last⟩
def fileOf (pool : Array CpInfo) (this : Nat) (attrs : Array Attribute := #[]) (ms : Array MethodInfo := #[]) (fl : Nat := 33) (sup : Nat := 0) (ifs : Array Nat := #[]) (fds : Array FieldInfo := #[]) : ClassFile where
  minorVersion := 0
  majorVersion := 65
  constantPool := pool
  accessFlags := fl
  thisClass := this
  superClass := sup
  interfaces := ifs
  fields := fds
  methods := ms
  attributes := attrs
def plain (name : String) (sup : Option ClassId) : Class where
  name := name
  kind := .ordinary
  loader := none
  accessFlags := 33
  super := sup
  interfaces := #[]
  cf := none
  fields := #[]
  methods := #[]
  instanceTypes := #[]
  staticTypes := #[]
  resolved := #[]
  callSites := []
  init := .initialized
  statics := none
  mirror := none

def pool0 : Array CpInfo := pool [(5, u "<init>"), (0, u "()V"), (1, .class_ 10), (1, u "java/lang/Object")] 113

def k0c0 : Code := { maxStack := 0, maxLocals := 1, code := object_method_1_code, exceptionTable := #[], attributes := #[] }
def k0m0 : Method := { name := "<init>", desc := "()V", sig := { parameters := [], returnType := none }, accessFlags := 1, code := some k0c0 }
/-- java/lang/Object -/
def k0 : Class := { plain "java/lang/Object" none with
  accessFlags := 33
  interfaces := #[]
  cf := some (fileOf pool0 8 #[] #[{ accessFlags := 1, nameIndex := 5, descriptorIndex := 6, attributes := #[] }] 33 0 #[] #[])
  fields := #[]
  methods := #[k0m0]
  instanceTypes := #[]
  staticTypes := #[]
  resolved := Array.replicate 124 none
  statics := none }

def pool1 : Array CpInfo := pool [(2, .class_ 4), (1, u "java/lang/Object"), (0, u "<init>"), (0, u "()V"), (0, .methodref 8 9), (0, .class_ 10), (0, .nameAndType 11 12), (0, u "java/lang/String"), (0, u "length"), (0, u "()I"), (0, .methodref 8 14), (0, .nameAndType 15 16), (0, u "charAt"), (0, u "(I)C"), (0, .methodref 18 19), (0, .class_ 20), (0, .nameAndType 21 16), (0, u "com/example/goals_to_queue/goalstoqueue/QueueEntrySimpleNamePinLaw"), (0, u "draw"), (0, .integer 2147483647), (0, .methodref 8 24), (0, .nameAndType 5 25), (0, u "([C)V"), (0, .methodref 27 28), (0, .class_ 29), (0, .nameAndType 30 31), (0, u "com/example/goals_to_queue/goalstoqueue/QueueEntry"), (0, u "simpleName"), (0, u "(Ljava/lang/String;)Ljava/lang/String;"), (0, .methodref 18 33), (0, .nameAndType 34 35), (0, u "same"), (0, u "(Ljava/lang/String;I[CI)Z"), (3, u "law"), (0, u "(IIIII)Z")] 4

def k1m0 : Method := { name := "<init>", desc := "()V", sig := { parameters := [], returnType := none }, accessFlags := 1, code := none }
def k1c1 : Code := { maxStack := 2, maxLocals := 1, code := method_2_code, exceptionTable := #[], attributes := #[] }
def k1m1 : Method := { name := "draw", desc := "(I)C", sig := { parameters := [.int], returnType := some .char }, accessFlags := 10, code := some k1c1 }
def k1c2 : Code := { maxStack := 4, maxLocals := 4, code := method_3_code, exceptionTable := #[], attributes := #[] }
def k1m2 : Method := { name := "same", desc := "(Ljava/lang/String;I[CI)Z", sig := { parameters := [(.object "java/lang/String"), .int, (.array .char), .int], returnType := some .boolean }, accessFlags := 10, code := some k1c2 }
def k1c3 : Code := { maxStack := 5, maxLocals := 11, code := code, exceptionTable := #[], attributes := #[] }
def k1m3 : Method := { name := "law", desc := "(IIIII)Z", sig := { parameters := [.int, .int, .int, .int, .int], returnType := some .boolean }, accessFlags := 9, code := some k1c3 }
/-- com/example/goals_to_queue/goalstoqueue/QueueEntrySimpleNamePinLaw -/
def k1 : Class := { plain "com/example/goals_to_queue/goalstoqueue/QueueEntrySimpleNamePinLaw" (some 0) with
  accessFlags := 49
  interfaces := #[]
  cf := some (fileOf pool1 18 #[] #[{ accessFlags := 1, nameIndex := 5, descriptorIndex := 6, attributes := #[] }, { accessFlags := 10, nameIndex := 21, descriptorIndex := 16, attributes := #[] }, { accessFlags := 10, nameIndex := 34, descriptorIndex := 35, attributes := #[] }, { accessFlags := 9, nameIndex := 39, descriptorIndex := 40, attributes := #[] }] 49 2 #[] #[])
  fields := #[]
  methods := #[k1m0, k1m1, k1m2, k1m3]
  instanceTypes := #[]
  staticTypes := #[]
  resolved := Array.replicate 45 none
  statics := none }

def pool2 : Array CpInfo := pool [(1, .class_ 2), (0, u "java/io/Serializable"), (0, .class_ 4), (0, u "java/lang/Object")] 2

/-- java/io/Serializable -/
def k2 : Class := { plain "java/io/Serializable" (some 0) with
  accessFlags := 1537
  interfaces := #[]
  cf := some (fileOf pool2 1 #[] #[] 1537 3 #[] #[])
  fields := #[]
  methods := #[]
  instanceTypes := #[]
  staticTypes := #[]
  resolved := Array.replicate 7 none
  statics := none }

def pool3 : Array CpInfo := pool [(1, .class_ 2), (0, u "java/lang/Comparable"), (0, .class_ 4), (0, u "java/lang/Object")] 7

/-- java/lang/Comparable -/
def k3 : Class := { plain "java/lang/Comparable" (some 0) with
  accessFlags := 1537
  interfaces := #[]
  cf := some (fileOf pool3 1 #[] #[] 1537 3 #[] #[])
  fields := #[]
  methods := #[]
  instanceTypes := #[]
  staticTypes := #[]
  resolved := Array.replicate 12 none
  statics := none }

def pool4 : Array CpInfo := pool [(2, .class_ 4), (1, u "java/lang/CharSequence"), (42, .class_ 48), (0, u "java/lang/CharSequence$1CodePointIterator"), (10, .class_ 60), (0, u "java/lang/CharSequence$1CharIterator"), (5, .class_ 67), (0, u "java/lang/Object")] 63

/-- java/lang/CharSequence -/
def k4 : Class := { plain "java/lang/CharSequence" (some 0) with
  accessFlags := 1537
  interfaces := #[]
  cf := some (fileOf pool4 2 #[.nestMembers #[47, 59]] #[] 1537 66 #[] #[])
  fields := #[]
  methods := #[]
  instanceTypes := #[]
  staticTypes := #[]
  resolved := Array.replicate 131 none
  statics := none }

def pool5 : Array CpInfo := pool [(1, .class_ 2), (0, u "java/lang/constant/Constable"), (0, .class_ 4), (0, u "java/lang/Object")] 6

/-- java/lang/constant/Constable -/
def k5 : Class := { plain "java/lang/constant/Constable" (some 0) with
  accessFlags := 1537
  interfaces := #[]
  cf := some (fileOf pool5 1 #[] #[] 1537 3 #[] #[])
  fields := #[]
  methods := #[]
  instanceTypes := #[]
  staticTypes := #[]
  resolved := Array.replicate 11 none
  statics := none }

def pool6 : Array CpInfo := pool [(1, .class_ 2), (0, u "java/lang/constant/ConstantDesc"), (0, .class_ 4), (0, u "java/lang/Object")] 32

/-- java/lang/constant/ConstantDesc -/
def k6 : Class := { plain "java/lang/constant/ConstantDesc" (some 0) with
  accessFlags := 1537
  interfaces := #[]
  cf := some (fileOf pool6 1 #[] #[] 1537 3 #[] #[])
  fields := #[]
  methods := #[]
  instanceTypes := #[]
  staticTypes := #[]
  resolved := Array.replicate 37 none
  statics := none }

def pool7 : Array CpInfo := pool [(1, .methodref 2 3), (0, .class_ 4), (0, .nameAndType 5 6), (0, u "java/lang/Object"), (0, u "<init>"), (0, u "()V"), (0, .string 8), (0, u ""), (0, .fieldref 10 11), (0, .class_ 12), (0, .nameAndType 13 14), (0, u "java/lang/String"), (0, u "value"), (0, u "[B"), (0, .fieldref 10 16), (0, .nameAndType 17 18), (0, u "coder"), (0, u "B"), (2, u "hash"), (0, u "I"), (2, u "hashIsZero"), (0, u "Z"), (0, .methodref 10 28), (0, .nameAndType 5 29), (0, u "([CIILjava/lang/Void;)V"), (8, .fieldref 10 39), (0, .nameAndType 40 26), (0, u "COMPACT_STRINGS"), (1, .class_ 44), (1, u "java/lang/StringUTF16"), (0, u "compress"), (1, .methodref 42 48), (0, .nameAndType 49 50), (0, u "coderFromArrayLen"), (0, u "([BI)B"), (46, u "([BII)I"), (9, .class_ 109), (1, u "java/lang/StringLatin1"), (32, u "()Z"), (34, .methodref 42 178), (0, .nameAndType 45 179), (0, u "([CII)[B"), (31, u "([BB)V"), (122, u "()I"), (0, .methodref 10 336), (0, .nameAndType 17 337), (0, u "()B"), (25, u "([BI)C"), (27, u "(II)V"), (35, u "(I)C"), (64, .methodref 10 493), (0, .nameAndType 494 142), (0, u "isLatin1"), (0, .methodref 107 496), (0, .nameAndType 497 363), (0, u "charAt"), (3, u "checkIndex"), (3, .methodref 10 506), (0, .nameAndType 507 334), (0, u "length"), (5, u "checkFromToIndex"), (7, .methodref 10 522), (0, .nameAndType 523 524), (0, u "checkBoundsBeginEnd"), (0, u "(III)V"), (50, .class_ 576), (0, u "java/lang/CharSequence"), (22, u "CASE_INSENSITIVE_ORDER"), (0, u "Ljava/util/Comparator;"), (35, u "(II)I"), (4, .methodref 10 642), (0, .nameAndType 643 636), (0, u "lastIndexOf"), (0, .methodref 107 645), (0, .nameAndType 643 97), (35, .methodref 10 682), (0, .nameAndType 683 684), (0, u "substring"), (0, u "(II)Ljava/lang/String;"), (0, .methodref 107 686), (0, .nameAndType 687 688), (0, u "newString"), (0, u "([BII)Ljava/lang/String;"), (76, u "(I)I"), (126, u "(I)Ljava/lang/String;"), (117, u "([C)V"), (42, .fieldref 1054 1055), (0, .class_ 1056), (0, .nameAndType 1057 1058), (0, u "jdk/internal/util/Preconditions"), (0, u "SIOOBE_FORMATTER"), (0, u "Ljava/util/function/BiFunction;"), (0, .methodref 1054 1060), (0, .nameAndType 501 1061), (0, u "(IILjava/util/function/BiFunction;)I"), (0, .methodref 1054 1063), (0, .nameAndType 513 1064), (0, u "(IIILjava/util/function/BiFunction;)I"), (36, u "serialPersistentFields"), (0, u "[Ljava/io/ObjectStreamField;"), (0, .class_ 1104), (0, u "java/lang/String$CaseInsensitiveComparator"), (1, .class_ 1107), (0, u "java/io/Serializable"), (0, .class_ 1109), (0, u "java/lang/Comparable"), (0, .class_ 1111), (0, u "java/lang/constant/Constable"), (0, .class_ 1113), (0, u "java/lang/constant/ConstantDesc"), (2, u "serialVersionUID"), (0, u "J"), (3, u "REPL"), (0, u "C"), (2, u "LATIN1"), (1, u "UTF16")] 323

def k7m0 : Method := { name := "<init>", desc := "()V", sig := { parameters := [], returnType := none }, accessFlags := 1, code := none }
def k7c1 : Code := { maxStack := 5, maxLocals := 2, code := jdk_42_method_3_code, exceptionTable := #[], attributes := #[] }
def k7m1 : Method := { name := "<init>", desc := "([C)V", sig := { parameters := [(.array .char)], returnType := none }, accessFlags := 1, code := some k7c1 }
def k7c2 : Code := { maxStack := 2, maxLocals := 1, code := jdk_42_method_54_code, exceptionTable := #[], attributes := #[] }
def k7m2 : Method := { name := "length", desc := "()I", sig := { parameters := [], returnType := some .int }, accessFlags := 1, code := some k7c2 }
def k7c3 : Code := { maxStack := 2, maxLocals := 2, code := jdk_42_method_56_code, exceptionTable := #[], attributes := #[] }
def k7m3 : Method := { name := "charAt", desc := "(I)C", sig := { parameters := [.int], returnType := some .char }, accessFlags := 1, code := some k7c3 }
def k7c4 : Code := { maxStack := 4, maxLocals := 2, code := jdk_42_method_82_code, exceptionTable := #[], attributes := #[] }
def k7m4 : Method := { name := "lastIndexOf", desc := "(I)I", sig := { parameters := [.int], returnType := some .int }, accessFlags := 1, code := some k7c4 }
def k7c5 : Code := { maxStack := 3, maxLocals := 3, code := jdk_42_method_83_code, exceptionTable := #[], attributes := #[] }
def k7m5 : Method := { name := "lastIndexOf", desc := "(II)I", sig := { parameters := [.int, .int], returnType := some .int }, accessFlags := 1, code := some k7c5 }
def k7c6 : Code := { maxStack := 3, maxLocals := 2, code := jdk_42_method_91_code, exceptionTable := #[], attributes := #[] }
def k7m6 : Method := { name := "substring", desc := "(I)Ljava/lang/String;", sig := { parameters := [.int], returnType := some (.object "java/lang/String") }, accessFlags := 1, code := some k7c6 }
def k7c7 : Code := { maxStack := 3, maxLocals := 5, code := jdk_42_method_92_code, exceptionTable := #[], attributes := #[] }
def k7m7 : Method := { name := "substring", desc := "(II)Ljava/lang/String;", sig := { parameters := [.int, .int], returnType := some (.object "java/lang/String") }, accessFlags := 1, code := some k7c7 }
def k7c8 : Code := { maxStack := 4, maxLocals := 6, code := jdk_42_method_149_code, exceptionTable := #[], attributes := #[] }
def k7m8 : Method := { name := "<init>", desc := "([CIILjava/lang/Void;)V", sig := { parameters := [(.array .char), .int, .int, (.object "java/lang/Void")], returnType := none }, accessFlags := 2, code := some k7c8 }
def k7c9 : Code := { maxStack := 2, maxLocals := 3, code := jdk_42_method_151_code, exceptionTable := #[], attributes := #[] }
def k7m9 : Method := { name := "<init>", desc := "([BB)V", sig := { parameters := [(.array .byte), .byte], returnType := none }, accessFlags := 0, code := some k7c9 }
def k7c10 : Code := { maxStack := 1, maxLocals := 1, code := jdk_42_method_152_code, exceptionTable := #[], attributes := #[] }
def k7m10 : Method := { name := "coder", desc := "()B", sig := { parameters := [], returnType := some .byte }, accessFlags := 0, code := some k7c10 }
def k7c11 : Code := { maxStack := 1, maxLocals := 1, code := jdk_42_method_154_code, exceptionTable := #[], attributes := #[] }
def k7m11 : Method := { name := "isLatin1", desc := "()Z", sig := { parameters := [], returnType := some .boolean }, accessFlags := 0, code := some k7c11 }
def k7c12 : Code := { maxStack := 3, maxLocals := 2, code := jdk_42_method_155_code, exceptionTable := #[], attributes := #[] }
def k7m12 : Method := { name := "checkIndex", desc := "(II)V", sig := { parameters := [.int, .int], returnType := none }, accessFlags := 8, code := some k7c12 }
def k7c13 : Code := { maxStack := 4, maxLocals := 3, code := jdk_42_method_158_code, exceptionTable := #[], attributes := #[] }
def k7m13 : Method := { name := "checkBoundsBeginEnd", desc := "(III)V", sig := { parameters := [.int, .int, .int], returnType := none }, accessFlags := 8, code := some k7c13 }
/-- java/lang/String -/
def k7 : Class := { plain "java/lang/String" (some 0) with
  accessFlags := 49
  interfaces := #[2, 3, 4, 5, 6]
  cf := some (fileOf pool7 10 #[.nestMembers #[1103]] #[{ accessFlags := 1, nameIndex := 5, descriptorIndex := 6, attributes := #[] }, { accessFlags := 1, nameIndex := 5, descriptorIndex := 1010, attributes := #[] }, { accessFlags := 1, nameIndex := 507, descriptorIndex := 334, attributes := #[] }, { accessFlags := 1, nameIndex := 497, descriptorIndex := 427, attributes := #[] }, { accessFlags := 1, nameIndex := 643, descriptorIndex := 765, attributes := #[] }, { accessFlags := 1, nameIndex := 643, descriptorIndex := 636, attributes := #[] }, { accessFlags := 1, nameIndex := 683, descriptorIndex := 892, attributes := #[] }, { accessFlags := 1, nameIndex := 683, descriptorIndex := 684, attributes := #[] }, { accessFlags := 2, nameIndex := 5, descriptorIndex := 29, attributes := #[] }, { accessFlags := 0, nameIndex := 5, descriptorIndex := 211, attributes := #[] }, { accessFlags := 0, nameIndex := 17, descriptorIndex := 337, attributes := #[] }, { accessFlags := 0, nameIndex := 494, descriptorIndex := 142, attributes := #[] }, { accessFlags := 8, nameIndex := 501, descriptorIndex := 391, attributes := #[] }, { accessFlags := 8, nameIndex := 523, descriptorIndex := 524, attributes := #[] }] 49 2 #[1106, 1108, 575, 1110, 1112] #[{ accessFlags := 18, nameIndex := 13, descriptorIndex := 14, attributes := #[] }, { accessFlags := 18, nameIndex := 17, descriptorIndex := 18, attributes := #[] }, { accessFlags := 2, nameIndex := 21, descriptorIndex := 22, attributes := #[] }, { accessFlags := 2, nameIndex := 25, descriptorIndex := 26, attributes := #[] }, { accessFlags := 26, nameIndex := 1116, descriptorIndex := 1117, attributes := #[] }, { accessFlags := 24, nameIndex := 40, descriptorIndex := 26, attributes := #[] }, { accessFlags := 26, nameIndex := 1101, descriptorIndex := 1102, attributes := #[] }, { accessFlags := 26, nameIndex := 1121, descriptorIndex := 1122, attributes := #[] }, { accessFlags := 25, nameIndex := 599, descriptorIndex := 600, attributes := #[] }, { accessFlags := 24, nameIndex := 1125, descriptorIndex := 18, attributes := #[] }, { accessFlags := 24, nameIndex := 1127, descriptorIndex := 18, attributes := #[] }])
  fields := #[{ name := "value", type := (.array .byte), accessFlags := 18, slot := 0, constantValue := 0 }, { name := "coder", type := .byte, accessFlags := 18, slot := 1, constantValue := 0 }, { name := "hash", type := .int, accessFlags := 2, slot := 2, constantValue := 0 }, { name := "hashIsZero", type := .boolean, accessFlags := 2, slot := 3, constantValue := 0 }, { name := "serialVersionUID", type := .long, accessFlags := 26, slot := 0, constantValue := 0 }, { name := "COMPACT_STRINGS", type := .boolean, accessFlags := 24, slot := 1, constantValue := 0 }, { name := "serialPersistentFields", type := (.array (.object "java/io/ObjectStreamField")), accessFlags := 26, slot := 2, constantValue := 0 }, { name := "REPL", type := .char, accessFlags := 26, slot := 3, constantValue := 0 }, { name := "CASE_INSENSITIVE_ORDER", type := (.object "java/util/Comparator"), accessFlags := 25, slot := 4, constantValue := 0 }, { name := "LATIN1", type := .byte, accessFlags := 24, slot := 5, constantValue := 0 }, { name := "UTF16", type := .byte, accessFlags := 24, slot := 6, constantValue := 0 }]
  methods := #[k7m0, k7m1, k7m2, k7m3, k7m4, k7m5, k7m6, k7m7, k7m8, k7m9, k7m10, k7m11, k7m12, k7m13]
  instanceTypes := #[(.array .byte), .byte, .int, .boolean]
  staticTypes := #[.long, .boolean, (.array (.object "java/io/ObjectStreamField")), .char, (.object "java/util/Comparator"), .byte, .byte]
  resolved := Array.replicate 1451 none
  statics := some 0 }

def pool8 : Array CpInfo := pool [(2, .class_ 4), (1, u "java/lang/Object"), (3, .class_ 10), (1, u "com/example/goals_to_queue/goalstoqueue/QueueEntry"), (0, u "className"), (0, u "Ljava/lang/String;"), (2, u "handler"), (0, u "Lcom/example/goals_to_queue/goalstoqueue/NablarchHandler;"), (2, u "role"), (2, u "reference"), (0, u "Lcom/example/goals_to_queue/goalstoqueue/DefaultComponent;"), (2, u "customName"), (8, u "properties"), (0, u "Ljava/util/Map;"), (7, u "askingItems"), (0, u "Ljava/util/List;"), (2, u "referredParts"), (65, u "(Ljava/lang/String;)Ljava/lang/String;"), (27, u "simpleName"), (0, .methodref 144 145), (0, .class_ 146), (0, .nameAndType 147 148), (0, u "java/lang/String"), (0, u "lastIndexOf"), (0, u "(I)I"), (0, .methodref 144 150), (0, .nameAndType 151 152), (0, u "substring"), (0, u "(I)Ljava/lang/String;")] 86

def k8c0 : Code := { maxStack := 3, maxLocals := 1, code := prog_26_method_18_code, exceptionTable := #[], attributes := #[] }
def k8m0 : Method := { name := "simpleName", desc := "(Ljava/lang/String;)Ljava/lang/String;", sig := { parameters := [(.object "java/lang/String")], returnType := some (.object "java/lang/String") }, accessFlags := 9, code := some k8c0 }
/-- com/example/goals_to_queue/goalstoqueue/QueueEntry -/
def k8 : Class := { plain "com/example/goals_to_queue/goalstoqueue/QueueEntry" (some 0) with
  accessFlags := 33
  interfaces := #[]
  cf := some (fileOf pool8 8 #[] #[{ accessFlags := 9, nameIndex := 142, descriptorIndex := 114, attributes := #[] }] 33 2 #[] #[{ accessFlags := 18, nameIndex := 11, descriptorIndex := 12, attributes := #[] }, { accessFlags := 18, nameIndex := 15, descriptorIndex := 16, attributes := #[] }, { accessFlags := 18, nameIndex := 19, descriptorIndex := 12, attributes := #[] }, { accessFlags := 18, nameIndex := 22, descriptorIndex := 23, attributes := #[] }, { accessFlags := 18, nameIndex := 26, descriptorIndex := 12, attributes := #[] }, { accessFlags := 18, nameIndex := 35, descriptorIndex := 36, attributes := #[] }, { accessFlags := 18, nameIndex := 44, descriptorIndex := 45, attributes := #[] }, { accessFlags := 18, nameIndex := 48, descriptorIndex := 45, attributes := #[] }])
  fields := #[{ name := "className", type := (.object "java/lang/String"), accessFlags := 18, slot := 0, constantValue := 0 }, { name := "handler", type := (.object "com/example/goals_to_queue/goalstoqueue/NablarchHandler"), accessFlags := 18, slot := 1, constantValue := 0 }, { name := "role", type := (.object "java/lang/String"), accessFlags := 18, slot := 2, constantValue := 0 }, { name := "reference", type := (.object "com/example/goals_to_queue/goalstoqueue/DefaultComponent"), accessFlags := 18, slot := 3, constantValue := 0 }, { name := "customName", type := (.object "java/lang/String"), accessFlags := 18, slot := 4, constantValue := 0 }, { name := "properties", type := (.object "java/util/Map"), accessFlags := 18, slot := 5, constantValue := 0 }, { name := "askingItems", type := (.object "java/util/List"), accessFlags := 18, slot := 6, constantValue := 0 }, { name := "referredParts", type := (.object "java/util/List"), accessFlags := 18, slot := 7, constantValue := 0 }]
  methods := #[k8m0]
  instanceTypes := #[(.object "java/lang/String"), (.object "com/example/goals_to_queue/goalstoqueue/NablarchHandler"), (.object "java/lang/String"), (.object "com/example/goals_to_queue/goalstoqueue/DefaultComponent"), (.object "java/lang/String"), (.object "java/util/Map"), (.object "java/util/List"), (.object "java/util/List")]
  staticTypes := #[]
  resolved := Array.replicate 239 none
  statics := none }

def pool9 : Array CpInfo := pool [(1, .class_ 2), (0, u "java/lang/String"), (1, .class_ 6), (1, u "java/lang/Object"), (0, u "<init>"), (0, u "()V"), (0, .methodref 1 10), (0, .nameAndType 11 12), (0, u "checkIndex"), (0, u "(II)V"), (1, .class_ 16), (1, u "java/lang/StringLatin1"), (21, .methodref 39 40), (0, .class_ 41), (0, .nameAndType 42 43), (0, u "java/lang/Math"), (0, u "min"), (0, u "(II)I"), (9, u "([BI)C"), (34, .methodref 14 89), (0, .nameAndType 90 91), (0, u "canEncode"), (0, u "(I)Z"), (20, .methodref 1 113), (0, .nameAndType 7 114), (0, u "([BB)V"), (6, u "$assertionsDisabled"), (0, u "Z"), (8, .class_ 133), (1, u "java/util/Arrays"), (17, .string 152), (0, u ""), (43, u "newString"), (0, u "([BII)Ljava/lang/String;"), (23, .class_ 223), (1, u "java/lang/StringLatin1$LinesSpliterator"), (8, .methodref 131 233), (0, .nameAndType 234 235), (0, u "copyOfRange"), (0, u "([BII)[B"), (16, u "charAt"), (8, u "([BII)I"), (47, u "lastIndexOf"), (80, .class_ 391), (0, u "java/lang/StringLatin1$CharsSpliterator")] 3

def k9m0 : Method := { name := "<init>", desc := "()V", sig := { parameters := [], returnType := none }, accessFlags := 0, code := none }
def k9c1 : Code := { maxStack := 2, maxLocals := 2, code := jdk_43_method_2_code, exceptionTable := #[], attributes := #[] }
def k9m1 : Method := { name := "charAt", desc := "([BI)C", sig := { parameters := [(.array .byte), .int], returnType := some .char }, accessFlags := 9, code := some k9c1 }
def k9c2 : Code := { maxStack := 2, maxLocals := 1, code := jdk_43_method_4_code, exceptionTable := #[], attributes := #[] }
def k9m2 : Method := { name := "canEncode", desc := "(I)Z", sig := { parameters := [.int], returnType := some .boolean }, accessFlags := 9, code := some k9c2 }
def k9c3 : Code := { maxStack := 3, maxLocals := 4, code := jdk_43_method_27_code, exceptionTable := #[], attributes := #[] }
def k9m3 : Method := { name := "lastIndexOf", desc := "([BII)I", sig := { parameters := [(.array .byte), .int, .int], returnType := some .int }, accessFlags := 9, code := some k9c3 }
def k9c4 : Code := { maxStack := 6, maxLocals := 3, code := jdk_43_method_47_code, exceptionTable := #[], attributes := #[] }
def k9m4 : Method := { name := "newString", desc := "([BII)Ljava/lang/String;", sig := { parameters := [(.array .byte), .int, .int], returnType := some (.object "java/lang/String") }, accessFlags := 9, code := some k9c4 }
/-- java/lang/StringLatin1 -/
def k9 : Class := { plain "java/lang/StringLatin1" (some 0) with
  accessFlags := 48
  interfaces := #[]
  cf := some (fileOf pool9 14 #[.nestMembers #[390, 221]] #[{ accessFlags := 0, nameIndex := 7, descriptorIndex := 8, attributes := #[] }, { accessFlags := 9, nameIndex := 252, descriptorIndex := 53, attributes := #[] }, { accessFlags := 9, nameIndex := 90, descriptorIndex := 91, attributes := #[] }, { accessFlags := 9, nameIndex := 309, descriptorIndex := 261, attributes := #[] }, { accessFlags := 9, nameIndex := 196, descriptorIndex := 197, attributes := #[] }] 48 4 #[] #[{ accessFlags := 4120, nameIndex := 121, descriptorIndex := 122, attributes := #[] }])
  fields := #[{ name := "$assertionsDisabled", type := .boolean, accessFlags := 4120, slot := 0, constantValue := 0 }]
  methods := #[k9m0, k9m1, k9m2, k9m3, k9m4]
  instanceTypes := #[]
  staticTypes := #[.boolean]
  resolved := Array.replicate 395 none
  statics := none }

def pool10 : Array CpInfo := pool [(1, .class_ 2), (0, u "java/lang/Math"), (1, .class_ 6), (1, u "java/lang/Object"), (0, u "<init>"), (0, u "()V"), (89, .class_ 100), (1, u "java/lang/Math$RandomNumberGeneratorHolder"), (71, u "negativeZeroFloatBits"), (0, u "J"), (2, u "negativeZeroDoubleBits"), (24, u "min"), (43, u "$assertionsDisabled"), (0, u "Z"), (88, u "(II)I"), (2, u "twoToTheDoubleScaleDown"), (0, u "D"), (4, u "twoToTheDoubleScaleUp"), (9, u "E"), (3, u "PI"), (2, u "TAU"), (2, u "DEGREES_TO_RADIANS"), (0, u "RADIANS_TO_DEGREES")] 94

def k10m0 : Method := { name := "<init>", desc := "()V", sig := { parameters := [], returnType := none }, accessFlags := 2, code := none }
def k10c1 : Code := { maxStack := 2, maxLocals := 2, code := jdk_29_method_69_code, exceptionTable := #[], attributes := #[] }
def k10m1 : Method := { name := "min", desc := "(II)I", sig := { parameters := [.int, .int], returnType := some .int }, accessFlags := 9, code := some k10c1 }
/-- java/lang/Math -/
def k10 : Class := { plain "java/lang/Math" (some 0) with
  accessFlags := 49
  interfaces := #[]
  cf := some (fileOf pool10 1 #[.nestMembers #[98]] #[{ accessFlags := 2, nameIndex := 7, descriptorIndex := 8, attributes := #[] }, { accessFlags := 9, nameIndex := 201, descriptorIndex := 335, attributes := #[] }] 49 4 #[] #[{ accessFlags := 25, nameIndex := 354, descriptorIndex := 339, attributes := #[] }, { accessFlags := 25, nameIndex := 358, descriptorIndex := 339, attributes := #[] }, { accessFlags := 25, nameIndex := 361, descriptorIndex := 339, attributes := #[] }, { accessFlags := 26, nameIndex := 364, descriptorIndex := 339, attributes := #[] }, { accessFlags := 26, nameIndex := 365, descriptorIndex := 339, attributes := #[] }, { accessFlags := 26, nameIndex := 172, descriptorIndex := 173, attributes := #[] }, { accessFlags := 26, nameIndex := 176, descriptorIndex := 173, attributes := #[] }, { accessFlags := 8, nameIndex := 344, descriptorIndex := 339, attributes := #[] }, { accessFlags := 8, nameIndex := 338, descriptorIndex := 339, attributes := #[] }, { accessFlags := 4120, nameIndex := 245, descriptorIndex := 246, attributes := #[] }])
  fields := #[{ name := "E", type := .double, accessFlags := 25, slot := 0, constantValue := 0 }, { name := "PI", type := .double, accessFlags := 25, slot := 1, constantValue := 0 }, { name := "TAU", type := .double, accessFlags := 25, slot := 2, constantValue := 0 }, { name := "DEGREES_TO_RADIANS", type := .double, accessFlags := 26, slot := 3, constantValue := 0 }, { name := "RADIANS_TO_DEGREES", type := .double, accessFlags := 26, slot := 4, constantValue := 0 }, { name := "negativeZeroFloatBits", type := .long, accessFlags := 26, slot := 5, constantValue := 0 }, { name := "negativeZeroDoubleBits", type := .long, accessFlags := 26, slot := 6, constantValue := 0 }, { name := "twoToTheDoubleScaleUp", type := .double, accessFlags := 8, slot := 7, constantValue := 0 }, { name := "twoToTheDoubleScaleDown", type := .double, accessFlags := 8, slot := 8, constantValue := 0 }, { name := "$assertionsDisabled", type := .boolean, accessFlags := 4120, slot := 9, constantValue := 0 }]
  methods := #[k10m0, k10m1]
  instanceTypes := #[]
  staticTypes := #[.double, .double, .double, .double, .double, .long, .long, .double, .double, .boolean]
  resolved := Array.replicate 460 none
  statics := none }

def pool11 : Array CpInfo := pool [(2, .class_ 4), (1, u "java/lang/Object"), (0, u "<init>"), (0, u "()V"), (17, .class_ 26), (1, u "jdk/internal/util/Preconditions"), (6, u "checkIndex"), (13, u "checkFromToIndex"), (7, .class_ 56), (0, u "jdk/internal/util/Preconditions$4"), (57, .class_ 115), (0, u "jdk/internal/util/Preconditions$1"), (7, u "SIOOBE_FORMATTER"), (0, u "Ljava/util/function/BiFunction;"), (0, .class_ 126), (0, u "jdk/internal/util/Preconditions$2"), (3, u "AIOOBE_FORMATTER"), (0, .class_ 132), (0, u "jdk/internal/util/Preconditions$3"), (3, u "IOOBE_FORMATTER"), (41, u "(IILjava/util/function/BiFunction;)I"), (4, u "(IIILjava/util/function/BiFunction;)I")] 10

def k11m0 : Method := { name := "<init>", desc := "()V", sig := { parameters := [], returnType := none }, accessFlags := 1, code := none }
def k11c1 : Code := { maxStack := 3, maxLocals := 3, code := jdk_41_method_11_code, exceptionTable := #[], attributes := #[] }
def k11m1 : Method := { name := "checkIndex", desc := "(IILjava/util/function/BiFunction;)I", sig := { parameters := [.int, .int, (.object "java/util/function/BiFunction")], returnType := some .int }, accessFlags := 9, code := some k11c1 }
def k11c2 : Code := { maxStack := 4, maxLocals := 4, code := jdk_41_method_12_code, exceptionTable := #[], attributes := #[] }
def k11m2 : Method := { name := "checkFromToIndex", desc := "(IIILjava/util/function/BiFunction;)I", sig := { parameters := [.int, .int, .int, (.object "java/util/function/BiFunction")], returnType := some .int }, accessFlags := 9, code := some k11c2 }
/-- jdk/internal/util/Preconditions -/
def k11 : Class := { plain "jdk/internal/util/Preconditions" (some 0) with
  accessFlags := 33
  interfaces := #[]
  cf := some (fileOf pool11 24 #[.nestMembers #[55, 131, 125, 114]] #[{ accessFlags := 1, nameIndex := 5, descriptorIndex := 6, attributes := #[] }, { accessFlags := 9, nameIndex := 33, descriptorIndex := 178, attributes := #[] }, { accessFlags := 9, nameIndex := 47, descriptorIndex := 183, attributes := #[] }] 33 2 #[] #[{ accessFlags := 25, nameIndex := 123, descriptorIndex := 124, attributes := #[] }, { accessFlags := 25, nameIndex := 130, descriptorIndex := 124, attributes := #[] }, { accessFlags := 25, nameIndex := 136, descriptorIndex := 124, attributes := #[] }])
  fields := #[{ name := "SIOOBE_FORMATTER", type := (.object "java/util/function/BiFunction"), accessFlags := 25, slot := 0, constantValue := 0 }, { name := "AIOOBE_FORMATTER", type := (.object "java/util/function/BiFunction"), accessFlags := 25, slot := 1, constantValue := 0 }, { name := "IOOBE_FORMATTER", type := (.object "java/util/function/BiFunction"), accessFlags := 25, slot := 2, constantValue := 0 }]
  methods := #[k11m0, k11m1, k11m2]
  instanceTypes := #[]
  staticTypes := #[(.object "java/util/function/BiFunction"), (.object "java/util/function/BiFunction"), (.object "java/util/function/BiFunction")]
  resolved := Array.replicate 194 none
  statics := some 1 }

def pool12 : Array CpInfo := pool [(6, .class_ 8), (1, u "java/lang/Object"), (0, u "<init>"), (0, u "()V"), (1, .class_ 14), (1, u "java/lang/StringUTF16"), (31, u "$assertionsDisabled"), (0, u "Z"), (13, u "HI_BYTE_SHIFT"), (0, u "I"), (2, u "LO_BYTE_SHIFT"), (49, .methodref 12 116), (0, .nameAndType 117 118), (0, u "compress"), (0, u "([CI[BII)I"), (3, u "([CII)[B"), (138, u "coderFromArrayLen"), (0, u "([BI)B"), (106, .class_ 371), (1, u "java/lang/StringUTF16$LinesSpliterator"), (58, u "MAX_LENGTH"), (196, .class_ 628), (0, u "java/lang/StringUTF16$CodePointsSpliterator"), (0, .class_ 630), (0, u "java/lang/StringUTF16$CharsSpliterator")] 4

def k12m0 : Method := { name := "<init>", desc := "()V", sig := { parameters := [], returnType := none }, accessFlags := 0, code := none }
def k12c1 : Code := { maxStack := 2, maxLocals := 2, code := jdk_52_method_15_code, exceptionTable := #[], attributes := #[] }
def k12m1 : Method := { name := "coderFromArrayLen", desc := "([BI)B", sig := { parameters := [(.array .byte), .int], returnType := some .byte }, accessFlags := 8, code := some k12c1 }
def k12c2 : Code := { maxStack := 5, maxLocals := 6, code := jdk_52_method_16_code, exceptionTable := #[], attributes := #[] }
def k12m2 : Method := { name := "compress", desc := "([CII)[B", sig := { parameters := [(.array .char), .int, .int], returnType := some (.array .byte) }, accessFlags := 9, code := some k12c2 }
def k12c3 : Code := { maxStack := 3, maxLocals := 7, code := jdk_52_method_21_code, exceptionTable := #[], attributes := #[] }
def k12m3 : Method := { name := "compress", desc := "([CI[BII)I", sig := { parameters := [(.array .char), .int, (.array .byte), .int, .int], returnType := some .int }, accessFlags := 9, code := some k12c3 }
/-- java/lang/StringUTF16 -/
def k12 : Class := { plain "java/lang/StringUTF16" (some 0) with
  accessFlags := 48
  interfaces := #[]
  cf := some (fileOf pool12 12 #[.nestMembers #[627, 629, 369]] #[{ accessFlags := 0, nameIndex := 9, descriptorIndex := 10, attributes := #[] }, { accessFlags := 8, nameIndex := 261, descriptorIndex := 262, attributes := #[] }, { accessFlags := 9, nameIndex := 117, descriptorIndex := 122, attributes := #[] }, { accessFlags := 9, nameIndex := 117, descriptorIndex := 118, attributes := #[] }] 48 6 #[] #[{ accessFlags := 26, nameIndex := 61, descriptorIndex := 62, attributes := #[] }, { accessFlags := 26, nameIndex := 65, descriptorIndex := 62, attributes := #[] }, { accessFlags := 24, nameIndex := 430, descriptorIndex := 62, attributes := #[] }, { accessFlags := 4120, nameIndex := 46, descriptorIndex := 47, attributes := #[] }])
  fields := #[{ name := "HI_BYTE_SHIFT", type := .int, accessFlags := 26, slot := 0, constantValue := 0 }, { name := "LO_BYTE_SHIFT", type := .int, accessFlags := 26, slot := 1, constantValue := 0 }, { name := "MAX_LENGTH", type := .int, accessFlags := 24, slot := 2, constantValue := 0 }, { name := "$assertionsDisabled", type := .boolean, accessFlags := 4120, slot := 3, constantValue := 0 }]
  methods := #[k12m0, k12m1, k12m2, k12m3]
  instanceTypes := #[]
  staticTypes := #[.int, .int, .int, .boolean]
  resolved := Array.replicate 635 none
  statics := none }

def pool13 : Array CpInfo := pool [(2, .class_ 4), (1, u "java/lang/Object"), (0, u "<init>"), (0, u "()V"), (7, .class_ 16), (1, u "java/util/Arrays"), (57, .class_ 76), (1, u "java/util/Arrays$NaturalOrder"), (36, .class_ 115), (1, u "java/util/Arrays$LegacyMergeSort"), (1, u "Z"), (21, u "copyOfRange"), (10, .methodref 151 152), (0, .class_ 153), (0, .nameAndType 154 155), (0, u "java/lang/System"), (0, u "arraycopy"), (0, u "(Ljava/lang/Object;ILjava/lang/Object;II)V"), (148, .methodref 305 306), (0, .class_ 307), (0, .nameAndType 308 309), (0, u "java/lang/Math"), (0, u "min"), (0, u "(II)I"), (29, .methodref 14 340), (0, .nameAndType 341 342), (0, u "copyOfRangeByte"), (0, u "([BII)[B"), (0, .methodref 14 344), (0, .nameAndType 345 346), (0, u "checkLength"), (0, u "(II)V"), (28, .class_ 376), (0, u "java/util/Arrays$ArrayList"), (68, u "$assertionsDisabled"), (269, u "MIN_ARRAY_SORT_GRAN"), (0, u "I"), (2, u "INSERTIONSORT_THRESHOLD"), (255, .class_ 976), (0, u "java/util/Arrays$ArrayItr")] 52

def k13m0 : Method := { name := "<init>", desc := "()V", sig := { parameters := [], returnType := none }, accessFlags := 2, code := none }
def k13c1 : Code := { maxStack := 4, maxLocals := 2, code := jdk_65_method_131_code, exceptionTable := #[], attributes := #[] }
def k13m1 : Method := { name := "checkLength", desc := "(II)V", sig := { parameters := [.int, .int], returnType := none }, accessFlags := 10, code := some k13c1 }
def k13c2 : Code := { maxStack := 3, maxLocals := 3, code := jdk_65_method_132_code, exceptionTable := #[], attributes := #[] }
def k13m2 : Method := { name := "copyOfRange", desc := "([BII)[B", sig := { parameters := [(.array .byte), .int, .int], returnType := some (.array .byte) }, accessFlags := 9, code := some k13c2 }
def k13c3 : Code := { maxStack := 6, maxLocals := 5, code := jdk_65_method_133_code, exceptionTable := #[], attributes := #[] }
def k13m3 : Method := { name := "copyOfRangeByte", desc := "([BII)[B", sig := { parameters := [(.array .byte), .int, .int], returnType := some (.array .byte) }, accessFlags := 10, code := some k13c3 }
/-- java/util/Arrays -/
def k13 : Class := { plain "java/util/Arrays" (some 0) with
  accessFlags := 49
  interfaces := #[]
  cf := some (fileOf pool13 14 #[.nestMembers #[975, 375, 113, 74]] #[{ accessFlags := 2, nameIndex := 5, descriptorIndex := 6, attributes := #[] }, { accessFlags := 10, nameIndex := 345, descriptorIndex := 346, attributes := #[] }, { accessFlags := 9, nameIndex := 139, descriptorIndex := 342, attributes := #[] }, { accessFlags := 10, nameIndex := 341, descriptorIndex := 342, attributes := #[] }] 49 2 #[] #[{ accessFlags := 26, nameIndex := 715, descriptorIndex := 716, attributes := #[] }, { accessFlags := 26, nameIndex := 719, descriptorIndex := 716, attributes := #[] }, { accessFlags := 4120, nameIndex := 445, descriptorIndex := 117, attributes := #[] }])
  fields := #[{ name := "MIN_ARRAY_SORT_GRAN", type := .int, accessFlags := 26, slot := 0, constantValue := 0 }, { name := "INSERTIONSORT_THRESHOLD", type := .int, accessFlags := 26, slot := 1, constantValue := 0 }, { name := "$assertionsDisabled", type := .boolean, accessFlags := 4120, slot := 2, constantValue := 0 }]
  methods := #[k13m0, k13m1, k13m2, k13m3]
  instanceTypes := #[]
  staticTypes := #[.int, .int, .boolean]
  resolved := Array.replicate 1029 none
  statics := none }

def pool14 : Array CpInfo := pool [(2, .class_ 4), (1, u "java/lang/Object"), (0, u "<init>"), (0, u "()V"), (1, .class_ 10), (1, u "java/lang/System"), (0, u "allowSecurityManager"), (0, u "I"), (16, u "cons"), (0, u "Ljava/io/Console;"), (77, .class_ 110), (1, u "java/lang/System$CallersHolder"), (43, u "initialErrStream"), (0, u "Ljava/io/PrintStream;"), (19, u "security"), (0, u "Ljava/lang/SecurityManager;"), (31, .class_ 209), (0, u "java/lang/System$1"), (7, u "props"), (0, u "Ljava/util/Properties;"), (2, u "lineSeparator"), (0, u "Ljava/lang/String;"), (96, .class_ 321), (1, u "java/lang/System$LoggerFinder"), (5, .class_ 328), (0, u "java/lang/System$Logger"), (67, u "err"), (2, u "out"), (91, u "notSupportedJnuEncoding"), (15, u "in"), (17, u "initialIn"), (0, u "Ljava/io/InputStream;"), (35, u "bootLayer"), (0, u "Ljava/lang/ModuleLayer;"), (99, .class_ 664), (0, u "java/lang/System$2"), (9, u "NEVER"), (2, u "MAYBE"), (49, u "arraycopy"), (0, u "(Ljava/lang/Object;ILjava/lang/Object;II)V"), (72, .class_ 802), (0, u "java/lang/System$Logger$Level")] 31

def k14m0 : Method := { name := "<init>", desc := "()V", sig := { parameters := [], returnType := none }, accessFlags := 2, code := none }
def k14m1 : Method := { name := "arraycopy", desc := "(Ljava/lang/Object;ILjava/lang/Object;II)V", sig := { parameters := [(.object "java/lang/Object"), .int, (.object "java/lang/Object"), .int, .int], returnType := none }, accessFlags := 265, code := none }
/-- java/lang/System -/
def k14 : Class := { plain "java/lang/System" (some 0) with
  accessFlags := 49
  interfaces := #[]
  cf := some (fileOf pool14 8 #[.nestMembers #[319, 327, 801, 108, 663, 208]] #[{ accessFlags := 2, nameIndex := 5, descriptorIndex := 6, attributes := #[] }, { accessFlags := 265, nameIndex := 727, descriptorIndex := 728, attributes := #[] }] 49 2 #[] #[{ accessFlags := 25, nameIndex := 507, descriptorIndex := 526, attributes := #[] }, { accessFlags := 25, nameIndex := 399, descriptorIndex := 155, attributes := #[] }, { accessFlags := 25, nameIndex := 396, descriptorIndex := 155, attributes := #[] }, { accessFlags := 10, nameIndex := 525, descriptorIndex := 526, attributes := #[] }, { accessFlags := 26, nameIndex := 674, descriptorIndex := 12, attributes := #[] }, { accessFlags := 26, nameIndex := 677, descriptorIndex := 12, attributes := #[] }, { accessFlags := 10, nameIndex := 11, descriptorIndex := 12, attributes := #[] }, { accessFlags := 74, nameIndex := 175, descriptorIndex := 176, attributes := #[] }, { accessFlags := 10, nameIndex := 491, descriptorIndex := 222, attributes := #[] }, { accessFlags := 74, nameIndex := 29, descriptorIndex := 30, attributes := #[] }, { accessFlags := 74, nameIndex := 154, descriptorIndex := 155, attributes := #[] }, { accessFlags := 10, nameIndex := 217, descriptorIndex := 218, attributes := #[] }, { accessFlags := 10, nameIndex := 221, descriptorIndex := 222, attributes := #[] }, { accessFlags := 8, nameIndex := 562, descriptorIndex := 563, attributes := #[] }])
  fields := #[{ name := "in", type := (.object "java/io/InputStream"), accessFlags := 25, slot := 0, constantValue := 0 }, { name := "out", type := (.object "java/io/PrintStream"), accessFlags := 25, slot := 1, constantValue := 0 }, { name := "err", type := (.object "java/io/PrintStream"), accessFlags := 25, slot := 2, constantValue := 0 }, { name := "initialIn", type := (.object "java/io/InputStream"), accessFlags := 10, slot := 3, constantValue := 0 }, { name := "NEVER", type := .int, accessFlags := 26, slot := 4, constantValue := 0 }, { name := "MAYBE", type := .int, accessFlags := 26, slot := 5, constantValue := 0 }, { name := "allowSecurityManager", type := .int, accessFlags := 10, slot := 6, constantValue := 0 }, { name := "security", type := (.object "java/lang/SecurityManager"), accessFlags := 74, slot := 7, constantValue := 0 }, { name := "notSupportedJnuEncoding", type := (.object "java/lang/String"), accessFlags := 10, slot := 8, constantValue := 0 }, { name := "cons", type := (.object "java/io/Console"), accessFlags := 74, slot := 9, constantValue := 0 }, { name := "initialErrStream", type := (.object "java/io/PrintStream"), accessFlags := 74, slot := 10, constantValue := 0 }, { name := "props", type := (.object "java/util/Properties"), accessFlags := 10, slot := 11, constantValue := 0 }, { name := "lineSeparator", type := (.object "java/lang/String"), accessFlags := 10, slot := 12, constantValue := 0 }, { name := "bootLayer", type := (.object "java/lang/ModuleLayer"), accessFlags := 8, slot := 13, constantValue := 0 }]
  methods := #[k14m0, k14m1]
  instanceTypes := #[]
  staticTypes := #[(.object "java/io/InputStream"), (.object "java/io/PrintStream"), (.object "java/io/PrintStream"), (.object "java/io/InputStream"), .int, .int, .int, (.object "java/lang/SecurityManager"), (.object "java/lang/String"), (.object "java/io/Console"), (.object "java/io/PrintStream"), (.object "java/util/Properties"), (.object "java/lang/String"), (.object "java/lang/ModuleLayer")]
  resolved := Array.replicate 834 none
  statics := none }

def pool15 : Array CpInfo := pool [(9, u "<init>"), (6, .class_ 18), (1, u "java/lang/Object"), (0, u "()V"), (1, .class_ 23), (1, u "jdk/internal/util/ArraysSupport"), (0, u "LOG2_ARRAY_LONG_INDEX_SCALE"), (0, u "I"), (2, u "U"), (0, u "Ljdk/internal/misc/Unsafe;"), (8, u "BIG_ENDIAN"), (0, u "Z"), (8, u "LOG2_BYTE_BIT_SIZE"), (4, u "LOG2_ARRAY_INT_INDEX_SCALE"), (54, u "JLA"), (0, u "Ljdk/internal/access/JavaLangAccess;"), (11, u "LOG2_ARRAY_BOOLEAN_INDEX_SCALE"), (9, u "LOG2_ARRAY_BYTE_INDEX_SCALE"), (5, u "LOG2_ARRAY_CHAR_INDEX_SCALE"), (5, u "LOG2_ARRAY_SHORT_INDEX_SCALE"), (18, u "LOG2_ARRAY_FLOAT_INDEX_SCALE"), (24, u "LOG2_ARRAY_DOUBLE_INDEX_SCALE"), (89, u "T_BOOLEAN"), (2, u "T_CHAR"), (1, u "T_FLOAT"), (1, u "T_DOUBLE"), (1, u "T_BYTE"), (1, u "T_SHORT"), (1, u "T_INT"), (1, u "T_LONG"), (1, u "SOFT_MAX_ARRAY_LENGTH")] 83

def k15m0 : Method := { name := "<init>", desc := "()V", sig := { parameters := [], returnType := none }, accessFlags := 2, code := none }
/-- jdk/internal/util/ArraysSupport -/
def k15 : Class := { plain "jdk/internal/util/ArraysSupport" (some 0) with
  accessFlags := 33
  interfaces := #[]
  cf := some (fileOf pool15 21 #[] #[{ accessFlags := 2, nameIndex := 9, descriptorIndex := 19, attributes := #[] }] 33 16 #[] #[{ accessFlags := 24, nameIndex := 28, descriptorIndex := 29, attributes := #[] }, { accessFlags := 26, nameIndex := 38, descriptorIndex := 39, attributes := #[] }, { accessFlags := 25, nameIndex := 121, descriptorIndex := 25, attributes := #[] }, { accessFlags := 25, nameIndex := 131, descriptorIndex := 25, attributes := #[] }, { accessFlags := 25, nameIndex := 137, descriptorIndex := 25, attributes := #[] }, { accessFlags := 25, nameIndex := 143, descriptorIndex := 25, attributes := #[] }, { accessFlags := 25, nameIndex := 53, descriptorIndex := 25, attributes := #[] }, { accessFlags := 25, nameIndex := 24, descriptorIndex := 25, attributes := #[] }, { accessFlags := 25, nameIndex := 162, descriptorIndex := 25, attributes := #[] }, { accessFlags := 25, nameIndex := 187, descriptorIndex := 25, attributes := #[] }, { accessFlags := 26, nameIndex := 48, descriptorIndex := 25, attributes := #[] }, { accessFlags := 25, nameIndex := 277, descriptorIndex := 25, attributes := #[] }, { accessFlags := 25, nameIndex := 280, descriptorIndex := 25, attributes := #[] }, { accessFlags := 25, nameIndex := 282, descriptorIndex := 25, attributes := #[] }, { accessFlags := 25, nameIndex := 284, descriptorIndex := 25, attributes := #[] }, { accessFlags := 25, nameIndex := 286, descriptorIndex := 25, attributes := #[] }, { accessFlags := 25, nameIndex := 288, descriptorIndex := 25, attributes := #[] }, { accessFlags := 25, nameIndex := 290, descriptorIndex := 25, attributes := #[] }, { accessFlags := 25, nameIndex := 292, descriptorIndex := 25, attributes := #[] }, { accessFlags := 26, nameIndex := 108, descriptorIndex := 109, attributes := #[] }, { accessFlags := 25, nameIndex := 294, descriptorIndex := 25, attributes := #[] }])
  fields := #[{ name := "U", type := (.object "jdk/internal/misc/Unsafe"), accessFlags := 24, slot := 0, constantValue := 0 }, { name := "BIG_ENDIAN", type := .boolean, accessFlags := 26, slot := 1, constantValue := 0 }, { name := "LOG2_ARRAY_BOOLEAN_INDEX_SCALE", type := .int, accessFlags := 25, slot := 2, constantValue := 0 }, { name := "LOG2_ARRAY_BYTE_INDEX_SCALE", type := .int, accessFlags := 25, slot := 3, constantValue := 0 }, { name := "LOG2_ARRAY_CHAR_INDEX_SCALE", type := .int, accessFlags := 25, slot := 4, constantValue := 0 }, { name := "LOG2_ARRAY_SHORT_INDEX_SCALE", type := .int, accessFlags := 25, slot := 5, constantValue := 0 }, { name := "LOG2_ARRAY_INT_INDEX_SCALE", type := .int, accessFlags := 25, slot := 6, constantValue := 0 }, { name := "LOG2_ARRAY_LONG_INDEX_SCALE", type := .int, accessFlags := 25, slot := 7, constantValue := 0 }, { name := "LOG2_ARRAY_FLOAT_INDEX_SCALE", type := .int, accessFlags := 25, slot := 8, constantValue := 0 }, { name := "LOG2_ARRAY_DOUBLE_INDEX_SCALE", type := .int, accessFlags := 25, slot := 9, constantValue := 0 }, { name := "LOG2_BYTE_BIT_SIZE", type := .int, accessFlags := 26, slot := 10, constantValue := 0 }, { name := "T_BOOLEAN", type := .int, accessFlags := 25, slot := 11, constantValue := 0 }, { name := "T_CHAR", type := .int, accessFlags := 25, slot := 12, constantValue := 0 }, { name := "T_FLOAT", type := .int, accessFlags := 25, slot := 13, constantValue := 0 }, { name := "T_DOUBLE", type := .int, accessFlags := 25, slot := 14, constantValue := 0 }, { name := "T_BYTE", type := .int, accessFlags := 25, slot := 15, constantValue := 0 }, { name := "T_SHORT", type := .int, accessFlags := 25, slot := 16, constantValue := 0 }, { name := "T_INT", type := .int, accessFlags := 25, slot := 17, constantValue := 0 }, { name := "T_LONG", type := .int, accessFlags := 25, slot := 18, constantValue := 0 }, { name := "JLA", type := (.object "jdk/internal/access/JavaLangAccess"), accessFlags := 26, slot := 19, constantValue := 0 }, { name := "SOFT_MAX_ARRAY_LENGTH", type := .int, accessFlags := 25, slot := 20, constantValue := 0 }]
  methods := #[k15m0]
  instanceTypes := #[]
  staticTypes := #[(.object "jdk/internal/misc/Unsafe"), .boolean, .int, .int, .int, .int, .int, .int, .int, .int, .int, .int, .int, .int, .int, .int, .int, .int, .int, (.object "jdk/internal/access/JavaLangAccess"), .int]
  resolved := Array.replicate 378 none
  statics := none }

def pool16 : Array CpInfo := pool [(1, u "java/lang/Cloneable"), (0, .class_ 1), (0, u "java/lang/Object"), (0, .class_ 3)] 3

/-- java/lang/Cloneable -/
def k16 : Class := { plain "java/lang/Cloneable" (some 0) with
  accessFlags := 1537
  interfaces := #[]
  cf := some (fileOf pool16 2 #[] #[] 1537 4 #[] #[])
  fields := #[]
  methods := #[]
  instanceTypes := #[]
  staticTypes := #[]
  resolved := Array.replicate 8 none
  statics := none }

/-- the primitive byte -/
def k17 : Class := { plain "byte" none with kind := .primitive 'B', accessFlags := 0x411 }
/-- [B -/
def k18 : Class := { plain "[B" (some 0) with kind := .array 17 .byte, interfaces := #[16, 2], accessFlags := 1041 }

/-- the primitive char -/
def k19 : Class := { plain "char" none with kind := .primitive 'C', accessFlags := 0x411 }
/-- [C -/
def k20 : Class := { plain "[C" (some 0) with kind := .array 19 .char, interfaces := #[16, 2], accessFlags := 1041 }

/-- the primitive int -/
def k21 : Class := { plain "int" none with kind := .primitive 'I', accessFlags := 0x411 }
/-- [I -/
def k22 : Class := { plain "[I" (some 0) with kind := .array 21 .int, interfaces := #[16, 2], accessFlags := 1041 }

def heap : Heap := #[{ cls := 7, slots := #[.long 0, .int 1, .null, .int 0, .null, .int 0, .int 0], vm := .statics 7 },
  { cls := 11, slots := #[.null, .null, .null], vm := .statics 11 }]
def classes : Array Class := #[k0, k1, k2, k3, k4, k5, k6, k7, k8, k9, k10, k11, k12, k13, k14, k15, k16, k17, k18, k19, k20, k21, k22]
def interned : List (Array UInt16 × Addr) := []
def slotsUsed : Nat := 10
def theMethod : MethodId := ⟨1, 3⟩
def args0 : Array Value := #[.int 4, .int 300, .int 8, .int 301, .int 3]
def aboutOver (below : List Frame) : State where
  vm := { classes := classes, interned := interned.toArray }
  heap := heap
  slotsUsed := slotsUsed
  threads := #[{ frames := .invoking theMethod args0 :: below }]
def below0 : List Frame := [.native { method := ⟨0, 0⟩, args := #[] }]
def about1 : State := aboutOver below0
def p0 : Program := .bare "" "" ""
def e0 : Env := launch0.env 0 0 0
theorem w_frames : about1.frames = Frame.invoking theMethod args0 :: below0 := rfl
set_option maxRecDepth 65536 in
theorem w_args : argsFit about1.vm theMethod args0 = true := by decide +kernel
set_option maxRecDepth 65536 in
theorem w_heap : heapFits about1 = true := by decide +kernel
set_option maxRecDepth 65536 in
theorem w_runnable : about1.curStatus? = some .runnable := by decide +kernel
set_option maxRecDepth 65536 in
theorem w_alone : about1.alone = true := by decide +kernel
set_option maxRecDepth 65536 in
theorem w_named : about1.methodNamed? x = some theMethod := by decide +kernel
set_option maxRecDepth 65536 in
theorem w_hears : about1.hears theMethod below0 = true := by decide +kernel
set_option maxRecDepth 65536 in
theorem w_ripe : about1.ripe theMethod args0 below0 = true := by decide +kernel
theorem w_running : about1.status = .running := rfl
set_option maxRecDepth 65536 in
theorem w_room : about1.hasRoom e0.platform room_1 = true :=
  launch0.hasRoom_least _ room_1 (by decide +kernel) (by decide +kernel) (by decide +kernel) (by decide +kernel) (by decide +kernel) (by decide +kernel)
theorem allAtoms_all (ts : List Jvm.Cond) (a : Array Jvm.Value) (st : Jvm.State) : (allAtoms ts).before a st = ts.all (fun c => c.before a st) := by
  induction ts with
  | nil => rfl
  | cons c t ih =>
    show (Jvm.Cond.and c (allAtoms t)).before a st = _
    rw [Jvm.Cond.before_and, ih, List.all_cons]
def words1 : List Jvm.Cond := Jvm.Cond.code x code maxLocals ret :: tables_1
/-- a 'code' word, met by the world's own term for the bytes: nothing is compared byte by byte -/
theorem code_word {y : MethodName} {bytes : ByteArray} {mx : Nat} {rt : Option FieldType} {a : Array Value} {s : State} {m : MethodId} {meth : Method} {c : Code} (h1 : s.methodNamed? y = some m) (h2 : s.vm.method? m = some meth) (h3 : meth.code = some c) (h4 : c.code = bytes)
    (h5 : (c.maxLocals == mx && c.exceptionTable.isEmpty && decide (c.maxStack ≤ mostOperands) && decide (meth.sig.returnType = rt) && !meth.locks && decide (parseMethodDescriptor y.desc = some meth.sig)) = true) : (Jvm.Cond.code y bytes mx rt).before a s = true := by
  simp only [Bool.and_eq_true, beq_iff_eq, Bool.not_eq_true', decide_eq_true_eq] at h5
  obtain ⟨⟨⟨⟨⟨g1, g2⟩, g3⟩, g4⟩, g5⟩, g6⟩ := h5
  simp [Cond.before, Cond.holds, Cond.value, h1, h2, h3, h4, g1, g2, g3, g4, g5, g6]
def isCode : Jvm.Cond → Bool
  | .code _ _ _ _ => true
  | _ => false
theorem all_split {L : List Jvm.Cond} {P : Jvm.Cond → Bool} (h1 : L.all (fun c => isCode c || P c) = true) (h2 : ∀ c ∈ L.filter isCode, P c = true) : L.all P = true := by
  refine List.all_eq_true.mpr fun c hc => ?_
  have h := List.all_eq_true.mp h1 c hc
  rcases Bool.eq_false_or_eq_true (isCode c) with hi | hi
  · exact h2 c (List.mem_filter.mpr ⟨hc, hi⟩)
  · simpa [hi] using h
set_option maxRecDepth 65536 in
theorem w_c0 : (Jvm.Cond.code x code maxLocals ret).before args0 about1 = true := code_word (m := ⟨1, 3⟩) (meth := k1m3) (c := k1c3) (by decide +kernel) rfl rfl rfl (by decide +kernel)
set_option maxRecDepth 65536 in
theorem w_c1 : (Jvm.Cond.code ({ cls := "com/example/goals_to_queue/goalstoqueue/QueueEntrySimpleNamePinLaw", name := "draw", desc := "(I)C" } : Jvm.MethodName) method_2_code (1 : Nat) (Option.some Jvm.ClassFile.FieldType.char)).before args0 about1 = true := code_word (m := ⟨1, 1⟩) (meth := k1m1) (c := k1c1) (by decide +kernel) rfl rfl rfl (by decide +kernel)
set_option maxRecDepth 65536 in
theorem w_c2 : (Jvm.Cond.code ({ cls := "java/lang/String", name := "<init>", desc := "([C)V" } : Jvm.MethodName) jdk_42_method_3_code (2 : Nat) (Option.none : Option Jvm.ClassFile.FieldType)).before args0 about1 = true := code_word (m := ⟨7, 1⟩) (meth := k7m1) (c := k7c1) (by decide +kernel) rfl rfl rfl (by decide +kernel)
set_option maxRecDepth 65536 in
theorem w_c3 : (Jvm.Cond.code ({ cls := "java/lang/String", name := "<init>", desc := "([CIILjava/lang/Void;)V" } : Jvm.MethodName) jdk_42_method_149_code (6 : Nat) (Option.none : Option Jvm.ClassFile.FieldType)).before args0 about1 = true := code_word (m := ⟨7, 8⟩) (meth := k7m8) (c := k7c8) (by decide +kernel) rfl rfl rfl (by decide +kernel)
set_option maxRecDepth 65536 in
theorem w_c4 : (Jvm.Cond.code ({ cls := "java/lang/Object", name := "<init>", desc := "()V" } : Jvm.MethodName) object_method_1_code (1 : Nat) (Option.none : Option Jvm.ClassFile.FieldType)).before args0 about1 = true := code_word (m := ⟨0, 0⟩) (meth := k0m0) (c := k0c0) (by decide +kernel) rfl rfl rfl (by decide +kernel)
set_option maxRecDepth 65536 in
theorem w_c5 : (Jvm.Cond.code ({ cls := "com/example/goals_to_queue/goalstoqueue/QueueEntry", name := "simpleName", desc := "(Ljava/lang/String;)Ljava/lang/String;" } : Jvm.MethodName) prog_26_method_18_code (1 : Nat) (Option.some (Jvm.ClassFile.FieldType.object "java/lang/String"))).before args0 about1 = true := code_word (m := ⟨8, 0⟩) (meth := k8m0) (c := k8c0) (by decide +kernel) rfl rfl rfl (by decide +kernel)
set_option maxRecDepth 65536 in
theorem w_c6 : (Jvm.Cond.code ({ cls := "java/lang/String", name := "lastIndexOf", desc := "(I)I" } : Jvm.MethodName) jdk_42_method_82_code (2 : Nat) (Option.some Jvm.ClassFile.FieldType.int)).before args0 about1 = true := code_word (m := ⟨7, 4⟩) (meth := k7m4) (c := k7c4) (by decide +kernel) rfl rfl rfl (by decide +kernel)
set_option maxRecDepth 65536 in
theorem w_c7 : (Jvm.Cond.code ({ cls := "java/lang/String", name := "length", desc := "()I" } : Jvm.MethodName) jdk_42_method_54_code (1 : Nat) (Option.some Jvm.ClassFile.FieldType.int)).before args0 about1 = true := code_word (m := ⟨7, 2⟩) (meth := k7m2) (c := k7c2) (by decide +kernel) rfl rfl rfl (by decide +kernel)
set_option maxRecDepth 65536 in
theorem w_c8 : (Jvm.Cond.code ({ cls := "java/lang/String", name := "coder", desc := "()B" } : Jvm.MethodName) jdk_42_method_152_code (1 : Nat) (Option.some Jvm.ClassFile.FieldType.byte)).before args0 about1 = true := code_word (m := ⟨7, 10⟩) (meth := k7m10) (c := k7c10) (by decide +kernel) rfl rfl rfl (by decide +kernel)
set_option maxRecDepth 65536 in
theorem w_c9 : (Jvm.Cond.code ({ cls := "java/lang/String", name := "lastIndexOf", desc := "(II)I" } : Jvm.MethodName) jdk_42_method_83_code (3 : Nat) (Option.some Jvm.ClassFile.FieldType.int)).before args0 about1 = true := code_word (m := ⟨7, 5⟩) (meth := k7m5) (c := k7c5) (by decide +kernel) rfl rfl rfl (by decide +kernel)
set_option maxRecDepth 65536 in
theorem w_c10 : (Jvm.Cond.code ({ cls := "java/lang/String", name := "isLatin1", desc := "()Z" } : Jvm.MethodName) jdk_42_method_154_code (1 : Nat) (Option.some Jvm.ClassFile.FieldType.boolean)).before args0 about1 = true := code_word (m := ⟨7, 11⟩) (meth := k7m11) (c := k7c11) (by decide +kernel) rfl rfl rfl (by decide +kernel)
set_option maxRecDepth 65536 in
theorem w_c11 : (Jvm.Cond.code ({ cls := "java/lang/StringLatin1", name := "lastIndexOf", desc := "([BII)I" } : Jvm.MethodName) jdk_43_method_27_code (4 : Nat) (Option.some Jvm.ClassFile.FieldType.int)).before args0 about1 = true := code_word (m := ⟨9, 3⟩) (meth := k9m3) (c := k9c3) (by decide +kernel) rfl rfl rfl (by decide +kernel)
set_option maxRecDepth 65536 in
theorem w_c12 : (Jvm.Cond.code ({ cls := "java/lang/StringLatin1", name := "canEncode", desc := "(I)Z" } : Jvm.MethodName) jdk_43_method_4_code (1 : Nat) (Option.some Jvm.ClassFile.FieldType.boolean)).before args0 about1 = true := code_word (m := ⟨9, 2⟩) (meth := k9m2) (c := k9c2) (by decide +kernel) rfl rfl rfl (by decide +kernel)
set_option maxRecDepth 65536 in
theorem w_c13 : (Jvm.Cond.code ({ cls := "java/lang/Math", name := "min", desc := "(II)I" } : Jvm.MethodName) jdk_29_method_69_code (2 : Nat) (Option.some Jvm.ClassFile.FieldType.int)).before args0 about1 = true := code_word (m := ⟨10, 1⟩) (meth := k10m1) (c := k10c1) (by decide +kernel) rfl rfl rfl (by decide +kernel)
set_option maxRecDepth 65536 in
theorem w_c14 : (Jvm.Cond.code ({ cls := "java/lang/String", name := "substring", desc := "(I)Ljava/lang/String;" } : Jvm.MethodName) jdk_42_method_91_code (2 : Nat) (Option.some (Jvm.ClassFile.FieldType.object "java/lang/String"))).before args0 about1 = true := code_word (m := ⟨7, 6⟩) (meth := k7m6) (c := k7c6) (by decide +kernel) rfl rfl rfl (by decide +kernel)
set_option maxRecDepth 65536 in
theorem w_c15 : (Jvm.Cond.code ({ cls := "java/lang/String", name := "substring", desc := "(II)Ljava/lang/String;" } : Jvm.MethodName) jdk_42_method_92_code (5 : Nat) (Option.some (Jvm.ClassFile.FieldType.object "java/lang/String"))).before args0 about1 = true := code_word (m := ⟨7, 7⟩) (meth := k7m7) (c := k7c7) (by decide +kernel) rfl rfl rfl (by decide +kernel)
set_option maxRecDepth 65536 in
theorem w_c16 : (Jvm.Cond.code ({ cls := "java/lang/String", name := "checkBoundsBeginEnd", desc := "(III)V" } : Jvm.MethodName) jdk_42_method_158_code (3 : Nat) (Option.none : Option Jvm.ClassFile.FieldType)).before args0 about1 = true := code_word (m := ⟨7, 13⟩) (meth := k7m13) (c := k7c13) (by decide +kernel) rfl rfl rfl (by decide +kernel)
set_option maxRecDepth 65536 in
theorem w_c17 : (Jvm.Cond.code ({ cls := "jdk/internal/util/Preconditions", name := "checkFromToIndex", desc := "(IIILjava/util/function/BiFunction;)I" } : Jvm.MethodName) jdk_41_method_12_code (4 : Nat) (Option.some Jvm.ClassFile.FieldType.int)).before args0 about1 = true := code_word (m := ⟨11, 2⟩) (meth := k11m2) (c := k11c2) (by decide +kernel) rfl rfl rfl (by decide +kernel)
set_option maxRecDepth 65536 in
theorem w_c18 : (Jvm.Cond.code ({ cls := "com/example/goals_to_queue/goalstoqueue/QueueEntrySimpleNamePinLaw", name := "same", desc := "(Ljava/lang/String;I[CI)Z" } : Jvm.MethodName) method_3_code (4 : Nat) (Option.some Jvm.ClassFile.FieldType.boolean)).before args0 about1 = true := code_word (m := ⟨1, 2⟩) (meth := k1m2) (c := k1c2) (by decide +kernel) rfl rfl rfl (by decide +kernel)
set_option maxRecDepth 65536 in
theorem w_c19 : (Jvm.Cond.code ({ cls := "java/lang/StringUTF16", name := "compress", desc := "([CII)[B" } : Jvm.MethodName) jdk_52_method_16_code (6 : Nat) (Option.some (Jvm.ClassFile.FieldType.array Jvm.ClassFile.FieldType.byte))).before args0 about1 = true := code_word (m := ⟨12, 2⟩) (meth := k12m2) (c := k12c2) (by decide +kernel) rfl rfl rfl (by decide +kernel)
set_option maxRecDepth 65536 in
theorem w_c20 : (Jvm.Cond.code ({ cls := "java/lang/StringUTF16", name := "compress", desc := "([CI[BII)I" } : Jvm.MethodName) jdk_52_method_21_code (7 : Nat) (Option.some Jvm.ClassFile.FieldType.int)).before args0 about1 = true := code_word (m := ⟨12, 3⟩) (meth := k12m3) (c := k12c3) (by decide +kernel) rfl rfl rfl (by decide +kernel)
set_option maxRecDepth 65536 in
theorem w_c21 : (Jvm.Cond.code ({ cls := "java/lang/StringUTF16", name := "coderFromArrayLen", desc := "([BI)B" } : Jvm.MethodName) jdk_52_method_15_code (2 : Nat) (Option.some Jvm.ClassFile.FieldType.byte)).before args0 about1 = true := code_word (m := ⟨12, 1⟩) (meth := k12m1) (c := k12c1) (by decide +kernel) rfl rfl rfl (by decide +kernel)
set_option maxRecDepth 65536 in
theorem w_c22 : (Jvm.Cond.code ({ cls := "java/lang/StringLatin1", name := "newString", desc := "([BII)Ljava/lang/String;" } : Jvm.MethodName) jdk_43_method_47_code (3 : Nat) (Option.some (Jvm.ClassFile.FieldType.object "java/lang/String"))).before args0 about1 = true := code_word (m := ⟨9, 4⟩) (meth := k9m4) (c := k9c4) (by decide +kernel) rfl rfl rfl (by decide +kernel)
set_option maxRecDepth 65536 in
theorem w_c23 : (Jvm.Cond.code ({ cls := "java/lang/String", name := "charAt", desc := "(I)C" } : Jvm.MethodName) jdk_42_method_56_code (2 : Nat) (Option.some Jvm.ClassFile.FieldType.char)).before args0 about1 = true := code_word (m := ⟨7, 3⟩) (meth := k7m3) (c := k7c3) (by decide +kernel) rfl rfl rfl (by decide +kernel)
set_option maxRecDepth 65536 in
theorem w_c24 : (Jvm.Cond.code ({ cls := "java/lang/StringLatin1", name := "charAt", desc := "([BI)C" } : Jvm.MethodName) jdk_43_method_2_code (2 : Nat) (Option.some Jvm.ClassFile.FieldType.char)).before args0 about1 = true := code_word (m := ⟨9, 1⟩) (meth := k9m1) (c := k9c1) (by decide +kernel) rfl rfl rfl (by decide +kernel)
set_option maxRecDepth 65536 in
theorem w_c25 : (Jvm.Cond.code ({ cls := "java/lang/String", name := "checkIndex", desc := "(II)V" } : Jvm.MethodName) jdk_42_method_155_code (2 : Nat) (Option.none : Option Jvm.ClassFile.FieldType)).before args0 about1 = true := code_word (m := ⟨7, 12⟩) (meth := k7m12) (c := k7c12) (by decide +kernel) rfl rfl rfl (by decide +kernel)
set_option maxRecDepth 65536 in
theorem w_c26 : (Jvm.Cond.code ({ cls := "jdk/internal/util/Preconditions", name := "checkIndex", desc := "(IILjava/util/function/BiFunction;)I" } : Jvm.MethodName) jdk_41_method_11_code (3 : Nat) (Option.some Jvm.ClassFile.FieldType.int)).before args0 about1 = true := code_word (m := ⟨11, 1⟩) (meth := k11m1) (c := k11c1) (by decide +kernel) rfl rfl rfl (by decide +kernel)
set_option maxRecDepth 65536 in
theorem w_c27 : (Jvm.Cond.code ({ cls := "java/util/Arrays", name := "copyOfRange", desc := "([BII)[B" } : Jvm.MethodName) jdk_65_method_132_code (3 : Nat) (Option.some (Jvm.ClassFile.FieldType.array Jvm.ClassFile.FieldType.byte))).before args0 about1 = true := code_word (m := ⟨13, 2⟩) (meth := k13m2) (c := k13c2) (by decide +kernel) rfl rfl rfl (by decide +kernel)
set_option maxRecDepth 65536 in
theorem w_c28 : (Jvm.Cond.code ({ cls := "java/util/Arrays", name := "copyOfRangeByte", desc := "([BII)[B" } : Jvm.MethodName) jdk_65_method_133_code (5 : Nat) (Option.some (Jvm.ClassFile.FieldType.array Jvm.ClassFile.FieldType.byte))).before args0 about1 = true := code_word (m := ⟨13, 3⟩) (meth := k13m3) (c := k13c3) (by decide +kernel) rfl rfl rfl (by decide +kernel)
set_option maxRecDepth 65536 in
theorem w_c29 : (Jvm.Cond.code ({ cls := "java/util/Arrays", name := "checkLength", desc := "(II)V" } : Jvm.MethodName) jdk_65_method_131_code (2 : Nat) (Option.none : Option Jvm.ClassFile.FieldType)).before args0 about1 = true := code_word (m := ⟨13, 1⟩) (meth := k13m1) (c := k13c1) (by decide +kernel) rfl rfl rfl (by decide +kernel)
set_option maxRecDepth 65536 in
theorem w_c30 : (Jvm.Cond.code ({ cls := "java/lang/String", name := "<init>", desc := "([BB)V" } : Jvm.MethodName) jdk_42_method_151_code (3 : Nat) (Option.none : Option Jvm.ClassFile.FieldType)).before args0 about1 = true := code_word (m := ⟨7, 9⟩) (meth := k7m9) (c := k7c9) (by decide +kernel) rfl rfl rfl (by decide +kernel)
def codes1 : List Jvm.Cond := [Jvm.Cond.code x code maxLocals ret, Jvm.Cond.code ({ cls := "com/example/goals_to_queue/goalstoqueue/QueueEntrySimpleNamePinLaw", name := "draw", desc := "(I)C" } : Jvm.MethodName) method_2_code (1 : Nat) (Option.some Jvm.ClassFile.FieldType.char), Jvm.Cond.code ({ cls := "java/lang/String", name := "<init>", desc := "([C)V" } : Jvm.MethodName) jdk_42_method_3_code (2 : Nat) (Option.none : Option Jvm.ClassFile.FieldType), Jvm.Cond.code ({ cls := "java/lang/String", name := "<init>", desc := "([CIILjava/lang/Void;)V" } : Jvm.MethodName) jdk_42_method_149_code (6 : Nat) (Option.none : Option Jvm.ClassFile.FieldType), Jvm.Cond.code ({ cls := "java/lang/Object", name := "<init>", desc := "()V" } : Jvm.MethodName) object_method_1_code (1 : Nat) (Option.none : Option Jvm.ClassFile.FieldType), Jvm.Cond.code ({ cls := "com/example/goals_to_queue/goalstoqueue/QueueEntry", name := "simpleName", desc := "(Ljava/lang/String;)Ljava/lang/String;" } : Jvm.MethodName) prog_26_method_18_code (1 : Nat) (Option.some (Jvm.ClassFile.FieldType.object "java/lang/String")), Jvm.Cond.code ({ cls := "java/lang/String", name := "lastIndexOf", desc := "(I)I" } : Jvm.MethodName) jdk_42_method_82_code (2 : Nat) (Option.some Jvm.ClassFile.FieldType.int), Jvm.Cond.code ({ cls := "java/lang/String", name := "length", desc := "()I" } : Jvm.MethodName) jdk_42_method_54_code (1 : Nat) (Option.some Jvm.ClassFile.FieldType.int), Jvm.Cond.code ({ cls := "java/lang/String", name := "coder", desc := "()B" } : Jvm.MethodName) jdk_42_method_152_code (1 : Nat) (Option.some Jvm.ClassFile.FieldType.byte), Jvm.Cond.code ({ cls := "java/lang/String", name := "lastIndexOf", desc := "(II)I" } : Jvm.MethodName) jdk_42_method_83_code (3 : Nat) (Option.some Jvm.ClassFile.FieldType.int), Jvm.Cond.code ({ cls := "java/lang/String", name := "isLatin1", desc := "()Z" } : Jvm.MethodName) jdk_42_method_154_code (1 : Nat) (Option.some Jvm.ClassFile.FieldType.boolean), Jvm.Cond.code ({ cls := "java/lang/StringLatin1", name := "lastIndexOf", desc := "([BII)I" } : Jvm.MethodName) jdk_43_method_27_code (4 : Nat) (Option.some Jvm.ClassFile.FieldType.int), Jvm.Cond.code ({ cls := "java/lang/StringLatin1", name := "canEncode", desc := "(I)Z" } : Jvm.MethodName) jdk_43_method_4_code (1 : Nat) (Option.some Jvm.ClassFile.FieldType.boolean), Jvm.Cond.code ({ cls := "java/lang/Math", name := "min", desc := "(II)I" } : Jvm.MethodName) jdk_29_method_69_code (2 : Nat) (Option.some Jvm.ClassFile.FieldType.int), Jvm.Cond.code ({ cls := "java/lang/String", name := "substring", desc := "(I)Ljava/lang/String;" } : Jvm.MethodName) jdk_42_method_91_code (2 : Nat) (Option.some (Jvm.ClassFile.FieldType.object "java/lang/String")), Jvm.Cond.code ({ cls := "java/lang/String", name := "substring", desc := "(II)Ljava/lang/String;" } : Jvm.MethodName) jdk_42_method_92_code (5 : Nat) (Option.some (Jvm.ClassFile.FieldType.object "java/lang/String")), Jvm.Cond.code ({ cls := "java/lang/String", name := "checkBoundsBeginEnd", desc := "(III)V" } : Jvm.MethodName) jdk_42_method_158_code (3 : Nat) (Option.none : Option Jvm.ClassFile.FieldType), Jvm.Cond.code ({ cls := "jdk/internal/util/Preconditions", name := "checkFromToIndex", desc := "(IIILjava/util/function/BiFunction;)I" } : Jvm.MethodName) jdk_41_method_12_code (4 : Nat) (Option.some Jvm.ClassFile.FieldType.int), Jvm.Cond.code ({ cls := "com/example/goals_to_queue/goalstoqueue/QueueEntrySimpleNamePinLaw", name := "same", desc := "(Ljava/lang/String;I[CI)Z" } : Jvm.MethodName) method_3_code (4 : Nat) (Option.some Jvm.ClassFile.FieldType.boolean), Jvm.Cond.code ({ cls := "java/lang/StringUTF16", name := "compress", desc := "([CII)[B" } : Jvm.MethodName) jdk_52_method_16_code (6 : Nat) (Option.some (Jvm.ClassFile.FieldType.array Jvm.ClassFile.FieldType.byte)), Jvm.Cond.code ({ cls := "java/lang/StringUTF16", name := "compress", desc := "([CI[BII)I" } : Jvm.MethodName) jdk_52_method_21_code (7 : Nat) (Option.some Jvm.ClassFile.FieldType.int), Jvm.Cond.code ({ cls := "java/lang/StringUTF16", name := "coderFromArrayLen", desc := "([BI)B" } : Jvm.MethodName) jdk_52_method_15_code (2 : Nat) (Option.some Jvm.ClassFile.FieldType.byte), Jvm.Cond.code ({ cls := "java/lang/StringLatin1", name := "newString", desc := "([BII)Ljava/lang/String;" } : Jvm.MethodName) jdk_43_method_47_code (3 : Nat) (Option.some (Jvm.ClassFile.FieldType.object "java/lang/String")), Jvm.Cond.code ({ cls := "java/lang/String", name := "charAt", desc := "(I)C" } : Jvm.MethodName) jdk_42_method_56_code (2 : Nat) (Option.some Jvm.ClassFile.FieldType.char), Jvm.Cond.code ({ cls := "java/lang/StringLatin1", name := "charAt", desc := "([BI)C" } : Jvm.MethodName) jdk_43_method_2_code (2 : Nat) (Option.some Jvm.ClassFile.FieldType.char), Jvm.Cond.code ({ cls := "java/lang/String", name := "checkIndex", desc := "(II)V" } : Jvm.MethodName) jdk_42_method_155_code (2 : Nat) (Option.none : Option Jvm.ClassFile.FieldType), Jvm.Cond.code ({ cls := "jdk/internal/util/Preconditions", name := "checkIndex", desc := "(IILjava/util/function/BiFunction;)I" } : Jvm.MethodName) jdk_41_method_11_code (3 : Nat) (Option.some Jvm.ClassFile.FieldType.int), Jvm.Cond.code ({ cls := "java/util/Arrays", name := "copyOfRange", desc := "([BII)[B" } : Jvm.MethodName) jdk_65_method_132_code (3 : Nat) (Option.some (Jvm.ClassFile.FieldType.array Jvm.ClassFile.FieldType.byte)), Jvm.Cond.code ({ cls := "java/util/Arrays", name := "copyOfRangeByte", desc := "([BII)[B" } : Jvm.MethodName) jdk_65_method_133_code (5 : Nat) (Option.some (Jvm.ClassFile.FieldType.array Jvm.ClassFile.FieldType.byte)), Jvm.Cond.code ({ cls := "java/util/Arrays", name := "checkLength", desc := "(II)V" } : Jvm.MethodName) jdk_65_method_131_code (2 : Nat) (Option.none : Option Jvm.ClassFile.FieldType), Jvm.Cond.code ({ cls := "java/lang/String", name := "<init>", desc := "([BB)V" } : Jvm.MethodName) jdk_42_method_151_code (3 : Nat) (Option.none : Option Jvm.ClassFile.FieldType)]
set_option maxRecDepth 65536 in
theorem codes_eq : words1.filter isCode = codes1 := rfl
theorem w_codes : ∀ c ∈ words1.filter isCode, c.before args0 about1 = true := by
  rw [codes_eq]
  intro c hc
  simp only [codes1, List.mem_cons, List.not_mem_nil, or_false] at hc
  rcases hc with rfl | rfl | rfl | rfl | rfl | rfl | rfl | rfl | rfl | rfl | rfl | rfl | rfl | rfl | rfl | rfl | rfl | rfl | rfl | rfl | rfl | rfl | rfl | rfl | rfl | rfl | rfl | rfl | rfl | rfl | rfl
  · exact w_c0
  · exact w_c1
  · exact w_c2
  · exact w_c3
  · exact w_c4
  · exact w_c5
  · exact w_c6
  · exact w_c7
  · exact w_c8
  · exact w_c9
  · exact w_c10
  · exact w_c11
  · exact w_c12
  · exact w_c13
  · exact w_c14
  · exact w_c15
  · exact w_c16
  · exact w_c17
  · exact w_c18
  · exact w_c19
  · exact w_c20
  · exact w_c21
  · exact w_c22
  · exact w_c23
  · exact w_c24
  · exact w_c25
  · exact w_c26
  · exact w_c27
  · exact w_c28
  · exact w_c29
  · exact w_c30
set_option maxRecDepth 65536 in
theorem w_t1 : (words1.take 24).all (fun c => isCode c || c.before args0 about1) = true := by decide +kernel
set_option maxRecDepth 65536 in
theorem w_t2 : ((words1.drop 24).take 24).all (fun c => isCode c || c.before args0 about1) = true := by decide +kernel
set_option maxRecDepth 65536 in
theorem w_t3 : (((words1.drop 24).drop 24).take 24).all (fun c => isCode c || c.before args0 about1) = true := by decide +kernel
set_option maxRecDepth 65536 in
theorem w_t4 : ((((words1.drop 24).drop 24).drop 24).take 24).all (fun c => isCode c || c.before args0 about1) = true := by decide +kernel
set_option maxRecDepth 65536 in
theorem w_t5 : (((((words1.drop 24).drop 24).drop 24).drop 24).take 24).all (fun c => isCode c || c.before args0 about1) = true := by decide +kernel
set_option maxRecDepth 65536 in
theorem w_t6 : (((((words1.drop 24).drop 24).drop 24).drop 24).drop 24).all (fun c => isCode c || c.before args0 about1) = true := by decide +kernel
theorem w_tables : (allAtoms (Jvm.Cond.code x code maxLocals ret :: tables_1)).before args0 about1 = true := by
  rw [allAtoms_all]
  show words1.all (fun c => c.before args0 about1) = true
  refine all_split ?_ w_codes
  rw [← List.take_append_drop 24 words1, List.all_append, w_t1, ← List.take_append_drop 24 (words1.drop 24), List.all_append, w_t2, ← List.take_append_drop 24 ((words1.drop 24).drop 24), List.all_append, w_t3, ← List.take_append_drop 24 (((words1.drop 24).drop 24).drop 24), List.all_append, w_t4, ← List.take_append_drop 24 ((((words1.drop 24).drop 24).drop 24).drop 24), List.all_append, w_t5, w_t6]
  rfl
set_option maxRecDepth 65536 in
theorem w_rest : rest_1_c.before args0 about1 = true := by decide +kernel
set_option maxRecDepth 65536 in
theorem w_case : (Jvm.Cond.and given_1 narrow_1).before args0 about1 = true := by decide +kernel
set_option maxRecDepth 65536 in
theorem w_consts : constsHeld consts_1 about1 := Jvm.Lit.constsHeldB_iff.mp (by decide +kernel)
theorem w_applies : (headSpec (Jvm.Cond.code x code maxLocals ret :: tables_1) room_1).applies x e0.platform about1 = true :=
  (Spec.applies_iff w_frames).mpr ⟨w_running, w_runnable, w_alone, w_named, w_hears, w_ripe, w_room, w_tables⟩
theorem atStart : AtStart classFile x code maxLocals ret World_1 tables_1 room_1 Calls_1 rest_1 Pre_1 launch0 p0 e0 about1 theMethod args0 below0 :=
  ⟨lists_1, trivial, launch0.admits_env _ _ _, launch0.least_env, fairChoices_fair.cas, fairChoices_fair.clock, w_frames, w_args, w_heap, w_applies, ⟨w_consts, trivial⟩, w_rest, w_case⟩
end start1
theorem witness_1 : WitnessClaimed_1 := ⟨start1.p0, start1.e0, start1.about1, start1.theMethod, start1.args0, start1.below0, start1.atStart⟩
end Jvm.Pilot.@@N@@
