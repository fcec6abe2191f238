import JvmDerived
import JvmDerived.Pilot.@@N@@Statement
import JvmDerived.Pilot.@@N@@Code
set_option linter.unusedVariables false
set_option linter.unusedSimpArgs false
namespace Jvm.OwnKit
/-! numbers -/
section Nums
theorem n_int {i : Nat} (hi : i < 2147483648) : (Int32.ofNat i).toInt = i := Int32.toInt_ofNat_small (by simpa using hi)
theorem n_lt {i n : Nat} (hi : i < 2147483648) (hn : n < 2147483648) : Int32.ofNat i < Int32.ofNat n ↔ i < n := by
  rw [Int32.lt_iff_toInt_lt, n_int hi, n_int hn]; omega
theorem n_nn {i : Nat} (hi : i < 2147483648) : ¬ Int32.ofNat i < 0 := by
  rw [Int32.lt_iff_toInt_lt, n_int hi, show (0 : Int32).toInt = 0 from by decide]; omega
theorem n_nat {i : Nat} (hi : i < 2147483648) : (Int32.ofNat i).toNatClampNeg = i := by
  rw [Int32.toNatClampNeg, n_int hi]; simp
theorem n_add (i j : Nat) : Int32.ofNat i + Int32.ofNat j = Int32.ofNat (i + j) := (Int32.ofNat_add i j).symm
theorem n_succ (i : Nat) : Int32.ofNat i + 1 = Int32.ofNat (i + 1) := n_add i 1
theorem n_inj {i n : Nat} (hi : i < 2147483648) (hn : n < 2147483648) : Int32.ofNat i = Int32.ofNat n ↔ i = n := by
  rw [← Int32.toInt_inj, n_int hi, n_int hn]; omega
theorem i_eq {x y : Int32} (h : x.toInt = y.toInt) : x = y := Int32.toInt_inj.mp h
theorem i_lt {x y : Int32} : x < y ↔ x.toInt < y.toInt := Int32.lt_iff_toInt_lt
/-- lists by their places -/
def tab (n : Nat) (f : Nat → Value) : List Value := (List.range n).map f
theorem tab_len (n : Nat) (f : Nat → Value) : (tab n f).length = n := by simp [tab]
theorem tab_get {n i : Nat} {f : Nat → Value} (hi : i < n) : (tab n f)[i]? = some (f i) := by simp [tab, hi]
theorem tab_set (n i : Nat) (f : Nat → Value) (v : Value) : (tab n f).set i v = tab n (fun j => if j = i then v else f j) := by
  refine List.ext_getElem? fun j => ?_
  by_cases hj : j < n
  · rw [tab_get hj, List.getElem?_set]
    by_cases e : i = j
    · subst e; simp [tab_len, hj]
    · rw [if_neg e, tab_get hj, if_neg (fun q => e q.symm)]
  · rw [List.getElem?_eq_none (by simpa [tab] using hj), List.getElem?_eq_none (by simpa [tab] using hj)]
theorem tab_congr {n : Nat} {f g : Nat → Value} (h : ∀ j, j < n → f j = g j) : tab n f = tab n g := by
  refine List.ext_getElem? fun j => ?_
  by_cases hj : j < n
  · rw [tab_get hj, tab_get hj, h j hj]
  · rw [List.getElem?_eq_none (by simpa [tab] using hj), List.getElem?_eq_none (by simpa [tab] using hj)]
theorem tab_rep (n : Nat) (v : Value) : List.replicate n v = tab n (fun _ => v) := by
  refine List.ext_getElem? fun j => ?_
  by_cases hj : j < n
  · rw [tab_get hj, List.getElem?_replicate, if_pos hj]
  · rw [List.getElem?_eq_none (by simpa using hj), List.getElem?_eq_none (by simpa [tab] using hj)]
theorem tab_list (vs : List Value) (d : Value) : vs = tab vs.length (fun j => vs.getD j d) := by
  refine List.ext_getElem? fun j => ?_
  by_cases hj : j < vs.length
  · rw [tab_get hj, List.getD_eq_getElem?_getD, List.getElem?_eq_getElem hj]; rfl
  · rw [List.getElem?_eq_none (by omega), List.getElem?_eq_none (by simpa [tab] using hj)]
theorem map_tab (cs : List Int32) (f : Int32 → Value) : cs.map f = tab cs.length (fun j => f (cs.getD j 0)) := by
  refine List.ext_getElem? fun j => ?_
  by_cases hj : j < cs.length
  · rw [tab_get hj, List.getElem?_map, List.getElem?_eq_getElem hj, List.getD_eq_getElem?_getD, List.getElem?_eq_getElem hj]; rfl
  · rw [List.getElem?_eq_none (by simpa using hj), List.getElem?_eq_none (by simpa [tab] using hj)]
end Nums
end Jvm.OwnKit
namespace Jvm.OwnKit
open Jvm Jvm.ClassFile Sem Op Lib Jvm.Free Jvm.Stand Jvm.LawKit Jvm.RoadKit Bundle
/-! 1. WHAT A WALK KNOWS OF THE HEAP: cells by address: M (made here, writable), N (frozen here), P (handed in, frozen) -/
abbrev Mem : Type := List (Addr × Cell)
abbrev dom (M : Mem) : List Addr := M.map Prod.fst
def OKp (h h' : Heap) (ws : List Addr) : Prop := h.size ≤ h'.size ∧ ∀ (x : Addr) (c : Cell), h[x]? = some c → x ∉ ws → h'[x]? = some c
def OInv (Z : State) (EL : List (String × Nat)) (vmS : Vm) (h0 : Heap) (ws : List Addr) (vm : Vm) (h : Heap) (M N P : Mem) : Prop :=
  CHr Z EL vmS h0 vm h ∧ Ext Z.heap h ∧
  (∀ q ∈ M, h[q.1]? = some q.2 ∧ Safe Z EL vm h q.1 ∧ Z.heap.size ≤ q.1 ∧ (h0.size ≤ q.1 ∨ q.1 ∈ ws)) ∧ (dom M).Nodup ∧
  (∀ q ∈ N, h[q.1]? = some q.2 ∧ q.1 ∉ dom M ∧ (h0.size ≤ q.1 ∨ q.1 ∈ ws ∨ Bk Z EL vmS h0 q.1)) ∧
  (∀ q ∈ P, h[q.1]? = some q.2 ∧ q.1 ∉ dom M)
section Inv
variable {Z : State} {EL : List (String × Nat)} {vmS vm vm1 vm2 : Vm} {h0 h h' h2 : Heap} {ws : List Addr} {M N P M' N' : Mem} {a x : Addr} {c c' cl : Cell} {i sl : Nat} {v : Value}
theorem lt_of (q : h[x]? = some c) : x < h.size := (Array.getElem?_eq_some_iff.mp q).1
theorem ext_trans (E : Ext h h') (E' : Ext h' h2) : Ext h h2 := ⟨Nat.le_trans E.1 E'.1, fun a c q => E'.2 a c (E.2 a c q)⟩
theorem ext_refl (h : Heap) : Ext h h := ⟨Nat.le_refl _, fun _ _ q => q⟩
theorem dom_set (hi : M[i]? = some (a, c)) : dom (M.set i (a, c')) = dom M := by
  induction M generalizing i with
  | nil => simp
  | cons q M ih =>
    cases i with
    | zero => simp at hi; subst hi; rfl
    | succ i => simp only [List.set_cons_succ, dom, List.map_cons]; exact congrArg _ (ih (by simpa using hi))
theorem mem_set (hn : (dom M).Nodup) (hi : M[i]? = some (a, c)) : ∀ q ∈ M.set i (a, c'), q = (a, c') ∨ (q ∈ M ∧ q.1 ≠ a) := by
  induction M generalizing i with
  | nil => simp at hi
  | cons r M ih =>
    have hn' := List.nodup_cons.mp (show (r.1 :: dom M).Nodup from hn)
    cases i with
    | zero =>
      simp at hi; subst hi
      intro q hq
      rcases List.mem_cons.mp (show q ∈ (a, c') :: M from hq) with rfl | hq
      · exact Or.inl rfl
      · exact Or.inr ⟨List.mem_cons_of_mem _ hq, fun e => hn'.1 (List.mem_map.mpr ⟨q, hq, e⟩)⟩
    | succ i =>
      have hi' : M[i]? = some (a, c) := by simpa using hi
      intro q hq
      rcases List.mem_cons.mp (show q ∈ r :: M.set i (a, c') from hq) with rfl | hq
      · exact Or.inr ⟨List.mem_cons_self .., fun e => hn'.1 (List.mem_map.mpr ⟨(a, c), List.mem_of_getElem? hi', e.symm⟩)⟩
      · rcases ih hn'.2 hi' q hq with e | ⟨e1, e2⟩
        · exact Or.inl e
        · exact Or.inr ⟨List.mem_cons_of_mem _ e1, e2⟩
theorem OInv.alloc (I : OInv Z EL vmS h0 ws vm h M N P) (E : Ext h h') (hc : h'[h.size]? = some c) : OInv Z EL vmS h0 ws vm h' ((h.size, c) :: M) N P := by
  obtain ⟨C, EZ, hM, hn, hN, hP⟩ := I
  have nin : ∀ q : Addr × Cell, h[q.1]? = some q.2 → q.1 ≠ h.size := fun q e z => absurd z (Nat.ne_of_lt (lt_of e))
  refine ⟨C.trans (CHr.ext E C.1), ext_trans EZ E, fun q hq => ?_, ?_, fun q hq => ?_, fun q hq => ?_⟩
  · rcases List.mem_cons.mp hq with rfl | hq
    · exact ⟨hc, Safe.ext E C.1 (Safe.new (Nat.le_refl _)), EZ.1, Or.inl C.2.1⟩
    · obtain ⟨a1, a2, a3, a4⟩ := hM q hq
      exact ⟨E.2 _ _ a1, a2.ext E C.1, a3, a4⟩
  · refine List.nodup_cons.mpr ⟨fun z => ?_, hn⟩
    obtain ⟨q, hq, e⟩ := List.mem_map.mp z
    exact nin q (hM q hq).1 e
  · obtain ⟨a1, a2, a3⟩ := hN q hq
    exact ⟨E.2 _ _ a1, fun z => (List.mem_cons.mp z).elim (nin q a1) a2, a3⟩
  · obtain ⟨a1, a2⟩ := hP q hq
    exact ⟨E.2 _ _ a1, fun z => (List.mem_cons.mp z).elim (nin q a1) a2⟩
theorem OInv.write (I : OInv Z EL vmS h0 ws vm h M N P) (hi : M[i]? = some (a, c)) (W : Wr h h' a sl v) : OInv Z EL vmS h0 ws vm h' (M.set i (a, c.setSlot sl v)) N P := by
  obtain ⟨C, EZ, hM, hn, hN, hP⟩ := I
  obtain ⟨b1, b2, b3, b4⟩ := hM _ (List.mem_of_getElem? hi)
  have W0 := W
  obtain ⟨cell, w1, w2, w3, rfl⟩ := W
  have e : cell = c := Option.some.inj (w1.symm.trans b1)
  subst e
  have ne : ∀ {y : Addr}, y ≠ a → (h.setIfInBounds a (cell.setSlot sl v))[y]? = h[y]? := fun {y} q => Array.getElem?_setIfInBounds_ne (Ne.symm q)
  have dm := dom_set (c' := cell.setSlot sl v) hi
  refine ⟨C.trans (CHr.wr W0 b2 C.1), ⟨by simpa using EZ.1, fun y cy q => ?_⟩, fun q hq => ?_, by rw [dm]; exact hn, fun q hq => ?_, fun q hq => ?_⟩
  · exact (ne (Nat.ne_of_lt (Nat.lt_of_lt_of_le (lt_of q) b3))).trans (EZ.2 _ _ q)
  · rcases mem_set hn hi q hq with rfl | ⟨hq, e⟩
    · exact ⟨by have := lt_of w1; simp [this], b2.wr W0 C.1 b2, b3, b4⟩
    · obtain ⟨a1, a2, a3, a4⟩ := hM q hq
      exact ⟨by rw [ne e]; exact a1, b2.wr W0 C.1 a2, a3, a4⟩
  · obtain ⟨a1, a2, a3⟩ := hN q hq
    exact ⟨(ne fun z => a2 (by rw [z]; exact List.mem_map.mpr ⟨_, List.mem_of_getElem? hi, rfl⟩)).trans a1, by rw [dm]; exact a2, a3⟩
  · obtain ⟨a1, a2⟩ := hP q hq
    exact ⟨(ne fun z => a2 (by rw [z]; exact List.mem_map.mpr ⟨_, List.mem_of_getElem? hi, rfl⟩)).trans a1, by rw [dm]; exact a2⟩
theorem OInv.later (I : OInv Z EL vmS h0 ws vm h M N P) (D : CHr Z EL vm h vm1 h') (E : Ext h h') : OInv Z EL vmS h0 ws vm1 h' M N P := by
  obtain ⟨C, EZ, hM, hn, hN, hP⟩ := I
  refine ⟨C.trans D, ext_trans EZ E, fun q hq => ?_, hn, fun q hq => ?_, fun q hq => ?_⟩
  · obtain ⟨a1, a2, a3⟩ := hM q hq
    exact ⟨E.2 _ _ a1, D.safe (lt_of a1) a2, a3⟩
  · obtain ⟨a1, a2⟩ := hN q hq
    exact ⟨E.2 _ _ a1, a2⟩
  · obtain ⟨a1, a2⟩ := hP q hq
    exact ⟨E.2 _ _ a1, a2⟩
/-- what is booked may be frozen knowledge too -/
theorem OInv.learn (I : OInv Z EL vmS h0 ws vm h M N P) (q1 : h[a]? = some c) (q2 : a ∉ dom M) (q3 : h0.size ≤ a ∨ a ∈ ws ∨ Bk Z EL vmS h0 a) : OInv Z EL vmS h0 ws vm h M ((a, c) :: N) P := by
  obtain ⟨C, EZ, hM, hn, hN, hP⟩ := I
  refine ⟨C, EZ, hM, hn, fun q hq => ?_, hP⟩
  rcases List.mem_cons.mp hq with rfl | hq
  · exact ⟨q1, q2, q3⟩
  · exact hN q hq
theorem OInv.sub (I : OInv Z EL vmS h0 ws vm h M N P) (hm : M'.Sublist M) (hn' : ∀ q ∈ N', q ∈ N) : OInv Z EL vmS h0 ws vm h M' N' [] := by
  obtain ⟨C, EZ, hM, hn, hN, hP⟩ := I
  exact ⟨C, EZ, fun q hq => hM q (hm.subset hq), (hm.map Prod.fst).nodup hn, fun q hq => ⟨(hN q (hn' q hq)).1, fun z => (hN q (hn' q hq)).2.1 ((hm.map Prod.fst).subset z), (hN q (hn' q hq)).2.2⟩, fun q hq => nomatch hq⟩
/-- one cell of M is written no more -/
theorem OInv.freeze (I : OInv Z EL vmS h0 ws vm h ((a, c) :: M) N P) : OInv Z EL vmS h0 ws vm h M ((a, c) :: N) P := by
  obtain ⟨C, EZ, hM, hn, hN, hP⟩ := I
  have hn' := List.nodup_cons.mp (show (a :: dom M).Nodup from hn)
  obtain ⟨b1, b2, b3, b4⟩ := hM _ (List.mem_cons_self ..)
  refine ⟨C, EZ, fun q hq => hM q (List.mem_cons_of_mem _ hq), hn'.2, fun q hq => ?_, fun q hq => ⟨(hP q hq).1, fun z => (hP q hq).2 (List.mem_cons_of_mem _ z)⟩⟩
  rcases List.mem_cons.mp hq with rfl | hq
  · exact ⟨b1, hn'.1, b4.imp id Or.inl⟩
  · exact ⟨(hN q hq).1, fun z => (hN q hq).2.1 (List.mem_cons_of_mem _ z), (hN q hq).2.2⟩
/-- the cells of M in another order -/
theorem OInv.perm (I : OInv Z EL vmS h0 ws vm h M N P) (hp : M'.Perm M) : OInv Z EL vmS h0 ws vm h M' N P := by
  obtain ⟨C, EZ, hM, hn, hN, hP⟩ := I
  have hd : (dom M').Perm (dom M) := hp.map _
  exact ⟨C, EZ, fun q hq => hM q (hp.subset hq), hd.nodup_iff.mpr hn, fun q hq => ⟨(hN q hq).1, fun z => (hN q hq).2.1 (hd.subset z), (hN q hq).2.2⟩, fun q hq => ⟨(hP q hq).1, fun z => (hP q hq).2 (hd.subset z)⟩⟩
theorem OInv.at (I : OInv Z EL vmS h0 ws vm h M N P) {q : Addr × Cell} (hq : q ∈ M ++ (N ++ P)) : h[q.1]? = some q.2 := by
  rcases List.mem_append.mp hq with hq | hq
  · exact (I.2.2.1 q hq).1
  · rcases List.mem_append.mp hq with hq | hq
    · exact (I.2.2.2.2.1 q hq).1
    · exact (I.2.2.2.2.2 q hq).1
variable {Mi Mr Mo No Pc : Mem}
/-- what a callee may ask -/
theorem OInv.hand (I : OInv Z EL vmS h0 ws vm h (Mi ++ Mr) N P) (D : CHr Z EL vm h vm1 h) (hp : ∀ q ∈ Pc, q ∈ Mr ++ (N ++ P)) : OInv Z EL vm1 h (dom Mi) vm1 h Mi [] Pc := by
  obtain ⟨C, EZ, hM, hn, hN, hP⟩ := I.later D (ext_refl h)
  rw [dom, List.map_append] at hn
  obtain ⟨n1, n2, n3⟩ := List.nodup_append.mp hn
  refine ⟨CHr.refl D.1, EZ, fun q hq => ?_, n1, fun q hq => (nomatch hq), fun q hq => ?_⟩
  · obtain ⟨a1, a2, a3, -⟩ := hM q (List.mem_append_left _ hq)
    exact ⟨a1, a2, a3, Or.inr (List.mem_map.mpr ⟨q, hq, rfl⟩)⟩
  · rcases List.mem_append.mp (hp q hq) with hq | hq
    · exact ⟨(hM q (List.mem_append_right _ hq)).1, fun z => n3 _ z _ (List.mem_map.mpr ⟨q, hq, rfl⟩) rfl⟩
    · have sub : q.1 ∈ dom Mi → q.1 ∈ dom (Mi ++ Mr) := fun z => by rw [dom, List.map_append]; exact List.mem_append_left _ z
      rcases List.mem_append.mp hq with hq | hq
      · exact ⟨(hN q hq).1, fun z => (hN q hq).2.1 (sub z)⟩
      · exact ⟨(hP q hq).1, fun z => (hP q hq).2 (sub z)⟩
/-- what stands behind a call -/
theorem OInv.call (I : OInv Z EL vmS h0 ws vm h (Mi ++ Mr) N P) (D : CHr Z EL vm h vm1 h) (J : OInv Z EL vm1 h (dom Mi) vm2 h2 Mo No []) (K : OKp h h2 (dom Mi)) : OInv Z EL vmS h0 ws vm2 h2 (Mo ++ Mr) (No ++ N) P := by
  obtain ⟨C, EZ, hM, hn, hN, hP⟩ := I.later D (ext_refl h)
  obtain ⟨C', EZ', hM', hn', hN', -⟩ := J
  rw [dom, List.map_append] at hn
  obtain ⟨n1, n2, n3⟩ := List.nodup_append.mp hn
  have sub : ∀ {y : Addr}, y ∈ dom Mi → y ∈ dom (Mi ++ Mr) := fun {y} z => by rw [dom, List.map_append]; exact List.mem_append_left _ z
  have subr : ∀ {y : Addr}, y ∈ dom Mr → y ∈ dom (Mi ++ Mr) := fun {y} z => by rw [dom, List.map_append]; exact List.mem_append_right _ z
  have up : ∀ {y : Addr}, h.size ≤ y ∨ y ∈ dom Mi → h0.size ≤ y ∨ y ∈ ws := fun {y} z => by
    rcases z with z | z
    · exact Or.inl (Nat.le_trans C.2.1 z)
    · obtain ⟨q, hq, rfl⟩ := List.mem_map.mp z
      exact (hM q (List.mem_append_left _ hq)).2.2.2
  have far : ∀ {y : Addr} {q : Addr × Cell}, h.size ≤ y ∨ y ∈ dom Mi → q ∈ Mr → q.1 ≠ y := fun {y q} z hq e => by
    rcases z with z | z
    · rw [← e] at z; exact Nat.not_lt.mpr z (lt_of (hM q (List.mem_append_right _ hq)).1)
    · exact n3 _ z _ (List.mem_map.mpr ⟨q, hq, rfl⟩) e.symm
  refine ⟨C.trans C', EZ', fun q hq => ?_, ?_, fun q hq => ?_, fun q hq => ?_⟩
  · rcases List.mem_append.mp hq with hq | hq
    · obtain ⟨a1, a2, a3, a4⟩ := hM' q hq
      exact ⟨a1, a2, a3, up a4⟩
    · obtain ⟨a1, a2, a3, a4⟩ := hM q (List.mem_append_right _ hq)
      exact ⟨K.2 _ _ a1 fun z => n3 _ z _ (List.mem_map.mpr ⟨q, hq, rfl⟩) rfl, C'.safe (lt_of a1) a2, a3, a4⟩
  · rw [dom, List.map_append]
    refine List.nodup_append.mpr ⟨hn', n2, fun y hy z hz e => ?_⟩
    obtain ⟨q, hq, rfl⟩ := List.mem_map.mp hy
    obtain ⟨r, hr, rfl⟩ := List.mem_map.mp hz
    exact far (hM' q hq).2.2.2 hr e.symm
  · rcases List.mem_append.mp hq with hq | hq
    · obtain ⟨a1, a2, a3⟩ := hN' q hq
      refine ⟨a1, fun z => ?_, ?_⟩
      · rw [dom, List.map_append] at z
        rcases List.mem_append.mp z with z | z
        · exact a2 z
        · obtain ⟨r, hr, e⟩ := List.mem_map.mp z
          rcases a3 with a3 | a3 | a3
          · exact far (Or.inl a3) hr e
          · exact far (Or.inr a3) hr e
          · exact (hM r (List.mem_append_right _ hr)).2.1 (e ▸ a3)
      · rcases a3 with a3 | a3 | a3
        · exact (up (Or.inl a3)).imp id Or.inl
        · exact (up (Or.inr a3)).imp id Or.inl
        · exact (C.2.2 _ a3).elim (fun z => Or.inr (Or.inr z)) Or.inl
    · obtain ⟨a1, a2, a3⟩ := hN q hq
      refine ⟨K.2 _ _ a1 fun z => a2 (sub z), fun z => ?_, a3⟩
      rw [dom, List.map_append] at z
      rcases List.mem_append.mp z with z | z
      · obtain ⟨r, hr, e⟩ := List.mem_map.mp z
        rcases (hM' r hr).2.2.2 with b | b
        · rw [e] at b; exact Nat.not_lt.mpr b (lt_of a1)
        · rw [e] at b; exact a2 (sub b)
      · exact a2 (subr z)
  · obtain ⟨a1, a2⟩ := hP q hq
    refine ⟨K.2 _ _ a1 fun z => a2 (sub z), fun z => ?_⟩
    rw [dom, List.map_append] at z
    rcases List.mem_append.mp z with z | z
    · obtain ⟨r, hr, e⟩ := List.mem_map.mp z
      rcases (hM' r hr).2.2.2 with b | b
      · rw [e] at b; exact Nat.not_lt.mpr b (lt_of a1)
      · rw [e] at b; exact a2 (sub b)
    · exact a2 (subr z)
end Inv
/-! 2. A WALK: OSt (where it stands), OWp (it comes to the end that Q says), OCon (a method's contract) -/
def OSt (p : Program) (l : Launch) (e : Env) (R : Room) (s : State) (m : MethodId) (args : Array Value) (below : List Frame) (meth : Method) (c : Code) (own : String) (Z : State) (EL : List (String × Nat)) (ws : List Addr) (P : Mem)
    (T : State) (M N : Mem) (cells slots : Nat) : Prop :=
  ∃ (vm0 : Vm) (k0 : Nat) (locs : List Loc), Stand p l e R (s.setVm vm0) m args below meth c T locs cells slots ∧ s.Since vm0 k0 ∧ k0 ≤ T.heap.size ∧ Z.Warmed39 vm0 ∧ vm0.findClass own = some m.cls ∧
    (∀ y ∈ locs, s.heap.size ≤ y.base ∨ y.base ∈ ws) ∧ OInv Z EL s.vm s.heap ws vm0 T.heap M N P
def OEnd (e : Env) (R : Room) (s : State) (below : List Frame) (Z : State) (EL : List (String × Nat)) (ws : List Addr) (Q : Option Value → Mem → Mem → Prop) (U : State) : Prop :=
  ∃ (v : Option Value) (L : List Loc), U.status = .running ∧ Ended U below (.returned v) ∧ (∃ M N, Q v M N ∧ OInv Z EL s.vm s.heap ws U.vm U.heap M N []) ∧ OKp s.heap U.heap ws ∧ (∀ y ∈ L, s.heap.size ≤ y.base ∨ y.base ∈ ws) ∧ ReturnedEndW s (.returned v) U L R.cells R.slots
def OWp (p : Program) (l : Launch) (e : Env) (R : Room) (s : State) (m : MethodId) (args : Array Value) (below : List Frame) (meth : Method) (c : Code) (own : String) (Z : State) (EL : List (String × Nat)) (ws : List Addr) (P : Mem)
    (Q : Option Value → Mem → Mem → Prop) (M N : Mem) (cells slots pc : Nat) (L : List Slot) (S : List Value) : Prop :=
  ∀ T, OSt p l e R s m args below meth c own Z EL ws P T M N cells slots → ∃ U, Steps p.tables e below (T.setTop (mkF m pc L.toArray S)) U ∧ OEnd e R s below Z EL ws Q U
def OOk (p : Program) (bytes : ByteArray) (maxL : Nat) (ret : Option FieldType) (nm : String) (meth : Method) (c : Code) (Z : State) (a0 : Array Value) (EL : List (String × Nat)) : Prop :=
  p.tables.exec = Jvm.exec ∧ c.code = bytes ∧ c.maxLocals = maxL ∧ meth.sig.returnType = ret ∧ meth.locks = false ∧ meth.name = nm ∧ EW Z a0 EL
def OCon (l : Launch) (Z : State) (EL : List (String × Nat)) (y : MethodName) (bytes : ByteArray) (maxL : Nat) (ret : Option FieldType) (xs : List Jvm.Cond) (rm : Room) (as' : Array Value) (Mi P : Mem) (Q : Option Value → Mem → Mem → Prop) : Prop :=
  MetFree l y (head1 (Jvm.Cond.code y bytes maxL ret :: xs) rm) (fun a U => a = as' ∧ Z.Warmed39 U.vm ∧ OInv Z EL U.vm U.heap (dom Mi) U.vm U.heap Mi [] P) (fun _ _ _ _ _ => True)
    (fun _ U o U' => ∃ v L, o = .returned v ∧ (∃ M N, Q v M N ∧ OInv Z EL U.vm U.heap (dom Mi) U'.vm U'.heap M N []) ∧ OKp U.heap U'.heap (dom Mi) ∧ (∀ y ∈ L, U.heap.size ≤ y.base ∨ y.base ∈ dom Mi) ∧ ReturnedEndW U o U' L rm.cells rm.slots)
section Walk
variable {p : Program} {l : Launch} {e : Env} {R : Room} {s : State} {m : MethodId} {args : Array Value} {below : List Frame} {meth : Method} {c : Code} {own : String} {Z : State} {a0 : Array Value} {EL : List (String × Nat)} {ws : List Addr} {P : Mem} {Q : Option Value → Mem → Mem → Prop} {M N : Mem} {cells slots pc pc' : Nat} {L L' : List Slot} {S S' rest : List Value} {bytes : ByteArray} {maxL : Nat} {ret : Option FieldType} {nm : String}
theorem okp_of {vm0 : Vm} {T : State} {locs : List Loc} (X : Stand p l e R (s.setVm vm0) m args below meth c T locs cells slots) (hL : ∀ y ∈ locs, s.heap.size ≤ y.base ∨ y.base ∈ ws) : OKp s.heap T.heap ws := by
  obtain ⟨-, q1, -, -, -, q2⟩ := X.same
  refine ⟨q1, fun x cx hx hnx => ?_⟩
  obtain ⟨c', r1, r2, r3, r4⟩ := q2 x cx hx
  have r1 : T.heap[x]? = some c' := r1
  have e : c'.slots = cx.slots := Array.ext_getElem? fun i => r4 i fun z => by
    rcases hL _ z with y | y
    · have := lt_of hx; exact absurd y (Nat.not_le.mpr this)
    · exact hnx y
  rw [r1, r2, e]
theorem chat {vm0 vm1 : Vm} {h : Heap} (hW : (s.setVm vm0).WarmedH vm1) (hZ : Z.Warmed39 vm0) (w : EW Z a0 EL) (H : CHv Z EL vm0 h) : CHr Z EL vm0 h vm1 h := by
  have q := CHv.later (h' := h) hZ (hW := (show (Wst Z vm0 h).Warmed39 vm1 from hW.wide)) w ⟨Nat.le_refl _, fun _ _ q => q⟩ (Or.inl hW.interned_eq) H
  exact ⟨q.1, Nat.le_refl _, q.2⟩
/-- a contract by its walk -/
theorem OCon.of_wp {y : MethodName} {xs : List Jvm.Cond} {rm : Room} {as' : Array Value} {Mi : Mem} {L0 : List Slot} (hpl : plainFor y = true) (hEL : EW Z a0 EL) (hent : ∀ m, entryFrame m as' maxL = mkF m 0 L0.toArray [])
    (H : ∀ p e s m below meth c, OOk p bytes maxL ret y.name meth c Z a0 EL → OWp p l e rm s m as' below meth c y.cls Z EL (dom Mi) P Q Mi [] 0 0 0 L0 []) : OCon l Z EL y bytes maxL ret xs rm as' Mi P Q := by
  refine MetFree.of_bodySF hpl hisR ?_
  intro p e s m args below meth c s₁ Bd hml0 hP hK
  obtain ⟨rfl, hZ, I⟩ := hP
  have X0 : Stand p l e rm s m args below meth c s₁ [] 0 0 := Stand.of_body Bd
  have hown : s.vm.findClass y.cls = some m.cls := findClass_of_methodNamed Bd.named
  have hnm := (name_of_methodNamed Bd.named Bd.method).1
  have hh : s₁.heap = s.heap := by rw [Bd.state]; rfl
  obtain ⟨U, st, v, L, h1, h2, h3, h4, h5, h6⟩ := H p e s m below meth c ⟨Bd.exec, Bd.bytes, hml0, Bd.returns, Bd.notSynchronized, hnm, hEL⟩ s₁
    ⟨s.vm, 0, [], X0, (State.WarmedH.refl s).since 0, Nat.zero_le _, hZ, hown, fun _ q => (nomatch q), by rw [hh]; exact I⟩
  refine ⟨U, .returned v, ?_, h1, h2, v, L, rfl, h3, h4, h5, h6⟩
  rw [hent m]; exact st
/-- a step that leaves all but the frame -/
theorem OWp.pure (H : ∀ T target, At T m c below → Steps p.tables e below (T.setTop (mkF m pc' L'.toArray S')) target → Steps p.tables e below (T.setTop (mkF m pc L.toArray S)) target)
    (k : OWp p l e R s m args below meth c own Z EL ws P Q M N cells slots pc' L' S') : OWp p l e R s m args below meth c own Z EL ws P Q M N cells slots pc L S := fun T hT => by
  obtain ⟨U, st, r⟩ := k T hT
  obtain ⟨vm0, k0, locs, X, -⟩ := hT
  exact ⟨U, H T U X.here st, r⟩
/-- one word lies in the slot, or none -/
def o1 : Slot → Bool
  | .unset => true
  | .val w => w.category == 1
  | .second => false
theorem store_l {L : List Slot} {k : Nat} {v : Value} (ho : (L[k]?).any o1 = true) (hv : v.category = 1) : storeLocals L.toArray k v = some (L.set k (.val v)).toArray := by
  cases hk : L[k]? with
  | none => rw [hk] at ho; cases ho
  | some o =>
    rw [hk] at ho
    have ho' : o1 o = true := ho
    rw [Jvm.Free.XS.store1 (l := L.toArray) (i := k) (o := o) (by simpa using hk) (by cases o <;> simp [o1] at ho' ⊢; exact ho') hv]
    simp
section Pure
variable (hk : OOk p bytes maxL ret nm meth c Z a0 EL)
theorem OWp.aload_n {k : Fin 4} {v : Value} (hk : OOk p bytes maxL ret nm meth c Z a0 EL) (hd : decode bytes pc = .ok (.aload_n k, 1)) (hp : pc' = pc + 1) (hl : L[k.val]? = some (.val v)) (hv : v.isRef = true)
    (kk : OWp p l e R s m args below meth c own Z EL ws P Q M N cells slots pc' L (v :: S)) : OWp p l e R s m args below meth c own Z EL ws P Q M N cells slots pc L S := by
  subst hp; exact OWp.pure (fun T t h k => XS.aloadN h hk.1 rfl (hb hk.2.1 hd) (by simpa using hl) hv k) kk
theorem OWp.aload {k : Nat} {v : Value} (hk : OOk p bytes maxL ret nm meth c Z a0 EL) (hd : decode bytes pc = .ok (.aload k, 2)) (hp : pc' = pc + 2) (hl : L[k]? = some (.val v)) (hv : v.isRef = true)
    (kk : OWp p l e R s m args below meth c own Z EL ws P Q M N cells slots pc' L (v :: S)) : OWp p l e R s m args below meth c own Z EL ws P Q M N cells slots pc L S := by
  subst hp; exact OWp.pure (fun T t h k => XS.aload h hk.1 rfl (hb hk.2.1 hd) (by simpa using hl) hv k) kk
theorem OWp.iload_n {k : Fin 4} {v : Int32} (hk : OOk p bytes maxL ret nm meth c Z a0 EL) (hd : decode bytes pc = .ok (.iload_n k, 1)) (hp : pc' = pc + 1) (hl : L[k.val]? = some (.val (.int v)))
    (kk : OWp p l e R s m args below meth c own Z EL ws P Q M N cells slots pc' L (.int v :: S)) : OWp p l e R s m args below meth c own Z EL ws P Q M N cells slots pc L S := by
  subst hp; exact OWp.pure (fun T t h k => XS.iloadN h hk.1 rfl (hb hk.2.1 hd) (by simpa using hl) k) kk
theorem OWp.iload {k : Nat} {v : Int32} (hk : OOk p bytes maxL ret nm meth c Z a0 EL) (hd : decode bytes pc = .ok (.iload k, 2)) (hp : pc' = pc + 2) (hl : L[k]? = some (.val (.int v)))
    (kk : OWp p l e R s m args below meth c own Z EL ws P Q M N cells slots pc' L (.int v :: S)) : OWp p l e R s m args below meth c own Z EL ws P Q M N cells slots pc L S := by
  subst hp; exact OWp.pure (fun T t h k => XS.iload h hk.1 rfl (hb hk.2.1 hd) (by simpa using hl) k) kk
theorem OWp.lload_n {k : Fin 4} {v : Int64} (hk : OOk p bytes maxL ret nm meth c Z a0 EL) (hd : decode bytes pc = .ok (.lload_n k, 1)) (hp : pc' = pc + 1) (hl : L[k.val]? = some (.val (.long v)))
    (kk : OWp p l e R s m args below meth c own Z EL ws P Q M N cells slots pc' L (.long v :: S)) : OWp p l e R s m args below meth c own Z EL ws P Q M N cells slots pc L S := by
  subst hp; exact OWp.pure (fun T t h k => XS.lloadN h hk.1 rfl (hb hk.2.1 hd) (by simpa using hl) k) kk
theorem OWp.lload {k : Nat} {v : Int64} (hk : OOk p bytes maxL ret nm meth c Z a0 EL) (hd : decode bytes pc = .ok (.lload k, 2)) (hp : pc' = pc + 2) (hl : L[k]? = some (.val (.long v)))
    (kk : OWp p l e R s m args below meth c own Z EL ws P Q M N cells slots pc' L (.long v :: S)) : OWp p l e R s m args below meth c own Z EL ws P Q M N cells slots pc L S := by
  subst hp; exact OWp.pure (fun T t h k => XS.lload h hk.1 rfl (hb hk.2.1 hd) (by simpa using hl) k) kk
theorem OWp.iconst {i : Int} {z : Int32} (hk : OOk p bytes maxL ret nm meth c Z a0 EL) (hd : decode bytes pc = .ok (.iconst i, 1)) (hp : pc' = pc + 1) (hz : Int32.ofInt i = z)
    (kk : OWp p l e R s m args below meth c own Z EL ws P Q M N cells slots pc' L (.int z :: S)) : OWp p l e R s m args below meth c own Z EL ws P Q M N cells slots pc L S := by
  subst hp hz; exact OWp.pure (fun T t h k => XS.iconst h hk.1 rfl (hb hk.2.1 hd) k) kk
theorem OWp.bipush {i : Int} {z : Int32} (hk : OOk p bytes maxL ret nm meth c Z a0 EL) (hd : decode bytes pc = .ok (.bipush i, 2)) (hp : pc' = pc + 2) (hz : (Int8.ofInt i).toInt32 = z)
    (kk : OWp p l e R s m args below meth c own Z EL ws P Q M N cells slots pc' L (.int z :: S)) : OWp p l e R s m args below meth c own Z EL ws P Q M N cells slots pc L S := by
  subst hp hz; exact OWp.pure (fun T t h k => XS.bipush h hk.1 rfl (hb hk.2.1 hd) k) kk
theorem OWp.sipush {i : Int} {z : Int32} (hk : OOk p bytes maxL ret nm meth c Z a0 EL) (hd : decode bytes pc = .ok (.sipush i, 3)) (hp : pc' = pc + 3) (hz : (Int16.ofInt i).toInt32 = z)
    (kk : OWp p l e R s m args below meth c own Z EL ws P Q M N cells slots pc' L (.int z :: S)) : OWp p l e R s m args below meth c own Z EL ws P Q M N cells slots pc L S := by
  subst hp hz; exact OWp.pure (fun T t h k => XS.sipush h hk.1 rfl (hb hk.2.1 hd) k) kk
theorem OWp.lconst {i : Fin 2} {z : Int64} (hk : OOk p bytes maxL ret nm meth c Z a0 EL) (hd : decode bytes pc = .ok (.lconst i, 1)) (hp : pc' = pc + 1) (hz : Int64.ofNat i = z)
    (kk : OWp p l e R s m args below meth c own Z EL ws P Q M N cells slots pc' L (.long z :: S)) : OWp p l e R s m args below meth c own Z EL ws P Q M N cells slots pc L S := by
  subst hp hz; exact OWp.pure (fun T t h k => XS.lconst h hk.1 rfl (hb hk.2.1 hd) k) kk
theorem OWp.aconst_null (hk : OOk p bytes maxL ret nm meth c Z a0 EL) (hd : decode bytes pc = .ok (.aconst_null, 1)) (hp : pc' = pc + 1)
    (kk : OWp p l e R s m args below meth c own Z EL ws P Q M N cells slots pc' L (.null :: S)) : OWp p l e R s m args below meth c own Z EL ws P Q M N cells slots pc L S := by
  subst hp; exact OWp.pure (fun T t h k => XS.aconstNull h hk.1 rfl (hb hk.2.1 hd) k) kk
theorem OWp.iadd {x : Int32} {y : Int32} (hk : OOk p bytes maxL ret nm meth c Z a0 EL) (hd : decode bytes pc = .ok (.iadd, 1)) (hp : pc' = pc + 1) 
    (kk : OWp p l e R s m args below meth c own Z EL ws P Q M N cells slots pc' L (.int (x + y) :: rest)) : OWp p l e R s m args below meth c own Z EL ws P Q M N cells slots pc L (.int y :: .int x :: rest) := by
  subst hp; exact OWp.pure (fun T t h k => XS.iadd h hk.1 rfl (hb hk.2.1 hd) rfl k) kk
theorem OWp.isub {x : Int32} {y : Int32} (hk : OOk p bytes maxL ret nm meth c Z a0 EL) (hd : decode bytes pc = .ok (.isub, 1)) (hp : pc' = pc + 1) 
    (kk : OWp p l e R s m args below meth c own Z EL ws P Q M N cells slots pc' L (.int (x - y) :: rest)) : OWp p l e R s m args below meth c own Z EL ws P Q M N cells slots pc L (.int y :: .int x :: rest) := by
  subst hp; exact OWp.pure (fun T t h k => XS.isub h hk.1 rfl (hb hk.2.1 hd) rfl k) kk
theorem OWp.imul {x : Int32} {y : Int32} (hk : OOk p bytes maxL ret nm meth c Z a0 EL) (hd : decode bytes pc = .ok (.imul, 1)) (hp : pc' = pc + 1) 
    (kk : OWp p l e R s m args below meth c own Z EL ws P Q M N cells slots pc' L (.int (x * y) :: rest)) : OWp p l e R s m args below meth c own Z EL ws P Q M N cells slots pc L (.int y :: .int x :: rest) := by
  subst hp; exact OWp.pure (fun T t h k => XS.imul h hk.1 rfl (hb hk.2.1 hd) rfl k) kk
theorem OWp.iand {x : Int32} {y : Int32} (hk : OOk p bytes maxL ret nm meth c Z a0 EL) (hd : decode bytes pc = .ok (.iand, 1)) (hp : pc' = pc + 1) 
    (kk : OWp p l e R s m args below meth c own Z EL ws P Q M N cells slots pc' L (.int (x &&& y) :: rest)) : OWp p l e R s m args below meth c own Z EL ws P Q M N cells slots pc L (.int y :: .int x :: rest) := by
  subst hp; exact OWp.pure (fun T t h k => XS.iand h hk.1 rfl (hb hk.2.1 hd) rfl k) kk
theorem OWp.ior {x : Int32} {y : Int32} (hk : OOk p bytes maxL ret nm meth c Z a0 EL) (hd : decode bytes pc = .ok (.ior, 1)) (hp : pc' = pc + 1) 
    (kk : OWp p l e R s m args below meth c own Z EL ws P Q M N cells slots pc' L (.int (x ||| y) :: rest)) : OWp p l e R s m args below meth c own Z EL ws P Q M N cells slots pc L (.int y :: .int x :: rest) := by
  subst hp; exact OWp.pure (fun T t h k => XS.ior h hk.1 rfl (hb hk.2.1 hd) rfl k) kk
theorem OWp.ixor {x : Int32} {y : Int32} (hk : OOk p bytes maxL ret nm meth c Z a0 EL) (hd : decode bytes pc = .ok (.ixor, 1)) (hp : pc' = pc + 1) 
    (kk : OWp p l e R s m args below meth c own Z EL ws P Q M N cells slots pc' L (.int (x ^^^ y) :: rest)) : OWp p l e R s m args below meth c own Z EL ws P Q M N cells slots pc L (.int y :: .int x :: rest) := by
  subst hp; exact OWp.pure (fun T t h k => XS.ixor h hk.1 rfl (hb hk.2.1 hd) rfl k) kk
theorem OWp.ishl {x : Int32} {y : Int32} (hk : OOk p bytes maxL ret nm meth c Z a0 EL) (hd : decode bytes pc = .ok (.ishl, 1)) (hp : pc' = pc + 1) 
    (kk : OWp p l e R s m args below meth c own Z EL ws P Q M N cells slots pc' L (.int (x <<< (y &&& 31)) :: rest)) : OWp p l e R s m args below meth c own Z EL ws P Q M N cells slots pc L (.int y :: .int x :: rest) := by
  subst hp; exact OWp.pure (fun T t h k => XS.ishl h hk.1 rfl (hb hk.2.1 hd) rfl k) kk
theorem OWp.ishr {x : Int32} {y : Int32} (hk : OOk p bytes maxL ret nm meth c Z a0 EL) (hd : decode bytes pc = .ok (.ishr, 1)) (hp : pc' = pc + 1) 
    (kk : OWp p l e R s m args below meth c own Z EL ws P Q M N cells slots pc' L (.int (x >>> (y &&& 31)) :: rest)) : OWp p l e R s m args below meth c own Z EL ws P Q M N cells slots pc L (.int y :: .int x :: rest) := by
  subst hp; exact OWp.pure (fun T t h k => XS.ishr h hk.1 rfl (hb hk.2.1 hd) rfl k) kk
theorem OWp.iushr {x : Int32} {y : Int32} (hk : OOk p bytes maxL ret nm meth c Z a0 EL) (hd : decode bytes pc = .ok (.iushr, 1)) (hp : pc' = pc + 1) 
    (kk : OWp p l e R s m args below meth c own Z EL ws P Q M N cells slots pc' L (.int (XT.ushr x y) :: rest)) : OWp p l e R s m args below meth c own Z EL ws P Q M N cells slots pc L (.int y :: .int x :: rest) := by
  subst hp; exact OWp.pure (fun T t h k => XS.iushr h hk.1 rfl (hb hk.2.1 hd) rfl k) kk
theorem OWp.idiv {x : Int32} {y : Int32} (hk : OOk p bytes maxL ret nm meth c Z a0 EL) (hd : decode bytes pc = .ok (.idiv, 1)) (hp : pc' = pc + 1) (hy : y ≠ 0)
    (kk : OWp p l e R s m args below meth c own Z EL ws P Q M N cells slots pc' L (.int (x / y) :: rest)) : OWp p l e R s m args below meth c own Z EL ws P Q M N cells slots pc L (.int y :: .int x :: rest) := by
  subst hp; exact OWp.pure (fun T t h k => XS.idiv h hk.1 rfl (hb hk.2.1 hd) rfl hy k) kk
theorem OWp.ladd {x : Int64} {y : Int64} (hk : OOk p bytes maxL ret nm meth c Z a0 EL) (hd : decode bytes pc = .ok (.ladd, 1)) (hp : pc' = pc + 1) 
    (kk : OWp p l e R s m args below meth c own Z EL ws P Q M N cells slots pc' L (.long (x + y) :: rest)) : OWp p l e R s m args below meth c own Z EL ws P Q M N cells slots pc L (.long y :: .long x :: rest) := by
  subst hp; exact OWp.pure (fun T t h k => XS.ladd h hk.1 rfl (hb hk.2.1 hd) rfl k) kk
theorem OWp.lsub {x : Int64} {y : Int64} (hk : OOk p bytes maxL ret nm meth c Z a0 EL) (hd : decode bytes pc = .ok (.lsub, 1)) (hp : pc' = pc + 1) 
    (kk : OWp p l e R s m args below meth c own Z EL ws P Q M N cells slots pc' L (.long (x - y) :: rest)) : OWp p l e R s m args below meth c own Z EL ws P Q M N cells slots pc L (.long y :: .long x :: rest) := by
  subst hp; exact OWp.pure (fun T t h k => XS.lsub h hk.1 rfl (hb hk.2.1 hd) rfl k) kk
theorem OWp.lmul {x : Int64} {y : Int64} (hk : OOk p bytes maxL ret nm meth c Z a0 EL) (hd : decode bytes pc = .ok (.lmul, 1)) (hp : pc' = pc + 1) 
    (kk : OWp p l e R s m args below meth c own Z EL ws P Q M N cells slots pc' L (.long (x * y) :: rest)) : OWp p l e R s m args below meth c own Z EL ws P Q M N cells slots pc L (.long y :: .long x :: rest) := by
  subst hp; exact OWp.pure (fun T t h k => XS.lmul h hk.1 rfl (hb hk.2.1 hd) rfl k) kk
theorem OWp.land {x : Int64} {y : Int64} (hk : OOk p bytes maxL ret nm meth c Z a0 EL) (hd : decode bytes pc = .ok (.land, 1)) (hp : pc' = pc + 1) 
    (kk : OWp p l e R s m args below meth c own Z EL ws P Q M N cells slots pc' L (.long (x &&& y) :: rest)) : OWp p l e R s m args below meth c own Z EL ws P Q M N cells slots pc L (.long y :: .long x :: rest) := by
  subst hp; exact OWp.pure (fun T t h k => XS.land h hk.1 rfl (hb hk.2.1 hd) rfl k) kk
theorem OWp.lor {x : Int64} {y : Int64} (hk : OOk p bytes maxL ret nm meth c Z a0 EL) (hd : decode bytes pc = .ok (.lor, 1)) (hp : pc' = pc + 1) 
    (kk : OWp p l e R s m args below meth c own Z EL ws P Q M N cells slots pc' L (.long (x ||| y) :: rest)) : OWp p l e R s m args below meth c own Z EL ws P Q M N cells slots pc L (.long y :: .long x :: rest) := by
  subst hp; exact OWp.pure (fun T t h k => XS.lor h hk.1 rfl (hb hk.2.1 hd) rfl k) kk
theorem OWp.lshl {x : Int64} {y : Int32} (hk : OOk p bytes maxL ret nm meth c Z a0 EL) (hd : decode bytes pc = .ok (.lshl, 1)) (hp : pc' = pc + 1) 
    (kk : OWp p l e R s m args below meth c own Z EL ws P Q M N cells slots pc' L (.long (x <<< (y &&& 63).toInt64) :: rest)) : OWp p l e R s m args below meth c own Z EL ws P Q M N cells slots pc L (.int y :: .long x :: rest) := by
  subst hp; exact OWp.pure (fun T t h k => XS.lshl h hk.1 rfl (hb hk.2.1 hd) rfl k) kk
theorem OWp.lushr {x : Int64} {y : Int32} (hk : OOk p bytes maxL ret nm meth c Z a0 EL) (hd : decode bytes pc = .ok (.lushr, 1)) (hp : pc' = pc + 1) 
    (kk : OWp p l e R s m args below meth c own Z EL ws P Q M N cells slots pc' L (.long (x.toUInt64 >>> (y &&& 63).toInt64.toUInt64).toInt64 :: rest)) : OWp p l e R s m args below meth c own Z EL ws P Q M N cells slots pc L (.int y :: .long x :: rest) := by
  subst hp; exact OWp.pure (fun T t h k => XS.lushr h hk.1 rfl (hb hk.2.1 hd) rfl k) kk
theorem OWp.lshr {x : Int64} {y : Int32} (hk : OOk p bytes maxL ret nm meth c Z a0 EL) (hd : decode bytes pc = .ok (.lshr, 1)) (hp : pc' = pc + 1) 
    (kk : OWp p l e R s m args below meth c own Z EL ws P Q M N cells slots pc' L (.long (x >>> (y &&& 63).toInt64) :: rest)) : OWp p l e R s m args below meth c own Z EL ws P Q M N cells slots pc L (.int y :: .long x :: rest) := by
  subst hp; exact OWp.pure (fun T t h k => XS.lshr h hk.1 rfl (hb hk.2.1 hd) rfl k) kk
theorem OWp.i2b {x : Int32} (hk : OOk p bytes maxL ret nm meth c Z a0 EL) (hd : decode bytes pc = .ok (.i2b, 1)) (hp : pc' = pc + 1)
    (kk : OWp p l e R s m args below meth c own Z EL ws P Q M N cells slots pc' L (.int x.toInt8.toInt32 :: rest)) : OWp p l e R s m args below meth c own Z EL ws P Q M N cells slots pc L (.int x :: rest) := by
  subst hp; exact OWp.pure (fun T t h k => XS.i2b h hk.1 rfl (hb hk.2.1 hd) rfl k) kk
theorem OWp.i2c {x : Int32} (hk : OOk p bytes maxL ret nm meth c Z a0 EL) (hd : decode bytes pc = .ok (.i2c, 1)) (hp : pc' = pc + 1)
    (kk : OWp p l e R s m args below meth c own Z EL ws P Q M N cells slots pc' L (.int x.toUInt32.toUInt16.toUInt32.toInt32 :: rest)) : OWp p l e R s m args below meth c own Z EL ws P Q M N cells slots pc L (.int x :: rest) := by
  subst hp; exact OWp.pure (fun T t h k => XS.i2c h hk.1 rfl (hb hk.2.1 hd) rfl k) kk
theorem OWp.i2s {x : Int32} (hk : OOk p bytes maxL ret nm meth c Z a0 EL) (hd : decode bytes pc = .ok (.i2s, 1)) (hp : pc' = pc + 1)
    (kk : OWp p l e R s m args below meth c own Z EL ws P Q M N cells slots pc' L (.int x.toInt16.toInt32 :: rest)) : OWp p l e R s m args below meth c own Z EL ws P Q M N cells slots pc L (.int x :: rest) := by
  subst hp; exact OWp.pure (fun T t h k => XS.i2s h hk.1 rfl (hb hk.2.1 hd) rfl k) kk
theorem OWp.i2l {x : Int32} (hk : OOk p bytes maxL ret nm meth c Z a0 EL) (hd : decode bytes pc = .ok (.i2l, 1)) (hp : pc' = pc + 1)
    (kk : OWp p l e R s m args below meth c own Z EL ws P Q M N cells slots pc' L (.long x.toInt64 :: rest)) : OWp p l e R s m args below meth c own Z EL ws P Q M N cells slots pc L (.int x :: rest) := by
  subst hp; exact OWp.pure (fun T t h k => XS.i2l h hk.1 rfl (hb hk.2.1 hd) rfl k) kk
theorem OWp.l2i {x : Int64} (hk : OOk p bytes maxL ret nm meth c Z a0 EL) (hd : decode bytes pc = .ok (.l2i, 1)) (hp : pc' = pc + 1)
    (kk : OWp p l e R s m args below meth c own Z EL ws P Q M N cells slots pc' L (.int x.toInt32 :: rest)) : OWp p l e R s m args below meth c own Z EL ws P Q M N cells slots pc L (.long x :: rest) := by
  subst hp; exact OWp.pure (fun T t h k => XS.l2i h hk.1 rfl (hb hk.2.1 hd) rfl k) kk
theorem OWp.ineg {x : Int32} (hk : OOk p bytes maxL ret nm meth c Z a0 EL) (hd : decode bytes pc = .ok (.ineg, 1)) (hp : pc' = pc + 1)
    (kk : OWp p l e R s m args below meth c own Z EL ws P Q M N cells slots pc' L (.int (-x) :: rest)) : OWp p l e R s m args below meth c own Z EL ws P Q M N cells slots pc L (.int x :: rest) := by
  subst hp; exact OWp.pure (fun T t h k => XS.ineg h hk.1 rfl (hb hk.2.1 hd) rfl k) kk
theorem OWp.istore {k : Nat} {x : Int32} (hk : OOk p bytes maxL ret nm meth c Z a0 EL) (hd : decode bytes pc = .ok (.istore k, 2)) (hp : pc' = pc + 2) (ho : (L[k]?).any o1 = true) (hl : L.set k (.val (.int x)) = L')
    (kk : OWp p l e R s m args below meth c own Z EL ws P Q M N cells slots pc' L' rest) : OWp p l e R s m args below meth c own Z EL ws P Q M N cells slots pc L (.int x :: rest) := by
  subst hp hl; exact OWp.pure (fun T t h k => XS.istore h hk.1 rfl (hb hk.2.1 hd) rfl (store_l ho rfl) k) kk
theorem OWp.istore_n {k : Fin 4} {kn : Nat} {x : Int32} (hk : OOk p bytes maxL ret nm meth c Z a0 EL) (hd : decode bytes pc = .ok (.istore_n k, 1)) (hp : pc' = pc + 1) (hkn : k.val = kn) (ho : (L[kn]?).any o1 = true) (hl : L.set kn (.val (.int x)) = L')
    (kk : OWp p l e R s m args below meth c own Z EL ws P Q M N cells slots pc' L' rest) : OWp p l e R s m args below meth c own Z EL ws P Q M N cells slots pc L (.int x :: rest) := by
  subst hp hl hkn; exact OWp.pure (fun T t h k => XS.istoreN h hk.1 rfl (hb hk.2.1 hd) rfl (store_l ho rfl) k) kk
theorem OWp.astore {k : Nat} {x : Value} (hk : OOk p bytes maxL ret nm meth c Z a0 EL) (hd : decode bytes pc = .ok (.astore k, 2)) (hp : pc' = pc + 2) (hv : x.isRef = true) (ho : (L[k]?).any o1 = true) (hl : L.set k (.val x) = L')
    (kk : OWp p l e R s m args below meth c own Z EL ws P Q M N cells slots pc' L' rest) : OWp p l e R s m args below meth c own Z EL ws P Q M N cells slots pc L (x :: rest) := by
  subst hp hl; exact OWp.pure (fun T t h k => XS.astore h hk.1 rfl (hb hk.2.1 hd) rfl hv (store_l ho (XT.cat1 hv)) k) kk
theorem OWp.astore_n {k : Fin 4} {kn : Nat} {x : Value} (hk : OOk p bytes maxL ret nm meth c Z a0 EL) (hd : decode bytes pc = .ok (.astore_n k, 1)) (hp : pc' = pc + 1) (hkn : k.val = kn) (hv : x.isRef = true) (ho : (L[kn]?).any o1 = true) (hl : L.set kn (.val x) = L')
    (kk : OWp p l e R s m args below meth c own Z EL ws P Q M N cells slots pc' L' rest) : OWp p l e R s m args below meth c own Z EL ws P Q M N cells slots pc L (x :: rest) := by
  subst hp hl hkn; exact OWp.pure (fun T t h k => XS.astoreN h hk.1 rfl (hb hk.2.1 hd) rfl hv (store_l ho (XT.cat1 hv)) k) kk
theorem OWp.lstore {k : Nat} {x : Int64} (hk : OOk p bytes maxL ret nm meth c Z a0 EL) (hd : decode bytes pc = .ok (.lstore k, 2)) (hp : pc' = pc + 2) (hl : storeLocals L.toArray k (.long x) = some L'.toArray)
    (kk : OWp p l e R s m args below meth c own Z EL ws P Q M N cells slots pc' L' rest) : OWp p l e R s m args below meth c own Z EL ws P Q M N cells slots pc L (.long x :: rest) := by
  subst hp; exact OWp.pure (fun T t h k => XS.lstore h hk.1 rfl (hb hk.2.1 hd) rfl hl k) kk
theorem OWp.lstore_n {k : Fin 4} {kn : Nat} {x : Int64} (hk : OOk p bytes maxL ret nm meth c Z a0 EL) (hd : decode bytes pc = .ok (.lstore_n k, 1)) (hp : pc' = pc + 1) (hkn : k.val = kn) (hl : storeLocals L.toArray kn (.long x) = some L'.toArray)
    (kk : OWp p l e R s m args below meth c own Z EL ws P Q M N cells slots pc' L' rest) : OWp p l e R s m args below meth c own Z EL ws P Q M N cells slots pc L (.long x :: rest) := by
  subst hp hkn; exact OWp.pure (fun T t h k => XS.lstoreN h hk.1 rfl (hb hk.2.1 hd) rfl hl k) kk
theorem OWp.iinc {k : Nat} {cst : Int} {x z : Int32} (hk : OOk p bytes maxL ret nm meth c Z a0 EL) (hd : decode bytes pc = .ok (.iinc k cst, 3)) (hp : pc' = pc + 3) (hx : L[k]? = some (.val (.int x))) (hz : Int32.ofInt cst = z) (hl : L.set k (.val (.int (x + z))) = L')
    (kk : OWp p l e R s m args below meth c own Z EL ws P Q M N cells slots pc' L' S) : OWp p l e R s m args below meth c own Z EL ws P Q M N cells slots pc L S := by
  subst hp hl hz; exact OWp.pure (fun T t h k => XS.iinc h hk.1 rfl (hb hk.2.1 hd) (by simpa using hx) (store_l (by rw [hx]; rfl) rfl) k) kk
theorem OWp.dup {x : Value} (hk : OOk p bytes maxL ret nm meth c Z a0 EL) (hd : decode bytes pc = .ok (.dup, 1)) (hp : pc' = pc + 1) (hc : x.category = 1)
    (kk : OWp p l e R s m args below meth c own Z EL ws P Q M N cells slots pc' L (x :: x :: rest)) : OWp p l e R s m args below meth c own Z EL ws P Q M N cells slots pc L (x :: rest) := by
  subst hp; exact OWp.pure (fun T t h k => XS.dup h hk.1 rfl (hb hk.2.1 hd) rfl hc k) kk
theorem OWp.dup_x1 {x y : Value} (hk : OOk p bytes maxL ret nm meth c Z a0 EL) (hd : decode bytes pc = .ok (.dup_x1, 1)) (hp : pc' = pc + 1) (hc : x.category = 1) (hc' : y.category = 1)
    (kk : OWp p l e R s m args below meth c own Z EL ws P Q M N cells slots pc' L (x :: y :: x :: rest)) : OWp p l e R s m args below meth c own Z EL ws P Q M N cells slots pc L (x :: y :: rest) := by
  subst hp; exact OWp.pure (fun T t h k => XS.dupX1 h hk.1 rfl (hb hk.2.1 hd) rfl hc hc' k) kk
theorem OWp.dup2 {x y : Value} (hk : OOk p bytes maxL ret nm meth c Z a0 EL) (hd : decode bytes pc = .ok (.dup2, 1)) (hp : pc' = pc + 1) (hc : x.category = 1) (hc' : y.category = 1)
    (kk : OWp p l e R s m args below meth c own Z EL ws P Q M N cells slots pc' L (x :: y :: x :: y :: rest)) : OWp p l e R s m args below meth c own Z EL ws P Q M N cells slots pc L (x :: y :: rest) := by
  subst hp; exact OWp.pure (fun T t h k => XT.dup2 h hk.1 rfl (hb hk.2.1 hd) rfl hc hc' k) kk
theorem OWp.pop {x : Value} (hk : OOk p bytes maxL ret nm meth c Z a0 EL) (hd : decode bytes pc = .ok (.pop, 1)) (hp : pc' = pc + 1) (hc : x.category = 1)
    (kk : OWp p l e R s m args below meth c own Z EL ws P Q M N cells slots pc' L rest) : OWp p l e R s m args below meth c own Z EL ws P Q M N cells slots pc L (x :: rest) := by
  subst hp; exact OWp.pure (fun T t h k => XS.pop h hk.1 rfl (hb hk.2.1 hd) rfl hc k) kk
theorem OWp.goto {o : Int} (hk : OOk p bytes maxL ret nm meth c Z a0 EL) (hd : decode bytes pc = .ok (.goto o, 3)) (ho : 0 ≤ (pc : Int) + o) (hp : ((pc : Int) + o).toNat = pc')
    (kk : OWp p l e R s m args below meth c own Z EL ws P Q M N cells slots pc' L S) : OWp p l e R s m args below meth c own Z EL ws P Q M N cells slots pc L S := by
  exact OWp.pure (fun T t h k => XS.goto h hk.1 rfl (pc0 := pc) rfl (hb hk.2.1 hd) ho hp k) kk
theorem OWp.ifYes {cd : ClassFile.Cond} {x : Int32} {o : Int} (hk : OOk p bytes maxL ret nm meth c Z a0 EL) (hd : decode bytes pc = .ok (.ifCond cd o, 3)) (hc : ifCond.holds cd x = true) (ho : 0 ≤ (pc : Int) + o) (hp : ((pc : Int) + o).toNat = pc')
    (kk : OWp p l e R s m args below meth c own Z EL ws P Q M N cells slots pc' L rest) : OWp p l e R s m args below meth c own Z EL ws P Q M N cells slots pc L (.int x :: rest) := by
  exact OWp.pure (fun T t h k => XS.ifYes h hk.1 rfl (pc0 := pc) rfl (hb hk.2.1 hd) rfl hc ho hp k) kk
theorem OWp.ifNo {cd : ClassFile.Cond} {x : Int32} {o : Int} (hk : OOk p bytes maxL ret nm meth c Z a0 EL) (hd : decode bytes pc = .ok (.ifCond cd o, 3)) (hc : ifCond.holds cd x = false) (hp : pc' = pc + 3)
    (kk : OWp p l e R s m args below meth c own Z EL ws P Q M N cells slots pc' L rest) : OWp p l e R s m args below meth c own Z EL ws P Q M N cells slots pc L (.int x :: rest) := by
  subst hp; exact OWp.pure (fun T t h k => XS.ifNo h hk.1 rfl (hb hk.2.1 hd) rfl hc k) kk
theorem OWp.icmpYes {cd : ClassFile.Cond} {x y : Int32} {o : Int} (hk : OOk p bytes maxL ret nm meth c Z a0 EL) (hd : decode bytes pc = .ok (.if_icmp cd o, 3)) (hc : if_icmp.holds cd x y = true) (ho : 0 ≤ (pc : Int) + o) (hp : ((pc : Int) + o).toNat = pc')
    (kk : OWp p l e R s m args below meth c own Z EL ws P Q M N cells slots pc' L rest) : OWp p l e R s m args below meth c own Z EL ws P Q M N cells slots pc L (.int y :: .int x :: rest) := by
  exact OWp.pure (fun T t h k => XS.icmpYes h hk.1 rfl (pc0 := pc) rfl (hb hk.2.1 hd) rfl hc ho hp k) kk
theorem OWp.icmpNo {cd : ClassFile.Cond} {x y : Int32} {o : Int} (hk : OOk p bytes maxL ret nm meth c Z a0 EL) (hd : decode bytes pc = .ok (.if_icmp cd o, 3)) (hc : if_icmp.holds cd x y = false) (hp : pc' = pc + 3)
    (kk : OWp p l e R s m args below meth c own Z EL ws P Q M N cells slots pc' L rest) : OWp p l e R s m args below meth c own Z EL ws P Q M N cells slots pc L (.int y :: .int x :: rest) := by
  subst hp; exact OWp.pure (fun T t h k => XS.icmpNo h hk.1 rfl (hb hk.2.1 hd) rfl hc k) kk
theorem OWp.nullYes {o : Int} (hk : OOk p bytes maxL ret nm meth c Z a0 EL) (hd : decode bytes pc = .ok (.ifnull o, 3)) (ho : 0 ≤ (pc : Int) + o) (hp : ((pc : Int) + o).toNat = pc')
    (kk : OWp p l e R s m args below meth c own Z EL ws P Q M N cells slots pc' L rest) : OWp p l e R s m args below meth c own Z EL ws P Q M N cells slots pc L (.null :: rest) := by
  exact OWp.pure (fun T t h k => XS.ifnullYes h hk.1 rfl (pc0 := pc) rfl (hb hk.2.1 hd) rfl ho hp k) kk
theorem OWp.nullNo {o : Int} {b : Addr} (hk : OOk p bytes maxL ret nm meth c Z a0 EL) (hd : decode bytes pc = .ok (.ifnull o, 3)) (hp : pc' = pc + 3)
    (kk : OWp p l e R s m args below meth c own Z EL ws P Q M N cells slots pc' L rest) : OWp p l e R s m args below meth c own Z EL ws P Q M N cells slots pc L (.ref b :: rest) := by
  subst hp; exact OWp.pure (fun T t h k => XS.ifnullNo h hk.1 rfl (hb hk.2.1 hd) rfl k) kk
theorem OWp.nonnullYes {o : Int} {b : Addr} (hk : OOk p bytes maxL ret nm meth c Z a0 EL) (hd : decode bytes pc = .ok (.ifnonnull o, 3)) (ho : 0 ≤ (pc : Int) + o) (hp : ((pc : Int) + o).toNat = pc')
    (kk : OWp p l e R s m args below meth c own Z EL ws P Q M N cells slots pc' L rest) : OWp p l e R s m args below meth c own Z EL ws P Q M N cells slots pc L (.ref b :: rest) := by
  exact OWp.pure (fun T t h k => XS.ifnonnullYes h hk.1 rfl (pc0 := pc) rfl (hb hk.2.1 hd) rfl ho hp k) kk
theorem OWp.nonnullNo {o : Int} (hk : OOk p bytes maxL ret nm meth c Z a0 EL) (hd : decode bytes pc = .ok (.ifnonnull o, 3)) (hp : pc' = pc + 3)
    (kk : OWp p l e R s m args below meth c own Z EL ws P Q M N cells slots pc' L rest) : OWp p l e R s m args below meth c own Z EL ws P Q M N cells slots pc L (.null :: rest) := by
  subst hp; exact OWp.pure (fun T t h k => XS.ifnonnullNo h hk.1 rfl (hb hk.2.1 hd) rfl k) kk
theorem OWp.acmpYes {cd : ClassFile.ACond} {x y : Value} {o : Int} (hk : OOk p bytes maxL ret nm meth c Z a0 EL) (hd : decode bytes pc = .ok (.if_acmp cd o, 3)) (h1 : x.isRef = true) (h2 : y.isRef = true) (hc : XT.acmp cd x y = true) (ho : 0 ≤ (pc : Int) + o) (hp : ((pc : Int) + o).toNat = pc')
    (kk : OWp p l e R s m args below meth c own Z EL ws P Q M N cells slots pc' L rest) : OWp p l e R s m args below meth c own Z EL ws P Q M N cells slots pc L (y :: x :: rest) := by
  exact OWp.pure (fun T t h k => XT.acmpYes h hk.1 rfl (pc0 := pc) rfl (hb hk.2.1 hd) rfl h1 h2 hc ho hp k) kk
theorem OWp.acmpNo {cd : ClassFile.ACond} {x y : Value} {o : Int} (hk : OOk p bytes maxL ret nm meth c Z a0 EL) (hd : decode bytes pc = .ok (.if_acmp cd o, 3)) (h1 : x.isRef = true) (h2 : y.isRef = true) (hc : XT.acmp cd x y = false) (hp : pc' = pc + 3)
    (kk : OWp p l e R s m args below meth c own Z EL ws P Q M N cells slots pc' L rest) : OWp p l e R s m args below meth c own Z EL ws P Q M N cells slots pc L (y :: x :: rest) := by
  subst hp; exact OWp.pure (fun T t h k => XT.acmpNo h hk.1 rfl (hb hk.2.1 hd) rfl h1 h2 hc k) kk
theorem OWp.lcmp {x y : Int64} (hk : OOk p bytes maxL ret nm meth c Z a0 EL) (hd : decode bytes pc = .ok (.lcmp, 1)) (hp : pc' = pc + 1)
    (kk : OWp p l e R s m args below meth c own Z EL ws P Q M N cells slots pc' L (.int (XT.cmpL x y) :: rest)) : OWp p l e R s m args below meth c own Z EL ws P Q M N cells slots pc L (.long y :: .long x :: rest) := by
  subst hp; exact OWp.pure (fun T t h k => XS.lcmp h hk.1 rfl (hb hk.2.1 hd) rfl k) kk
end Pure
/-! 3. steps that read the heap or the tables, and leave both as they were -/
theorem OWp.pureX (H : ∀ (T target : State) (vm0 : Vm) (locs : List Loc), Stand p l e R (s.setVm vm0) m args below meth c T locs cells slots → Z.Warmed39 vm0 → vm0.findClass own = some m.cls → (∀ q ∈ M ++ (N ++ P), T.heap[q.1]? = some q.2) →
      Steps p.tables e below (T.setTop (mkF m pc' L'.toArray S')) target → Steps p.tables e below (T.setTop (mkF m pc L.toArray S)) target)
    (k : OWp p l e R s m args below meth c own Z EL ws P Q M N cells slots pc' L' S') : OWp p l e R s m args below meth c own Z EL ws P Q M N cells slots pc L S := fun T hT => by
  obtain ⟨U, st, r⟩ := k T hT
  obtain ⟨vm0, k0, locs, X, -, -, hZ, ho, -, I⟩ := hT
  exact ⟨U, H T U vm0 locs X hZ ho (fun q hq => I.at hq) st, r⟩
/-- .. the tables may be warmer behind it -/
theorem OWp.pureT (H : ∀ (T : State) (vm0 : Vm) (locs : List Loc), Stand p l e R (s.setVm vm0) m args below meth c T locs cells slots → Z.Warmed39 vm0 → vm0.findClass own = some m.cls → Ext Z.heap T.heap → (∀ q ∈ M ++ (N ++ P), T.heap[q.1]? = some q.2) →
      ∃ T', Stand p l e R (s.setVm vm0) m args below meth c T' locs cells slots ∧ T'.heap = T.heap ∧ ∀ target, Steps p.tables e below (T'.setTop (mkF m pc' L'.toArray S')) target → Steps p.tables e below (T.setTop (mkF m pc L.toArray S)) target)
    (k : OWp p l e R s m args below meth c own Z EL ws P Q M N cells slots pc' L' S') : OWp p l e R s m args below meth c own Z EL ws P Q M N cells slots pc L S := fun T hT => by
  obtain ⟨vm0, k0, locs, X, hS, hk0, hZ, ho, hL, I⟩ := hT
  obtain ⟨T', X', eh, st⟩ := H T vm0 locs X hZ ho I.2.1 (fun q hq => I.at hq)
  obtain ⟨U, st', r⟩ := k T' ⟨vm0, k0, locs, X', hS, by rw [eh]; exact hk0, hZ, ho, hL, by rw [eh]; exact I⟩
  exact ⟨U, st _ st', r⟩
theorem OWp.irem {x y : Int32} (hk : OOk p bytes maxL ret nm meth c Z a0 EL) (hd : decode bytes pc = .ok (.irem, 1)) (hp : pc' = pc + 1) (hy : y ≠ 0)
    (kk : OWp p l e R s m args below meth c own Z EL ws P Q M N cells slots pc' L (.int (x % y) :: rest)) : OWp p l e R s m args below meth c own Z EL ws P Q M N cells slots pc L (.int y :: .int x :: rest) := by
  subst hp; exact OWp.pureX (fun T t vm0 locs X _ _ _ k => iremM X hk.1 rfl (hb hk.2.1 hd) rfl hy k) kk
theorem OWp.ldcI {index : Nat} {v : Int32} (hk : OOk p bytes maxL ret nm meth c Z a0 EL) (hd : decode bytes pc = .ok (.ldc index, 2)) (hp : pc' = pc + 2) (w : (Jvm.Cond.constant own index v).before a0 Z = true)
    (kk : OWp p l e R s m args below meth c own Z EL ws P Q M N cells slots pc' L (.int v :: S)) : OWp p l e R s m args below meth c own Z EL ws P Q M N cells slots pc L S := by
  subst hp; exact OWp.pureX (fun T t vm0 locs X hZ ho _ k => X.ldcI hk.1 (own := own) ho (mvT (s := s.setVm vm0) hZ w) (g := mkF m pc L.toArray S) rfl (hb hk.2.1 hd) k) kk
theorem OWp.ldc2J {index : Nat} {v : Int64} (hk : OOk p bytes maxL ret nm meth c Z a0 EL) (hd : decode bytes pc = .ok (.ldc2_w index, 3)) (hp : pc' = pc + 3) (w : (Jvm.Cond.constantLong own index v).before a0 Z = true)
    (kk : OWp p l e R s m args below meth c own Z EL ws P Q M N cells slots pc' L (.long v :: S)) : OWp p l e R s m args below meth c own Z EL ws P Q M N cells slots pc L S := by
  subst hp; exact OWp.pureX (fun T t vm0 locs X hZ ho _ k => X.ldc2J hk.1 (own := own) ho (mvT (s := s.setVm vm0) hZ w) (g := mkF m pc L.toArray S) rfl (hb hk.2.1 hd) k) kk
/-- a field of a cell, read through the tables of the start -/
def FC (Z : State) (cl : Cell) (C n d : String) (v : Value) : Prop := ∃ (cf : ClassId) (k : Class) (i : Nat) (f : Field), Z.fieldFound? C n d = some (cf, k, i, f) ∧ f.isStatic = false ∧ cl.vm ≠ .unknown ∧ cl.vm.isStatics = false ∧ Z.vm.assignable cl.cls cf = true ∧ cl.slots[f.slot]? = some v
/-- a cell that is exactly of class C -/
def EC (Z : State) (cl : Cell) (C : String) : Prop := ∃ k : Class, Z.vm.findClass C = some cl.cls ∧ Z.vm.classes[cl.cls]? = some k ∧ cl.vm.isStatics = false ∧ (k.kind = .ordinary → cl.slots.size = k.instanceTypes.size)
/-- an array's cell: its kind and its whole list -/
def AC (Z : State) (cl : Cell) (ty : FieldType) (vs : List Value) : Prop := Z.isArrayOf cl ty ∧ cl.vm ≠ .unknown ∧ cl.slots.toList = vs ∧ vs.length < 2147483648 ∧ ∀ v ∈ vs, fits ty v = true
section Cells
variable {h h' : Heap} {a : Addr} {cl : Cell} {C C' n d O : String} {v w : Value} {ty : FieldType} {vs : List Value}
theorem FC.fld (F : FC Z cl C n d v) (hh : h[a]? = some cl) : Fld Z h a C n d v := by obtain ⟨cf, k, i, f, r⟩ := F; exact ⟨cl, cf, k, i, f, hh, r⟩
theorem FC.of (F : Fld Z h a C n d v) (hh : h[a]? = some cl) : FC Z cl C n d v := by
  obtain ⟨cl', cf, k, i, f, q, r⟩ := F; cases hh.symm.trans q; exact ⟨cf, k, i, f, r⟩
theorem EC.exa (F : EC Z cl C) (hh : h[a]? = some cl) : Exa Z h a C := by obtain ⟨k, r1, r2⟩ := F; exact ⟨cl, k, hh, r1, r2⟩
theorem EC.of (F : Exa Z h a C) (hh : h[a]? = some cl) : EC Z cl C := by
  obtain ⟨cl', k, q, r⟩ := F; cases hh.symm.trans q; exact ⟨k, r⟩
theorem AC.arr (F : AC Z cl ty vs) (hh : h[a]? = some cl) : RoadKit.Arr Z h a cl ty := ⟨hh, F.1, F.2.1⟩
theorem AC.size (F : AC Z cl ty vs) : cl.slots.size = vs.length := by rw [← F.2.2.1]; simp
theorem AC.get (F : AC Z cl ty vs) (i : Nat) : cl.slots[i]? = vs[i]? := by rw [← F.2.2.1]; simp
theorem toNat_lt {j : Int32} {n : Nat} (h0 : ¬ j < 0) (hj : j.toNatClampNeg = n) : j.toInt = n := by rw [nat_of h0, hj]
theorem AC.inb (F : AC Z cl ty vs) {j : Int32} (h0 : ¬ j < 0) (hi : j.toNatClampNeg < vs.length) : ¬ (j < 0 ∨ cl.slots.size ≤ j.toNatClampNeg) := by
  rw [F.size]; intro q; rcases q with q | q
  · exact h0 q
  · omega
theorem AC.set (F : AC Z cl ty vs) {i : Nat} (hv : fits ty v = true) (hi : i < vs.length) : AC Z (cl.setSlot i v) ty (vs.set i v) := by
  obtain ⟨h1, h2, h3, h4, h5⟩ := F
  refine ⟨h1, h2, ?_, by simpa using h4, fun u hu => ?_⟩
  · subst h3; simp [Cell.setSlot]
  · rcases List.mem_or_eq_of_mem_set hu with hu | rfl
    · exact h5 u hu
    · exact hv
theorem AC.congr {n : Nat} {f g : Nat → Value} (F : AC Z cl ty (tab n f)) (h : ∀ j, j < n → f j = g j) : AC Z cl ty (tab n g) := by rw [← tab_congr h]; exact F
theorem AC.new {cA : ClassId} {z : Int32} (A : RoadKit.Arr Z h a (newA cA ty z) ty) (hz : ¬ z < 0) (hd : fits ty (defaultValue ty) = true) : AC Z (newA cA ty z) ty (List.replicate z.toNatClampNeg (defaultValue ty)) :=
  ⟨A.2.1, A.2.2, by simp [newA], by simp only [List.length_replicate]; exact (back32 hz).2, fun u hu => by rw [List.eq_of_mem_replicate hu]; exact hd⟩
/-- as the library's laws ask an array -/
theorem AC.arv (F : AC Z cl ty vs) (hh : h[a]? = some cl) {d : Value} : Arv Z h a cl.cls ty (Int32.ofNat vs.length) vs d := by
  have hl := F.2.2.2.1
  have hn : (Int32.ofNat vs.length).toNatClampNeg = vs.length := by
    rw [Int32.toNatClampNeg, Int32.toInt_ofNat_small (by simpa using hl)]; simp
  have h0 : ¬ Int32.ofNat vs.length < 0 := Int32.ofNat_not_neg (by simpa using hl)
  refine ⟨cl, F.arr hh, rfl, by rw [hn, F.size], h0, fun k hk => ?_, fun k hk => ?_⟩
  · rw [F.size] at hk
    rw [F.get k, List.getD_eq_getElem?_getD, List.getElem?_eq_getElem hk]; rfl
  · rw [F.size] at hk
    rw [List.getD_eq_getElem?_getD, List.getElem?_eq_getElem hk]
    exact F.2.2.2.2 _ (List.getElem_mem hk)
theorem FC.set (F : FC Z cl C n d w) : FC Z (cl.setSlot (RoadKit.slotOf Z C n d) v) C n d v := by
  obtain ⟨cf, k, i, f, h1, h2, h3, h4, h5, h6⟩ := F
  have e : RoadKit.slotOf Z C n d = f.slot := by simp [RoadKit.slotOf, h1]
  refine ⟨cf, k, i, f, h1, h2, h3, h4, h5, ?_⟩
  rw [e]; have := (Array.getElem?_eq_some_iff.mp h6).1; simp [Cell.setSlot, this]
theorem FC.other {sl : Nat} (F : FC Z cl C n d w) (hne : RoadKit.slotOf Z C n d ≠ sl) : FC Z (cl.setSlot sl v) C n d w := by
  obtain ⟨cf, k, i, f, h1, h2, h3, h4, h5, h6⟩ := F
  have e : RoadKit.slotOf Z C n d = f.slot := by simp [RoadKit.slotOf, h1]
  refine ⟨cf, k, i, f, h1, h2, h3, h4, h5, ?_⟩
  rw [e] at hne
  simp only [Cell.setSlot]; rw [Array.getElem?_setIfInBounds_ne (Ne.symm hne)]; exact h6
theorem EC.set {sl : Nat} (F : EC Z cl C) : EC Z (cl.setSlot sl v) C := by
  obtain ⟨k, h1, h2, h3, h4⟩ := F
  exact ⟨k, h1, h2, h3, fun q => by rw [sz_set]; exact h4 q⟩
end Cells
section Reads
variable {a : Addr} {cl : Cell} {ty : FieldType} {vs : List Value} {v : Value} {j : Int32} {index : Nat} {O n d R0 : String}
theorem OWp.getfield (hk : OOk p bytes maxL ret nm meth c Z a0 EL) (hd : decode bytes pc = .ok (.getfield index, 3)) (hp : pc' = pc + 3) (w : (Jvm.Cond.fieldLink own index O n d).before a0 Z = true) (hm : (a, cl) ∈ M ++ (N ++ P)) (F : FC Z cl O n d v)
    (kk : OWp p l e R s m args below meth c own Z EL ws P Q M N cells slots pc' L (v :: rest)) : OWp p l e R s m args below meth c own Z EL ws P Q M N cells slots pc L (.ref a :: rest) := by
  subst hp
  exact OWp.pureT (fun T vm0 locs X hZ ho _ hH => getF (s := s.setVm vm0) (own := own) X hk.1 hZ ho (host := "") (Or.inl w) Via.refl rfl (F.fld (hH _ hm)) (g := mkF m pc L.toArray (.ref a :: rest)) rfl rfl (hb hk.2.1 hd)) kk
theorem OWp.getfieldVia (hk : OOk p bytes maxL ret nm meth c Z a0 EL) (hd : decode bytes pc = .ok (.getfield index, 3)) (hp : pc' = pc + 3) (w : (Jvm.Cond.fieldLink own index R0 n d).before a0 Z = true) (w2 : (Jvm.Cond.sameField R0 O n d).before a0 Z = true) (hm : (a, cl) ∈ M ++ (N ++ P)) (F : FC Z cl O n d v)
    (kk : OWp p l e R s m args below meth c own Z EL ws P Q M N cells slots pc' L (v :: rest)) : OWp p l e R s m args below meth c own Z EL ws P Q M N cells slots pc L (.ref a :: rest) := by
  subst hp
  exact OWp.pureT (fun T vm0 locs X hZ ho _ hH => getF (s := s.setVm vm0) (own := own) X hk.1 hZ ho (host := "") (Or.inl w) (Via.of w2) rfl (F.fld (hH _ hm)) (g := mkF m pc L.toArray (.ref a :: rest)) rfl rfl (hb hk.2.1 hd)) kk
theorem OWp.getstatic (hk : OOk p bytes maxL ret nm meth c Z a0 EL) (hd : decode bytes pc = .ok (.getstatic index, 3)) (hp : pc' = pc + 3) (w : (Jvm.Cond.fieldLink own index O n d).before a0 Z = true) (F : Sta Z Z.heap O n d v)
    (kk : OWp p l e R s m args below meth c own Z EL ws P Q M N cells slots pc' L (v :: S)) : OWp p l e R s m args below meth c own Z EL ws P Q M N cells slots pc L S := by
  subst hp
  exact OWp.pureT (fun T vm0 locs X hZ ho hE hH => getS (s := s.setVm vm0) (own := own) X hk.1 hZ ho (host := "") w Via.refl rfl (Sta.ext hE F) (g := mkF m pc L.toArray S) rfl (hb hk.2.1 hd)) kk
theorem OWp.instY {K : String} (hk : OOk p bytes maxL ret nm meth c Z a0 EL) (hd : decode bytes pc = .ok (.instanceof index, 3)) (hp : pc' = pc + 3) (w : (Jvm.Cond.classLink own index K).before a0 Z = true) (hm : (a, cl) ∈ M ++ (N ++ P)) (F : EC Z cl K)
    (kk : OWp p l e R s m args below meth c own Z EL ws P Q M N cells slots pc' L (.int 1 :: rest)) : OWp p l e R s m args below meth c own Z EL ws P Q M N cells slots pc L (.ref a :: rest) := by
  subst hp
  exact OWp.pureT (fun T vm0 locs X hZ ho hE hH => RoadKit.instY (s := s.setVm vm0) (own := own) X hk.1 hZ ho w rfl (Ins.self (F.exa (hH _ hm))) (g := mkF m pc L.toArray (.ref a :: rest)) rfl rfl (hb hk.2.1 hd)) kk
theorem OWp.castY {K : String} (hk : OOk p bytes maxL ret nm meth c Z a0 EL) (hd : decode bytes pc = .ok (.checkcast index, 3)) (hp : pc' = pc + 3) (w : (Jvm.Cond.classLink own index K).before a0 Z = true) (hm : (a, cl) ∈ M ++ (N ++ P)) (F : EC Z cl K)
    (kk : OWp p l e R s m args below meth c own Z EL ws P Q M N cells slots pc' L (.ref a :: rest)) : OWp p l e R s m args below meth c own Z EL ws P Q M N cells slots pc L (.ref a :: rest) := by
  subst hp
  exact OWp.pureT (fun T vm0 locs X hZ ho hE hH => RoadKit.castY (s := s.setVm vm0) (own := own) X hk.1 hZ ho w rfl (Ins.self (F.exa (hH _ hm))) (g := mkF m pc L.toArray (.ref a :: rest)) rfl rfl (hb hk.2.1 hd)) kk
theorem ofNat_size (n : Nat) : n.toInt32 = Int32.ofNat n := rfl
theorem OWp.arraylength (hk : OOk p bytes maxL ret nm meth c Z a0 EL) (hd : decode bytes pc = .ok (.arraylength, 1)) (hp : pc' = pc + 1) (hm : (a, cl) ∈ M ++ (N ++ P)) (F : AC Z cl ty vs) {z : Int32} (hz : Int32.ofNat vs.length = z)
    (kk : OWp p l e R s m args below meth c own Z EL ws P Q M N cells slots pc' L (.int z :: rest)) : OWp p l e R s m args below meth c own Z EL ws P Q M N cells slots pc L (.ref a :: rest) := by
  subst hp hz
  exact OWp.pureX (fun T t vm0 locs X hZ ho hH k => X.arraylength hk.1 (hH _ hm) (State.isArrayOf_alike hZ.alike F.1) (g := mkF m pc L.toArray (.ref a :: rest)) rfl rfl (hb hk.2.1 hd) t (by rw [F.size]; exact k)) kk
theorem OWp.caload (hk : OOk p bytes maxL ret nm meth c Z a0 EL) (hd : decode bytes pc = .ok (.caload, 1)) (hp : pc' = pc + 1) (hm : (a, cl) ∈ M ++ (N ++ P)) (F : AC Z cl .char vs) (h0 : ¬ j < 0) (hv : vs[j.toNatClampNeg]? = some v)
    (kk : OWp p l e R s m args below meth c own Z EL ws P Q M N cells slots pc' L (v :: rest)) : OWp p l e R s m args below meth c own Z EL ws P Q M N cells slots pc L (.int j :: .ref a :: rest) := by
  subst hp
  exact OWp.pureX (fun T t vm0 locs X hZ ho hH k => X.caload hk.1 (hH _ hm) (State.isArrayOf_alike hZ.alike F.1) F.2.1 (F.inb h0 (List.getElem?_eq_some_iff.mp hv).1) (by rw [F.get]; exact hv) (g := mkF m pc L.toArray (.int j :: .ref a :: rest)) rfl rfl (hb hk.2.1 hd) t k) kk
theorem OWp.baload (hk : OOk p bytes maxL ret nm meth c Z a0 EL) (hd : decode bytes pc = .ok (.baload, 1)) (hp : pc' = pc + 1) (hm : (a, cl) ∈ M ++ (N ++ P)) (F : AC Z cl .byte vs) (h0 : ¬ j < 0) (hv : vs[j.toNatClampNeg]? = some v)
    (kk : OWp p l e R s m args below meth c own Z EL ws P Q M N cells slots pc' L (v :: rest)) : OWp p l e R s m args below meth c own Z EL ws P Q M N cells slots pc L (.int j :: .ref a :: rest) := by
  subst hp
  exact OWp.pureX (fun T t vm0 locs X hZ ho hH k => X.baloadBytes hk.1 (hH _ hm) (State.isArrayOf_alike hZ.alike F.1) F.2.1 (F.inb h0 (List.getElem?_eq_some_iff.mp hv).1) (by rw [F.get]; exact hv) (g := mkF m pc L.toArray (.int j :: .ref a :: rest)) rfl rfl (hb hk.2.1 hd) t k) kk
theorem OWp.initO (hk : OOk p bytes maxL ret nm meth c Z a0 EL) (hd : decode bytes pc = .ok (.invokespecial index, 3)) (hp : pc' = pc + 3) (w1 : (Jvm.Cond.methodLink own index Lib.objectInit).before a0 Z = true) (w2 : (Jvm.Cond.instanceMethod Lib.objectInit).before a0 Z = true)
    (w3 : (Jvm.Cond.code Lib.objectInit ⟨#[0xb1]⟩ 1 none).before a0 Z = true) (hsz : L.length = maxL) (hf : 1 ≤ R.frames) {W : Nat} (hW : (rest.map fun v => v.category).sum = W) (hl : W + 12 ≤ R.locals)
    (kk : OWp p l e R s m args below meth c own Z EL ws P Q M N cells slots pc' L rest) : OWp p l e R s m args below meth c own Z EL ws P Q M N cells slots pc L (.ref a :: rest) := by
  subst hp
  exact OWp.pureT (fun T vm0 locs X hZ ho hE hH => RoadKit.initO (s := s.setVm vm0) (own := own) X hk.1 hZ ho w1 w2 w3 rfl (g := mkF m pc L.toArray (.ref a :: rest)) rfl (by rw [hk.2.2.1]; simpa using hsz) rfl (hb hk.2.1 hd) hf (W := W) (by show 2 * 0 + _ ≤ _; omega) hl) kk
end Reads
/-! 4. steps that make or write cells -/
section Writes
variable {a : Addr} {cl : Cell} {ty : FieldType} {vs : List Value} {v : Value} {j x : Int32} {index i : Nat} {O n d C : String}
theorem OWp.newarray {aty : ArrayType} {z : Int32} {cap : Nat} (hk : OOk p bytes maxL ret nm meth c Z a0 EL) (hd : decode bytes pc = .ok (.newarray aty, 2)) (hp : pc' = pc + 2) (w : (Jvm.Cond.arrayClass (newarray.typeOf aty)).before a0 Z = true)
    (hz : ¬ z < 0) (hcap : z.toNatClampNeg ≤ cap) (hb8 : cap * 8 ≤ 536870912) (hc : cells + 1 ≤ R.cells) (hs : slots + cap ≤ R.slots) (hvs : List.replicate z.toNatClampNeg (defaultValue (newarray.typeOf aty)) = vs)
    (kk : ∀ a cl, AC Z cl (newarray.typeOf aty) vs → OWp p l e R s m args below meth c own Z EL ws P Q ((a, cl) :: M) N (cells + 1) (slots + cap) pc' L (.ref a :: rest)) :
    OWp p l e R s m args below meth c own Z EL ws P Q M N cells slots pc L (.int z :: rest) := fun T hT => by
  subst hp hvs
  obtain ⟨vm0, k0, locs, X, hS, hk0, hZ, ho, hL, I⟩ := hT
  obtain ⟨T', h', cA, X', e', E, A, st⟩ := newP (s := s.setVm vm0) X hk.1 hZ w rfl (g := mkF m pc L.toArray (.int z :: rest)) rfl (hb hk.2.1 hd) rfl hz hcap hb8 hc hs
  subst e'
  obtain ⟨U, st', r⟩ := kk _ _ (AC.new A hz (by cases aty <;> decide)) T' ⟨vm0, k0, locs, X', hS, Nat.le_trans hk0 E.1, hZ, ho, hL, I.alloc E A.1⟩
  exact ⟨U, st _ st', r⟩
theorem OWp.new {nf : Nat} (hk : OOk p bytes maxL ret nm meth c Z a0 EL) (hd : decode bytes pc = .ok (.new index, 3)) (hp : pc' = pc + 3) (w : (Jvm.Cond.classLink own index C).before a0 Z = true) (wi : (Jvm.Cond.instantiable C nf).before a0 Z = true) (wz : (Jvm.Cond.initialized C).before a0 Z = true)
    (hc : cells + 1 ≤ R.cells) (hs : slots + nf ≤ R.slots)
    (kk : ∀ a cl, EC Z cl C → (∀ {O nm d : String} {ty : FieldType}, Laid Z a0 C O nm d → parseFieldDescriptor d = some ty → FC Z cl O nm d (defaultValue ty)) → OWp p l e R s m args below meth c own Z EL ws P Q ((a, cl) :: M) N (cells + 1) (slots + nf) pc' L (.ref a :: S)) :
    OWp p l e R s m args below meth c own Z EL ws P Q M N cells slots pc L S := fun T hT => by
  subst hp
  obtain ⟨vm0, k0, locs, X, hS, hk0, hZ, ho, hL, I⟩ := hT
  obtain ⟨T', h', X', e', E, A, D, ⟨cell, hcell, -, -⟩, st⟩ := newO (s := s.setVm vm0) (own := own) X hk.1 hZ ho w wi wz rfl (g := mkF m pc L.toArray S) rfl (hb hk.2.1 hd) hc hs
  subst e'
  obtain ⟨U, st', r⟩ := kk _ cell (EC.of A hcell) (fun La ht => FC.of (D La ht) hcell) T' ⟨vm0, k0, locs, X', hS, Nat.le_trans hk0 E.1, hZ, ho, hL, I.alloc E hcell⟩
  exact ⟨U, st _ st', r⟩
theorem OWp.wrote {sl : Nat} (hi : M[i]? = some (a, cl)) (H : ∀ (T : State) (vm0 : Vm) (locs : List Loc), Stand p l e R (s.setVm vm0) m args below meth c T locs cells slots → Z.Warmed39 vm0 → vm0.findClass own = some m.cls → T.heap[a]? = some cl →
      ∃ T', Stand p l e R (s.setVm vm0) m args below meth c T' (locs ++ [⟨a, sl⟩]) cells slots ∧ Wr T.heap T'.heap a sl v ∧ ∀ target, Steps p.tables e below (T'.setTop (mkF m pc' L'.toArray S')) target → Steps p.tables e below (T.setTop (mkF m pc L.toArray S)) target)
    (kk : OWp p l e R s m args below meth c own Z EL ws P Q (M.set i (a, cl.setSlot sl v)) N cells slots pc' L' S') : OWp p l e R s m args below meth c own Z EL ws P Q M N cells slots pc L S := fun T hT => by
  obtain ⟨vm0, k0, locs, X, hS, hk0, hZ, ho, hL, I⟩ := hT
  obtain ⟨b1, -, -, b4⟩ := I.2.2.1 _ (List.mem_of_getElem? hi)
  obtain ⟨T', X', W, st⟩ := H T vm0 locs X hZ ho b1
  obtain ⟨U, st', r⟩ := kk T' ⟨vm0, k0, _, X', hS, by rw [W.size]; exact hk0, hZ, ho, fun y hy => by
    rcases List.mem_append.mp hy with hy | hy
    · exact hL y hy
    · cases List.mem_singleton.mp hy; exact b4, I.write hi W⟩
  exact ⟨U, st _ st', r⟩
theorem OWp.castore (hk : OOk p bytes maxL ret nm meth c Z a0 EL) (hd : decode bytes pc = .ok (.castore, 1)) (hp : pc' = pc + 1) (hi : M[i]? = some (a, cl)) (F : AC Z cl .char vs) (h0 : ¬ j < 0) {t : Nat} (ht : j.toNatClampNeg = t) (hlt : t < vs.length)
    (kk : ∀ cl', AC Z cl' .char (vs.set t (.int (nar .char x))) → OWp p l e R s m args below meth c own Z EL ws P Q (M.set i (a, cl')) N cells slots pc' L rest) :
    OWp p l e R s m args below meth c own Z EL ws P Q M N cells slots pc L (.int x :: .int j :: .ref a :: rest) := by
  subst hp ht
  refine OWp.wrote hi (fun T vm0 locs X hZ ho hh => ?_) (kk _ (F.set (fits_nar_char x) hlt))
  obtain ⟨T', h', X', e', W, st⟩ := stC (s := s.setVm vm0) X hk.1 hZ rfl (F.arr hh) (F.inb h0 hlt) (g := mkF m pc L.toArray (.int x :: .int j :: .ref a :: rest)) rfl rfl (hb hk.2.1 hd)
  subst e'
  exact ⟨T', X', W, st⟩
theorem OWp.bastore (hk : OOk p bytes maxL ret nm meth c Z a0 EL) (hd : decode bytes pc = .ok (.bastore, 1)) (hp : pc' = pc + 1) (hi : M[i]? = some (a, cl)) (F : AC Z cl .byte vs) (h0 : ¬ j < 0) {t : Nat} (ht : j.toNatClampNeg = t) (hlt : t < vs.length)
    (kk : ∀ cl', AC Z cl' .byte (vs.set t (.int x.toInt8.toInt32)) → OWp p l e R s m args below meth c own Z EL ws P Q (M.set i (a, cl')) N cells slots pc' L rest) :
    OWp p l e R s m args below meth c own Z EL ws P Q M N cells slots pc L (.int x :: .int j :: .ref a :: rest) := by
  subst hp ht
  refine OWp.wrote hi (fun T vm0 locs X hZ ho hh => ?_) (kk _ (F.set (fits_nar_byte x) hlt))
  obtain ⟨T', h', X', e', W, st⟩ := stB (s := s.setVm vm0) X hk.1 hZ rfl (F.arr hh) (F.inb h0 hlt) (g := mkF m pc L.toArray (.int x :: .int j :: .ref a :: rest)) rfl rfl (hb hk.2.1 hd)
  subst e'
  exact ⟨T', X', W, st⟩
theorem OWp.putfield {old : Value} {nf : Nat} (hk : OOk p bytes maxL ret nm meth c Z a0 EL) (hd : decode bytes pc = .ok (.putfield index, 3)) (hp : pc' = pc + 3) (w : (Jvm.Cond.fieldLink own index O n d).before a0 Z = true) (hi : M[i]? = some (a, cl)) (F : FC Z cl O n d old) (E : EC Z cl C)
    (La : (Jvm.Cond.lays C O n d).before a0 Z = true ∨ ((Jvm.Cond.laysFinal C O n d).before a0 Z = true ∧ own = O ∧ nm = "<init>")) (wi : (Jvm.Cond.instantiable C nf).before a0 Z = true) (hty : parseFieldDescriptor d = some ty) (hn : narrow ty v = v) (hf : fits ty v = true)
    (kk : ∀ cl', EC Z cl' C → FC Z cl' O n d v → (∀ {O' n' d' : String} {w' : Value}, FC Z cl O' n' d' w' → RoadKit.slotOf Z O' n' d' ≠ RoadKit.slotOf Z O n d → FC Z cl' O' n' d' w') → OWp p l e R s m args below meth c own Z EL ws P Q (M.set i (a, cl')) N cells slots pc' L rest) :
    OWp p l e R s m args below meth c own Z EL ws P Q M N cells slots pc L (v :: .ref a :: rest) := by
  subst hp
  refine OWp.wrote hi (fun T vm0 locs X hZ ho hh => ?_) (kk _ E.set F.set (fun G q => G.other q))
  obtain ⟨T', h', X', e', W, st⟩ := putF (s := s.setVm vm0) (own := own) X hk.1 hZ ho (host := "") (Or.inl w) Via.refl rfl (F.fld hh) (E.exa hh) (La.imp id fun q => ⟨q.1, q.2.1, hk.2.2.2.2.2.1.trans q.2.2⟩) wi hty hn hf (g := mkF m pc L.toArray (v :: .ref a :: rest)) rfl rfl (hb hk.2.1 hd)
  subst e'
  exact ⟨T', X', W, st⟩
theorem OWp.freeze (kk : OWp p l e R s m args below meth c own Z EL ws P Q M ((a, cl) :: N) cells slots pc L S) : OWp p l e R s m args below meth c own Z EL ws P Q ((a, cl) :: M) N cells slots pc L S := fun T hT => by
  obtain ⟨vm0, k0, locs, X, hS, hk0, hZ, ho, hL, I⟩ := hT
  exact kk T ⟨vm0, k0, locs, X, hS, hk0, hZ, ho, hL, I.freeze⟩
theorem OWp.perm {M' : Mem} (hp : M'.Perm M) (kk : OWp p l e R s m args below meth c own Z EL ws P Q M' N cells slots pc L S) : OWp p l e R s m args below meth c own Z EL ws P Q M N cells slots pc L S := fun T hT => by
  obtain ⟨vm0, k0, locs, X, hS, hk0, hZ, ho, hL, I⟩ := hT
  exact kk T ⟨vm0, k0, locs, X, hS, hk0, hZ, ho, hL, I.perm hp⟩
/-- more room booked than used -/
theorem OWp.more {cells' slots' : Nat} (hc : cells ≤ cells') (hs : slots ≤ slots') (kk : OWp p l e R s m args below meth c own Z EL ws P Q M N cells' slots' pc L S) : OWp p l e R s m args below meth c own Z EL ws P Q M N cells slots pc L S := fun T hT => by
  obtain ⟨vm0, k0, locs, X, r⟩ := hT
  exact kk T ⟨vm0, k0, locs, X.more hc hs, r⟩
end Writes
/-! 5. String constants -/
section Lits
variable {a : Addr} {index n : Nat} {text : String} {vs : List Value}
theorem OWp.ldcO (hk : OOk p bytes maxL ret nm meth c Z a0 EL) (hd : decode bytes pc = .ok (.ldc index, 2)) (hp : pc' = pc + 2) (w : (Jvm.Cond.stringLink own index text).before a0 Z = true) (wS : ∀ a ∈ Bundle.stringAtoms, a.before a0 Z = true)
    (hn : 4 * text.toList.length ≤ n) (hbig : n ≤ 536870912) (hc : cells + 2 ≤ R.cells) (hs : slots + (n + 4) ≤ R.slots)
    (kk : ∀ a, OWp p l e R s m args below meth c own Z EL ws P Q M N (cells + 2) (slots + (n + 4)) pc' L (.ref a :: S)) : OWp p l e R s m args below meth c own Z EL ws P Q M N cells slots pc L S := fun T hT => by
  subst hp
  obtain ⟨vm0, k0, locs, X, hS, hk0, hZ, ho, hL, I⟩ := hT
  obtain ⟨a, T', h', k1, X', e', E, hS', hk1, hZ', ho', C, -, st⟩ := ldcOH X hk.1 hZ ho w wS rfl hS hk0 hk.2.2.2.2.2.2 I.1.1 (g := mkF m pc L.toArray S) rfl (hb hk.2.1 hd) hn hbig hc hs
  subst e'
  obtain ⟨U, st', r⟩ := kk a T' ⟨T'.vm, k1, locs, X', hS', hk1, hZ', ho', hL, I.later C E⟩
  exact ⟨U, st _ st', r⟩
theorem AC.of_arv {h : Heap} {b : Addr} {k : ClassId} {ty : FieldType} {z : Int32} {d : Value} (F : Arv Z h b k ty z vs d) (hl : z.toNatClampNeg = vs.length) : ∃ ct, h[b]? = some ct ∧ AC Z ct ty vs := by
  obtain ⟨ct, A, -, hsz, hz, H, G⟩ := F
  have hlen : ct.slots.size = vs.length := hsz.trans hl
  refine ⟨ct, A.1, A.2.1, A.2.2, ?_, ?_, fun v hv => ?_⟩
  · refine List.ext_getElem? fun i => ?_
    by_cases hi : i < vs.length
    · have q := H i (by omega)
      rw [Array.getElem?_toList, q, List.getD_eq_getElem?_getD, List.getElem?_eq_getElem hi]; rfl
    · rw [List.getElem?_eq_none (by simpa [hlen] using hi), List.getElem?_eq_none (by omega)]
  · rw [← hl]; exact (back32 hz).2
  · obtain ⟨i, hi, rfl⟩ := List.getElem_of_mem hv
    have q := G i (by omega)
    rwa [List.getD_eq_getElem?_getD, List.getElem?_eq_getElem hi] at q
theorem OWp.ldcS (hk : OOk p bytes maxL ret nm meth c Z a0 EL) (hd : decode bytes pc = .ok (.ldc index, 2)) (hp : pc' = pc + 2) (w : (Jvm.Cond.stringLink own index text).before a0 Z = true) (wS : ∀ a ∈ Bundle.stringAtoms, a.before a0 Z = true) (hmem : (own, index) ∈ EL)
    (ht : (∀ c ∈ text.toList, c.toNat < 256) ∧ text.toList.map (fun c => Value.int (Jvm.Lit.byteI c.toNat.toUInt16)) = vs) (hlen : vs.length < 2147483648)
    (hn : 4 * text.toList.length ≤ n) (hbig : n ≤ 536870912) (hc : cells + 2 ≤ R.cells) (hs : slots + (n + 4) ≤ R.slots)
    (kk : ∀ a t cx ct, EC Z cx "java/lang/String" → FC Z cx "java/lang/String" "coder" "B" (.int 0) → FC Z cx "java/lang/String" "value" "[B" (.ref t) → AC Z ct .byte vs →
      OWp p l e R s m args below meth c own Z EL ws P Q M ((a, cx) :: (t, ct) :: N) (cells + 2) (slots + (n + 4)) pc' L (.ref a :: S)) : OWp p l e R s m args below meth c own Z EL ws P Q M N cells slots pc L S := fun T hT => by
  subst hp
  obtain ⟨vm0, k0, locs, X, hS, hk0, hZ, ho, hL, I⟩ := hT
  have hz : (Int32.ofNat vs.length).toNatClampNeg = vs.length := by
    rw [Int32.toNatClampNeg, Int32.toInt_ofNat_small (by simpa using hlen)]; simp
  obtain ⟨a, T', h', k1, b, k, X', e', E, hS', hk1, hZ', ho', q1, q2, q3, q4, q5, q6, C, -, hne, st⟩ := ldcCH X hk.1 hZ ho w wS rfl hS hk0 hk.2.2.2.2.2.2 hmem I.1.1 ht (z := Int32.ofNat vs.length) (Int32.ofNat_not_neg (by simpa using hlen)) hz (g := mkF m pc L.toArray S) rfl (hb hk.2.1 hd) hn hbig hc hs
  subst e'
  have J := I.later C E
  obtain ⟨cx, hcx, -⟩ : ∃ cx : Cell, T'.heap[a]? = some cx ∧ True := by obtain ⟨cx, -, h1, -⟩ := q1; exact ⟨cx, h1, trivial⟩
  obtain ⟨ct, hct, At⟩ := AC.of_arv q4 hz
  have book : ∀ y, (∀ x, Safe Z EL T'.vm T'.heap x → x ≠ y) → s.heap.size ≤ y ∨ y ∈ ws ∨ Bk Z EL s.vm s.heap y := fun y hy => by
    have hB : Bk Z EL T'.vm T'.heap y := Classical.byContradiction fun z => hy y z rfl
    exact (J.1.2.2 y hB).elim (fun z => Or.inr (Or.inr z)) Or.inl
  have nin : ∀ y, (∀ x, Safe Z EL T'.vm T'.heap x → x ≠ y) → y ∉ dom M := fun y hy z => by
    obtain ⟨q, hq, e⟩ := List.mem_map.mp z
    exact hy q.1 (J.2.2.1 q hq).2.1 e
  have J1 := J.learn hct (nin b fun x S => (hne x S).2) (book b fun x S => (hne x S).2)
  have J2 := J1.learn hcx (nin a fun x S => (hne x S).1) (book a fun x S => (hne x S).1)
  obtain ⟨U, st', r⟩ := kk a b cx ct (EC.of q1 hcx) (FC.of q2 hcx) (FC.of q3 hcx) At T' ⟨T'.vm, k1, locs, X', hS', hk1, hZ', ho', hL, J2⟩
  exact ⟨U, st _ st', r⟩
end Lits
/-! 6. calls by contract -/
section Calls
variable {y z : MethodName} {bytes' : ByteArray} {maxL' W : Nat} {ret' : Option FieldType} {rm : Room} {argsL : List Value} {Mi Mr Pc : Mem} {Qc : Option Value → Mem → Mem → Prop} {index : Nat} {a : Addr} {cl : Cell} {C : String} {as' : Array Value}
def OPost (Z : State) (EL : List (String × Nat)) (Mi : Mem) (Qc : Option Value → Mem → Mem → Prop) (rm : Room) (A : Pt) (_ : Array Value) (v : Option Value) (B : Pt) : Prop :=
  ∃ Lc, (∃ M N, Qc v M N ∧ OInv Z EL A.U.vm A.U.heap (dom Mi) B.U.vm B.U.heap M N []) ∧ OKp A.U.heap B.U.heap (dom Mi) ∧ (∀ y ∈ Lc, A.U.heap.size ≤ y.base ∨ y.base ∈ dom Mi) ∧ B.locs = A.locs ++ Lc ∧ B.cells = A.cells + rm.cells ∧ B.slots = A.slots + rm.slots
/-- who pays: a contract -/
theorem oback {vm0 : Vm} {len : Nat} {h : Heap} (hC : OCon l Z EL y bytes' maxL' ret' [] rm as' Mi Pc Qc) (hZ : Z.Warmed39 vm0) (wc : (Jvm.Cond.code y bytes' maxL' ret').before a0 Z = true) (wz : (Jvm.Cond.initialized y.cls).before a0 Z = true)
    (hf : rm.frames + 1 ≤ R.frames) (hl : W + (maxL' + 11) + rm.locals ≤ R.locals) (hEL : EW Z a0 EL) (I : OInv Z EL s.vm s.heap ws vm0 h (Mi ++ Mr) N P) (hp : ∀ q ∈ Pc, q ∈ Mr ++ (N ++ P)) :
    BackS l R p e below (s.setVm vm0) args y len W (fun A a => a = as' ∧ A.U.heap = h ∧ A.cells + rm.cells ≤ R.cells ∧ A.slots + rm.slots ≤ R.slots) (OPost Z EL Mi Qc rm) :=
  BackS.of_freeW (bytes := bytes') (maxL := maxL') (ret := ret') (E := fun _ first o t L k n => k = rm.cells ∧ n = rm.slots ∧ ∃ v, o = .returned v ∧ (∃ M N, Qc v M N ∧ OInv Z EL first.vm first.heap (dom Mi) t.vm t.heap M N []) ∧ OKp first.heap t.heap (dom Mi) ∧ (∀ y ∈ L, first.heap.size ≤ y.base ∨ y.base ∈ dom Mi)) hC hf hl
    (fun m meth c A a Y hp => have hU : Z.Warmed39 A.U.vm := wtrans (s := s.setVm vm0) hZ Y.warmed
      ⟨by show (Jvm.Cond.and _ .tt).before a A.U = true; rw [Cond.before_and, mv hU wc]; rfl, mv hU wc, mv hU wz, hp.2.2.1, hp.2.2.2⟩)
    (fun m meth c A a g mk Y hq => ⟨hq.1, wtrans (s := s.setVm vm0) hZ Y.warmed, by
      have J := I.hand (chat Y.warmed hZ hEL I.1.1) hp
      rw [← hq.2.1] at J
      exact J⟩) (fun _ _ _ _ _ _ _ _ _ => trivial)
    (fun _ _ _ _ ⟨v, L, h1, h2, h3, h4, h5⟩ => ⟨L, _, _, h5, rfl, rfl, v, h1, h2, h3, h4⟩)
    (fun m meth c A a g mk v t L k n Y hp _ _ ⟨e1, e2, v', e3, e4, e5, e6⟩ => by
      cases e3; subst e1 e2
      exact ⟨L, e4, e5, e6, rfl, rfl, rfl⟩)
/-- behind the call -/
theorem OWp.behind {T : State} {vm0 vm1 : Vm} {k0 : Nat} {locs : List Loc} {B : Pt} {v : Option Value} (hEL : EW Z a0 EL) (hS : s.Since vm0 k0) (hk0 : k0 ≤ T.heap.size) (hZ : Z.Warmed39 vm0) (ho : vm0.findClass own = some m.cls) (hL : ∀ y ∈ locs, s.heap.size ≤ y.base ∨ y.base ∈ ws) (I : OInv Z EL s.vm s.heap ws vm0 T.heap (Mi ++ Mr) N P)
    (hW1 : (s.setVm vm0).WarmedH vm1) (X' : Stand p l e R ((s.setVm vm0).setVm B.U.vm) m args below meth c B.U B.locs B.cells B.slots) (hS' : (s.setVm vm0).Since B.U.vm B.U.heap.size) (hgr : T.heap.size ≤ B.U.heap.size) (hpost : OPost Z EL Mi Qc rm ⟨T.setVm vm1, locs, cells, slots⟩ as' v B) :
    ∃ Mo No, Qc v Mo No ∧ OSt p l e R s m args below meth c own Z EL ws P B.U (Mo ++ Mr) (No ++ N) (cells + rm.cells) (slots + rm.slots) := by
  obtain ⟨X2, h2, hZ2, ho2⟩ := rebS hS hk0 X' hS' hgr hZ ho
  obtain ⟨Lc, ⟨Mo, No, hq, J⟩, K, hLc, l1, l2, l3⟩ := hpost
  refine ⟨Mo, No, hq, B.U.vm, _, B.locs, ?_, h2, Nat.le_refl _, hZ2, ho2, fun y hy => ?_, I.call (chat hW1 hZ hEL I.1.1) J K⟩
  · rw [← l2, ← l3]; exact X2
  · rw [l1] at hy
    rcases List.mem_append.mp hy with hy | hy
    · exact hL y hy
    · rcases hLc y hy with q | q
      · exact Or.inl (Nat.le_trans I.1.2.1 q)
      · obtain ⟨r, hr, e⟩ := List.mem_map.mp q
        have := (I.2.2.1 r (List.mem_append_left _ hr)).2.2.2
        rwa [e] at this
theorem OWp.callS (hk : OOk p bytes maxL ret nm meth c Z a0 EL) (hd : decode bytes pc = .ok (.invokestatic index, 3)) (hp : pc' = pc + 3) (w1 : (Jvm.Cond.methodLink own index y).before a0 Z = true) (w2 : (Jvm.Cond.static y).before a0 Z = true) (w3 : (Jvm.Cond.initialized y.cls).before a0 Z = true) (w4 : (Jvm.Cond.code y bytes' maxL' ret').before a0 Z = true)
    (hy : y.cls ≠ "java/lang/invoke/MethodHandle" ∧ y.cls ≠ "java/lang/invoke/VarHandle") (hC : OCon l Z EL y bytes' maxL' ret' [] rm argsL.toArray Mi Pc Qc) (hM : Mi ++ Mr = M) (hPc : ∀ q ∈ Pc, q ∈ Mr ++ (N ++ P)) (hsz : L.length = maxL) (hlen : ∀ sig, parseMethodDescriptor y.desc = some sig → argsL.length = sig.parameters.length) (hst : S = argsL.reverse ++ rest)
    (hW : (rest.map fun v => v.category).sum = W) (hf : rm.frames + 1 ≤ R.frames) (hl : W + (maxL' + 11) + rm.locals ≤ R.locals) (hc : cells + rm.cells ≤ R.cells) (hs : slots + rm.slots ≤ R.slots)
    (kk : ∀ v Mo No, Qc v Mo No → OWp p l e R s m args below meth c own Z EL ws P Q (Mo ++ Mr) (No ++ N) (cells + rm.cells) (slots + rm.slots) pc' L (v.toList ++ rest)) :
    OWp p l e R s m args below meth c own Z EL ws P Q M N cells slots pc L S := fun T hT => by
  subst hp hM
  obtain ⟨vm0, k0, locs, X, hS, hk0, hZ, ho, hL, I⟩ := hT
  obtain ⟨v, vm1, B, hW1, X', hS', hgr, hpost, st⟩ := callSS X hk.1 (own := own) ho (mvT (s := s.setVm vm0) hZ w1) (mvT (s := s.setVm vm0) hZ w2) (mvT (s := s.setVm vm0) hZ w3) (mvT (s := s.setVm vm0) hZ w4) hy (oback (W := W) (as' := argsL.toArray) hC hZ w4 w3 hf hl hk.2.2.2.2.2.2 I hPc)
    (g := mkF m pc L.toArray S) rfl (by rw [hk.2.2.1]; simpa using hsz) hlen hst (by show 2 * 0 + _ ≤ _; omega) (hb hk.2.1 hd) (fun _ _ => ⟨rfl, rfl, hc, hs⟩)
  obtain ⟨Mo, No, hq, hB⟩ := OWp.behind hk.2.2.2.2.2.2 hS hk0 hZ ho hL I hW1 X' hS' hgr hpost
  obtain ⟨U, st', r⟩ := kk v Mo No hq B.U hB
  exact ⟨U, st.trans st', r⟩
theorem OWp.callI (hk : OOk p bytes maxL ret nm meth c Z a0 EL) (hd : decode bytes pc = .ok (.invokespecial index, 3)) (hp : pc' = pc + 3) (hy1 : y.name = "<init>") (w1 : (Jvm.Cond.methodLink own index y).before a0 Z = true) (w2 : (Jvm.Cond.instanceMethod y).before a0 Z = true) (w3 : (Jvm.Cond.initialized y.cls).before a0 Z = true) (w4 : (Jvm.Cond.code y bytes' maxL' none).before a0 Z = true)
    (hy : y.cls ≠ "java/lang/invoke/MethodHandle" ∧ y.cls ≠ "java/lang/invoke/VarHandle") (hC : OCon l Z EL y bytes' maxL' none [] rm (.ref a :: argsL).toArray Mi Pc Qc) (hM : Mi ++ Mr = M) (hPc : ∀ q ∈ Pc, q ∈ Mr ++ (N ++ P)) (hsz : L.length = maxL) (hlen : ∀ sig, parseMethodDescriptor y.desc = some sig → argsL.length = sig.parameters.length) (hst : S = argsL.reverse ++ .ref a :: rest)
    (hW : (rest.map fun v => v.category).sum = W) (hf : rm.frames + 1 ≤ R.frames) (hl : W + (maxL' + 11) + rm.locals ≤ R.locals) (hc : cells + rm.cells ≤ R.cells) (hs : slots + rm.slots ≤ R.slots)
    (kk : ∀ v Mo No, Qc v Mo No → OWp p l e R s m args below meth c own Z EL ws P Q (Mo ++ Mr) (No ++ N) (cells + rm.cells) (slots + rm.slots) pc' L (v.toList ++ rest)) :
    OWp p l e R s m args below meth c own Z EL ws P Q M N cells slots pc L S := fun T hT => by
  subst hp hM
  obtain ⟨vm0, k0, locs, X, hS, hk0, hZ, ho, hL, I⟩ := hT
  obtain ⟨v, vm1, B, hW1, X', hS', hgr, hpost, st⟩ := X.specialBackS hk.1 (own := own) hy1 ho (mvT (s := s.setVm vm0) hZ w1) (mvT (s := s.setVm vm0) hZ w2) (mvT (s := s.setVm vm0) hZ w4) hy (oback (W := W) (as' := (.ref a :: argsL).toArray) hC hZ w4 w3 hf hl hk.2.2.2.2.2.2 I hPc)
    (g := mkF m pc L.toArray S) rfl (by rw [hk.2.2.1]; simpa using hsz) (Steps.refl _) (a := a) hlen hst (by show 2 * 0 + _ ≤ _; omega) (hb hk.2.1 hd) (fun _ _ => ⟨rfl, rfl, hc, hs⟩)
  obtain ⟨Mo, No, hq, hB⟩ := OWp.behind hk.2.2.2.2.2.2 hS hk0 hZ ho hL I hW1 X' hS' hgr hpost
  obtain ⟨U, st', r⟩ := kk v Mo No hq B.U hB
  exact ⟨U, st.trans st', r⟩
theorem OWp.callV (hk : OOk p bytes maxL ret nm meth c Z a0 EL) (hd : decode bytes pc = .ok (.invokevirtual index, 3)) (hp : pc' = pc + 3) (w1 : (Jvm.Cond.methodLink own index y).before a0 Z = true) (w2 : (Jvm.Cond.declares y).before a0 Z = true) (nf : ∀ vm0, Z.Warmed39 vm0 → NotFace (s.setVm vm0) y) (w5 : (Jvm.Cond.selects C y z).before a0 Z = true) (w6 : (Jvm.Cond.instanceMethod z).before a0 Z = true)
    (w3 : (Jvm.Cond.initialized z.cls).before a0 Z = true) (w4 : (Jvm.Cond.code z bytes' maxL' ret').before a0 Z = true) (hy : y.cls ≠ "java/lang/invoke/MethodHandle" ∧ y.cls ≠ "java/lang/invoke/VarHandle")
    (hm : (a, cl) ∈ M ++ (N ++ P)) (E : EC Z cl C)
    (hC : OCon l Z EL z bytes' maxL' ret' [] rm (.ref a :: argsL).toArray Mi Pc Qc) (hM : Mi ++ Mr = M) (hPc : ∀ q ∈ Pc, q ∈ Mr ++ (N ++ P)) (hsz : L.length = maxL) (hlen : ∀ sig, parseMethodDescriptor y.desc = some sig → argsL.length = sig.parameters.length) (hst : S = argsL.reverse ++ .ref a :: rest)
    (hW : (rest.map fun v => v.category).sum = W) (hf : rm.frames + 1 ≤ R.frames) (hl : W + (maxL' + 11) + rm.locals ≤ R.locals) (hc : cells + rm.cells ≤ R.cells) (hs : slots + rm.slots ≤ R.slots)
    (kk : ∀ v Mo No, Qc v Mo No → OWp p l e R s m args below meth c own Z EL ws P Q (Mo ++ Mr) (No ++ N) (cells + rm.cells) (slots + rm.slots) pc' L (v.toList ++ rest)) :
    OWp p l e R s m args below meth c own Z EL ws P Q M N cells slots pc L S := fun T hT => by
  subst hp hM
  obtain ⟨vm0, k0, locs, X, hS, hk0, hZ, ho, hL, I⟩ := hT
  obtain ⟨cB, kB, qa, qb, qc⟩ := isOf (s := s.setVm vm0) (T := T) hZ rfl (E.exa (I.at hm))
  obtain ⟨v, vm1, B, hW1, X', hS', hgr, hpost, st⟩ := X.virtualBackS hk.1 (own := own) ho (mvT (s := s.setVm vm0) hZ w1) (mvT (s := s.setVm vm0) hZ w2) (nf vm0 hZ) (mvT (s := s.setVm vm0) hZ w5) (mvT (s := s.setVm vm0) hZ w6) hy (oback (W := W) (as' := (.ref a :: argsL).toArray) hC hZ w4 w3 hf hl hk.2.2.2.2.2.2 I hPc) qa qc
    (g := mkF m pc L.toArray S) rfl (by rw [hk.2.2.1]; simpa using hsz) (Steps.refl _) hlen hst (by show 2 * 0 + _ ≤ _; omega) (hb hk.2.1 hd) (fun _ _ => ⟨rfl, rfl, hc, hs⟩)
  obtain ⟨Mo, No, hq, hB⟩ := OWp.behind hk.2.2.2.2.2.2 hS hk0 hZ ho hL I hW1 X' hS' hgr hpost
  obtain ⟨U, st', r⟩ := kk v Mo No hq B.U hB
  exact ⟨U, st.trans st', r⟩
theorem nfs {y : MethodName} (w : (Jvm.Cond.selects C y y).before a0 Z = true) : ∀ vm0, Z.Warmed39 vm0 → NotFace (s.setVm vm0) y := fun vm0 hZ => notFace_of_selects (args := #[]) (mvT (s := s.setVm vm0) hZ w)
end Calls
/-! 7. the end -/
section Ends
variable {v : Option Value} {M' N' : Mem} {w : Value} {x : Int32} {t : FieldType}
theorem OWp.leave (hk : OOk p bytes maxL ret nm meth c Z a0 EL) (hv : ret = none → v = none) (hQ : Q v M' N') (hm : M'.Sublist M) (hn : ∀ q ∈ N', q ∈ N) (hc : cells ≤ R.cells) (hs : slots ≤ R.slots)
    (H : ∀ (T : State) (vm0 : Vm) (locs : List Loc) (fs : List Frame), Stand p l e R (s.setVm vm0) m args below meth c T locs cells slots → (∀ (f : JFrame) (acts : List Action), f.method = m → f.locked = none → f.entered = [] → (doReturn e (T.setTop f) acts v).1 = T.setFrames fs) → Steps p.tables e below (T.setTop (mkF m pc L.toArray S)) (T.setFrames fs)) :
    OWp p l e R s m args below meth c own Z EL ws P Q M N cells slots pc L S := fun T hT => by
  obtain ⟨vm0, k0, locs, X, hS, hk0, hZ, ho, hL, I⟩ := hT
  obtain ⟨fs, h1, h2, h3, h4⟩ := X.leaveW hS hk0 (v := v) (fun q => hv (hk.2.2.2.1.symm.trans q)) hk.2.2.2.2.1
  refine ⟨T.setFrames fs, H T vm0 locs fs X h1, v, locs, h2, h3, ⟨M', N', hQ, ?_⟩, (show OKp s.heap T.heap ws from okp_of X hL), hL, h4.1, h4.2.1, h4.2.2.1, h4.2.2.2.mono hc hs⟩
  exact (I.later (chat X.warmed hZ hk.2.2.2.2.2.2 I.1.1) (ext_refl _)).sub hm hn
theorem OWp.ret0 (hk : OOk p bytes maxL none nm meth c Z a0 EL) (hd : decode bytes pc = .ok (.return_, 1)) (hQ : Q none M' N') (hm : M'.Sublist M) (hn : ∀ q ∈ N', q ∈ N) (hc : cells ≤ R.cells) (hs : slots ≤ R.slots) :
    OWp p l e R s m args below meth c own Z EL ws P Q M N cells slots pc L [] :=
  OWp.leave hk (fun _ => rfl) hQ hm hn hc hs fun T vm0 locs fs X h1 => X.returnOut hk.1 hk.2.2.2.1 (hb hk.2.1 hd) h1
theorem OWp.retI (hk : OOk p bytes maxL (some .int) nm meth c Z a0 EL) (hd : decode bytes pc = .ok (.ireturn, 1)) (hQ : Q (some (.int x)) M' N') (hm : M'.Sublist M) (hn : ∀ q ∈ N', q ∈ N) (hc : cells ≤ R.cells) (hs : slots ≤ R.slots) :
    OWp p l e R s m args below meth c own Z EL ws P Q M N cells slots pc L (.int x :: rest) :=
  OWp.leave hk (fun q => by cases q) hQ hm hn hc hs fun T vm0 locs fs X h1 => retOut X hk.1 hk.2.2.2.1 rfl (Or.inl ⟨rfl, Or.inl rfl, x, rfl⟩) (hb hk.2.1 hd) h1
theorem OWp.retN (hk : OOk p bytes maxL (some t) nm meth c Z a0 EL) (ht : t = .boolean ∨ t = .byte ∨ t = .char ∨ t = .short) (hd : decode bytes pc = .ok (.ireturn, 1)) (hQ : Q (some (.int (nar t x))) M' N') (hm : M'.Sublist M) (hn : ∀ q ∈ N', q ∈ N) (hc : cells ≤ R.cells) (hs : slots ≤ R.slots) :
    OWp p l e R s m args below meth c own Z EL ws P Q M N cells slots pc L (.int x :: rest) :=
  OWp.leave hk (fun q => by cases q) hQ hm hn hc hs fun T vm0 locs fs X h1 => RoadKit.retN X hk.1 hk.2.2.2.1 ht (hb hk.2.1 hd) h1
theorem OWp.retA (hk : OOk p bytes maxL (some t) nm meth c Z a0 EL) (ht : t.isReference = true) (hw : w.isRef = true) (hnw : narrow t w = w) (hd : decode bytes pc = .ok (.areturn, 1)) (hQ : Q (some w) M' N') (hm : M'.Sublist M) (hn : ∀ q ∈ N', q ∈ N) (hc : cells ≤ R.cells) (hs : slots ≤ R.slots) :
    OWp p l e R s m args below meth c own Z EL ws P Q M N cells slots pc L (w :: rest) :=
  OWp.leave hk (fun q => by cases q) hQ hm hn hc hs fun T vm0 locs fs X h1 => retOut X hk.1 hk.2.2.2.1 hnw (Or.inr (Or.inr (Or.inr (Or.inr ⟨rfl, ht, hw⟩)))) (hb hk.2.1 hd) h1
end Ends
end Walk
end Jvm.OwnKit
namespace Jvm.OwnKit
open Jvm Jvm.ClassFile Sem Op Lib Jvm.Free Jvm.Stand Jvm.LawKit Jvm.RoadKit Bundle
/-! what is known of a String: its chars -/
section StrDefs
def lo8 (c : Int32) : Int32 := c.toInt8.toInt32
def hi8 (c : Int32) : Int32 := (c >>> ((8 : Int32) &&& 31)).toInt8.toInt32
def lw8 (c : Int32) : Int32 := (c >>> ((0 : Int32) &&& 31)).toInt8.toInt32
def lat (cs : List Int32) : Bool := cs.all fun c => !decide (255 < c)
def cdOf (cs : List Int32) : Int32 := if lat cs then 0 else 1
def oWide (cs : List Int32) : List Value := tab (2 * cs.length) fun j => .int (if j % 2 = 0 then lw8 (cs.getD (j / 2) 0) else hi8 (cs.getD (j / 2) 0))
def oBytes (cs : List Int32) : List Value := if lat cs then tab cs.length (fun j => .int (lo8 (cs.getD j 0))) else oWide cs
def Chars (cs : List Int32) : Prop := (∀ c ∈ cs, ¬ c < 0 ∧ ¬ (65535 : Int32) < c) ∧ cs.length ≤ 4000
def SC (Z : State) (t : Addr) (cx ct : Cell) (cs : List Int32) : Prop :=
  EC Z cx "java/lang/String" ∧ FC Z cx "java/lang/String" "value" "[B" (.ref t) ∧ FC Z cx "java/lang/String" "coder" "B" (.int (cdOf cs)) ∧ AC Z ct .byte (oBytes cs) ∧ Chars cs
theorem lat_iff {cs : List Int32} : lat cs = true ↔ ∀ c ∈ cs, ¬ (255 : Int32) < c := by simp [lat]
theorem cd_cases (cs : List Int32) : (lat cs = true ∧ cdOf cs = 0) ∨ (lat cs = false ∧ cdOf cs = 1) := by
  cases h : lat cs
  · exact Or.inr ⟨rfl, by simp [cdOf, h]⟩
  · exact Or.inl ⟨rfl, by simp [cdOf, h]⟩
theorem nar_cd (cs : List Int32) : nar .byte (cdOf cs) = cdOf cs := by rcases cd_cases cs with ⟨-, h⟩ | ⟨-, h⟩ <;> rw [h] <;> decide
theorem bytes_len (cs : List Int32) : (oBytes cs).length = if lat cs then cs.length else 2 * cs.length := by
  unfold oBytes; split <;> simp [oWide, tab_len]
theorem bytes_lat {cs : List Int32} (h : lat cs = true) : oBytes cs = tab cs.length (fun j => .int (lo8 (cs.getD j 0))) := by simp [oBytes, h]
theorem bytes_wide {cs : List Int32} (h : lat cs = false) : oBytes cs = oWide cs := by simp [oBytes, h]
theorem getD_mem {cs : List Int32} {i : Nat} (hi : i < cs.length) : cs.getD i 0 ∈ cs := by
  rw [List.getD_eq_getElem?_getD, List.getElem?_eq_getElem hi]; exact List.getElem_mem hi
/-- length()'s shift -/
theorem shr_len (cs : List Int32) (h : cs.length ≤ 4000) : Int32.ofNat (oBytes cs).length >>> (cdOf cs &&& 31) = Int32.ofNat cs.length := by
  rw [bytes_len]
  rcases cd_cases cs with ⟨h1, h2⟩ | ⟨h1, h2⟩
  · rw [h2, h1, if_pos rfl]
    apply i_eq
    rw [c_ishr _ 0 0 (by decide)]; simp
  · rw [h2, h1, if_neg (by decide)]
    apply i_eq
    rw [c_ishr _ 1 1 (by decide), n_int (by omega), n_int (by omega)]; omega
theorem lo8_back {c : Int32} (h0 : ¬ c < 0) (h1 : ¬ (255 : Int32) < c) : (lo8 c &&& 255).toUInt32.toUInt16.toUInt32.toInt32 = c := by
  rw [i2c_mask]
  apply i_eq
  rw [c_mask _ 255 8 (by decide) (by decide)]
  have q := c_i2b c
  rw [i_lt] at h0 h1
  have e0 : (0 : Int32).toInt = 0 := by decide
  have e1 : (255 : Int32).toInt = 255 := by decide
  rw [e0] at h0; rw [e1] at h1
  have : (lo8 c).toInt = c.toInt8.toInt32.toInt := rfl
  rw [this]; omega
theorem nar_char_id {c : Int32} (h0 : ¬ c < 0) (h1 : ¬ (65535 : Int32) < c) : nar .char c = c := by
  apply i_eq
  have q := c_i2c c
  rw [i_lt] at h0 h1
  have e0 : (0 : Int32).toInt = 0 := by decide
  have e1 : (65535 : Int32).toInt = 65535 := by decide
  rw [e0] at h0; rw [e1] at h1
  show c.toUInt32.toUInt16.toUInt32.toInt32.toInt = _
  omega
theorem nar_bool01 {x : Int32} (h : x = 0 ∨ x = 1) : nar .boolean x = x := by rcases h with rfl | rfl <;> decide
theorem fits_cd (cs : List Int32) : fits .byte (.int (cdOf cs)) = true := by rcases cd_cases cs with ⟨-, h⟩ | ⟨-, h⟩ <;> rw [h] <;> decide
/-- coderFromArrayLen's answer -/
theorem cfl_val {cs : List Int32} {n : Nat} (hn : cs.length = n) (h4 : cs.length ≤ 4000) (h0 : 0 < n) : (XT.ushr (Int32.ofNat n - Int32.ofNat (oBytes cs).length) 31).toInt8.toInt32 = cdOf cs := by
  rw [bytes_len]
  rcases cd_cases cs with ⟨h1, h2⟩ | ⟨h1, h2⟩
  · rw [h2, h1, if_pos rfl, hn, Int32.sub_self]; decide
  · rw [h2, h1, if_neg (by decide)]
    have e : XT.ushr (Int32.ofNat n - Int32.ofNat (2 * cs.length)) 31 = 1 := by
      apply i_eq
      have q := c_isub (Int32.ofNat n) (Int32.ofNat (2 * cs.length))
      have r := rng32 (Int32.ofNat n - Int32.ofNat (2 * cs.length))
      rw [n_int (by omega), n_int (by omega)] at q
      have u := c_iushr (Int32.ofNat n - Int32.ofNat (2 * cs.length)) 31 31 (by decide) (by decide)
      have e1 : (1 : Int32).toInt = 1 := by decide
      show ((Int32.ofNat n - Int32.ofNat (2 * cs.length)).toUInt32 >>> ((31 : Int32) &&& 31).toUInt32).toInt32.toInt = _
      rw [u, e1]
      omega
    rw [e]; decide
theorem shl_1 (n : Nat) (h : n ≤ 100000) : Int32.ofNat n <<< ((1 : Int32) &&& 31) = Int32.ofNat (2 * n) := by
  apply i_eq
  have q := c_ishl (Int32.ofNat n) 1 1 (by decide)
  have r := rng32 (Int32.ofNat n <<< ((1 : Int32) &&& 31))
  rw [n_int (by omega)] at q
  rw [n_int (by omega)]
  omega
theorem wide_lo {cs : List Int32} {i : Nat} (hi : i < cs.length) : (oWide cs)[2 * i]? = some (.int (lw8 (cs.getD i 0))) := by
  unfold oWide; rw [tab_get (by omega), if_pos (by omega), show 2 * i / 2 = i by omega]
theorem wide_hi {cs : List Int32} {i : Nat} (hi : i < cs.length) : (oWide cs)[2 * i + 1]? = some (.int (hi8 (cs.getD i 0))) := by
  unfold oWide; rw [tab_get (by omega), if_neg (by omega), show (2 * i + 1) / 2 = i by omega]
theorem wide_back {c : Int32} (h0 : ¬ c < 0) (h1 : ¬ (65535 : Int32) < c) : (((lw8 c &&& 255) <<< ((0 : Int32) &&& 31)) ||| ((hi8 c &&& 255) <<< ((8 : Int32) &&& 31))).toUInt32.toUInt16.toUInt32.toInt32 = c := by
  have a1 := c_ishr c 0 0 (by decide)
  have a2 := c_i2b (c >>> ((0 : Int32) &&& 31))
  have a3 := c_mask (lw8 c) 255 8 (by decide) (by decide)
  have a4 := c_ishl (lw8 c &&& 255) 0 0 (by decide)
  have b1 := c_ishr c 8 8 (by decide)
  have b2 := c_i2b (c >>> ((8 : Int32) &&& 31))
  have b3 := c_mask (hi8 c) 255 8 (by decide) (by decide)
  have b4 := c_ishl (hi8 c &&& 255) 8 8 (by decide)
  have r1 := rng32 ((lw8 c &&& 255) <<< ((0 : Int32) &&& 31))
  have r2 := rng32 ((hi8 c &&& 255) <<< ((8 : Int32) &&& 31))
  have e1 : (lw8 c).toInt = (c >>> ((0 : Int32) &&& 31)).toInt8.toInt32.toInt := rfl
  have e2 : (hi8 c).toInt = (c >>> ((8 : Int32) &&& 31)).toInt8.toInt32.toInt := rfl
  have z0 : (0 : Int32).toInt = 0 := by decide
  have z1 : (65535 : Int32).toInt = 65535 := by decide
  rw [i_lt, z0] at h0
  rw [i_lt, z1] at h1
  have p8 : ((2 ^ 8 : Nat) : Int) = 256 := by decide
  have p0 : ((2 ^ 0 : Nat) : Int) = 1 := by decide
  rw [p0] at a1 a4
  rw [p8] at a3 b1 b3 b4
  have o := c_or' ((lw8 c &&& 255) <<< ((0 : Int32) &&& 31)) ((hi8 c &&& 255) <<< ((8 : Int32) &&& 31)) 8 (by decide) 256 (by decide) (by omega) (by omega) (by omega)
  have u := c_i2c (((lw8 c &&& 255) <<< ((0 : Int32) &&& 31)) ||| ((hi8 c &&& 255) <<< ((8 : Int32) &&& 31)))
  apply i_eq
  omega
theorem ch_nil : Chars [] := ⟨fun _ h => (nomatch h), by decide⟩
theorem ch_cons {cs : List Int32} (v : Int32) (h : Chars cs) (hl : cs.length < 4000) : Chars (nar .char v :: cs) := ⟨fun c hc => by
  rcases List.mem_cons.mp hc with rfl | hc
  · exact rng_char (fits_nar_char v)
  · exact h.1 c hc, hl⟩
theorem lt_65535 {c : Int32} (h : ¬ (255 : Int32) < c) : ¬ (65535 : Int32) < c := by
  rw [i_lt] at h ⊢
  have e1 : (255 : Int32).toInt = 255 := by decide
  have e2 : (65535 : Int32).toInt = 65535 := by decide
  omega
theorem msk_lat (v : Int32) : ¬ (v &&& 255).toUInt32.toUInt16.toUInt32.toInt32 < 0 ∧ ¬ (255 : Int32) < (v &&& 255).toUInt32.toUInt16.toUInt32.toInt32 := by
  rw [i2c_mask]
  have h := c_and v 255 (by decide)
  have e1 : (255 : Int32).toInt = 255 := by decide
  have e2 : (0 : Int32).toInt = 0 := by decide
  rw [i_lt, i_lt]; omega
theorem msk_nar (v : Int32) : ¬ (255 : Int32) < nar .char (v &&& 255).toUInt32.toUInt16.toUInt32.toInt32 := by
  rw [nar_char_id (msk_lat v).1 (lt_65535 (msk_lat v).2)]; exact (msk_lat v).2
theorem lo8_inj {x y : Int32} (h0 : ¬ x < 0) (h1 : ¬ (255 : Int32) < x) (k0 : ¬ y < 0) (k1 : ¬ (255 : Int32) < y) (h : lo8 x = lo8 y) : x = y := by
  rw [← lo8_back h0 h1, ← lo8_back k0 k1, h]
/-- r: where ch lies first among cs, or -1 -/
def IdxR (cs : List Int32) (ch r : Int32) : Prop := (r = -1 ∧ ∀ j, j < cs.length → ¬ cs.getD j 0 = ch) ∨ ∃ i, i < cs.length ∧ r = Int32.ofNat i ∧ cs.getD i 0 = ch ∧ ∀ j, j < i → ¬ cs.getD j 0 = ch
theorem shr_1 (n : Nat) (h : n ≤ 100000) : Int32.ofNat (2 * n) >>> ((1 : Int32) &&& 31) = Int32.ofNat n := by
  apply i_eq
  rw [c_ishr _ 1 1 (by decide), n_int (by omega), n_int (by omega)]; omega
theorem lt_65536 {c : Int32} (h : ¬ (65535 : Int32) < c) : c < 65536 := by
  rw [i_lt] at h ⊢
  have e1 : (65536 : Int32).toInt = 65536 := by decide
  have e2 : (65535 : Int32).toInt = 65535 := by decide
  omega
theorem lat_cons {c : Int32} {cs : List Int32} (h : ¬ (255 : Int32) < c) (hl : lat cs = true) : lat (c :: cs) = true := lat_iff.mpr fun q hq => by
  rcases List.mem_cons.mp hq with rfl | hq
  · exact h
  · exact lat_iff.mp hl q hq
theorem nar_nar (x : Int32) : nar .char (nar .char x) = nar .char x := nar_char_id (rng_char (fits_nar_char x)).1 (rng_char (fits_nar_char x)).2
end StrDefs
end Jvm.OwnKit
namespace Jvm.Pilot.@@N@@
open Jvm Jvm.ClassFile Sem Op Lib Jvm.Free Jvm.Stand Jvm.LawKit Jvm.RoadKit Bundle Jvm.OwnKit Jvm.Pilot.@@N@@.Jvm.D
abbrev kCap : Nat := 3
theorem pd_0 : parseMethodDescriptor "([CI[BII)I" = some ⟨[(.array .char), .int, (.array .byte), .int, .int], some .int⟩ := by decide +kernel
theorem pd_1 : parseMethodDescriptor "([CII)[B" = some ⟨[(.array .char), .int, .int], some (.array .byte)⟩ := by decide +kernel
theorem pd_2 : parseMethodDescriptor "([BI)B" = some ⟨[(.array .byte), .int], some .byte⟩ := by decide +kernel
theorem pd_3 : parseMethodDescriptor "([CIILjava/lang/Void;)V" = some ⟨[(.array .char), .int, .int, (.object "java/lang/Void")], none⟩ := by decide +kernel
theorem pd_4 : parseMethodDescriptor "(C)Z" = some ⟨[.char], some .boolean⟩ := by decide +kernel
theorem pd_5 : parseMethodDescriptor "(C)[B" = some ⟨[.char], some (.array .byte)⟩ := by decide +kernel
theorem pd_6 : parseMethodDescriptor "([BB)V" = some ⟨[(.array .byte), .byte], none⟩ := by decide +kernel
theorem pd_7 : parseMethodDescriptor "([C)V" = some ⟨[(.array .char)], none⟩ := by decide +kernel
theorem pd_8 : parseMethodDescriptor "(C)Ljava/lang/String;" = some ⟨[.char], some (.object "java/lang/String")⟩ := by decide +kernel
theorem pd_9 : parseMethodDescriptor "()Ljava/util/Map;" = some ⟨[], some (.object "java/util/Map")⟩ := by decide +kernel
theorem pd_10 : parseMethodDescriptor "()Ljava/util/List;" = some ⟨[], some (.object "java/util/List")⟩ := by decide +kernel
theorem pd_11 : parseMethodDescriptor "(Ljava/lang/String;Lcom/example/goals_to_queue/goalstoqueue/NablarchHandler;Ljava/lang/String;Lcom/example/goals_to_queue/goalstoqueue/DefaultComponent;Ljava/lang/String;)V" = some ⟨[(.object "java/lang/String"), (.object "com/example/goals_to_queue/goalstoqueue/NablarchHandler"), (.object "java/lang/String"), (.object "com/example/goals_to_queue/goalstoqueue/DefaultComponent"), (.object "java/lang/String")], none⟩ := by decide +kernel
theorem pd_12 : parseMethodDescriptor "(I)Ljava/lang/String;" = some ⟨[.int], some (.object "java/lang/String")⟩ := by decide +kernel
theorem pd_13 : parseMethodDescriptor "(Ljava/lang/String;Ljava/lang/String;Ljava/lang/String;)Lcom/example/goals_to_queue/goalstoqueue/QueueEntry;" = some ⟨[(.object "java/lang/String"), (.object "java/lang/String"), (.object "java/lang/String")], some (.object "com/example/goals_to_queue/goalstoqueue/QueueEntry")⟩ := by decide +kernel
theorem pd_14 : parseMethodDescriptor "()Ljava/lang/String;" = some ⟨[], some (.object "java/lang/String")⟩ := by decide +kernel
theorem pd_15 : parseMethodDescriptor "(Ljava/lang/Object;)Z" = some ⟨[(.object "java/lang/Object")], some .boolean⟩ := by decide +kernel
theorem pd_16 : parseMethodDescriptor "()Lcom/example/goals_to_queue/goalstoqueue/NablarchHandler;" = some ⟨[], some (.object "com/example/goals_to_queue/goalstoqueue/NablarchHandler")⟩ := by decide +kernel
theorem pd_17 : parseMethodDescriptor "()Lcom/example/goals_to_queue/goalstoqueue/DefaultComponent;" = some ⟨[], some (.object "com/example/goals_to_queue/goalstoqueue/DefaultComponent")⟩ := by decide +kernel
theorem str_atoms {Z : State} {a0 : Array Value} (hw : ∀ d ∈ tables_1, d.before a0 Z = true) : ∀ a ∈ Bundle.stringAtoms, a.before a0 Z = true := fun d hd => by
  simp only [Bundle.stringAtoms, List.mem_cons, List.not_mem_nil, or_false] at hd
  rcases hd with rfl | rfl | rfl | rfl | rfl | rfl | rfl
  · exact (hw _ (List.mem_of_getElem? (i := 6) rfl))
  · exact (hw _ (List.mem_of_getElem? (i := 5) rfl))
  · exact (hw _ (List.mem_of_getElem? (i := 19) rfl))
  · exact (hw _ (List.mem_of_getElem? (i := 20) rfl))
  · exact (hw _ (List.mem_of_getElem? (i := 21) rfl))
  · exact (hw _ (List.mem_of_getElem? (i := 22) rfl))
  · exact (hw _ (List.mem_of_getElem? (i := 23) rfl))
theorem d_CM5_0 : decode jdk_52_method_21_code 0 = .ok (.iconst 0, 1) := by decide +kernel
theorem d_CM5_1 : decode jdk_52_method_21_code 1 = .ok (.istore 5, 2) := by decide +kernel
theorem d_CM5_3 : decode jdk_52_method_21_code 3 = .ok (.iload 5, 2) := by decide +kernel
theorem d_CM5_5 : decode jdk_52_method_21_code 5 = .ok (.iload 4, 2) := by decide +kernel
theorem d_CM5_7 : decode jdk_52_method_21_code 7 = .ok (.if_icmp .ge 37, 3) := by decide +kernel
theorem d_CM5_10 : decode jdk_52_method_21_code 10 = .ok (.aload_n 0, 1) := by decide +kernel
theorem d_CM5_11 : decode jdk_52_method_21_code 11 = .ok (.iload_n 1, 1) := by decide +kernel
theorem d_CM5_12 : decode jdk_52_method_21_code 12 = .ok (.caload, 1) := by decide +kernel
theorem d_CM5_13 : decode jdk_52_method_21_code 13 = .ok (.istore 6, 2) := by decide +kernel
theorem d_CM5_15 : decode jdk_52_method_21_code 15 = .ok (.iload 6, 2) := by decide +kernel
theorem d_CM5_17 : decode jdk_52_method_21_code 17 = .ok (.sipush 255, 3) := by decide +kernel
theorem d_CM5_20 : decode jdk_52_method_21_code 20 = .ok (.if_icmp .le 6, 3) := by decide +kernel
theorem d_CM5_23 : decode jdk_52_method_21_code 23 = .ok (.iload 5, 2) := by decide +kernel
theorem d_CM5_25 : decode jdk_52_method_21_code 25 = .ok (.ireturn, 1) := by decide +kernel
theorem d_CM5_26 : decode jdk_52_method_21_code 26 = .ok (.aload_n 2, 1) := by decide +kernel
theorem d_CM5_27 : decode jdk_52_method_21_code 27 = .ok (.iload_n 3, 1) := by decide +kernel
theorem d_CM5_28 : decode jdk_52_method_21_code 28 = .ok (.iload 6, 2) := by decide +kernel
theorem d_CM5_30 : decode jdk_52_method_21_code 30 = .ok (.i2b, 1) := by decide +kernel
theorem d_CM5_31 : decode jdk_52_method_21_code 31 = .ok (.bastore, 1) := by decide +kernel
theorem d_CM5_32 : decode jdk_52_method_21_code 32 = .ok (.iinc 1 1, 3) := by decide +kernel
theorem d_CM5_35 : decode jdk_52_method_21_code 35 = .ok (.iinc 3 1, 3) := by decide +kernel
theorem d_CM5_38 : decode jdk_52_method_21_code 38 = .ok (.iinc 5 1, 3) := by decide +kernel
theorem d_CM5_41 : decode jdk_52_method_21_code 41 = .ok (.goto (-38), 3) := by decide +kernel
theorem d_CM5_44 : decode jdk_52_method_21_code 44 = .ok (.iload 4, 2) := by decide +kernel
theorem d_CM5_46 : decode jdk_52_method_21_code 46 = .ok (.ireturn, 1) := by decide +kernel
theorem pn_CM5 : plainFor (⟨"java/lang/StringUTF16", "compress", "([CI[BII)I"⟩ : MethodName) = true := by first | exact plainFor_of_name (by first | (simp [plainName, overriddenIn]; done) | decide +kernel) | decide +kernel
theorem d_CFL_0 : decode jdk_52_method_15_code 0 = .ok (.iload_n 1, 1) := by decide +kernel
theorem d_CFL_1 : decode jdk_52_method_15_code 1 = .ok (.aload_n 0, 1) := by decide +kernel
theorem d_CFL_2 : decode jdk_52_method_15_code 2 = .ok (.arraylength, 1) := by decide +kernel
theorem d_CFL_3 : decode jdk_52_method_15_code 3 = .ok (.isub, 1) := by decide +kernel
theorem d_CFL_4 : decode jdk_52_method_15_code 4 = .ok (.bipush 31, 2) := by decide +kernel
theorem d_CFL_6 : decode jdk_52_method_15_code 6 = .ok (.iushr, 1) := by decide +kernel
theorem d_CFL_7 : decode jdk_52_method_15_code 7 = .ok (.i2b, 1) := by decide +kernel
theorem d_CFL_8 : decode jdk_52_method_15_code 8 = .ok (.ireturn, 1) := by decide +kernel
theorem pn_CFL : plainFor (⟨"java/lang/StringUTF16", "coderFromArrayLen", "([BI)B"⟩ : MethodName) = true := by first | exact plainFor_of_name (by first | (simp [plainName, overriddenIn]; done) | decide +kernel) | decide +kernel
section StrCM5
variable {l : Launch} {Z : State} {a0 : Array Value} {EL : List (String × Nat)} {b d : Addr} {cb cd : Cell} {cs : List Int32} {n : Nat}
theorem c_CM5 (hw : ∀ d ∈ tables_1, d.before a0 Z = true) (hEL : EW Z a0 EL) (hA : AC Z cb .char (tab n fun j => .int (cs.getD j 0))) (hn : cs.length = n) (hcs : Chars cs) (hD : AC Z cd .byte (tab n fun _ => .int 0)) :
    OCon l Z EL (⟨"java/lang/StringUTF16", "compress", "([CI[BII)I"⟩ : MethodName) jdk_52_method_21_code 7 (some .int) [] ({ frames := 0, cells := 0, slots := 0, locals := 0 } : Room) #[.ref b, .int 0, .ref d, .int 0, .int (Int32.ofNat n)] [(d, cd)] [(b, cb)]
      (fun v M N => N = [] ∧ ∃ k cd', k ≤ n ∧ v = some (.int (Int32.ofNat k)) ∧ M = [(d, cd')] ∧ (k = n → lat cs = true ∧ AC Z cd' .byte (tab n fun j => .int (lo8 (cs.getD j 0)))) ∧ (k < n → (255 : Int32) < cs.getD k 0)) := by
  refine OCon.of_wp (L0 := [.val (.ref b), .val (.int 0), .val (.ref d), .val (.int 0), .val (.int (Int32.ofNat n)), .unset, .unset]) pn_CM5 hEL (fun m => by first | (simp [entryFrame, mkF, argsToLocals, Value.category]; done) | rfl) ?_
  intro p e s m below meth c hk
  have hn4 := hcs.2
  have loop : ∀ (k i : Nat) (cd' : Cell) (o6 : Slot), i + k = n → (∀ j, j < i → ¬ (255 : Int32) < cs.getD j 0) → AC Z cd' .byte (tab n fun j => if j < i then .int (lo8 (cs.getD j 0)) else .int 0) → o1 o6 = true →
      OWp p l e ({ frames := 0, cells := 0, slots := 0, locals := 0 } : Room) s m #[.ref b, .int 0, .ref d, .int 0, .int (Int32.ofNat n)] below meth c "java/lang/StringUTF16" Z EL (dom [(d, cd)]) [(b, cb)]
        (fun v M N => N = [] ∧ ∃ k cd', k ≤ n ∧ v = some (.int (Int32.ofNat k)) ∧ M = [(d, cd')] ∧ (k = n → lat cs = true ∧ AC Z cd' .byte (tab n fun j => .int (lo8 (cs.getD j 0)))) ∧ (k < n → (255 : Int32) < cs.getD k 0))
        [(d, cd')] [] 0 0 3 [.val (.ref b), .val (.int (Int32.ofNat i)), .val (.ref d), .val (.int (Int32.ofNat i)), .val (.int (Int32.ofNat n)), .val (.int (Int32.ofNat i)), o6] [] := by
    intro k
    induction k with
    | zero =>
      intro i cd' o6 hik hlo hD' ho6
      refine OWp.iload hk d_CM5_3 (pc' := 5) rfl rfl ?_
      refine OWp.iload hk d_CM5_5 (pc' := 7) rfl rfl ?_
      refine OWp.icmpYes hk d_CM5_7 (XT.ii_ge_t (by rw [n_lt (by omega) (by omega)]; omega)) (by decide) (pc' := 44) rfl ?_
      refine OWp.iload hk d_CM5_44 (pc' := 46) rfl rfl ?_
      have hlat : lat cs = true := lat_iff.mpr fun c hc => by
        obtain ⟨j, hj, rfl⟩ := List.getElem_of_mem hc
        have := hlo j (by omega)
        rwa [List.getD_eq_getElem?_getD, List.getElem?_eq_getElem hj] at this
      have hfin : AC Z cd' .byte (tab n fun j => .int (lo8 (cs.getD j 0))) := hD'.congr fun j hj => by rw [if_pos (by omega)]
      exact OWp.retI hk d_CM5_46 ⟨rfl, n, cd', Nat.le_refl _, rfl, rfl, fun _ => ⟨hlat, hfin⟩, fun q => absurd q (Nat.lt_irrefl _)⟩ (List.Sublist.refl _) (fun _ h => h) (by decide) (by decide)
    | succ k ih =>
      intro i cd' o6 hik hlo hD' ho6
      have hi : i < n := by omega
      have hc := hcs.1 _ (getD_mem (i := i) (by omega))
      refine OWp.iload hk d_CM5_3 (pc' := 5) rfl rfl ?_
      refine OWp.iload hk d_CM5_5 (pc' := 7) rfl rfl ?_
      refine OWp.icmpNo hk d_CM5_7 (XT.ii_ge_f (by rw [n_lt (by omega) (by omega)]; omega)) (pc' := 10) rfl ?_
      refine OWp.aload_n hk d_CM5_10 (pc' := 11) rfl rfl rfl ?_
      refine OWp.iload_n hk d_CM5_11 (pc' := 12) rfl rfl ?_
      refine OWp.caload hk d_CM5_12 (pc' := 13) rfl (by simp) hA (n_nn (by omega)) (by rw [n_nat (by omega)]; exact tab_get hi) ?_
      refine OWp.istore hk d_CM5_13 (pc' := 15) rfl ho6 (by simp only [List.set_cons_zero, List.set_cons_succ]; rfl) ?_
      refine OWp.iload hk d_CM5_15 (pc' := 17) rfl rfl ?_
      refine OWp.sipush hk d_CM5_17 (pc' := 20) rfl (z := 255) rfl ?_
      by_cases h255 : (255 : Int32) < cs.getD i 0
      · refine OWp.icmpNo hk d_CM5_20 (XT.ii_le_f h255) (pc' := 23) rfl ?_
        refine OWp.iload hk d_CM5_23 (pc' := 25) rfl rfl ?_
        exact OWp.retI hk d_CM5_25 ⟨rfl, i, cd', Nat.le_of_lt hi, rfl, rfl, fun q => absurd q (Nat.ne_of_lt hi), fun _ => h255⟩ (List.Sublist.refl _) (fun _ h => h) (by decide) (by decide)
      · refine OWp.icmpYes hk d_CM5_20 (XT.ii_le_t h255) (by decide) (pc' := 26) rfl ?_
        refine OWp.aload_n hk d_CM5_26 (pc' := 27) rfl rfl rfl ?_
        refine OWp.iload_n hk d_CM5_27 (pc' := 28) rfl rfl ?_
        refine OWp.iload hk d_CM5_28 (pc' := 30) rfl rfl ?_
        refine OWp.i2b hk d_CM5_30 (pc' := 31) rfl ?_
        refine OWp.bastore hk d_CM5_31 (pc' := 32) rfl (i := 0) rfl hD' (n_nn (by omega)) (n_nat (by omega)) (by rw [tab_len]; exact hi) ?_
        intro cd2 hD2
        simp only [List.nil_append, List.cons_append, List.set_cons_zero]
        refine OWp.iinc hk d_CM5_32 (pc' := 35) rfl rfl (z := 1) rfl (by simp only [List.set_cons_zero, List.set_cons_succ]; rfl) ?_
        refine OWp.iinc hk d_CM5_35 (pc' := 38) rfl rfl (z := 1) rfl (by simp only [List.set_cons_zero, List.set_cons_succ]; rfl) ?_
        refine OWp.iinc hk d_CM5_38 (pc' := 41) rfl rfl (z := 1) rfl (by simp only [List.set_cons_zero, List.set_cons_succ]; rfl) ?_
        refine OWp.goto hk d_CM5_41 (by decide) (pc' := 3) rfl ?_
        rw [n_succ]
        refine ih (i + 1) cd2 (.val (.int (cs.getD i 0))) (by omega) (fun j hj => ?_) ?_ rfl
        · by_cases e : j = i
          · subst e; exact h255
          · exact hlo j (by omega)
        · rw [tab_set] at hD2
          refine hD2.congr fun j hj => ?_
          by_cases e : j = i
          · subst e; simp [lo8]
          · simp only [e, if_false]
            by_cases q : j < i
            · rw [if_pos q, if_pos (by omega)]
            · rw [if_neg q, if_neg (by omega)]
  refine OWp.iconst hk d_CM5_0 (pc' := 1) rfl (z := 0) rfl ?_
  refine OWp.istore hk d_CM5_1 (pc' := 3) rfl rfl (by simp only [List.set_cons_zero, List.set_cons_succ]; rfl) ?_
  exact loop n 0 cd .unset (by omega) (fun j hj => absurd hj (Nat.not_lt_zero _)) (hD.congr fun j hj => by rw [if_neg (Nat.not_lt_zero _)]) rfl
theorem c_CFL (hw : ∀ d ∈ tables_1, d.before a0 Z = true) (hEL : EW Z a0 EL) {vs : List Value} {z : Int32} (hD : AC Z cd .byte vs) (hz : (XT.ushr (Int32.ofNat n - Int32.ofNat vs.length) 31).toInt8.toInt32 = z) (hz2 : nar .byte z = z) :
    OCon l Z EL (⟨"java/lang/StringUTF16", "coderFromArrayLen", "([BI)B"⟩ : MethodName) jdk_52_method_15_code 2 (some .byte) [] ({ frames := 0, cells := 0, slots := 0, locals := 0 } : Room) #[.ref d, .int (Int32.ofNat n)] [] [(d, cd)] (fun v M N => v = some (.int z) ∧ M = [] ∧ N = []) := by
  refine OCon.of_wp (L0 := [.val (.ref d), .val (.int (Int32.ofNat n))]) pn_CFL hEL (fun m => by first | (simp [entryFrame, mkF, argsToLocals, Value.category]; done) | rfl) ?_
  intro p e s m below meth c hk
  refine OWp.iload_n hk d_CFL_0 (pc' := 1) rfl rfl ?_
  refine OWp.aload_n hk d_CFL_1 (pc' := 2) rfl rfl rfl ?_
  refine OWp.arraylength hk d_CFL_2 (pc' := 3) rfl (by simp) hD rfl ?_
  refine OWp.isub hk d_CFL_3 (pc' := 4) rfl ?_
  refine OWp.bipush hk d_CFL_4 (pc' := 6) rfl (z := 31) rfl ?_
  refine OWp.iushr hk d_CFL_6 (pc' := 7) rfl ?_
  refine OWp.i2b hk d_CFL_7 (pc' := 8) rfl ?_
  exact OWp.retN hk (Or.inr (Or.inl rfl)) d_CFL_8 ⟨by rw [hz, hz2], rfl, rfl⟩ (List.Sublist.refl _) (fun _ h => h) (by decide) (by decide)
end StrCM5
theorem d_CM3_0 : decode jdk_52_method_16_code 0 = .ok (.iload_n 2, 1) := by decide +kernel
theorem d_CM3_1 : decode jdk_52_method_16_code 1 = .ok (.newarray .byte, 2) := by decide +kernel
theorem d_CM3_3 : decode jdk_52_method_16_code 3 = .ok (.astore_n 3, 1) := by decide +kernel
theorem d_CM3_4 : decode jdk_52_method_16_code 4 = .ok (.aload_n 0, 1) := by decide +kernel
theorem d_CM3_5 : decode jdk_52_method_16_code 5 = .ok (.iload_n 1, 1) := by decide +kernel
theorem d_CM3_6 : decode jdk_52_method_16_code 6 = .ok (.aload_n 3, 1) := by decide +kernel
theorem d_CM3_7 : decode jdk_52_method_16_code 7 = .ok (.iconst 0, 1) := by decide +kernel
theorem d_CM3_8 : decode jdk_52_method_16_code 8 = .ok (.iload_n 2, 1) := by decide +kernel
theorem d_CM3_9 : decode jdk_52_method_16_code 9 = .ok (.invokestatic 115, 3) := by decide +kernel
theorem d_CM3_12 : decode jdk_52_method_16_code 12 = .ok (.istore 4, 2) := by decide +kernel
theorem d_CM3_14 : decode jdk_52_method_16_code 14 = .ok (.iload 4, 2) := by decide +kernel
theorem d_CM3_16 : decode jdk_52_method_16_code 16 = .ok (.iload_n 2, 1) := by decide +kernel
theorem d_CM3_17 : decode jdk_52_method_16_code 17 = .ok (.if_icmp .eq 40, 3) := by decide +kernel
theorem d_CM3_20 : decode jdk_52_method_16_code 20 = .ok (.aload_n 0, 1) := by decide +kernel
theorem d_CM3_21 : decode jdk_52_method_16_code 21 = .ok (.iload_n 1, 1) := by decide +kernel
theorem d_CM3_22 : decode jdk_52_method_16_code 22 = .ok (.iload_n 2, 1) := by decide +kernel
theorem d_CM3_23 : decode jdk_52_method_16_code 23 = .ok (.invokestatic 119, 3) := by decide +kernel
theorem d_CM3_26 : decode jdk_52_method_16_code 26 = .ok (.astore 5, 2) := by decide +kernel
theorem d_CM3_28 : decode jdk_52_method_16_code 28 = .ok (.aload 5, 2) := by decide +kernel
theorem d_CM3_30 : decode jdk_52_method_16_code 30 = .ok (.iload 4, 2) := by decide +kernel
theorem d_CM3_32 : decode jdk_52_method_16_code 32 = .ok (.invokestatic 71, 3) := by decide +kernel
theorem d_CM3_35 : decode jdk_52_method_16_code 35 = .ok (.sipush 255, 3) := by decide +kernel
theorem d_CM3_38 : decode jdk_52_method_16_code 38 = .ok (.if_icmp .gt 16, 3) := by decide +kernel
theorem d_CM3_41 : decode jdk_52_method_16_code 41 = .ok (.aload 5, 2) := by decide +kernel
theorem d_CM3_43 : decode jdk_52_method_16_code 43 = .ok (.iconst 0, 1) := by decide +kernel
theorem d_CM3_44 : decode jdk_52_method_16_code 44 = .ok (.aload_n 3, 1) := by decide +kernel
theorem d_CM3_45 : decode jdk_52_method_16_code 45 = .ok (.iconst 0, 1) := by decide +kernel
theorem d_CM3_46 : decode jdk_52_method_16_code 46 = .ok (.iload_n 2, 1) := by decide +kernel
theorem d_CM3_47 : decode jdk_52_method_16_code 47 = .ok (.invokestatic 123, 3) := by decide +kernel
theorem d_CM3_50 : decode jdk_52_method_16_code 50 = .ok (.iload_n 2, 1) := by decide +kernel
theorem d_CM3_51 : decode jdk_52_method_16_code 51 = .ok (.if_icmp .eq 6, 3) := by decide +kernel
theorem d_CM3_54 : decode jdk_52_method_16_code 54 = .ok (.aload 5, 2) := by decide +kernel
theorem d_CM3_56 : decode jdk_52_method_16_code 56 = .ok (.areturn, 1) := by decide +kernel
theorem d_CM3_57 : decode jdk_52_method_16_code 57 = .ok (.aload_n 3, 1) := by decide +kernel
theorem d_CM3_58 : decode jdk_52_method_16_code 58 = .ok (.areturn, 1) := by decide +kernel
theorem pn_CM3 : plainFor (⟨"java/lang/StringUTF16", "compress", "([CII)[B"⟩ : MethodName) = true := by first | exact plainFor_of_name (by first | (simp [plainName, overriddenIn]; done) | decide +kernel) | decide +kernel
section StrCM3L
variable {l : Launch} {Z : State} {a0 : Array Value} {EL : List (String × Nat)} {zc : Int32} {b x : Addr} {cb cx : Cell} {cs : List Int32} {n : Nat}
theorem c_CM3L (hw : ∀ d ∈ tables_1, d.before a0 Z = true) (hEL : EW Z a0 EL) (hA : AC Z cb .char (tab n fun j => .int (cs.getD j 0))) (hn : cs.length = n) (hcs : Chars cs) (hl : lat cs = true) (hcap : n ≤ kCap) :
    OCon l Z EL (⟨"java/lang/StringUTF16", "compress", "([CII)[B"⟩ : MethodName) jdk_52_method_16_code 6 (some (.array .byte)) [] ({ frames := 1, cells := 1, slots := kCap, locals := 18 } : Room) #[.ref b, .int 0, .int (Int32.ofNat n)] [] [(b, cb)]
      (fun v M N => M = [] ∧ ∃ t ct, v = some (.ref t) ∧ N = [(t, ct)] ∧ AC Z ct .byte (oBytes cs)) := by
  refine OCon.of_wp (L0 := [.val (.ref b), .val (.int 0), .val (.int (Int32.ofNat n)), .unset, .unset, .unset]) pn_CM3 hEL (fun m => by first | (simp [entryFrame, mkF, argsToLocals, Value.category]; done) | rfl) ?_
  intro p e s m below meth c hk
  have hn4 := hcs.2
  refine OWp.iload_n hk d_CM3_0 (pc' := 1) rfl rfl ?_
  refine OWp.newarray hk d_CM3_1 (pc' := 3) rfl (hw _ (List.mem_of_getElem? (i := 19) rfl)) (n_nn (by omega)) (cap := kCap) (by rw [n_nat (by omega)]; exact hcap) (by decide) (by decide) (by decide) (vs := tab n fun _ => .int 0) (by rw [n_nat (by omega)]; exact tab_rep _ _) ?_
  intro d cd hD
  refine OWp.astore_n hk d_CM3_3 (pc' := 4) rfl (kn := 3) rfl rfl rfl (by simp only [List.set_cons_zero, List.set_cons_succ]; rfl) ?_
  refine OWp.aload_n hk d_CM3_4 (pc' := 5) rfl rfl rfl ?_
  refine OWp.iload_n hk d_CM3_5 (pc' := 6) rfl rfl ?_
  refine OWp.aload_n hk d_CM3_6 (pc' := 7) rfl rfl rfl ?_
  refine OWp.iconst hk d_CM3_7 (pc' := 8) rfl (z := 0) rfl ?_
  refine OWp.iload_n hk d_CM3_8 (pc' := 9) rfl rfl ?_
  refine OWp.callS hk d_CM3_9 (pc' := 12) rfl (hw _ (List.mem_of_getElem? (i := 31) rfl)) (hw _ (List.mem_of_getElem? (i := 32) rfl)) (hw _ (List.mem_of_getElem? (i := 29) rfl)) (hw _ (List.mem_of_getElem? (i := 33) rfl)) (by decide) (c_CM5 (cs := cs) hw hEL hA hn hcs hD) rfl (by simp) rfl (lenOf pd_0 rfl) rfl (W := 0) rfl (by first | decide | (dsimp only; omega)) (by first | decide | (dsimp only; omega)) (by first | decide | (dsimp only; omega)) (by first | decide | (dsimp only; omega)) ?_
  rintro _ _ _ ⟨rfl, k, cd2, hk1, rfl, rfl, hfull, hpart⟩
  have hkn : k = n := by
    rcases Nat.lt_or_eq_of_le hk1 with q | q
    · exact absurd (hpart q) (lat_iff.mp hl _ (getD_mem (by omega)))
    · exact q
  subst hkn
  refine OWp.istore hk d_CM3_12 (pc' := 14) rfl rfl (by simp only [List.set_cons_zero, List.set_cons_succ]; rfl) ?_
  refine OWp.iload hk d_CM3_14 (pc' := 16) rfl rfl ?_
  refine OWp.iload_n hk d_CM3_16 (pc' := 17) rfl rfl ?_
  refine OWp.icmpYes hk d_CM3_17 (XT.ii_eq_t rfl) (by decide) (pc' := 57) rfl ?_
  refine OWp.aload_n hk d_CM3_57 (pc' := 58) rfl rfl rfl ?_
  refine OWp.freeze ?_
  exact OWp.retA hk rfl rfl rfl d_CM3_58 ⟨rfl, d, cd2, rfl, rfl, by rw [bytes_lat hl, hn]; exact (hfull rfl).2⟩ (List.Sublist.refl _) (fun _ h => h) (by decide) (by decide)
end StrCM3L
theorem d_S4_0 : decode jdk_42_method_149_code 0 = .ok (.aload_n 0, 1) := by decide +kernel
theorem d_S4_1 : decode jdk_42_method_149_code 1 = .ok (.invokespecial 1, 3) := by decide +kernel
theorem d_S4_4 : decode jdk_42_method_149_code 4 = .ok (.iload_n 3, 1) := by decide +kernel
theorem d_S4_5 : decode jdk_42_method_149_code 5 = .ok (.ifCond .ne 22, 3) := by decide +kernel
theorem d_S4_8 : decode jdk_42_method_149_code 8 = .ok (.aload_n 0, 1) := by decide +kernel
theorem d_S4_9 : decode jdk_42_method_149_code 9 = .ok (.ldc 7, 2) := by decide +kernel
theorem d_S4_11 : decode jdk_42_method_149_code 11 = .ok (.getfield 9, 3) := by decide +kernel
theorem d_S4_14 : decode jdk_42_method_149_code 14 = .ok (.putfield 9, 3) := by decide +kernel
theorem d_S4_17 : decode jdk_42_method_149_code 17 = .ok (.aload_n 0, 1) := by decide +kernel
theorem d_S4_18 : decode jdk_42_method_149_code 18 = .ok (.ldc 7, 2) := by decide +kernel
theorem d_S4_20 : decode jdk_42_method_149_code 20 = .ok (.getfield 15, 3) := by decide +kernel
theorem d_S4_23 : decode jdk_42_method_149_code 23 = .ok (.putfield 15, 3) := by decide +kernel
theorem d_S4_26 : decode jdk_42_method_149_code 26 = .ok (.return_, 1) := by decide +kernel
theorem d_S4_27 : decode jdk_42_method_149_code 27 = .ok (.getstatic 38, 3) := by decide +kernel
theorem d_S4_30 : decode jdk_42_method_149_code 30 = .ok (.ifCond .eq 28, 3) := by decide +kernel
theorem d_S4_33 : decode jdk_42_method_149_code 33 = .ok (.aload_n 1, 1) := by decide +kernel
theorem d_S4_34 : decode jdk_42_method_149_code 34 = .ok (.iload_n 2, 1) := by decide +kernel
theorem d_S4_35 : decode jdk_42_method_149_code 35 = .ok (.iload_n 3, 1) := by decide +kernel
theorem d_S4_36 : decode jdk_42_method_149_code 36 = .ok (.invokestatic 177, 3) := by decide +kernel
theorem d_S4_39 : decode jdk_42_method_149_code 39 = .ok (.astore 5, 2) := by decide +kernel
theorem d_S4_41 : decode jdk_42_method_149_code 41 = .ok (.aload_n 0, 1) := by decide +kernel
theorem d_S4_42 : decode jdk_42_method_149_code 42 = .ok (.aload 5, 2) := by decide +kernel
theorem d_S4_44 : decode jdk_42_method_149_code 44 = .ok (.iload_n 3, 1) := by decide +kernel
theorem d_S4_45 : decode jdk_42_method_149_code 45 = .ok (.invokestatic 47, 3) := by decide +kernel
theorem d_S4_48 : decode jdk_42_method_149_code 48 = .ok (.putfield 15, 3) := by decide +kernel
theorem d_S4_51 : decode jdk_42_method_149_code 51 = .ok (.aload_n 0, 1) := by decide +kernel
theorem d_S4_52 : decode jdk_42_method_149_code 52 = .ok (.aload 5, 2) := by decide +kernel
theorem d_S4_54 : decode jdk_42_method_149_code 54 = .ok (.putfield 9, 3) := by decide +kernel
theorem d_S4_57 : decode jdk_42_method_149_code 57 = .ok (.return_, 1) := by decide +kernel
theorem d_S4_58 : decode jdk_42_method_149_code 58 = .ok (.aload_n 0, 1) := by decide +kernel
theorem d_S4_59 : decode jdk_42_method_149_code 59 = .ok (.iconst 1, 1) := by decide +kernel
theorem d_S4_60 : decode jdk_42_method_149_code 60 = .ok (.putfield 15, 3) := by decide +kernel
theorem d_S4_63 : decode jdk_42_method_149_code 63 = .ok (.aload_n 0, 1) := by decide +kernel
theorem d_S4_64 : decode jdk_42_method_149_code 64 = .ok (.aload_n 1, 1) := by decide +kernel
theorem d_S4_65 : decode jdk_42_method_149_code 65 = .ok (.iload_n 2, 1) := by decide +kernel
theorem d_S4_66 : decode jdk_42_method_149_code 66 = .ok (.iload_n 3, 1) := by decide +kernel
theorem d_S4_67 : decode jdk_42_method_149_code 67 = .ok (.invokestatic 180, 3) := by decide +kernel
theorem d_S4_70 : decode jdk_42_method_149_code 70 = .ok (.putfield 9, 3) := by decide +kernel
theorem d_S4_73 : decode jdk_42_method_149_code 73 = .ok (.return_, 1) := by decide +kernel
theorem pn_S4 : plainFor (⟨"java/lang/String", "<init>", "([CIILjava/lang/Void;)V"⟩ : MethodName) = true := by first | exact plainFor_of_name (by first | (simp [plainName, overriddenIn]; done) | decide +kernel) | decide +kernel
section StrS4
variable {l : Launch} {Z : State} {a0 : Array Value} {EL : List (String × Nat)} {zc : Int32} {b x : Addr} {cb cx : Cell} {cs : List Int32} {n : Nat} {rm3 : Room}
theorem c_S4 (hw : ∀ d ∈ tables_1, d.before a0 Z = true) (hEL : EW Z a0 EL) (O2 : Sta Z Z.heap "java/lang/String" "COMPACT_STRINGS" "Z" (.int zc)) (hzc : ¬ zc = 0) (hE : EC Z cx "java/lang/String") {v0 v1 : Value} (hV : FC Z cx "java/lang/String" "value" "[B" v0) (hC : FC Z cx "java/lang/String" "coder" "B" v1)
    (hA : AC Z cb .char (tab n fun j => .int (cs.getD j 0))) (hn : cs.length = n) (hcs : Chars cs) (hmem : ("java/lang/String", 7) ∈ EL)
    (h3 : 0 < n → OCon l Z EL (⟨"java/lang/StringUTF16", "compress", "([CII)[B"⟩ : MethodName) jdk_52_method_16_code 6 (some (.array .byte)) [] rm3 #[.ref b, .int 0, .int (Int32.ofNat n)] [] [(b, cb)] (fun v M N => M = [] ∧ ∃ t ct, v = some (.ref t) ∧ N = [(t, ct)] ∧ AC Z ct .byte (oBytes cs))) :
    OCon l Z EL (⟨"java/lang/String", "<init>", "([CIILjava/lang/Void;)V"⟩ : MethodName) jdk_42_method_149_code 6 none [] ({ frames := rm3.frames + 1, cells := rm3.cells + 4, slots := rm3.slots + 8, locals := 17 + rm3.locals } : Room) #[.ref x, .ref b, .int 0, .int (Int32.ofNat n), .null] [(x, cx)] [(b, cb)]
      (fun v M N => v = none ∧ M = [] ∧ ∃ t cx' ct, N = [(x, cx'), (t, ct)] ∧ SC Z t cx' ct cs) := by
  refine OCon.of_wp (L0 := [.val (.ref x), .val (.ref b), .val (.int 0), .val (.int (Int32.ofNat n)), .val .null, .unset]) pn_S4 hEL (fun m => by first | (simp [entryFrame, mkF, argsToLocals, Value.category]; done) | rfl) ?_
  intro p e s m below meth c hk
  have hn4 := hcs.2
  refine OWp.aload_n hk d_S4_0 (pc' := 1) rfl rfl rfl ?_
  refine OWp.initO hk d_S4_1 (pc' := 4) rfl (hw _ (List.mem_of_getElem? (i := 15) rfl)) (hw _ (List.mem_of_getElem? (i := 16) rfl)) (hw _ (List.mem_of_getElem? (i := 17) rfl)) rfl (by first | decide | (dsimp only; omega)) (W := 0) rfl (by first | decide | (dsimp only; omega)) ?_
  refine OWp.iload_n hk d_S4_4 (pc' := 5) rfl rfl ?_
  rcases Nat.eq_zero_or_pos n with h0 | h0
  · refine OWp.ifNo hk d_S4_5 (XT.i0_ne_f (by rw [h0]; rfl)) (pc' := 8) rfl ?_
    refine OWp.aload_n hk d_S4_8 (pc' := 9) rfl rfl rfl ?_
    refine OWp.ldcS hk d_S4_9 (pc' := 11) rfl (hw _ (List.mem_of_getElem? (i := 18) rfl)) (str_atoms hw) hmem (vs := []) ⟨by decide, by decide⟩ (by decide) (n := 0) (by decide) (by decide) (by dsimp only; omega) (by dsimp only; omega) ?_
    intro a1 t1 ca1 ct1 hE1 hC1 hV1 hA1
    refine OWp.getfield hk d_S4_11 (pc' := 14) rfl (hw _ (List.mem_of_getElem? (i := 24) rfl)) (by simp) hV1 ?_
    refine OWp.putfield hk d_S4_14 (pc' := 17) rfl (hw _ (List.mem_of_getElem? (i := 24) rfl)) (i := 0) rfl hV hE (Or.inr ⟨(hw _ (List.mem_of_getElem? (i := 20) rfl)), rfl, rfl⟩) (hw _ (List.mem_of_getElem? (i := 5) rfl)) (ty := .array .byte) (by decide) rfl rfl ?_
    intro cx2 hE2 hV2 hK2
    have hC2 := hK2 hC (slot_ne (Or.inr (hw _ (List.mem_of_getElem? (i := 21) rfl))) (Or.inr (hw _ (List.mem_of_getElem? (i := 20) rfl))) (by decide) (t := .byte) (by decide) (t' := .array .byte) (by decide))
    simp only [List.nil_append, List.cons_append, List.set_cons_zero]
    refine OWp.aload_n hk d_S4_17 (pc' := 18) rfl rfl rfl ?_
    refine OWp.ldcS hk d_S4_18 (pc' := 20) rfl (hw _ (List.mem_of_getElem? (i := 18) rfl)) (str_atoms hw) hmem (vs := []) ⟨by decide, by decide⟩ (by decide) (n := 0) (by decide) (by decide) (by dsimp only; omega) (by dsimp only; omega) ?_
    intro a2 t2 ca2 ct2 hE3 hC3 hV3 hA3
    refine OWp.getfield hk d_S4_20 (pc' := 23) rfl (hw _ (List.mem_of_getElem? (i := 25) rfl)) (by simp) hC3 ?_
    refine OWp.putfield hk d_S4_23 (pc' := 26) rfl (hw _ (List.mem_of_getElem? (i := 25) rfl)) (i := 0) rfl hC2 hE2 (Or.inr ⟨(hw _ (List.mem_of_getElem? (i := 21) rfl)), rfl, rfl⟩) (hw _ (List.mem_of_getElem? (i := 5) rfl)) (ty := .byte) (by decide) rfl rfl ?_
    intro cx4 hE4 hC4 hK4
    have hV4 := hK4 hV2 (slot_ne (Or.inr (hw _ (List.mem_of_getElem? (i := 20) rfl))) (Or.inr (hw _ (List.mem_of_getElem? (i := 21) rfl))) (by decide) (t := .array .byte) (by decide) (t' := .byte) (by decide))
    simp only [List.nil_append, List.cons_append, List.set_cons_zero]
    refine OWp.freeze ?_
    have hcs0 : cs = [] := List.eq_nil_of_length_eq_zero (by omega)
    subst hcs0
    exact OWp.ret0 hk d_S4_26 (N' := [(x, cx4), (t1, ct1)]) ⟨rfl, rfl, t1, cx4, ct1, rfl, hE4, hV4, hC4, hA1, hcs⟩ (List.Sublist.refl _) (by simp) (by dsimp only; omega) (by dsimp only; omega)
  · refine OWp.ifYes hk d_S4_5 (XT.i0_ne_t (by rw [show (0 : Int32) = Int32.ofNat 0 from rfl, n_inj (by omega) (by omega)]; omega)) (by decide) (pc' := 27) rfl ?_
    refine OWp.getstatic hk d_S4_27 (pc' := 30) rfl (hw _ (List.mem_of_getElem? (i := 26) rfl)) O2 ?_
    refine OWp.ifNo hk d_S4_30 (XT.i0_eq_f hzc) (pc' := 33) rfl ?_
    refine OWp.aload_n hk d_S4_33 (pc' := 34) rfl rfl rfl ?_
    refine OWp.iload_n hk d_S4_34 (pc' := 35) rfl rfl ?_
    refine OWp.iload_n hk d_S4_35 (pc' := 36) rfl rfl ?_
    refine OWp.callS hk d_S4_36 (pc' := 39) rfl (hw _ (List.mem_of_getElem? (i := 27) rfl)) (hw _ (List.mem_of_getElem? (i := 28) rfl)) (hw _ (List.mem_of_getElem? (i := 29) rfl)) (hw _ (List.mem_of_getElem? (i := 30) rfl)) (by decide) (h3 h0) rfl (by simp) rfl (lenOf pd_1 rfl) rfl (W := 0) rfl (by first | decide | (dsimp only; omega)) (by first | decide | (dsimp only; omega)) (by first | decide | (dsimp only; omega)) (by first | decide | (dsimp only; omega)) ?_
    rintro _ _ _ ⟨rfl, t, ct, rfl, rfl, hT⟩
    refine OWp.astore hk d_S4_39 (pc' := 41) rfl rfl rfl (by simp only [List.set_cons_zero, List.set_cons_succ]; rfl) ?_
    refine OWp.aload_n hk d_S4_41 (pc' := 42) rfl rfl rfl ?_
    refine OWp.aload hk d_S4_42 (pc' := 44) rfl rfl rfl ?_
    refine OWp.iload_n hk d_S4_44 (pc' := 45) rfl rfl ?_
    refine OWp.callS hk d_S4_45 (pc' := 48) rfl (hw _ (List.mem_of_getElem? (i := 34) rfl)) (hw _ (List.mem_of_getElem? (i := 35) rfl)) (hw _ (List.mem_of_getElem? (i := 29) rfl)) (hw _ (List.mem_of_getElem? (i := 36) rfl)) (by decide) (c_CFL (n := n) hw hEL hT (z := cdOf cs) (cfl_val hn hcs.2 h0) (nar_cd cs)) rfl (by simp) rfl (lenOf pd_2 rfl) rfl (W := 1) rfl (by first | decide | (dsimp only; omega)) (by first | decide | (dsimp only; omega)) (by first | decide | (dsimp only; omega)) (by first | decide | (dsimp only; omega)) ?_
    rintro _ _ _ ⟨rfl, rfl, rfl⟩
    refine OWp.putfield hk d_S4_48 (pc' := 51) rfl (hw _ (List.mem_of_getElem? (i := 25) rfl)) (i := 0) rfl hC hE (Or.inr ⟨(hw _ (List.mem_of_getElem? (i := 21) rfl)), rfl, rfl⟩) (hw _ (List.mem_of_getElem? (i := 5) rfl)) (ty := .byte) (by decide) (congrArg Value.int (nar_cd cs)) (fits_cd cs) ?_
    intro cx2 hE2 hC2 hK2
    have hV2 := hK2 hV (slot_ne (Or.inr (hw _ (List.mem_of_getElem? (i := 20) rfl))) (Or.inr (hw _ (List.mem_of_getElem? (i := 21) rfl))) (by decide) (t := .array .byte) (by decide) (t' := .byte) (by decide))
    simp only [List.nil_append, List.cons_append, List.set_cons_zero]
    refine OWp.aload_n hk d_S4_51 (pc' := 52) rfl rfl rfl ?_
    refine OWp.aload hk d_S4_52 (pc' := 54) rfl rfl rfl ?_
    refine OWp.putfield hk d_S4_54 (pc' := 57) rfl (hw _ (List.mem_of_getElem? (i := 24) rfl)) (i := 0) rfl hV2 hE2 (Or.inr ⟨(hw _ (List.mem_of_getElem? (i := 20) rfl)), rfl, rfl⟩) (hw _ (List.mem_of_getElem? (i := 5) rfl)) (ty := .array .byte) (by decide) rfl rfl ?_
    intro cx3 hE3 hV3 hK3
    have hC3 := hK3 hC2 (slot_ne (Or.inr (hw _ (List.mem_of_getElem? (i := 21) rfl))) (Or.inr (hw _ (List.mem_of_getElem? (i := 20) rfl))) (by decide) (t := .byte) (by decide) (t' := .array .byte) (by decide))
    simp only [List.nil_append, List.cons_append, List.set_cons_zero]
    refine OWp.freeze ?_
    exact OWp.ret0 hk d_S4_57 ⟨rfl, rfl, t, cx3, ct, rfl, hE3, hV3, hC3, hT, hcs⟩ (List.Sublist.refl _) (fun _ h => h) (by dsimp only; omega) (by dsimp only; omega)
end StrS4
theorem d_S1_0 : decode jdk_42_method_3_code 0 = .ok (.aload_n 0, 1) := by decide +kernel
theorem d_S1_1 : decode jdk_42_method_3_code 1 = .ok (.aload_n 1, 1) := by decide +kernel
theorem d_S1_2 : decode jdk_42_method_3_code 2 = .ok (.iconst 0, 1) := by decide +kernel
theorem d_S1_3 : decode jdk_42_method_3_code 3 = .ok (.aload_n 1, 1) := by decide +kernel
theorem d_S1_4 : decode jdk_42_method_3_code 4 = .ok (.arraylength, 1) := by decide +kernel
theorem d_S1_5 : decode jdk_42_method_3_code 5 = .ok (.aconst_null, 1) := by decide +kernel
theorem d_S1_6 : decode jdk_42_method_3_code 6 = .ok (.invokespecial 27, 3) := by decide +kernel
theorem d_S1_9 : decode jdk_42_method_3_code 9 = .ok (.return_, 1) := by decide +kernel
theorem pn_S1 : plainFor (⟨"java/lang/String", "<init>", "([C)V"⟩ : MethodName) = true := by first | exact plainFor_of_name (by first | (simp [plainName, overriddenIn]; done) | decide +kernel) | decide +kernel
section StrS1
variable {l : Launch} {Z : State} {a0 : Array Value} {EL : List (String × Nat)} {b x : Addr} {cb cx : Cell} {n : Nat}
/-- the constructor of one argument hands on -/
theorem c_S1 (hw : ∀ d ∈ tables_1, d.before a0 Z = true) (hEL : EW Z a0 EL) {rm : Room} {vs : List Value} {Q : Option Value → Mem → Mem → Prop} (hA : AC Z cb .char vs) (hn : vs.length = n) (hQ : ∀ v M N, Q v M N → v = none ∧ M = [])
    (h4 : OCon l Z EL (⟨"java/lang/String", "<init>", "([CIILjava/lang/Void;)V"⟩ : MethodName) jdk_42_method_149_code 6 none [] rm #[.ref x, .ref b, .int 0, .int (Int32.ofNat n), .null] [(x, cx)] [(b, cb)] Q) :
    OCon l Z EL (⟨"java/lang/String", "<init>", "([C)V"⟩ : MethodName) jdk_42_method_3_code 2 none [] ({ frames := rm.frames + 1, cells := rm.cells, slots := rm.slots, locals := 17 + rm.locals } : Room) #[.ref x, .ref b] [(x, cx)] [(b, cb)] Q := by
  refine OCon.of_wp (L0 := [.val (.ref x), .val (.ref b)]) pn_S1 hEL (fun m => by first | (simp [entryFrame, mkF, argsToLocals, Value.category]; done) | rfl) ?_
  intro p e s m below meth c hk
  refine OWp.aload_n hk d_S1_0 (pc' := 1) rfl rfl rfl ?_
  refine OWp.aload_n hk d_S1_1 (pc' := 2) rfl rfl rfl ?_
  refine OWp.iconst hk d_S1_2 (pc' := 3) rfl (z := 0) rfl ?_
  refine OWp.aload_n hk d_S1_3 (pc' := 4) rfl rfl rfl ?_
  refine OWp.arraylength hk d_S1_4 (pc' := 5) rfl (by simp) hA (by rw [hn]) ?_
  refine OWp.aconst_null hk d_S1_5 (pc' := 6) rfl ?_
  refine OWp.callI hk d_S1_6 (pc' := 9) rfl rfl (hw _ (List.mem_of_getElem? (i := 11) rfl)) (hw _ (List.mem_of_getElem? (i := 12) rfl)) (hw _ (List.mem_of_getElem? (i := 6) rfl)) (hw _ (List.mem_of_getElem? (i := 14) rfl)) (by decide) h4 rfl (by simp) rfl (lenOf pd_3 rfl) rfl (W := 0) rfl (by first | decide | (dsimp only; omega)) (by first | decide | (dsimp only; omega)) (by first | decide | (dsimp only; omega)) (by first | decide | (dsimp only; omega)) ?_
  intro v M N q
  obtain ⟨rfl, rfl⟩ := hQ v M N q
  exact OWp.ret0 hk d_S1_9 q (List.Sublist.refl _) (fun _ h => by simpa using h) (by dsimp only; omega) (by dsimp only; omega)
end StrS1
section StrNewLE
variable {l : Launch} {Z : State} {a0 : Array Value} {EL : List (String × Nat)} {zc : Int32} {b x : Addr} {cb cx : Cell} {cs : List Int32}
set_option maxRecDepth 65536 in
theorem c_NEW (hw : ∀ d ∈ tables_1, d.before a0 Z = true) (hEL : EW Z a0 EL) (O2 : Sta Z Z.heap "java/lang/String" "COMPACT_STRINGS" "Z" (.int zc)) (hzc : ¬ zc = 0)
    (hmem : ("java/lang/String", 7) ∈ EL) (hE : EC Z cx "java/lang/String") {v0 v1 : Value} (hV : FC Z cx "java/lang/String" "value" "[B" v0) (hC : FC Z cx "java/lang/String" "coder" "B" v1) (hA : AC Z cb .char (cs.map Value.int)) (hcs : Chars cs) (hl : lat cs = true) (hcap : cs.length ≤ kCap) :
    OCon l Z EL (⟨"java/lang/String", "<init>", "([C)V"⟩ : MethodName) jdk_42_method_3_code 2 none [] ({ frames := 3, cells := 5, slots := kCap + 8, locals := 52 } : Room) #[.ref x, .ref b] [(x, cx)] [(b, cb)]
      (fun v M N => v = none ∧ M = [] ∧ ∃ t cx' ct, N = [(x, cx'), (t, ct)] ∧ SC Z t cx' ct cs) := by
  have hA2 : AC Z cb .char (tab cs.length fun j => .int (cs.getD j 0)) := by rw [← map_tab]; exact hA
  exact c_S1 (rm := ({ frames := 2, cells := 5, slots := kCap + 8, locals := 35 } : Room)) hw hEL hA2 (tab_len _ _) (fun _ _ _ q => ⟨q.1, q.2.1⟩) (c_S4 (rm3 := ({ frames := 1, cells := 1, slots := kCap, locals := 18 } : Room)) (cs := cs) hw hEL O2 hzc hE hV hC hA2 rfl hcs hmem (fun _ => c_CM3L (cs := cs) hw hEL hA2 rfl hcs hl hcap))
end StrNewLE
theorem d_VALC_0 : decode jdk_42_method_139_code 0 = .ok (.getstatic 38, 3) := by decide +kernel
theorem d_VALC_3 : decode jdk_42_method_139_code 3 = .ok (.ifCond .eq 23, 3) := by decide +kernel
theorem d_VALC_6 : decode jdk_42_method_139_code 6 = .ok (.iload_n 0, 1) := by decide +kernel
theorem d_VALC_7 : decode jdk_42_method_139_code 7 = .ok (.invokestatic 1015, 3) := by decide +kernel
theorem d_VALC_10 : decode jdk_42_method_139_code 10 = .ok (.ifCond .eq 16, 3) := by decide +kernel
theorem d_VALC_13 : decode jdk_42_method_139_code 13 = .ok (.new 10, 3) := by decide +kernel
theorem d_VALC_16 : decode jdk_42_method_139_code 16 = .ok (.dup, 1) := by decide +kernel
theorem d_VALC_17 : decode jdk_42_method_139_code 17 = .ok (.iload_n 0, 1) := by decide +kernel
theorem d_VALC_18 : decode jdk_42_method_139_code 18 = .ok (.invokestatic 1018, 3) := by decide +kernel
theorem d_VALC_21 : decode jdk_42_method_139_code 21 = .ok (.iconst 0, 1) := by decide +kernel
theorem d_VALC_22 : decode jdk_42_method_139_code 22 = .ok (.invokespecial 209, 3) := by decide +kernel
theorem d_VALC_25 : decode jdk_42_method_139_code 25 = .ok (.areturn, 1) := by decide +kernel
theorem d_VALC_26 : decode jdk_42_method_139_code 26 = .ok (.new 10, 3) := by decide +kernel
theorem d_VALC_29 : decode jdk_42_method_139_code 29 = .ok (.dup, 1) := by decide +kernel
theorem d_VALC_30 : decode jdk_42_method_139_code 30 = .ok (.iload_n 0, 1) := by decide +kernel
theorem d_VALC_31 : decode jdk_42_method_139_code 31 = .ok (.invokestatic 1021, 3) := by decide +kernel
theorem d_VALC_34 : decode jdk_42_method_139_code 34 = .ok (.iconst 1, 1) := by decide +kernel
theorem d_VALC_35 : decode jdk_42_method_139_code 35 = .ok (.invokespecial 209, 3) := by decide +kernel
theorem d_VALC_38 : decode jdk_42_method_139_code 38 = .ok (.areturn, 1) := by decide +kernel
theorem pn_VALC : plainFor (⟨"java/lang/String", "valueOf", "(C)Ljava/lang/String;"⟩ : MethodName) = true := by first | exact plainFor_of_name (by first | (simp [plainName, overriddenIn]; done) | decide +kernel) | decide +kernel
theorem d_CEN_0 : decode jdk_43_method_3_code 0 = .ok (.iload_n 0, 1) := by decide +kernel
theorem d_CEN_1 : decode jdk_43_method_3_code 1 = .ok (.sipush 255, 3) := by decide +kernel
theorem d_CEN_4 : decode jdk_43_method_3_code 4 = .ok (.if_icmp .gt 7, 3) := by decide +kernel
theorem d_CEN_7 : decode jdk_43_method_3_code 7 = .ok (.iconst 1, 1) := by decide +kernel
theorem d_CEN_8 : decode jdk_43_method_3_code 8 = .ok (.goto 4, 3) := by decide +kernel
theorem d_CEN_11 : decode jdk_43_method_3_code 11 = .ok (.iconst 0, 1) := by decide +kernel
theorem d_CEN_12 : decode jdk_43_method_3_code 12 = .ok (.ireturn, 1) := by decide +kernel
theorem pn_CEN : plainFor (⟨"java/lang/StringLatin1", "canEncode", "(C)Z"⟩ : MethodName) = true := by first | exact plainFor_of_name (by first | (simp [plainName, overriddenIn]; done) | decide +kernel) | decide +kernel
theorem d_LTB_0 : decode jdk_43_method_46_code 0 = .ok (.iconst 1, 1) := by decide +kernel
theorem d_LTB_1 : decode jdk_43_method_46_code 1 = .ok (.newarray .byte, 2) := by decide +kernel
theorem d_LTB_3 : decode jdk_43_method_46_code 3 = .ok (.dup, 1) := by decide +kernel
theorem d_LTB_4 : decode jdk_43_method_46_code 4 = .ok (.iconst 0, 1) := by decide +kernel
theorem d_LTB_5 : decode jdk_43_method_46_code 5 = .ok (.iload_n 0, 1) := by decide +kernel
theorem d_LTB_6 : decode jdk_43_method_46_code 6 = .ok (.i2b, 1) := by decide +kernel
theorem d_LTB_7 : decode jdk_43_method_46_code 7 = .ok (.bastore, 1) := by decide +kernel
theorem d_LTB_8 : decode jdk_43_method_46_code 8 = .ok (.areturn, 1) := by decide +kernel
theorem pn_LTB : plainFor (⟨"java/lang/StringLatin1", "toBytes", "(C)[B"⟩ : MethodName) = true := by first | exact plainFor_of_name (by first | (simp [plainName, overriddenIn]; done) | decide +kernel) | decide +kernel
theorem d_SBB_0 : decode jdk_42_method_151_code 0 = .ok (.aload_n 0, 1) := by decide +kernel
theorem d_SBB_1 : decode jdk_42_method_151_code 1 = .ok (.invokespecial 1, 3) := by decide +kernel
theorem d_SBB_4 : decode jdk_42_method_151_code 4 = .ok (.aload_n 0, 1) := by decide +kernel
theorem d_SBB_5 : decode jdk_42_method_151_code 5 = .ok (.aload_n 1, 1) := by decide +kernel
theorem d_SBB_6 : decode jdk_42_method_151_code 6 = .ok (.putfield 9, 3) := by decide +kernel
theorem d_SBB_9 : decode jdk_42_method_151_code 9 = .ok (.aload_n 0, 1) := by decide +kernel
theorem d_SBB_10 : decode jdk_42_method_151_code 10 = .ok (.iload_n 2, 1) := by decide +kernel
theorem d_SBB_11 : decode jdk_42_method_151_code 11 = .ok (.putfield 15, 3) := by decide +kernel
theorem d_SBB_14 : decode jdk_42_method_151_code 14 = .ok (.return_, 1) := by decide +kernel
theorem pn_SBB : plainFor (⟨"java/lang/String", "<init>", "([BB)V"⟩ : MethodName) = true := by first | exact plainFor_of_name (by first | (simp [plainName, overriddenIn]; done) | decide +kernel) | decide +kernel
section StrVal
variable {l : Launch} {Z : State} {a0 : Array Value} {EL : List (String × Nat)} {zc c : Int32} {x t : Addr} {cx ct : Cell} {cs : List Int32}
theorem c_CEN (hw : ∀ d ∈ tables_1, d.before a0 Z = true) (hEL : EW Z a0 EL) (h1 : ¬ (255 : Int32) < c) :
    OCon l Z EL (⟨"java/lang/StringLatin1", "canEncode", "(C)Z"⟩ : MethodName) jdk_43_method_3_code 1 (some .boolean) [] ({ frames := 0, cells := 0, slots := 0, locals := 0 } : Room) #[.int c] [] [] (fun v M N => v = some (.int 1) ∧ M = [] ∧ N = []) := by
  refine OCon.of_wp (L0 := [.val (.int c)]) pn_CEN hEL (fun m => by first | (simp [entryFrame, mkF, argsToLocals, Value.category]; done) | rfl) ?_
  intro p e s m below meth c' hk
  refine OWp.iload_n hk d_CEN_0 (pc' := 1) rfl rfl ?_
  refine OWp.sipush hk d_CEN_1 (pc' := 4) rfl (z := 255) rfl ?_
  refine OWp.icmpNo hk d_CEN_4 (XT.ii_gt_f h1) (pc' := 7) rfl ?_
  refine OWp.iconst hk d_CEN_7 (pc' := 8) rfl (z := 1) rfl ?_
  refine OWp.goto hk d_CEN_8 (by decide) (pc' := 12) rfl ?_
  exact OWp.retN hk (Or.inl rfl) d_CEN_12 ⟨rfl, rfl, rfl⟩ (List.Sublist.refl _) (fun _ h => h) (by decide) (by decide)
theorem c_LTB (hw : ∀ d ∈ tables_1, d.before a0 Z = true) (hEL : EW Z a0 EL) :
    OCon l Z EL (⟨"java/lang/StringLatin1", "toBytes", "(C)[B"⟩ : MethodName) jdk_43_method_46_code 1 (some (.array .byte)) [] ({ frames := 0, cells := 1, slots := 1, locals := 0 } : Room) #[.int c] [] [] (fun v M N => M = [] ∧ ∃ t ct, v = some (.ref t) ∧ N = [(t, ct)] ∧ AC Z ct .byte [.int (lo8 c)]) := by
  refine OCon.of_wp (L0 := [.val (.int c)]) pn_LTB hEL (fun m => by first | (simp [entryFrame, mkF, argsToLocals, Value.category]; done) | rfl) ?_
  intro p e s m below meth c' hk
  refine OWp.iconst hk d_LTB_0 (pc' := 1) rfl (z := 1) rfl ?_
  refine OWp.newarray hk d_LTB_1 (pc' := 3) rfl (hw _ (List.mem_of_getElem? (i := 19) rfl)) (by decide) (cap := 1) (by decide) (by decide) (by decide) (by decide) (vs := [.int 0]) rfl ?_
  intro b cb hA
  refine OWp.dup hk d_LTB_3 (pc' := 4) rfl rfl ?_
  refine OWp.iconst hk d_LTB_4 (pc' := 5) rfl (z := 0) rfl ?_
  refine OWp.iload_n hk d_LTB_5 (pc' := 6) rfl rfl ?_
  refine OWp.i2b hk d_LTB_6 (pc' := 7) rfl ?_
  refine OWp.bastore hk d_LTB_7 (pc' := 8) rfl (i := 0) rfl hA (by decide) (t := 0) (by decide) (Nat.le_of_ble_eq_true rfl) ?_
  clear hA
  intro cb hA
  simp only [List.nil_append, List.cons_append, List.set_cons_zero] at hA ⊢
  refine OWp.freeze ?_
  exact OWp.retA hk rfl rfl rfl d_LTB_8 ⟨rfl, b, cb, rfl, rfl, by simpa [lo8] using hA⟩ (List.Sublist.refl _) (fun _ h => h) (by decide) (by decide)
/-- the private constructor over a byte[] and its coder -/
theorem c_SBB (hw : ∀ d ∈ tables_1, d.before a0 Z = true) (hEL : EW Z a0 EL) (hE : EC Z cx "java/lang/String") {v0 v1 : Value} (F_value : FC Z cx "java/lang/String" "value" "[B" v0) (F_coder : FC Z cx "java/lang/String" "coder" "B" v1) (hT : AC Z ct .byte (oBytes cs)) (hcs : Chars cs) (hc : c = cdOf cs) :
    OCon l Z EL (⟨"java/lang/String", "<init>", "([BB)V"⟩ : MethodName) jdk_42_method_151_code 3 none [] ({ frames := 1, cells := 0, slots := 0, locals := 12 } : Room) #[.ref x, .ref t, .int c] [(x, cx)] []
      (fun v M N => v = none ∧ M = [] ∧ ∃ cx', N = [(x, cx')] ∧ SC Z t cx' ct cs) := by
  subst hc
  refine OCon.of_wp (L0 := [.val (.ref x), .val (.ref t), .val (.int (cdOf cs))]) pn_SBB hEL (fun m => by first | (simp [entryFrame, mkF, argsToLocals, Value.category]; done) | rfl) ?_
  intro p e s m below meth c' hk
  refine OWp.aload_n hk d_SBB_0 (pc' := 1) rfl rfl rfl ?_
  refine OWp.initO hk d_SBB_1 (pc' := 4) rfl (hw _ (List.mem_of_getElem? (i := 15) rfl)) (hw _ (List.mem_of_getElem? (i := 16) rfl)) (hw _ (List.mem_of_getElem? (i := 17) rfl)) rfl (by first | decide | (dsimp only; omega)) (W := 0) rfl (by first | decide | (dsimp only; omega)) ?_
  refine OWp.aload_n hk d_SBB_4 (pc' := 5) rfl rfl rfl ?_
  refine OWp.aload_n hk d_SBB_5 (pc' := 6) rfl rfl rfl ?_
  refine OWp.putfield hk d_SBB_6 (pc' := 9) rfl (hw _ (List.mem_of_getElem? (i := 24) rfl)) (i := 0) rfl F_value hE (Or.inr ⟨(hw _ (List.mem_of_getElem? (i := 20) rfl)), rfl, rfl⟩) (hw _ (List.mem_of_getElem? (i := 5) rfl)) (ty := (.array .byte)) (by decide) rfl rfl ?_
  intro ck hE F_value hK
  have F_coder := hK F_coder (slot_ne (Or.inr (hw _ (List.mem_of_getElem? (i := 21) rfl))) (Or.inr (hw _ (List.mem_of_getElem? (i := 20) rfl))) (by decide) (t := .byte) (by decide) (t' := (.array .byte)) (by decide))
  simp only [List.nil_append, List.cons_append, List.set_cons_zero]
  refine OWp.aload_n hk d_SBB_9 (pc' := 10) rfl rfl rfl ?_
  refine OWp.iload_n hk d_SBB_10 (pc' := 11) rfl rfl ?_
  refine OWp.putfield hk d_SBB_11 (pc' := 14) rfl (hw _ (List.mem_of_getElem? (i := 25) rfl)) (i := 0) rfl F_coder hE (Or.inr ⟨(hw _ (List.mem_of_getElem? (i := 21) rfl)), rfl, rfl⟩) (hw _ (List.mem_of_getElem? (i := 5) rfl)) (ty := .byte) (by decide) (congrArg Value.int (nar_cd cs)) (fits_cd cs) ?_
  intro cx3 hE3 hC3 hK3
  have hV3 := hK3 F_value (slot_ne (Or.inr (hw _ (List.mem_of_getElem? (i := 20) rfl))) (Or.inr (hw _ (List.mem_of_getElem? (i := 21) rfl))) (by decide) (t := .array .byte) (by decide) (t' := .byte) (by decide))
  simp only [List.nil_append, List.cons_append, List.set_cons_zero]
  refine OWp.freeze ?_
  exact OWp.ret0 hk d_SBB_14 ⟨rfl, rfl, cx3, rfl, hE3, hV3, hC3, hT, hcs⟩ (List.Sublist.refl _) (fun _ h => h) (by decide) (by decide)
theorem c_VALC (hw : ∀ d ∈ tables_1, d.before a0 Z = true) (hEL : EW Z a0 EL) (O2 : Sta Z Z.heap "java/lang/String" "COMPACT_STRINGS" "Z" (.int zc)) (hzc : ¬ zc = 0) (h0 : ¬ c < 0) (h1 : ¬ (255 : Int32) < c) :
    OCon l Z EL (⟨"java/lang/String", "valueOf", "(C)Ljava/lang/String;"⟩ : MethodName) jdk_42_method_139_code 1 (some (.object "java/lang/String")) [] ({ frames := 2, cells := 2, slots := 5, locals := 30 } : Room) #[.int c] [] []
      (fun v M N => M = [] ∧ ∃ x t cx ct, v = some (.ref x) ∧ N = [(x, cx), (t, ct)] ∧ SC Z t cx ct [c]) := by
  refine OCon.of_wp (L0 := [.val (.int c)]) pn_VALC hEL (fun m => by first | (simp [entryFrame, mkF, argsToLocals, Value.category]; done) | rfl) ?_
  intro p e s m below meth c' hk
  have hl : lat [c] = true := lat_iff.mpr fun q hq => by rw [List.mem_singleton.mp hq]; exact h1
  have hch : Chars [c] := ⟨fun q hq => by rw [List.mem_singleton.mp hq]; exact ⟨h0, lt_65535 h1⟩, Nat.le_of_ble_eq_true rfl⟩
  refine OWp.getstatic hk d_VALC_0 (pc' := 3) rfl (hw _ (List.mem_of_getElem? (i := 26) rfl)) O2 ?_
  refine OWp.ifNo hk d_VALC_3 (XT.i0_eq_f hzc) (pc' := 6) rfl ?_
  refine OWp.iload_n hk d_VALC_6 (pc' := 7) rfl rfl ?_
  refine OWp.callS hk d_VALC_7 (pc' := 10) rfl (hw _ (List.mem_of_getElem? (i := 107) rfl)) (hw _ (List.mem_of_getElem? (i := 108) rfl)) (hw _ (List.mem_of_getElem? (i := 109) rfl)) (hw _ (List.mem_of_getElem? (i := 110) rfl)) (by decide) (c_CEN hw hEL h1) rfl (by simp) rfl (lenOf pd_4 rfl) rfl (W := 0) rfl (by first | decide | (dsimp only; omega)) (by first | decide | (dsimp only; omega)) (by first | decide | (dsimp only; omega)) (by first | decide | (dsimp only; omega)) ?_
  rintro _ _ _ ⟨rfl, rfl, rfl⟩
  refine OWp.ifNo hk d_VALC_10 (XT.i0_eq_f (by decide)) (pc' := 13) rfl ?_
  refine OWp.new hk d_VALC_13 (pc' := 16) rfl (hw _ (List.mem_of_getElem? (i := 111) rfl)) (hw _ (List.mem_of_getElem? (i := 5) rfl)) (hw _ (List.mem_of_getElem? (i := 6) rfl)) (by decide) (by decide) ?_
  intro x cx hE hD
  have hV : FC Z cx "java/lang/String" "value" "[B" .null := hD (Or.inr (hw _ (List.mem_of_getElem? (i := 20) rfl))) (ty := .array .byte) (by decide)
  have hC : FC Z cx "java/lang/String" "coder" "B" (.int 0) := hD (Or.inr (hw _ (List.mem_of_getElem? (i := 21) rfl))) (ty := .byte) (by decide)
  refine OWp.dup hk d_VALC_16 (pc' := 17) rfl rfl ?_
  refine OWp.iload_n hk d_VALC_17 (pc' := 18) rfl rfl ?_
  refine OWp.callS hk d_VALC_18 (pc' := 21) rfl (hw _ (List.mem_of_getElem? (i := 112) rfl)) (hw _ (List.mem_of_getElem? (i := 113) rfl)) (hw _ (List.mem_of_getElem? (i := 109) rfl)) (hw _ (List.mem_of_getElem? (i := 114) rfl)) (by decide) (c_LTB (c := c) hw hEL) rfl (by simp) rfl (lenOf pd_5 rfl) rfl (W := 2) rfl (by first | decide | (dsimp only; omega)) (by first | decide | (dsimp only; omega)) (by first | decide | (dsimp only; omega)) (by first | decide | (dsimp only; omega)) ?_
  rintro _ _ _ ⟨rfl, t, ct, rfl, rfl, hT⟩
  refine OWp.iconst hk d_VALC_21 (pc' := 22) rfl (z := 0) rfl ?_
  refine OWp.callI hk d_VALC_22 (pc' := 25) rfl rfl (hw _ (List.mem_of_getElem? (i := 115) rfl)) (hw _ (List.mem_of_getElem? (i := 116) rfl)) (hw _ (List.mem_of_getElem? (i := 6) rfl)) (hw _ (List.mem_of_getElem? (i := 117) rfl)) (by decide) (c_SBB (cs := [c]) hw hEL hE hV hC (by rw [bytes_lat hl]; exact hT) hch (by rw [cdOf, hl]; rfl)) rfl (by simp) rfl (lenOf pd_6 rfl) rfl (W := 1) rfl (by first | decide | (dsimp only; omega)) (by first | decide | (dsimp only; omega)) (by first | decide | (dsimp only; omega)) (by first | decide | (dsimp only; omega)) ?_
  rintro _ _ _ ⟨rfl, rfl, cx2, rfl, hs⟩
  exact OWp.retA hk rfl rfl rfl d_VALC_25 (M' := []) (N' := [(x, cx2), (t, ct)]) ⟨rfl, x, t, cx2, ct, rfl, rfl, hs⟩ (List.nil_sublist _) (by simp) (by decide) (by decide)
end StrVal
theorem d_STR_0 : decode method_2_code 0 = .ok (.iload_n 0, 1) := by decide +kernel
theorem d_STR_1 : decode method_2_code 1 = .ok (.iconst 3, 1) := by decide +kernel
theorem d_STR_2 : decode method_2_code 2 = .ok (.iand, 1) := by decide +kernel
theorem d_STR_3 : decode method_2_code 3 = .ok (.istore_n 1, 1) := by decide +kernel
theorem d_STR_4 : decode method_2_code 4 = .ok (.iload_n 0, 1) := by decide +kernel
theorem d_STR_5 : decode method_2_code 5 = .ok (.iconst 2, 1) := by decide +kernel
theorem d_STR_6 : decode method_2_code 6 = .ok (.iushr, 1) := by decide +kernel
theorem d_STR_7 : decode method_2_code 7 = .ok (.sipush 255, 3) := by decide +kernel
theorem d_STR_10 : decode method_2_code 10 = .ok (.iand, 1) := by decide +kernel
theorem d_STR_11 : decode method_2_code 11 = .ok (.i2c, 1) := by decide +kernel
theorem d_STR_12 : decode method_2_code 12 = .ok (.istore_n 2, 1) := by decide +kernel
theorem d_STR_13 : decode method_2_code 13 = .ok (.iload_n 0, 1) := by decide +kernel
theorem d_STR_14 : decode method_2_code 14 = .ok (.bipush 10, 2) := by decide +kernel
theorem d_STR_16 : decode method_2_code 16 = .ok (.iushr, 1) := by decide +kernel
theorem d_STR_17 : decode method_2_code 17 = .ok (.sipush 255, 3) := by decide +kernel
theorem d_STR_20 : decode method_2_code 20 = .ok (.iand, 1) := by decide +kernel
theorem d_STR_21 : decode method_2_code 21 = .ok (.i2c, 1) := by decide +kernel
theorem d_STR_22 : decode method_2_code 22 = .ok (.istore_n 3, 1) := by decide +kernel
theorem d_STR_23 : decode method_2_code 23 = .ok (.iload_n 0, 1) := by decide +kernel
theorem d_STR_24 : decode method_2_code 24 = .ok (.bipush 18, 2) := by decide +kernel
theorem d_STR_26 : decode method_2_code 26 = .ok (.iushr, 1) := by decide +kernel
theorem d_STR_27 : decode method_2_code 27 = .ok (.sipush 255, 3) := by decide +kernel
theorem d_STR_30 : decode method_2_code 30 = .ok (.iand, 1) := by decide +kernel
theorem d_STR_31 : decode method_2_code 31 = .ok (.i2c, 1) := by decide +kernel
theorem d_STR_32 : decode method_2_code 32 = .ok (.istore 4, 2) := by decide +kernel
theorem d_STR_34 : decode method_2_code 34 = .ok (.iload_n 1, 1) := by decide +kernel
theorem d_STR_35 : decode method_2_code 35 = .ok (.ifCond .ne 14, 3) := by decide +kernel
theorem d_STR_38 : decode method_2_code 38 = .ok (.new 7, 3) := by decide +kernel
theorem d_STR_41 : decode method_2_code 41 = .ok (.dup, 1) := by decide +kernel
theorem d_STR_42 : decode method_2_code 42 = .ok (.iconst 0, 1) := by decide +kernel
theorem d_STR_43 : decode method_2_code 43 = .ok (.newarray .char, 2) := by decide +kernel
theorem d_STR_45 : decode method_2_code 45 = .ok (.invokespecial 9, 3) := by decide +kernel
theorem d_STR_48 : decode method_2_code 48 = .ok (.areturn, 1) := by decide +kernel
theorem d_STR_49 : decode method_2_code 49 = .ok (.iload_n 1, 1) := by decide +kernel
theorem d_STR_50 : decode method_2_code 50 = .ok (.iconst 1, 1) := by decide +kernel
theorem d_STR_51 : decode method_2_code 51 = .ok (.if_icmp .ne 8, 3) := by decide +kernel
theorem d_STR_54 : decode method_2_code 54 = .ok (.iload_n 2, 1) := by decide +kernel
theorem d_STR_55 : decode method_2_code 55 = .ok (.invokestatic 12, 3) := by decide +kernel
theorem d_STR_58 : decode method_2_code 58 = .ok (.areturn, 1) := by decide +kernel
theorem d_STR_59 : decode method_2_code 59 = .ok (.iload_n 1, 1) := by decide +kernel
theorem d_STR_60 : decode method_2_code 60 = .ok (.iconst 2, 1) := by decide +kernel
theorem d_STR_61 : decode method_2_code 61 = .ok (.if_icmp .ne 22, 3) := by decide +kernel
theorem d_STR_64 : decode method_2_code 64 = .ok (.new 7, 3) := by decide +kernel
theorem d_STR_67 : decode method_2_code 67 = .ok (.dup, 1) := by decide +kernel
theorem d_STR_68 : decode method_2_code 68 = .ok (.iconst 2, 1) := by decide +kernel
theorem d_STR_69 : decode method_2_code 69 = .ok (.newarray .char, 2) := by decide +kernel
theorem d_STR_71 : decode method_2_code 71 = .ok (.dup, 1) := by decide +kernel
theorem d_STR_72 : decode method_2_code 72 = .ok (.iconst 0, 1) := by decide +kernel
theorem d_STR_73 : decode method_2_code 73 = .ok (.iload_n 2, 1) := by decide +kernel
theorem d_STR_74 : decode method_2_code 74 = .ok (.castore, 1) := by decide +kernel
theorem d_STR_75 : decode method_2_code 75 = .ok (.dup, 1) := by decide +kernel
theorem d_STR_76 : decode method_2_code 76 = .ok (.iconst 1, 1) := by decide +kernel
theorem d_STR_77 : decode method_2_code 77 = .ok (.iload_n 3, 1) := by decide +kernel
theorem d_STR_78 : decode method_2_code 78 = .ok (.castore, 1) := by decide +kernel
theorem d_STR_79 : decode method_2_code 79 = .ok (.invokespecial 9, 3) := by decide +kernel
theorem d_STR_82 : decode method_2_code 82 = .ok (.areturn, 1) := by decide +kernel
theorem d_STR_83 : decode method_2_code 83 = .ok (.new 7, 3) := by decide +kernel
theorem d_STR_86 : decode method_2_code 86 = .ok (.dup, 1) := by decide +kernel
theorem d_STR_87 : decode method_2_code 87 = .ok (.iconst 3, 1) := by decide +kernel
theorem d_STR_88 : decode method_2_code 88 = .ok (.newarray .char, 2) := by decide +kernel
theorem d_STR_90 : decode method_2_code 90 = .ok (.dup, 1) := by decide +kernel
theorem d_STR_91 : decode method_2_code 91 = .ok (.iconst 0, 1) := by decide +kernel
theorem d_STR_92 : decode method_2_code 92 = .ok (.iload_n 2, 1) := by decide +kernel
theorem d_STR_93 : decode method_2_code 93 = .ok (.castore, 1) := by decide +kernel
theorem d_STR_94 : decode method_2_code 94 = .ok (.dup, 1) := by decide +kernel
theorem d_STR_95 : decode method_2_code 95 = .ok (.iconst 1, 1) := by decide +kernel
theorem d_STR_96 : decode method_2_code 96 = .ok (.iload_n 3, 1) := by decide +kernel
theorem d_STR_97 : decode method_2_code 97 = .ok (.castore, 1) := by decide +kernel
theorem d_STR_98 : decode method_2_code 98 = .ok (.dup, 1) := by decide +kernel
theorem d_STR_99 : decode method_2_code 99 = .ok (.iconst 2, 1) := by decide +kernel
theorem d_STR_100 : decode method_2_code 100 = .ok (.iload 4, 2) := by decide +kernel
theorem d_STR_102 : decode method_2_code 102 = .ok (.castore, 1) := by decide +kernel
theorem d_STR_103 : decode method_2_code 103 = .ok (.invokespecial 9, 3) := by decide +kernel
theorem d_STR_106 : decode method_2_code 106 = .ok (.areturn, 1) := by decide +kernel
theorem pn_STR : plainFor (⟨"com/example/goals_to_queue/goalstoqueue/QueueEntryCustomComponentPinLaw", "str", "(I)Ljava/lang/String;"⟩ : MethodName) = true := by first | exact plainFor_of_name (by first | (simp [plainName, overriddenIn]; done) | decide +kernel) | decide +kernel
theorem d_CC_0 : decode prog_26_method_6_code 0 = .ok (.new 8, 3) := by decide +kernel
theorem d_CC_3 : decode prog_26_method_6_code 3 = .ok (.dup, 1) := by decide +kernel
theorem d_CC_4 : decode prog_26_method_6_code 4 = .ok (.aload_n 0, 1) := by decide +kernel
theorem d_CC_5 : decode prog_26_method_6_code 5 = .ok (.aconst_null, 1) := by decide +kernel
theorem d_CC_6 : decode prog_26_method_6_code 6 = .ok (.aload_n 2, 1) := by decide +kernel
theorem d_CC_7 : decode prog_26_method_6_code 7 = .ok (.aconst_null, 1) := by decide +kernel
theorem d_CC_8 : decode prog_26_method_6_code 8 = .ok (.aload_n 1, 1) := by decide +kernel
theorem d_CC_9 : decode prog_26_method_6_code 9 = .ok (.invokespecial 71, 3) := by decide +kernel
theorem d_CC_12 : decode prog_26_method_6_code 12 = .ok (.areturn, 1) := by decide +kernel
theorem pn_CC : plainFor (⟨"com/example/goals_to_queue/goalstoqueue/QueueEntry", "customComponent", "(Ljava/lang/String;Ljava/lang/String;Ljava/lang/String;)Lcom/example/goals_to_queue/goalstoqueue/QueueEntry;"⟩ : MethodName) = true := by first | exact plainFor_of_name (by first | (simp [plainName, overriddenIn]; done) | decide +kernel) | decide +kernel
theorem d_QI_0 : decode prog_26_method_1_code 0 = .ok (.aload_n 0, 1) := by decide +kernel
theorem d_QI_1 : decode prog_26_method_1_code 1 = .ok (.invokespecial 1, 3) := by decide +kernel
theorem d_QI_4 : decode prog_26_method_1_code 4 = .ok (.aload_n 0, 1) := by decide +kernel
theorem d_QI_5 : decode prog_26_method_1_code 5 = .ok (.aload_n 1, 1) := by decide +kernel
theorem d_QI_6 : decode prog_26_method_1_code 6 = .ok (.putfield 7, 3) := by decide +kernel
theorem d_QI_9 : decode prog_26_method_1_code 9 = .ok (.aload_n 0, 1) := by decide +kernel
theorem d_QI_10 : decode prog_26_method_1_code 10 = .ok (.aload_n 2, 1) := by decide +kernel
theorem d_QI_11 : decode prog_26_method_1_code 11 = .ok (.putfield 13, 3) := by decide +kernel
theorem d_QI_14 : decode prog_26_method_1_code 14 = .ok (.aload_n 0, 1) := by decide +kernel
theorem d_QI_15 : decode prog_26_method_1_code 15 = .ok (.aload_n 3, 1) := by decide +kernel
theorem d_QI_16 : decode prog_26_method_1_code 16 = .ok (.putfield 17, 3) := by decide +kernel
theorem d_QI_19 : decode prog_26_method_1_code 19 = .ok (.aload_n 0, 1) := by decide +kernel
theorem d_QI_20 : decode prog_26_method_1_code 20 = .ok (.aload 4, 2) := by decide +kernel
theorem d_QI_22 : decode prog_26_method_1_code 22 = .ok (.putfield 20, 3) := by decide +kernel
theorem d_QI_25 : decode prog_26_method_1_code 25 = .ok (.aload_n 0, 1) := by decide +kernel
theorem d_QI_26 : decode prog_26_method_1_code 26 = .ok (.aload 5, 2) := by decide +kernel
theorem d_QI_28 : decode prog_26_method_1_code 28 = .ok (.putfield 24, 3) := by decide +kernel
theorem d_QI_31 : decode prog_26_method_1_code 31 = .ok (.aload_n 0, 1) := by decide +kernel
theorem d_QI_32 : decode prog_26_method_1_code 32 = .ok (.invokestatic 27, 3) := by decide +kernel
theorem d_QI_35 : decode prog_26_method_1_code 35 = .ok (.putfield 33, 3) := by decide +kernel
theorem d_QI_38 : decode prog_26_method_1_code 38 = .ok (.aload_n 0, 1) := by decide +kernel
theorem d_QI_39 : decode prog_26_method_1_code 39 = .ok (.invokestatic 37, 3) := by decide +kernel
theorem d_QI_42 : decode prog_26_method_1_code 42 = .ok (.putfield 42, 3) := by decide +kernel
theorem d_QI_45 : decode prog_26_method_1_code 45 = .ok (.aload_n 0, 1) := by decide +kernel
theorem d_QI_46 : decode prog_26_method_1_code 46 = .ok (.invokestatic 37, 3) := by decide +kernel
theorem d_QI_49 : decode prog_26_method_1_code 49 = .ok (.putfield 46, 3) := by decide +kernel
theorem d_QI_52 : decode prog_26_method_1_code 52 = .ok (.return_, 1) := by decide +kernel
theorem pn_QI : plainFor (⟨"com/example/goals_to_queue/goalstoqueue/QueueEntry", "<init>", "(Ljava/lang/String;Lcom/example/goals_to_queue/goalstoqueue/NablarchHandler;Ljava/lang/String;Lcom/example/goals_to_queue/goalstoqueue/DefaultComponent;Ljava/lang/String;)V"⟩ : MethodName) = true := by first | exact plainFor_of_name (by first | (simp [plainName, overriddenIn]; done) | decide +kernel) | decide +kernel
theorem d_MOF_0 : decode jdk_72_method_26_code 0 = .ok (.getstatic 81, 3) := by decide +kernel
theorem d_MOF_3 : decode jdk_72_method_26_code 3 = .ok (.areturn, 1) := by decide +kernel
theorem pn_MOF : plainFor (⟨"java/util/Map", "of", "()Ljava/util/Map;"⟩ : MethodName) = true := by first | exact plainFor_of_name (by first | (simp [plainName, overriddenIn]; done) | decide +kernel) | decide +kernel
theorem d_LOF_0 : decode jdk_40_method_36_code 0 = .ok (.getstatic 90, 3) := by decide +kernel
theorem d_LOF_3 : decode jdk_40_method_36_code 3 = .ok (.areturn, 1) := by decide +kernel
theorem pn_LOF : plainFor (⟨"java/util/List", "of", "()Ljava/util/List;"⟩ : MethodName) = true := by first | exact plainFor_of_name (by first | (simp [plainName, overriddenIn]; done) | decide +kernel) | decide +kernel
theorem d_GCN_0 : decode prog_26_method_16_code 0 = .ok (.aload_n 0, 1) := by decide +kernel
theorem d_GCN_1 : decode prog_26_method_16_code 1 = .ok (.getfield 7, 3) := by decide +kernel
theorem d_GCN_4 : decode prog_26_method_16_code 4 = .ok (.areturn, 1) := by decide +kernel
theorem pn_GCN : plainFor (⟨"com/example/goals_to_queue/goalstoqueue/QueueEntry", "className", "()Ljava/lang/String;"⟩ : MethodName) = true := by first | exact plainFor_of_name (by first | (simp [plainName, overriddenIn]; done) | decide +kernel) | decide +kernel
theorem d_GCU_0 : decode prog_26_method_24_code 0 = .ok (.aload_n 0, 1) := by decide +kernel
theorem d_GCU_1 : decode prog_26_method_24_code 1 = .ok (.getfield 24, 3) := by decide +kernel
theorem d_GCU_4 : decode prog_26_method_24_code 4 = .ok (.areturn, 1) := by decide +kernel
theorem pn_GCU : plainFor (⟨"com/example/goals_to_queue/goalstoqueue/QueueEntry", "customName", "()Ljava/lang/String;"⟩ : MethodName) = true := by first | exact plainFor_of_name (by first | (simp [plainName, overriddenIn]; done) | decide +kernel) | decide +kernel
theorem d_GRO_0 : decode prog_26_method_20_code 0 = .ok (.aload_n 0, 1) := by decide +kernel
theorem d_GRO_1 : decode prog_26_method_20_code 1 = .ok (.getfield 17, 3) := by decide +kernel
theorem d_GRO_4 : decode prog_26_method_20_code 4 = .ok (.areturn, 1) := by decide +kernel
theorem pn_GRO : plainFor (⟨"com/example/goals_to_queue/goalstoqueue/QueueEntry", "role", "()Ljava/lang/String;"⟩ : MethodName) = true := by first | exact plainFor_of_name (by first | (simp [plainName, overriddenIn]; done) | decide +kernel) | decide +kernel
theorem d_GHA_0 : decode prog_26_method_19_code 0 = .ok (.aload_n 0, 1) := by decide +kernel
theorem d_GHA_1 : decode prog_26_method_19_code 1 = .ok (.getfield 13, 3) := by decide +kernel
theorem d_GHA_4 : decode prog_26_method_19_code 4 = .ok (.areturn, 1) := by decide +kernel
theorem pn_GHA : plainFor (⟨"com/example/goals_to_queue/goalstoqueue/QueueEntry", "handler", "()Lcom/example/goals_to_queue/goalstoqueue/NablarchHandler;"⟩ : MethodName) = true := by first | exact plainFor_of_name (by first | (simp [plainName, overriddenIn]; done) | decide +kernel) | decide +kernel
theorem d_GRE_0 : decode prog_26_method_22_code 0 = .ok (.aload_n 0, 1) := by decide +kernel
theorem d_GRE_1 : decode prog_26_method_22_code 1 = .ok (.getfield 20, 3) := by decide +kernel
theorem d_GRE_4 : decode prog_26_method_22_code 4 = .ok (.areturn, 1) := by decide +kernel
theorem pn_GRE : plainFor (⟨"com/example/goals_to_queue/goalstoqueue/QueueEntry", "reference", "()Lcom/example/goals_to_queue/goalstoqueue/DefaultComponent;"⟩ : MethodName) = true := by first | exact plainFor_of_name (by first | (simp [plainName, overriddenIn]; done) | decide +kernel) | decide +kernel
theorem d_EQ_0 : decode jdk_42_method_66_code 0 = .ok (.aload_n 0, 1) := by decide +kernel
theorem d_EQ_1 : decode jdk_42_method_66_code 1 = .ok (.aload_n 1, 1) := by decide +kernel
theorem d_EQ_2 : decode jdk_42_method_66_code 2 = .ok (.if_acmp .ne 5, 3) := by decide +kernel
theorem d_EQ_5 : decode jdk_42_method_66_code 5 = .ok (.iconst 1, 1) := by decide +kernel
theorem d_EQ_6 : decode jdk_42_method_66_code 6 = .ok (.ireturn, 1) := by decide +kernel
theorem d_EQ_7 : decode jdk_42_method_66_code 7 = .ok (.aload_n 1, 1) := by decide +kernel
theorem d_EQ_8 : decode jdk_42_method_66_code 8 = .ok (.instanceof 10, 3) := by decide +kernel
theorem d_EQ_11 : decode jdk_42_method_66_code 11 = .ok (.ifCond .eq 43, 3) := by decide +kernel
theorem d_EQ_14 : decode jdk_42_method_66_code 14 = .ok (.aload_n 1, 1) := by decide +kernel
theorem d_EQ_15 : decode jdk_42_method_66_code 15 = .ok (.checkcast 10, 3) := by decide +kernel
theorem d_EQ_18 : decode jdk_42_method_66_code 18 = .ok (.astore_n 2, 1) := by decide +kernel
theorem d_EQ_19 : decode jdk_42_method_66_code 19 = .ok (.getstatic 38, 3) := by decide +kernel
theorem d_EQ_22 : decode jdk_42_method_66_code 22 = .ok (.ifCond .eq 14, 3) := by decide +kernel
theorem d_EQ_25 : decode jdk_42_method_66_code 25 = .ok (.aload_n 0, 1) := by decide +kernel
theorem d_EQ_26 : decode jdk_42_method_66_code 26 = .ok (.getfield 15, 3) := by decide +kernel
theorem d_EQ_29 : decode jdk_42_method_66_code 29 = .ok (.aload_n 2, 1) := by decide +kernel
theorem d_EQ_30 : decode jdk_42_method_66_code 30 = .ok (.getfield 15, 3) := by decide +kernel
theorem d_EQ_33 : decode jdk_42_method_66_code 33 = .ok (.if_icmp .ne 21, 3) := by decide +kernel
theorem d_EQ_36 : decode jdk_42_method_66_code 36 = .ok (.aload_n 0, 1) := by decide +kernel
theorem d_EQ_37 : decode jdk_42_method_66_code 37 = .ok (.getfield 9, 3) := by decide +kernel
theorem d_EQ_40 : decode jdk_42_method_66_code 40 = .ok (.aload_n 2, 1) := by decide +kernel
theorem d_EQ_41 : decode jdk_42_method_66_code 41 = .ok (.getfield 9, 3) := by decide +kernel
theorem d_EQ_44 : decode jdk_42_method_66_code 44 = .ok (.invokestatic 541, 3) := by decide +kernel
theorem d_EQ_47 : decode jdk_42_method_66_code 47 = .ok (.ifCond .eq 7, 3) := by decide +kernel
theorem d_EQ_50 : decode jdk_42_method_66_code 50 = .ok (.iconst 1, 1) := by decide +kernel
theorem d_EQ_51 : decode jdk_42_method_66_code 51 = .ok (.goto 4, 3) := by decide +kernel
theorem d_EQ_54 : decode jdk_42_method_66_code 54 = .ok (.iconst 0, 1) := by decide +kernel
theorem d_EQ_55 : decode jdk_42_method_66_code 55 = .ok (.ireturn, 1) := by decide +kernel
theorem pn_EQ : plainFor (⟨"java/lang/String", "equals", "(Ljava/lang/Object;)Z"⟩ : MethodName) = true := by first | exact plainFor_of_name (by first | (simp [plainName, overriddenIn]; done) | decide +kernel) | decide +kernel
theorem pn_law : plainFor (⟨"com/example/goals_to_queue/goalstoqueue/QueueEntryCustomComponentPinLaw", "law", "(III)Z"⟩ : MethodName) = true := by first | exact plainFor_of_name (by first | (simp [plainName, overriddenIn]; done) | decide +kernel) | decide +kernel
section Own
variable {l : Launch} {Z : State} {a0 : Array Value} {EL : List (String × Nat)} {zc : Int32} {x y z t k a am al : Addr} {cx ct ck : Cell} {cs : List Int32} {fm v0 v1 v2 v3 v4 v5 v6 v7 : Value}
theorem c_EQ (hw : ∀ d ∈ tables_1, d.before a0 Z = true) (hEL : EW Z a0 EL) :
    OCon l Z EL (⟨"java/lang/String", "equals", "(Ljava/lang/Object;)Z"⟩ : MethodName) jdk_42_method_66_code 3 (some .boolean) [] ({ frames := 0, cells := 0, slots := 0, locals := 0 } : Room) #[.ref x, .ref x] [] [] (fun v M N => v = some (.int 1) ∧ M = [] ∧ N = []) := by
  refine OCon.of_wp (L0 := [.val (.ref x), .val (.ref x), .unset]) pn_EQ hEL (fun m => by first | (simp [entryFrame, mkF, argsToLocals, Value.category]; done) | rfl) ?_
  intro p e s m below meth c hk
  refine OWp.aload_n hk d_EQ_0 (pc' := 1) rfl rfl rfl ?_
  refine OWp.aload_n hk d_EQ_1 (pc' := 2) rfl rfl rfl ?_
  refine OWp.acmpNo hk d_EQ_2 rfl rfl (XT.aa_ne_f rfl) (pc' := 5) rfl ?_
  refine OWp.iconst hk d_EQ_5 (pc' := 6) rfl (z := 1) rfl ?_
  exact OWp.retN hk (Or.inl rfl) d_EQ_6 ⟨rfl, rfl, rfl⟩ (List.Sublist.refl _) (fun _ h => h) (by decide) (by decide)
set_option maxRecDepth 65536 in
theorem c_STR (hw : ∀ d ∈ tables_1, d.before a0 Z = true) (hEL : EW Z a0 EL) (O2 : Sta Z Z.heap "java/lang/String" "COMPACT_STRINGS" "Z" (.int zc)) (hzc : ¬ zc = 0) (hmem : ("java/lang/String", 7) ∈ EL) (q0 : Int32) :
    OCon l Z EL (⟨"com/example/goals_to_queue/goalstoqueue/QueueEntryCustomComponentPinLaw", "str", "(I)Ljava/lang/String;"⟩ : MethodName) method_2_code 5 (some (.object "java/lang/String")) [] ({ frames := 4, cells := 7, slots := 30, locals := 80 } : Room) #[.int q0] [] []
      (fun v M N => M = [] ∧ ∃ x cx, v = some (.ref x) ∧ N = [(x, cx)] ∧ EC Z cx "java/lang/String") := by
  refine OCon.of_wp (L0 := [.val (.int q0), .unset, .unset, .unset, .unset]) pn_STR hEL (fun m => by first | (simp [entryFrame, mkF, argsToLocals, Value.category]; done) | rfl) ?_
  intro p e s m below meth c hk
  refine OWp.iload_n hk d_STR_0 (pc' := 1) rfl rfl ?_
  refine OWp.iconst hk d_STR_1 (pc' := 2) rfl (z := 3) rfl ?_
  refine OWp.iand hk d_STR_2 (pc' := 3) rfl ?_
  refine OWp.istore_n hk d_STR_3 (pc' := 4) rfl (kn := 1) rfl rfl (by simp only [List.set_cons_zero, List.set_cons_succ]; rfl) ?_
  refine OWp.iload_n hk d_STR_4 (pc' := 5) rfl rfl ?_
  refine OWp.iconst hk d_STR_5 (pc' := 6) rfl (z := 2) rfl ?_
  refine OWp.iushr hk d_STR_6 (pc' := 7) rfl ?_
  refine OWp.sipush hk d_STR_7 (pc' := 10) rfl (z := 255) rfl ?_
  refine OWp.iand hk d_STR_10 (pc' := 11) rfl ?_
  refine OWp.i2c hk d_STR_11 (pc' := 12) rfl ?_
  refine OWp.istore_n hk d_STR_12 (pc' := 13) rfl (kn := 2) rfl rfl (by simp only [List.set_cons_zero, List.set_cons_succ]; rfl) ?_
  refine OWp.iload_n hk d_STR_13 (pc' := 14) rfl rfl ?_
  refine OWp.bipush hk d_STR_14 (pc' := 16) rfl (z := 10) rfl ?_
  refine OWp.iushr hk d_STR_16 (pc' := 17) rfl ?_
  refine OWp.sipush hk d_STR_17 (pc' := 20) rfl (z := 255) rfl ?_
  refine OWp.iand hk d_STR_20 (pc' := 21) rfl ?_
  refine OWp.i2c hk d_STR_21 (pc' := 22) rfl ?_
  refine OWp.istore_n hk d_STR_22 (pc' := 23) rfl (kn := 3) rfl rfl (by simp only [List.set_cons_zero, List.set_cons_succ]; rfl) ?_
  refine OWp.iload_n hk d_STR_23 (pc' := 24) rfl rfl ?_
  refine OWp.bipush hk d_STR_24 (pc' := 26) rfl (z := 18) rfl ?_
  refine OWp.iushr hk d_STR_26 (pc' := 27) rfl ?_
  refine OWp.sipush hk d_STR_27 (pc' := 30) rfl (z := 255) rfl ?_
  refine OWp.iand hk d_STR_30 (pc' := 31) rfl ?_
  refine OWp.i2c hk d_STR_31 (pc' := 32) rfl ?_
  refine OWp.istore hk d_STR_32 (pc' := 34) rfl rfl (by simp only [List.set_cons_zero, List.set_cons_succ]; rfl) ?_
  refine OWp.iload_n hk d_STR_34 (pc' := 35) rfl rfl ?_
  by_cases h0 : q0 &&& 3 = 0
  · refine OWp.ifNo hk d_STR_35 (XT.i0_ne_f h0) (pc' := 38) rfl ?_
    refine OWp.new hk d_STR_38 (pc' := 41) rfl (hw _ (List.mem_of_getElem? (i := 4) rfl)) (hw _ (List.mem_of_getElem? (i := 5) rfl)) (hw _ (List.mem_of_getElem? (i := 6) rfl)) (by decide) (by decide) ?_
    intro x cx hE hD
    have hV : FC Z cx "java/lang/String" "value" "[B" .null := hD (Or.inr (hw _ (List.mem_of_getElem? (i := 20) rfl))) (ty := .array .byte) (by decide)
    have hC : FC Z cx "java/lang/String" "coder" "B" (.int 0) := hD (Or.inr (hw _ (List.mem_of_getElem? (i := 21) rfl))) (ty := .byte) (by decide)
    refine OWp.dup hk d_STR_41 (pc' := 42) rfl rfl ?_
    refine OWp.iconst hk d_STR_42 (pc' := 43) rfl (z := 0) rfl ?_
    refine OWp.newarray hk d_STR_43 (pc' := 45) rfl (hw _ (List.mem_of_getElem? (i := 7) rfl)) (by decide) (cap := kCap) (by decide) (by decide) (by decide) (by decide) (vs := []) rfl ?_
    intro b cb hA
    refine OWp.freeze ?_
    refine OWp.callI hk d_STR_45 (pc' := 48) rfl rfl (hw _ (List.mem_of_getElem? (i := 8) rfl)) (hw _ (List.mem_of_getElem? (i := 9) rfl)) (hw _ (List.mem_of_getElem? (i := 6) rfl)) (hw _ (List.mem_of_getElem? (i := 10) rfl)) (by decide) (c_NEW (cs := []) hw hEL O2 hzc hmem hE hV hC hA ch_nil (by decide) (Nat.le_of_ble_eq_true rfl)) rfl (by simp) rfl (lenOf pd_7 rfl) rfl (W := 1) rfl (by first | decide | (dsimp only; omega)) (by first | decide | (dsimp only; omega)) (by first | decide | (dsimp only; omega)) (by first | decide | (dsimp only; omega)) ?_
    rintro _ _ _ ⟨rfl, rfl, t, cx2, ct, rfl, hs⟩
    exact OWp.retA hk rfl rfl rfl d_STR_48 (M' := []) (N' := [(x, cx2)]) ⟨rfl, x, cx2, rfl, rfl, hs.1⟩ (List.nil_sublist _) (by simp) (by decide) (by decide)
  refine OWp.ifYes hk d_STR_35 (XT.i0_ne_t h0) (by decide) (pc' := 49) rfl ?_
  refine OWp.iload_n hk d_STR_49 (pc' := 50) rfl rfl ?_
  refine OWp.iconst hk d_STR_50 (pc' := 51) rfl (z := 1) rfl ?_
  by_cases h1 : q0 &&& 3 = 1
  · refine OWp.icmpNo hk d_STR_51 (XT.ii_ne_f h1) (pc' := 54) rfl ?_
    refine OWp.iload_n hk d_STR_54 (pc' := 55) rfl rfl ?_
    refine OWp.callS hk d_STR_55 (pc' := 58) rfl (hw _ (List.mem_of_getElem? (i := 104) rfl)) (hw _ (List.mem_of_getElem? (i := 105) rfl)) (hw _ (List.mem_of_getElem? (i := 6) rfl)) (hw _ (List.mem_of_getElem? (i := 106) rfl)) (by decide) (c_VALC hw hEL O2 hzc (msk_lat _).1 (msk_lat _).2) rfl (by simp) rfl (lenOf pd_8 rfl) rfl (W := 0) rfl (by first | decide | (dsimp only; omega)) (by first | decide | (dsimp only; omega)) (by first | decide | (dsimp only; omega)) (by first | decide | (dsimp only; omega)) ?_
    rintro _ _ _ ⟨rfl, x, t, cx2, ct, rfl, rfl, hs⟩
    exact OWp.retA hk rfl rfl rfl d_STR_58 (M' := []) (N' := [(x, cx2)]) ⟨rfl, x, cx2, rfl, rfl, hs.1⟩ (List.nil_sublist _) (by simp) (by decide) (by decide)
  refine OWp.icmpYes hk d_STR_51 (XT.ii_ne_t h1) (by decide) (pc' := 59) rfl ?_
  refine OWp.iload_n hk d_STR_59 (pc' := 60) rfl rfl ?_
  refine OWp.iconst hk d_STR_60 (pc' := 61) rfl (z := 2) rfl ?_
  by_cases h2 : q0 &&& 3 = 2
  · refine OWp.icmpNo hk d_STR_61 (XT.ii_ne_f h2) (pc' := 64) rfl ?_
    refine OWp.new hk d_STR_64 (pc' := 67) rfl (hw _ (List.mem_of_getElem? (i := 4) rfl)) (hw _ (List.mem_of_getElem? (i := 5) rfl)) (hw _ (List.mem_of_getElem? (i := 6) rfl)) (by decide) (by decide) ?_
    intro x cx hE hD
    have hV : FC Z cx "java/lang/String" "value" "[B" .null := hD (Or.inr (hw _ (List.mem_of_getElem? (i := 20) rfl))) (ty := .array .byte) (by decide)
    have hC : FC Z cx "java/lang/String" "coder" "B" (.int 0) := hD (Or.inr (hw _ (List.mem_of_getElem? (i := 21) rfl))) (ty := .byte) (by decide)
    refine OWp.dup hk d_STR_67 (pc' := 68) rfl rfl ?_
    refine OWp.iconst hk d_STR_68 (pc' := 69) rfl (z := 2) rfl ?_
    refine OWp.newarray hk d_STR_69 (pc' := 71) rfl (hw _ (List.mem_of_getElem? (i := 7) rfl)) (by decide) (cap := kCap) (by decide) (by decide) (by decide) (by decide) (vs := [.int 0, .int 0]) rfl ?_
    intro b cb hA
    refine OWp.dup hk d_STR_71 (pc' := 72) rfl rfl ?_
    refine OWp.iconst hk d_STR_72 (pc' := 73) rfl (z := 0) rfl ?_
    refine OWp.iload_n hk d_STR_73 (pc' := 74) rfl rfl ?_
    refine OWp.castore hk d_STR_74 (pc' := 75) rfl (i := 0) rfl hA (by decide) (t := 0) (by decide) (Nat.le_of_ble_eq_true rfl) ?_
    clear hA
    intro cb hA
    simp only [List.nil_append, List.cons_append, List.set_cons_zero, List.set_cons_succ] at hA ⊢
    refine OWp.dup hk d_STR_75 (pc' := 76) rfl rfl ?_
    refine OWp.iconst hk d_STR_76 (pc' := 77) rfl (z := 1) rfl ?_
    refine OWp.iload_n hk d_STR_77 (pc' := 78) rfl rfl ?_
    refine OWp.castore hk d_STR_78 (pc' := 79) rfl (i := 0) rfl hA (by decide) (t := 1) (by decide) (Nat.le_of_ble_eq_true rfl) ?_
    clear hA
    intro cb hA
    simp only [List.nil_append, List.cons_append, List.set_cons_zero, List.set_cons_succ] at hA ⊢
    refine OWp.freeze ?_
    refine OWp.callI hk d_STR_79 (pc' := 82) rfl rfl (hw _ (List.mem_of_getElem? (i := 8) rfl)) (hw _ (List.mem_of_getElem? (i := 9) rfl)) (hw _ (List.mem_of_getElem? (i := 6) rfl)) (hw _ (List.mem_of_getElem? (i := 10) rfl)) (by decide) (c_NEW (cs := [_, _]) hw hEL O2 hzc hmem hE hV hC hA (ch_cons _ (ch_cons _ ch_nil (Nat.le_of_ble_eq_true rfl)) (Nat.le_of_ble_eq_true rfl)) (lat_cons (msk_nar _) (lat_cons (msk_nar _) rfl)) (Nat.le_of_ble_eq_true rfl)) rfl (by simp) rfl (lenOf pd_7 rfl) rfl (W := 1) rfl (by first | decide | (dsimp only; omega)) (by first | decide | (dsimp only; omega)) (by first | decide | (dsimp only; omega)) (by first | decide | (dsimp only; omega)) ?_
    rintro _ _ _ ⟨rfl, rfl, t, cx2, ct, rfl, hs⟩
    exact OWp.retA hk rfl rfl rfl d_STR_82 (M' := []) (N' := [(x, cx2)]) ⟨rfl, x, cx2, rfl, rfl, hs.1⟩ (List.nil_sublist _) (by simp) (by decide) (by decide)
  refine OWp.icmpYes hk d_STR_61 (XT.ii_ne_t h2) (by decide) (pc' := 83) rfl ?_
  refine OWp.new hk d_STR_83 (pc' := 86) rfl (hw _ (List.mem_of_getElem? (i := 4) rfl)) (hw _ (List.mem_of_getElem? (i := 5) rfl)) (hw _ (List.mem_of_getElem? (i := 6) rfl)) (by decide) (by decide) ?_
  intro x cx hE hD
  have hV : FC Z cx "java/lang/String" "value" "[B" .null := hD (Or.inr (hw _ (List.mem_of_getElem? (i := 20) rfl))) (ty := .array .byte) (by decide)
  have hC : FC Z cx "java/lang/String" "coder" "B" (.int 0) := hD (Or.inr (hw _ (List.mem_of_getElem? (i := 21) rfl))) (ty := .byte) (by decide)
  refine OWp.dup hk d_STR_86 (pc' := 87) rfl rfl ?_
  refine OWp.iconst hk d_STR_87 (pc' := 88) rfl (z := 3) rfl ?_
  refine OWp.newarray hk d_STR_88 (pc' := 90) rfl (hw _ (List.mem_of_getElem? (i := 7) rfl)) (by decide) (cap := kCap) (by decide) (by decide) (by decide) (by decide) (vs := [.int 0, .int 0, .int 0]) rfl ?_
  intro b cb hA
  refine OWp.dup hk d_STR_90 (pc' := 91) rfl rfl ?_
  refine OWp.iconst hk d_STR_91 (pc' := 92) rfl (z := 0) rfl ?_
  refine OWp.iload_n hk d_STR_92 (pc' := 93) rfl rfl ?_
  refine OWp.castore hk d_STR_93 (pc' := 94) rfl (i := 0) rfl hA (by decide) (t := 0) (by decide) (Nat.le_of_ble_eq_true rfl) ?_
  clear hA
  intro cb hA
  simp only [List.nil_append, List.cons_append, List.set_cons_zero, List.set_cons_succ] at hA ⊢
  refine OWp.dup hk d_STR_94 (pc' := 95) rfl rfl ?_
  refine OWp.iconst hk d_STR_95 (pc' := 96) rfl (z := 1) rfl ?_
  refine OWp.iload_n hk d_STR_96 (pc' := 97) rfl rfl ?_
  refine OWp.castore hk d_STR_97 (pc' := 98) rfl (i := 0) rfl hA (by decide) (t := 1) (by decide) (Nat.le_of_ble_eq_true rfl) ?_
  clear hA
  intro cb hA
  simp only [List.nil_append, List.cons_append, List.set_cons_zero, List.set_cons_succ] at hA ⊢
  refine OWp.dup hk d_STR_98 (pc' := 99) rfl rfl ?_
  refine OWp.iconst hk d_STR_99 (pc' := 100) rfl (z := 2) rfl ?_
  refine OWp.iload hk d_STR_100 (pc' := 102) rfl rfl ?_
  refine OWp.castore hk d_STR_102 (pc' := 103) rfl (i := 0) rfl hA (by decide) (t := 2) (by decide) (Nat.le_of_ble_eq_true rfl) ?_
  clear hA
  intro cb hA
  simp only [List.nil_append, List.cons_append, List.set_cons_zero, List.set_cons_succ] at hA ⊢
  refine OWp.freeze ?_
  refine OWp.callI hk d_STR_103 (pc' := 106) rfl rfl (hw _ (List.mem_of_getElem? (i := 8) rfl)) (hw _ (List.mem_of_getElem? (i := 9) rfl)) (hw _ (List.mem_of_getElem? (i := 6) rfl)) (hw _ (List.mem_of_getElem? (i := 10) rfl)) (by decide) (c_NEW (cs := [_, _, _]) hw hEL O2 hzc hmem hE hV hC hA (ch_cons _ (ch_cons _ (ch_cons _ ch_nil (Nat.le_of_ble_eq_true rfl)) (Nat.le_of_ble_eq_true rfl)) (Nat.le_of_ble_eq_true rfl)) (lat_cons (msk_nar _) (lat_cons (msk_nar _) (lat_cons (msk_nar _) rfl))) (Nat.le_of_ble_eq_true rfl)) rfl (by simp) rfl (lenOf pd_7 rfl) rfl (W := 1) rfl (by first | decide | (dsimp only; omega)) (by first | decide | (dsimp only; omega)) (by first | decide | (dsimp only; omega)) (by first | decide | (dsimp only; omega)) ?_
  rintro _ _ _ ⟨rfl, rfl, t, cx2, ct, rfl, hs⟩
  exact OWp.retA hk rfl rfl rfl d_STR_106 (M' := []) (N' := [(x, cx2)]) ⟨rfl, x, cx2, rfl, rfl, hs.1⟩ (List.nil_sublist _) (by simp) (by decide) (by decide)
theorem c_MOF (hw : ∀ d ∈ tables_1, d.before a0 Z = true) (hEL : EW Z a0 EL) (OM : Sta Z Z.heap "java/util/ImmutableCollections" "EMPTY_MAP" "Ljava/util/ImmutableCollections$MapN;" (.ref am)) :
    OCon l Z EL (⟨"java/util/Map", "of", "()Ljava/util/Map;"⟩ : MethodName) jdk_72_method_26_code 0 (some (.object "java/util/Map")) [] ({ frames := 0, cells := 0, slots := 0, locals := 0 } : Room) #[] [] [] (fun v M N => v = some (.ref am) ∧ M = [] ∧ N = []) := by
  refine OCon.of_wp (L0 := []) pn_MOF hEL (fun m => by first | (simp [entryFrame, mkF, argsToLocals, Value.category]; done) | rfl) ?_
  intro p e s m below meth c hk
  refine OWp.getstatic hk d_MOF_0 (pc' := 3) rfl (hw _ (List.mem_of_getElem? (i := 61) rfl)) OM ?_
  exact OWp.retA hk rfl rfl rfl d_MOF_3 ⟨rfl, rfl, rfl⟩ (List.Sublist.refl _) (fun _ h => h) (by decide) (by decide)
theorem c_LOF (hw : ∀ d ∈ tables_1, d.before a0 Z = true) (hEL : EW Z a0 EL) (OL : Sta Z Z.heap "java/util/ImmutableCollections" "EMPTY_LIST" "Ljava/util/ImmutableCollections$ListN;" (.ref al)) :
    OCon l Z EL (⟨"java/util/List", "of", "()Ljava/util/List;"⟩ : MethodName) jdk_40_method_36_code 0 (some (.object "java/util/List")) [] ({ frames := 0, cells := 0, slots := 0, locals := 0 } : Room) #[] [] [] (fun v M N => v = some (.ref al) ∧ M = [] ∧ N = []) := by
  refine OCon.of_wp (L0 := []) pn_LOF hEL (fun m => by first | (simp [entryFrame, mkF, argsToLocals, Value.category]; done) | rfl) ?_
  intro p e s m below meth c hk
  refine OWp.getstatic hk d_LOF_0 (pc' := 3) rfl (hw _ (List.mem_of_getElem? (i := 69) rfl)) OL ?_
  exact OWp.retA hk rfl rfl rfl d_LOF_3 ⟨rfl, rfl, rfl⟩ (List.Sublist.refl _) (fun _ h => h) (by decide) (by decide)
abbrev qE : String := "com/example/goals_to_queue/goalstoqueue/QueueEntry"
def QEnt (Z : State) (ck : Cell) (v0 v1 v2 v3 v4 : Value) : Prop :=
  EC Z ck "com/example/goals_to_queue/goalstoqueue/QueueEntry" ∧ FC Z ck "com/example/goals_to_queue/goalstoqueue/QueueEntry" "className" "Ljava/lang/String;" v0 ∧ FC Z ck "com/example/goals_to_queue/goalstoqueue/QueueEntry" "handler" "Lcom/example/goals_to_queue/goalstoqueue/NablarchHandler;" v1 ∧
  FC Z ck "com/example/goals_to_queue/goalstoqueue/QueueEntry" "role" "Ljava/lang/String;" v2 ∧ FC Z ck "com/example/goals_to_queue/goalstoqueue/QueueEntry" "reference" "Lcom/example/goals_to_queue/goalstoqueue/DefaultComponent;" v3 ∧ FC Z ck "com/example/goals_to_queue/goalstoqueue/QueueEntry" "customName" "Ljava/lang/String;" v4
set_option maxRecDepth 65536 in
theorem c_QI (hw : ∀ d ∈ tables_1, d.before a0 Z = true) (hEL : EW Z a0 EL) (OM : Sta Z Z.heap "java/util/ImmutableCollections" "EMPTY_MAP" "Ljava/util/ImmutableCollections$MapN;" (.ref am)) (OL : Sta Z Z.heap "java/util/ImmutableCollections" "EMPTY_LIST" "Ljava/util/ImmutableCollections$ListN;" (.ref al))
    (hQ : QEnt Z ck v0 v1 v2 v3 v4) (F_properties : FC Z ck "com/example/goals_to_queue/goalstoqueue/QueueEntry" "properties" "Ljava/util/Map;" v5) (F_askingItems : FC Z ck "com/example/goals_to_queue/goalstoqueue/QueueEntry" "askingItems" "Ljava/util/List;" v6) (F_referredParts : FC Z ck "com/example/goals_to_queue/goalstoqueue/QueueEntry" "referredParts" "Ljava/util/List;" v7) :
    OCon l Z EL (⟨"com/example/goals_to_queue/goalstoqueue/QueueEntry", "<init>", "(Ljava/lang/String;Lcom/example/goals_to_queue/goalstoqueue/NablarchHandler;Ljava/lang/String;Lcom/example/goals_to_queue/goalstoqueue/DefaultComponent;Ljava/lang/String;)V"⟩ : MethodName) prog_26_method_1_code 6 none [] ({ frames := 1, cells := 0, slots := 0, locals := 15 } : Room) #[.ref k, .ref x, .null, .ref z, .null, .ref y] [(k, ck)] []
      (fun v M N => v = none ∧ M = [] ∧ ∃ ck', N = [(k, ck')] ∧ QEnt Z ck' (.ref x) .null (.ref z) .null (.ref y)) := by
  obtain ⟨hE, F_className, F_handler, F_role, F_reference, F_customName⟩ := hQ
  refine OCon.of_wp (L0 := [.val (.ref k), .val (.ref x), .val .null, .val (.ref z), .val .null, .val (.ref y)]) pn_QI hEL (fun m => by first | (simp [entryFrame, mkF, argsToLocals, Value.category]; done) | rfl) ?_
  intro p e s m below meth c hk
  refine OWp.aload_n hk d_QI_0 (pc' := 1) rfl rfl rfl ?_
  refine OWp.initO hk d_QI_1 (pc' := 4) rfl (hw _ (List.mem_of_getElem? (i := 46) rfl)) (hw _ (List.mem_of_getElem? (i := 16) rfl)) (hw _ (List.mem_of_getElem? (i := 17) rfl)) rfl (by first | decide | (dsimp only; omega)) (W := 0) rfl (by first | decide | (dsimp only; omega)) ?_
  refine OWp.aload_n hk d_QI_4 (pc' := 5) rfl rfl rfl ?_
  refine OWp.aload_n hk d_QI_5 (pc' := 6) rfl rfl rfl ?_
  refine OWp.putfield hk d_QI_6 (pc' := 9) rfl (hw _ (List.mem_of_getElem? (i := 47) rfl)) (i := 0) rfl F_className hE (Or.inr ⟨(hw _ (List.mem_of_getElem? (i := 48) rfl)), rfl, rfl⟩) (hw _ (List.mem_of_getElem? (i := 42) rfl)) (ty := (.object "java/lang/String")) (by decide) rfl rfl ?_
  intro ck hE F_className hK
  have F_handler := hK F_handler (slot_ne (Or.inr (hw _ (List.mem_of_getElem? (i := 50) rfl))) (Or.inr (hw _ (List.mem_of_getElem? (i := 48) rfl))) (by decide) (t := (.object "com/example/goals_to_queue/goalstoqueue/NablarchHandler")) (by decide) (t' := (.object "java/lang/String")) (by decide))
  have F_role := hK F_role (slot_ne (Or.inr (hw _ (List.mem_of_getElem? (i := 52) rfl))) (Or.inr (hw _ (List.mem_of_getElem? (i := 48) rfl))) (by decide) (t := (.object "java/lang/String")) (by decide) (t' := (.object "java/lang/String")) (by decide))
  have F_reference := hK F_reference (slot_ne (Or.inr (hw _ (List.mem_of_getElem? (i := 54) rfl))) (Or.inr (hw _ (List.mem_of_getElem? (i := 48) rfl))) (by decide) (t := (.object "com/example/goals_to_queue/goalstoqueue/DefaultComponent")) (by decide) (t' := (.object "java/lang/String")) (by decide))
  have F_customName := hK F_customName (slot_ne (Or.inr (hw _ (List.mem_of_getElem? (i := 56) rfl))) (Or.inr (hw _ (List.mem_of_getElem? (i := 48) rfl))) (by decide) (t := (.object "java/lang/String")) (by decide) (t' := (.object "java/lang/String")) (by decide))
  have F_properties := hK F_properties (slot_ne (Or.inr (hw _ (List.mem_of_getElem? (i := 64) rfl))) (Or.inr (hw _ (List.mem_of_getElem? (i := 48) rfl))) (by decide) (t := (.object "java/util/Map")) (by decide) (t' := (.object "java/lang/String")) (by decide))
  have F_askingItems := hK F_askingItems (slot_ne (Or.inr (hw _ (List.mem_of_getElem? (i := 71) rfl))) (Or.inr (hw _ (List.mem_of_getElem? (i := 48) rfl))) (by decide) (t := (.object "java/util/List")) (by decide) (t' := (.object "java/lang/String")) (by decide))
  have F_referredParts := hK F_referredParts (slot_ne (Or.inr (hw _ (List.mem_of_getElem? (i := 73) rfl))) (Or.inr (hw _ (List.mem_of_getElem? (i := 48) rfl))) (by decide) (t := (.object "java/util/List")) (by decide) (t' := (.object "java/lang/String")) (by decide))
  simp only [List.nil_append, List.cons_append, List.set_cons_zero]
  refine OWp.aload_n hk d_QI_9 (pc' := 10) rfl rfl rfl ?_
  refine OWp.aload_n hk d_QI_10 (pc' := 11) rfl rfl rfl ?_
  refine OWp.putfield hk d_QI_11 (pc' := 14) rfl (hw _ (List.mem_of_getElem? (i := 49) rfl)) (i := 0) rfl F_handler hE (Or.inr ⟨(hw _ (List.mem_of_getElem? (i := 50) rfl)), rfl, rfl⟩) (hw _ (List.mem_of_getElem? (i := 42) rfl)) (ty := (.object "com/example/goals_to_queue/goalstoqueue/NablarchHandler")) (by decide) rfl rfl ?_
  intro ck hE F_handler hK
  have F_className := hK F_className (slot_ne (Or.inr (hw _ (List.mem_of_getElem? (i := 48) rfl))) (Or.inr (hw _ (List.mem_of_getElem? (i := 50) rfl))) (by decide) (t := (.object "java/lang/String")) (by decide) (t' := (.object "com/example/goals_to_queue/goalstoqueue/NablarchHandler")) (by decide))
  have F_role := hK F_role (slot_ne (Or.inr (hw _ (List.mem_of_getElem? (i := 52) rfl))) (Or.inr (hw _ (List.mem_of_getElem? (i := 50) rfl))) (by decide) (t := (.object "java/lang/String")) (by decide) (t' := (.object "com/example/goals_to_queue/goalstoqueue/NablarchHandler")) (by decide))
  have F_reference := hK F_reference (slot_ne (Or.inr (hw _ (List.mem_of_getElem? (i := 54) rfl))) (Or.inr (hw _ (List.mem_of_getElem? (i := 50) rfl))) (by decide) (t := (.object "com/example/goals_to_queue/goalstoqueue/DefaultComponent")) (by decide) (t' := (.object "com/example/goals_to_queue/goalstoqueue/NablarchHandler")) (by decide))
  have F_customName := hK F_customName (slot_ne (Or.inr (hw _ (List.mem_of_getElem? (i := 56) rfl))) (Or.inr (hw _ (List.mem_of_getElem? (i := 50) rfl))) (by decide) (t := (.object "java/lang/String")) (by decide) (t' := (.object "com/example/goals_to_queue/goalstoqueue/NablarchHandler")) (by decide))
  have F_properties := hK F_properties (slot_ne (Or.inr (hw _ (List.mem_of_getElem? (i := 64) rfl))) (Or.inr (hw _ (List.mem_of_getElem? (i := 50) rfl))) (by decide) (t := (.object "java/util/Map")) (by decide) (t' := (.object "com/example/goals_to_queue/goalstoqueue/NablarchHandler")) (by decide))
  have F_askingItems := hK F_askingItems (slot_ne (Or.inr (hw _ (List.mem_of_getElem? (i := 71) rfl))) (Or.inr (hw _ (List.mem_of_getElem? (i := 50) rfl))) (by decide) (t := (.object "java/util/List")) (by decide) (t' := (.object "com/example/goals_to_queue/goalstoqueue/NablarchHandler")) (by decide))
  have F_referredParts := hK F_referredParts (slot_ne (Or.inr (hw _ (List.mem_of_getElem? (i := 73) rfl))) (Or.inr (hw _ (List.mem_of_getElem? (i := 50) rfl))) (by decide) (t := (.object "java/util/List")) (by decide) (t' := (.object "com/example/goals_to_queue/goalstoqueue/NablarchHandler")) (by decide))
  simp only [List.nil_append, List.cons_append, List.set_cons_zero]
  refine OWp.aload_n hk d_QI_14 (pc' := 15) rfl rfl rfl ?_
  refine OWp.aload_n hk d_QI_15 (pc' := 16) rfl rfl rfl ?_
  refine OWp.putfield hk d_QI_16 (pc' := 19) rfl (hw _ (List.mem_of_getElem? (i := 51) rfl)) (i := 0) rfl F_role hE (Or.inr ⟨(hw _ (List.mem_of_getElem? (i := 52) rfl)), rfl, rfl⟩) (hw _ (List.mem_of_getElem? (i := 42) rfl)) (ty := (.object "java/lang/String")) (by decide) rfl rfl ?_
  intro ck hE F_role hK
  have F_className := hK F_className (slot_ne (Or.inr (hw _ (List.mem_of_getElem? (i := 48) rfl))) (Or.inr (hw _ (List.mem_of_getElem? (i := 52) rfl))) (by decide) (t := (.object "java/lang/String")) (by decide) (t' := (.object "java/lang/String")) (by decide))
  have F_handler := hK F_handler (slot_ne (Or.inr (hw _ (List.mem_of_getElem? (i := 50) rfl))) (Or.inr (hw _ (List.mem_of_getElem? (i := 52) rfl))) (by decide) (t := (.object "com/example/goals_to_queue/goalstoqueue/NablarchHandler")) (by decide) (t' := (.object "java/lang/String")) (by decide))
  have F_reference := hK F_reference (slot_ne (Or.inr (hw _ (List.mem_of_getElem? (i := 54) rfl))) (Or.inr (hw _ (List.mem_of_getElem? (i := 52) rfl))) (by decide) (t := (.object "com/example/goals_to_queue/goalstoqueue/DefaultComponent")) (by decide) (t' := (.object "java/lang/String")) (by decide))
  have F_customName := hK F_customName (slot_ne (Or.inr (hw _ (List.mem_of_getElem? (i := 56) rfl))) (Or.inr (hw _ (List.mem_of_getElem? (i := 52) rfl))) (by decide) (t := (.object "java/lang/String")) (by decide) (t' := (.object "java/lang/String")) (by decide))
  have F_properties := hK F_properties (slot_ne (Or.inr (hw _ (List.mem_of_getElem? (i := 64) rfl))) (Or.inr (hw _ (List.mem_of_getElem? (i := 52) rfl))) (by decide) (t := (.object "java/util/Map")) (by decide) (t' := (.object "java/lang/String")) (by decide))
  have F_askingItems := hK F_askingItems (slot_ne (Or.inr (hw _ (List.mem_of_getElem? (i := 71) rfl))) (Or.inr (hw _ (List.mem_of_getElem? (i := 52) rfl))) (by decide) (t := (.object "java/util/List")) (by decide) (t' := (.object "java/lang/String")) (by decide))
  have F_referredParts := hK F_referredParts (slot_ne (Or.inr (hw _ (List.mem_of_getElem? (i := 73) rfl))) (Or.inr (hw _ (List.mem_of_getElem? (i := 52) rfl))) (by decide) (t := (.object "java/util/List")) (by decide) (t' := (.object "java/lang/String")) (by decide))
  simp only [List.nil_append, List.cons_append, List.set_cons_zero]
  refine OWp.aload_n hk d_QI_19 (pc' := 20) rfl rfl rfl ?_
  refine OWp.aload hk d_QI_20 (pc' := 22) rfl rfl rfl ?_
  refine OWp.putfield hk d_QI_22 (pc' := 25) rfl (hw _ (List.mem_of_getElem? (i := 53) rfl)) (i := 0) rfl F_reference hE (Or.inr ⟨(hw _ (List.mem_of_getElem? (i := 54) rfl)), rfl, rfl⟩) (hw _ (List.mem_of_getElem? (i := 42) rfl)) (ty := (.object "com/example/goals_to_queue/goalstoqueue/DefaultComponent")) (by decide) rfl rfl ?_
  intro ck hE F_reference hK
  have F_className := hK F_className (slot_ne (Or.inr (hw _ (List.mem_of_getElem? (i := 48) rfl))) (Or.inr (hw _ (List.mem_of_getElem? (i := 54) rfl))) (by decide) (t := (.object "java/lang/String")) (by decide) (t' := (.object "com/example/goals_to_queue/goalstoqueue/DefaultComponent")) (by decide))
  have F_handler := hK F_handler (slot_ne (Or.inr (hw _ (List.mem_of_getElem? (i := 50) rfl))) (Or.inr (hw _ (List.mem_of_getElem? (i := 54) rfl))) (by decide) (t := (.object "com/example/goals_to_queue/goalstoqueue/NablarchHandler")) (by decide) (t' := (.object "com/example/goals_to_queue/goalstoqueue/DefaultComponent")) (by decide))
  have F_role := hK F_role (slot_ne (Or.inr (hw _ (List.mem_of_getElem? (i := 52) rfl))) (Or.inr (hw _ (List.mem_of_getElem? (i := 54) rfl))) (by decide) (t := (.object "java/lang/String")) (by decide) (t' := (.object "com/example/goals_to_queue/goalstoqueue/DefaultComponent")) (by decide))
  have F_customName := hK F_customName (slot_ne (Or.inr (hw _ (List.mem_of_getElem? (i := 56) rfl))) (Or.inr (hw _ (List.mem_of_getElem? (i := 54) rfl))) (by decide) (t := (.object "java/lang/String")) (by decide) (t' := (.object "com/example/goals_to_queue/goalstoqueue/DefaultComponent")) (by decide))
  have F_properties := hK F_properties (slot_ne (Or.inr (hw _ (List.mem_of_getElem? (i := 64) rfl))) (Or.inr (hw _ (List.mem_of_getElem? (i := 54) rfl))) (by decide) (t := (.object "java/util/Map")) (by decide) (t' := (.object "com/example/goals_to_queue/goalstoqueue/DefaultComponent")) (by decide))
  have F_askingItems := hK F_askingItems (slot_ne (Or.inr (hw _ (List.mem_of_getElem? (i := 71) rfl))) (Or.inr (hw _ (List.mem_of_getElem? (i := 54) rfl))) (by decide) (t := (.object "java/util/List")) (by decide) (t' := (.object "com/example/goals_to_queue/goalstoqueue/DefaultComponent")) (by decide))
  have F_referredParts := hK F_referredParts (slot_ne (Or.inr (hw _ (List.mem_of_getElem? (i := 73) rfl))) (Or.inr (hw _ (List.mem_of_getElem? (i := 54) rfl))) (by decide) (t := (.object "java/util/List")) (by decide) (t' := (.object "com/example/goals_to_queue/goalstoqueue/DefaultComponent")) (by decide))
  simp only [List.nil_append, List.cons_append, List.set_cons_zero]
  refine OWp.aload_n hk d_QI_25 (pc' := 26) rfl rfl rfl ?_
  refine OWp.aload hk d_QI_26 (pc' := 28) rfl rfl rfl ?_
  refine OWp.putfield hk d_QI_28 (pc' := 31) rfl (hw _ (List.mem_of_getElem? (i := 55) rfl)) (i := 0) rfl F_customName hE (Or.inr ⟨(hw _ (List.mem_of_getElem? (i := 56) rfl)), rfl, rfl⟩) (hw _ (List.mem_of_getElem? (i := 42) rfl)) (ty := (.object "java/lang/String")) (by decide) rfl rfl ?_
  intro ck hE F_customName hK
  have F_className := hK F_className (slot_ne (Or.inr (hw _ (List.mem_of_getElem? (i := 48) rfl))) (Or.inr (hw _ (List.mem_of_getElem? (i := 56) rfl))) (by decide) (t := (.object "java/lang/String")) (by decide) (t' := (.object "java/lang/String")) (by decide))
  have F_handler := hK F_handler (slot_ne (Or.inr (hw _ (List.mem_of_getElem? (i := 50) rfl))) (Or.inr (hw _ (List.mem_of_getElem? (i := 56) rfl))) (by decide) (t := (.object "com/example/goals_to_queue/goalstoqueue/NablarchHandler")) (by decide) (t' := (.object "java/lang/String")) (by decide))
  have F_role := hK F_role (slot_ne (Or.inr (hw _ (List.mem_of_getElem? (i := 52) rfl))) (Or.inr (hw _ (List.mem_of_getElem? (i := 56) rfl))) (by decide) (t := (.object "java/lang/String")) (by decide) (t' := (.object "java/lang/String")) (by decide))
  have F_reference := hK F_reference (slot_ne (Or.inr (hw _ (List.mem_of_getElem? (i := 54) rfl))) (Or.inr (hw _ (List.mem_of_getElem? (i := 56) rfl))) (by decide) (t := (.object "com/example/goals_to_queue/goalstoqueue/DefaultComponent")) (by decide) (t' := (.object "java/lang/String")) (by decide))
  have F_properties := hK F_properties (slot_ne (Or.inr (hw _ (List.mem_of_getElem? (i := 64) rfl))) (Or.inr (hw _ (List.mem_of_getElem? (i := 56) rfl))) (by decide) (t := (.object "java/util/Map")) (by decide) (t' := (.object "java/lang/String")) (by decide))
  have F_askingItems := hK F_askingItems (slot_ne (Or.inr (hw _ (List.mem_of_getElem? (i := 71) rfl))) (Or.inr (hw _ (List.mem_of_getElem? (i := 56) rfl))) (by decide) (t := (.object "java/util/List")) (by decide) (t' := (.object "java/lang/String")) (by decide))
  have F_referredParts := hK F_referredParts (slot_ne (Or.inr (hw _ (List.mem_of_getElem? (i := 73) rfl))) (Or.inr (hw _ (List.mem_of_getElem? (i := 56) rfl))) (by decide) (t := (.object "java/util/List")) (by decide) (t' := (.object "java/lang/String")) (by decide))
  simp only [List.nil_append, List.cons_append, List.set_cons_zero]
  refine OWp.aload_n hk d_QI_31 (pc' := 32) rfl rfl rfl ?_
  refine OWp.callS hk d_QI_32 (pc' := 35) rfl (hw _ (List.mem_of_getElem? (i := 57) rfl)) (hw _ (List.mem_of_getElem? (i := 58) rfl)) (hw _ (List.mem_of_getElem? (i := 59) rfl)) (hw _ (List.mem_of_getElem? (i := 60) rfl)) (by decide) (c_MOF hw hEL OM) rfl (by simp) rfl (lenOf pd_9 rfl) rfl (W := 1) rfl (by first | decide | (dsimp only; omega)) (by first | decide | (dsimp only; omega)) (by first | decide | (dsimp only; omega)) (by first | decide | (dsimp only; omega)) ?_
  rintro _ _ _ ⟨rfl, rfl, rfl⟩
  refine OWp.putfield hk d_QI_35 (pc' := 38) rfl (hw _ (List.mem_of_getElem? (i := 63) rfl)) (i := 0) rfl F_properties hE (Or.inr ⟨(hw _ (List.mem_of_getElem? (i := 64) rfl)), rfl, rfl⟩) (hw _ (List.mem_of_getElem? (i := 42) rfl)) (ty := (.object "java/util/Map")) (by decide) rfl rfl ?_
  intro ck hE F_properties hK
  have F_className := hK F_className (slot_ne (Or.inr (hw _ (List.mem_of_getElem? (i := 48) rfl))) (Or.inr (hw _ (List.mem_of_getElem? (i := 64) rfl))) (by decide) (t := (.object "java/lang/String")) (by decide) (t' := (.object "java/util/Map")) (by decide))
  have F_handler := hK F_handler (slot_ne (Or.inr (hw _ (List.mem_of_getElem? (i := 50) rfl))) (Or.inr (hw _ (List.mem_of_getElem? (i := 64) rfl))) (by decide) (t := (.object "com/example/goals_to_queue/goalstoqueue/NablarchHandler")) (by decide) (t' := (.object "java/util/Map")) (by decide))
  have F_role := hK F_role (slot_ne (Or.inr (hw _ (List.mem_of_getElem? (i := 52) rfl))) (Or.inr (hw _ (List.mem_of_getElem? (i := 64) rfl))) (by decide) (t := (.object "java/lang/String")) (by decide) (t' := (.object "java/util/Map")) (by decide))
  have F_reference := hK F_reference (slot_ne (Or.inr (hw _ (List.mem_of_getElem? (i := 54) rfl))) (Or.inr (hw _ (List.mem_of_getElem? (i := 64) rfl))) (by decide) (t := (.object "com/example/goals_to_queue/goalstoqueue/DefaultComponent")) (by decide) (t' := (.object "java/util/Map")) (by decide))
  have F_customName := hK F_customName (slot_ne (Or.inr (hw _ (List.mem_of_getElem? (i := 56) rfl))) (Or.inr (hw _ (List.mem_of_getElem? (i := 64) rfl))) (by decide) (t := (.object "java/lang/String")) (by decide) (t' := (.object "java/util/Map")) (by decide))
  have F_askingItems := hK F_askingItems (slot_ne (Or.inr (hw _ (List.mem_of_getElem? (i := 71) rfl))) (Or.inr (hw _ (List.mem_of_getElem? (i := 64) rfl))) (by decide) (t := (.object "java/util/List")) (by decide) (t' := (.object "java/util/Map")) (by decide))
  have F_referredParts := hK F_referredParts (slot_ne (Or.inr (hw _ (List.mem_of_getElem? (i := 73) rfl))) (Or.inr (hw _ (List.mem_of_getElem? (i := 64) rfl))) (by decide) (t := (.object "java/util/List")) (by decide) (t' := (.object "java/util/Map")) (by decide))
  simp only [List.nil_append, List.cons_append, List.set_cons_zero]
  refine OWp.aload_n hk d_QI_38 (pc' := 39) rfl rfl rfl ?_
  refine OWp.callS hk d_QI_39 (pc' := 42) rfl (hw _ (List.mem_of_getElem? (i := 65) rfl)) (hw _ (List.mem_of_getElem? (i := 66) rfl)) (hw _ (List.mem_of_getElem? (i := 67) rfl)) (hw _ (List.mem_of_getElem? (i := 68) rfl)) (by decide) (c_LOF hw hEL OL) rfl (by simp) rfl (lenOf pd_10 rfl) rfl (W := 1) rfl (by first | decide | (dsimp only; omega)) (by first | decide | (dsimp only; omega)) (by first | decide | (dsimp only; omega)) (by first | decide | (dsimp only; omega)) ?_
  rintro _ _ _ ⟨rfl, rfl, rfl⟩
  refine OWp.putfield hk d_QI_42 (pc' := 45) rfl (hw _ (List.mem_of_getElem? (i := 70) rfl)) (i := 0) rfl F_askingItems hE (Or.inr ⟨(hw _ (List.mem_of_getElem? (i := 71) rfl)), rfl, rfl⟩) (hw _ (List.mem_of_getElem? (i := 42) rfl)) (ty := (.object "java/util/List")) (by decide) rfl rfl ?_
  intro ck hE F_askingItems hK
  have F_className := hK F_className (slot_ne (Or.inr (hw _ (List.mem_of_getElem? (i := 48) rfl))) (Or.inr (hw _ (List.mem_of_getElem? (i := 71) rfl))) (by decide) (t := (.object "java/lang/String")) (by decide) (t' := (.object "java/util/List")) (by decide))
  have F_handler := hK F_handler (slot_ne (Or.inr (hw _ (List.mem_of_getElem? (i := 50) rfl))) (Or.inr (hw _ (List.mem_of_getElem? (i := 71) rfl))) (by decide) (t := (.object "com/example/goals_to_queue/goalstoqueue/NablarchHandler")) (by decide) (t' := (.object "java/util/List")) (by decide))
  have F_role := hK F_role (slot_ne (Or.inr (hw _ (List.mem_of_getElem? (i := 52) rfl))) (Or.inr (hw _ (List.mem_of_getElem? (i := 71) rfl))) (by decide) (t := (.object "java/lang/String")) (by decide) (t' := (.object "java/util/List")) (by decide))
  have F_reference := hK F_reference (slot_ne (Or.inr (hw _ (List.mem_of_getElem? (i := 54) rfl))) (Or.inr (hw _ (List.mem_of_getElem? (i := 71) rfl))) (by decide) (t := (.object "com/example/goals_to_queue/goalstoqueue/DefaultComponent")) (by decide) (t' := (.object "java/util/List")) (by decide))
  have F_customName := hK F_customName (slot_ne (Or.inr (hw _ (List.mem_of_getElem? (i := 56) rfl))) (Or.inr (hw _ (List.mem_of_getElem? (i := 71) rfl))) (by decide) (t := (.object "java/lang/String")) (by decide) (t' := (.object "java/util/List")) (by decide))
  have F_properties := hK F_properties (slot_ne (Or.inr (hw _ (List.mem_of_getElem? (i := 64) rfl))) (Or.inr (hw _ (List.mem_of_getElem? (i := 71) rfl))) (by decide) (t := (.object "java/util/Map")) (by decide) (t' := (.object "java/util/List")) (by decide))
  have F_referredParts := hK F_referredParts (slot_ne (Or.inr (hw _ (List.mem_of_getElem? (i := 73) rfl))) (Or.inr (hw _ (List.mem_of_getElem? (i := 71) rfl))) (by decide) (t := (.object "java/util/List")) (by decide) (t' := (.object "java/util/List")) (by decide))
  simp only [List.nil_append, List.cons_append, List.set_cons_zero]
  refine OWp.aload_n hk d_QI_45 (pc' := 46) rfl rfl rfl ?_
  refine OWp.callS hk d_QI_46 (pc' := 49) rfl (hw _ (List.mem_of_getElem? (i := 65) rfl)) (hw _ (List.mem_of_getElem? (i := 66) rfl)) (hw _ (List.mem_of_getElem? (i := 67) rfl)) (hw _ (List.mem_of_getElem? (i := 68) rfl)) (by decide) (c_LOF hw hEL OL) rfl (by simp) rfl (lenOf pd_10 rfl) rfl (W := 1) rfl (by first | decide | (dsimp only; omega)) (by first | decide | (dsimp only; omega)) (by first | decide | (dsimp only; omega)) (by first | decide | (dsimp only; omega)) ?_
  rintro _ _ _ ⟨rfl, rfl, rfl⟩
  refine OWp.putfield hk d_QI_49 (pc' := 52) rfl (hw _ (List.mem_of_getElem? (i := 72) rfl)) (i := 0) rfl F_referredParts hE (Or.inr ⟨(hw _ (List.mem_of_getElem? (i := 73) rfl)), rfl, rfl⟩) (hw _ (List.mem_of_getElem? (i := 42) rfl)) (ty := (.object "java/util/List")) (by decide) rfl rfl ?_
  intro ck hE F_referredParts hK
  have F_className := hK F_className (slot_ne (Or.inr (hw _ (List.mem_of_getElem? (i := 48) rfl))) (Or.inr (hw _ (List.mem_of_getElem? (i := 73) rfl))) (by decide) (t := (.object "java/lang/String")) (by decide) (t' := (.object "java/util/List")) (by decide))
  have F_handler := hK F_handler (slot_ne (Or.inr (hw _ (List.mem_of_getElem? (i := 50) rfl))) (Or.inr (hw _ (List.mem_of_getElem? (i := 73) rfl))) (by decide) (t := (.object "com/example/goals_to_queue/goalstoqueue/NablarchHandler")) (by decide) (t' := (.object "java/util/List")) (by decide))
  have F_role := hK F_role (slot_ne (Or.inr (hw _ (List.mem_of_getElem? (i := 52) rfl))) (Or.inr (hw _ (List.mem_of_getElem? (i := 73) rfl))) (by decide) (t := (.object "java/lang/String")) (by decide) (t' := (.object "java/util/List")) (by decide))
  have F_reference := hK F_reference (slot_ne (Or.inr (hw _ (List.mem_of_getElem? (i := 54) rfl))) (Or.inr (hw _ (List.mem_of_getElem? (i := 73) rfl))) (by decide) (t := (.object "com/example/goals_to_queue/goalstoqueue/DefaultComponent")) (by decide) (t' := (.object "java/util/List")) (by decide))
  have F_customName := hK F_customName (slot_ne (Or.inr (hw _ (List.mem_of_getElem? (i := 56) rfl))) (Or.inr (hw _ (List.mem_of_getElem? (i := 73) rfl))) (by decide) (t := (.object "java/lang/String")) (by decide) (t' := (.object "java/util/List")) (by decide))
  have F_properties := hK F_properties (slot_ne (Or.inr (hw _ (List.mem_of_getElem? (i := 64) rfl))) (Or.inr (hw _ (List.mem_of_getElem? (i := 73) rfl))) (by decide) (t := (.object "java/util/Map")) (by decide) (t' := (.object "java/util/List")) (by decide))
  have F_askingItems := hK F_askingItems (slot_ne (Or.inr (hw _ (List.mem_of_getElem? (i := 71) rfl))) (Or.inr (hw _ (List.mem_of_getElem? (i := 73) rfl))) (by decide) (t := (.object "java/util/List")) (by decide) (t' := (.object "java/util/List")) (by decide))
  simp only [List.nil_append, List.cons_append, List.set_cons_zero]
  refine OWp.freeze ?_
  exact OWp.ret0 hk d_QI_52 ⟨rfl, rfl, ck, rfl, hE, F_className, F_handler, F_role, F_reference, F_customName⟩ (List.Sublist.refl _) (fun _ h => h) (by decide) (by decide)
theorem c_CC (hw : ∀ d ∈ tables_1, d.before a0 Z = true) (hEL : EW Z a0 EL) (OM : Sta Z Z.heap "java/util/ImmutableCollections" "EMPTY_MAP" "Ljava/util/ImmutableCollections$MapN;" (.ref am)) (OL : Sta Z Z.heap "java/util/ImmutableCollections" "EMPTY_LIST" "Ljava/util/ImmutableCollections$ListN;" (.ref al)) :
    OCon l Z EL (⟨"com/example/goals_to_queue/goalstoqueue/QueueEntry", "customComponent", "(Ljava/lang/String;Ljava/lang/String;Ljava/lang/String;)Lcom/example/goals_to_queue/goalstoqueue/QueueEntry;"⟩ : MethodName) prog_26_method_6_code 3 (some (.object "com/example/goals_to_queue/goalstoqueue/QueueEntry")) [] ({ frames := 2, cells := 1, slots := 8, locals := 40 } : Room) #[.ref x, .ref y, .ref z] [] []
      (fun v M N => M = [] ∧ ∃ k ck', v = some (.ref k) ∧ N = [(k, ck')] ∧ QEnt Z ck' (.ref x) .null (.ref z) .null (.ref y)) := by
  refine OCon.of_wp (L0 := [.val (.ref x), .val (.ref y), .val (.ref z)]) pn_CC hEL (fun m => by first | (simp [entryFrame, mkF, argsToLocals, Value.category]; done) | rfl) ?_
  intro p e s m below meth c hk
  refine OWp.new hk d_CC_0 (pc' := 3) rfl (hw _ (List.mem_of_getElem? (i := 41) rfl)) (hw _ (List.mem_of_getElem? (i := 42) rfl)) (hw _ (List.mem_of_getElem? (i := 39) rfl)) (by decide) (by decide) ?_
  intro k ck hE hD
  have F0 : FC Z ck "com/example/goals_to_queue/goalstoqueue/QueueEntry" "className" "Ljava/lang/String;" .null := hD (Or.inr (hw _ (List.mem_of_getElem? (i := 48) rfl))) (ty := .object "java/lang/String") (by decide)
  have F1 : FC Z ck "com/example/goals_to_queue/goalstoqueue/QueueEntry" "handler" "Lcom/example/goals_to_queue/goalstoqueue/NablarchHandler;" .null := hD (Or.inr (hw _ (List.mem_of_getElem? (i := 50) rfl))) (ty := .object "com/example/goals_to_queue/goalstoqueue/NablarchHandler") (by decide)
  have F2 : FC Z ck "com/example/goals_to_queue/goalstoqueue/QueueEntry" "role" "Ljava/lang/String;" .null := hD (Or.inr (hw _ (List.mem_of_getElem? (i := 52) rfl))) (ty := .object "java/lang/String") (by decide)
  have F3 : FC Z ck "com/example/goals_to_queue/goalstoqueue/QueueEntry" "reference" "Lcom/example/goals_to_queue/goalstoqueue/DefaultComponent;" .null := hD (Or.inr (hw _ (List.mem_of_getElem? (i := 54) rfl))) (ty := .object "com/example/goals_to_queue/goalstoqueue/DefaultComponent") (by decide)
  have F4 : FC Z ck "com/example/goals_to_queue/goalstoqueue/QueueEntry" "customName" "Ljava/lang/String;" .null := hD (Or.inr (hw _ (List.mem_of_getElem? (i := 56) rfl))) (ty := .object "java/lang/String") (by decide)
  have F5 : FC Z ck "com/example/goals_to_queue/goalstoqueue/QueueEntry" "properties" "Ljava/util/Map;" .null := hD (Or.inr (hw _ (List.mem_of_getElem? (i := 64) rfl))) (ty := .object "java/util/Map") (by decide)
  have F6 : FC Z ck "com/example/goals_to_queue/goalstoqueue/QueueEntry" "askingItems" "Ljava/util/List;" .null := hD (Or.inr (hw _ (List.mem_of_getElem? (i := 71) rfl))) (ty := .object "java/util/List") (by decide)
  have F7 : FC Z ck "com/example/goals_to_queue/goalstoqueue/QueueEntry" "referredParts" "Ljava/util/List;" .null := hD (Or.inr (hw _ (List.mem_of_getElem? (i := 73) rfl))) (ty := .object "java/util/List") (by decide)
  refine OWp.dup hk d_CC_3 (pc' := 4) rfl rfl ?_
  refine OWp.aload_n hk d_CC_4 (pc' := 5) rfl rfl rfl ?_
  refine OWp.aconst_null hk d_CC_5 (pc' := 6) rfl ?_
  refine OWp.aload_n hk d_CC_6 (pc' := 7) rfl rfl rfl ?_
  refine OWp.aconst_null hk d_CC_7 (pc' := 8) rfl ?_
  refine OWp.aload_n hk d_CC_8 (pc' := 9) rfl rfl rfl ?_
  refine OWp.callI hk d_CC_9 (pc' := 12) rfl rfl (hw _ (List.mem_of_getElem? (i := 43) rfl)) (hw _ (List.mem_of_getElem? (i := 44) rfl)) (hw _ (List.mem_of_getElem? (i := 39) rfl)) (hw _ (List.mem_of_getElem? (i := 45) rfl)) (by decide) (c_QI hw hEL OM OL ⟨hE, F0, F1, F2, F3, F4⟩ F5 F6 F7) rfl (by simp) rfl (lenOf pd_11 rfl) rfl (W := 1) rfl (by first | decide | (dsimp only; omega)) (by first | decide | (dsimp only; omega)) (by first | decide | (dsimp only; omega)) (by first | decide | (dsimp only; omega)) ?_
  rintro _ _ _ ⟨rfl, rfl, ck2, rfl, hQ⟩
  exact OWp.retA hk rfl rfl rfl d_CC_12 ⟨rfl, k, ck2, rfl, rfl, hQ⟩ (List.Sublist.refl _) (fun _ h => by simpa using h) (by decide) (by decide)
theorem c_GCN (hw : ∀ d ∈ tables_1, d.before a0 Z = true) (hEL : EW Z a0 EL) (hQ : QEnt Z ck (.ref x) v1 v2 v3 v4) :
    OCon l Z EL (⟨"com/example/goals_to_queue/goalstoqueue/QueueEntry", "className", "()Ljava/lang/String;"⟩ : MethodName) prog_26_method_16_code 1 (some (.object "java/lang/String")) [] ({ frames := 0, cells := 0, slots := 0, locals := 0 } : Room) #[.ref k] [] [(k, ck)] (fun v M N => v = some (.ref x) ∧ M = [] ∧ N = []) := by
  refine OCon.of_wp (L0 := [.val (.ref k)]) pn_GCN hEL (fun m => by first | (simp [entryFrame, mkF, argsToLocals, Value.category]; done) | rfl) ?_
  intro p e s m below meth c hk
  refine OWp.aload_n hk d_GCN_0 (pc' := 1) rfl rfl rfl ?_
  refine OWp.getfield hk d_GCN_1 (pc' := 4) rfl (hw _ (List.mem_of_getElem? (i := 47) rfl)) (by simp) hQ.2.1 ?_
  exact OWp.retA hk rfl rfl rfl d_GCN_4 ⟨rfl, rfl, rfl⟩ (List.Sublist.refl _) (fun _ h => h) (by decide) (by decide)
theorem c_GCU (hw : ∀ d ∈ tables_1, d.before a0 Z = true) (hEL : EW Z a0 EL) (hQ : QEnt Z ck v0 v1 v2 v3 (.ref x)) :
    OCon l Z EL (⟨"com/example/goals_to_queue/goalstoqueue/QueueEntry", "customName", "()Ljava/lang/String;"⟩ : MethodName) prog_26_method_24_code 1 (some (.object "java/lang/String")) [] ({ frames := 0, cells := 0, slots := 0, locals := 0 } : Room) #[.ref k] [] [(k, ck)] (fun v M N => v = some (.ref x) ∧ M = [] ∧ N = []) := by
  refine OCon.of_wp (L0 := [.val (.ref k)]) pn_GCU hEL (fun m => by first | (simp [entryFrame, mkF, argsToLocals, Value.category]; done) | rfl) ?_
  intro p e s m below meth c hk
  refine OWp.aload_n hk d_GCU_0 (pc' := 1) rfl rfl rfl ?_
  refine OWp.getfield hk d_GCU_1 (pc' := 4) rfl (hw _ (List.mem_of_getElem? (i := 55) rfl)) (by simp) hQ.2.2.2.2.2 ?_
  exact OWp.retA hk rfl rfl rfl d_GCU_4 ⟨rfl, rfl, rfl⟩ (List.Sublist.refl _) (fun _ h => h) (by decide) (by decide)
theorem c_GRO (hw : ∀ d ∈ tables_1, d.before a0 Z = true) (hEL : EW Z a0 EL) (hQ : QEnt Z ck v0 v1 (.ref x) v3 v4) :
    OCon l Z EL (⟨"com/example/goals_to_queue/goalstoqueue/QueueEntry", "role", "()Ljava/lang/String;"⟩ : MethodName) prog_26_method_20_code 1 (some (.object "java/lang/String")) [] ({ frames := 0, cells := 0, slots := 0, locals := 0 } : Room) #[.ref k] [] [(k, ck)] (fun v M N => v = some (.ref x) ∧ M = [] ∧ N = []) := by
  refine OCon.of_wp (L0 := [.val (.ref k)]) pn_GRO hEL (fun m => by first | (simp [entryFrame, mkF, argsToLocals, Value.category]; done) | rfl) ?_
  intro p e s m below meth c hk
  refine OWp.aload_n hk d_GRO_0 (pc' := 1) rfl rfl rfl ?_
  refine OWp.getfield hk d_GRO_1 (pc' := 4) rfl (hw _ (List.mem_of_getElem? (i := 51) rfl)) (by simp) hQ.2.2.2.1 ?_
  exact OWp.retA hk rfl rfl rfl d_GRO_4 ⟨rfl, rfl, rfl⟩ (List.Sublist.refl _) (fun _ h => h) (by decide) (by decide)
theorem c_GHA (hw : ∀ d ∈ tables_1, d.before a0 Z = true) (hEL : EW Z a0 EL) (hQ : QEnt Z ck v0 .null v2 v3 v4) :
    OCon l Z EL (⟨"com/example/goals_to_queue/goalstoqueue/QueueEntry", "handler", "()Lcom/example/goals_to_queue/goalstoqueue/NablarchHandler;"⟩ : MethodName) prog_26_method_19_code 1 (some (.object "com/example/goals_to_queue/goalstoqueue/NablarchHandler")) [] ({ frames := 0, cells := 0, slots := 0, locals := 0 } : Room) #[.ref k] [] [(k, ck)] (fun v M N => v = some .null ∧ M = [] ∧ N = []) := by
  refine OCon.of_wp (L0 := [.val (.ref k)]) pn_GHA hEL (fun m => by first | (simp [entryFrame, mkF, argsToLocals, Value.category]; done) | rfl) ?_
  intro p e s m below meth c hk
  refine OWp.aload_n hk d_GHA_0 (pc' := 1) rfl rfl rfl ?_
  refine OWp.getfield hk d_GHA_1 (pc' := 4) rfl (hw _ (List.mem_of_getElem? (i := 49) rfl)) (by simp) hQ.2.2.1 ?_
  exact OWp.retA hk rfl rfl rfl d_GHA_4 ⟨rfl, rfl, rfl⟩ (List.Sublist.refl _) (fun _ h => h) (by decide) (by decide)
theorem c_GRE (hw : ∀ d ∈ tables_1, d.before a0 Z = true) (hEL : EW Z a0 EL) (hQ : QEnt Z ck v0 v1 v2 .null v4) :
    OCon l Z EL (⟨"com/example/goals_to_queue/goalstoqueue/QueueEntry", "reference", "()Lcom/example/goals_to_queue/goalstoqueue/DefaultComponent;"⟩ : MethodName) prog_26_method_22_code 1 (some (.object "com/example/goals_to_queue/goalstoqueue/DefaultComponent")) [] ({ frames := 0, cells := 0, slots := 0, locals := 0 } : Room) #[.ref k] [] [(k, ck)] (fun v M N => v = some .null ∧ M = [] ∧ N = []) := by
  refine OCon.of_wp (L0 := [.val (.ref k)]) pn_GRE hEL (fun m => by first | (simp [entryFrame, mkF, argsToLocals, Value.category]; done) | rfl) ?_
  intro p e s m below meth c hk
  refine OWp.aload_n hk d_GRE_0 (pc' := 1) rfl rfl rfl ?_
  refine OWp.getfield hk d_GRE_1 (pc' := 4) rfl (hw _ (List.mem_of_getElem? (i := 53) rfl)) (by simp) hQ.2.2.2.2.1 ?_
  exact OWp.retA hk rfl rfl rfl d_GRE_4 ⟨rfl, rfl, rfl⟩ (List.Sublist.refl _) (fun _ h => h) (by decide) (by decide)
end Own
section Law
variable {l : Launch} {Z : State} {a0 : Array Value} {EL : List (String × Nat)} {zc : Int32} {am al : Addr} {fm : Value}
set_option maxRecDepth 65536 in
theorem c_law (hw : ∀ d ∈ tables_1, d.before a0 Z = true) (hEL : EW Z a0 EL) (O2 : Sta Z Z.heap "java/lang/String" "COMPACT_STRINGS" "Z" (.int zc)) (hzc : ¬ zc = 0)
    (OM : Sta Z Z.heap "java/util/ImmutableCollections" "EMPTY_MAP" "Ljava/util/ImmutableCollections$MapN;" (.ref am)) (OL : Sta Z Z.heap "java/util/ImmutableCollections" "EMPTY_LIST" "Ljava/util/ImmutableCollections$ListN;" (.ref al))
    (hmem : ("java/lang/String", 7) ∈ EL) (p1 p2 p3 : Int32) :
    OCon l Z EL x code maxLocals ret tables_1 room_1 #[.int p1, .int p2, .int p3] [] [] (fun v _ _ => v = some (.int 1)) := by
  refine OCon.of_wp (L0 := [.val (.int p1), .val (.int p2), .val (.int p3), .unset, .unset, .unset, .unset, .unset, .unset, .unset, .unset, .unset]) pn_law hEL (fun m => by first | (simp [entryFrame, mkF, argsToLocals, Value.category, maxLocals]; done) | rfl) ?_
  intro p e s m below meth c hk
  refine OWp.iload_n hk at_0 (pc' := 1) rfl rfl ?_
  refine OWp.callS hk at_1 (pc' := 4) rfl (hw _ (List.mem_of_getElem? (i := 0) rfl)) (hw _ (List.mem_of_getElem? (i := 1) rfl)) (hw _ (List.mem_of_getElem? (i := 2) rfl)) (hw _ (List.mem_of_getElem? (i := 3) rfl)) (by decide) (c_STR hw hEL O2 hzc hmem p1) rfl (by simp) rfl (lenOf pd_12 rfl) rfl (W := 0) rfl (by first | decide | (dsimp only; omega)) (by first | decide | (dsimp only; omega)) (by first | decide | (dsimp only; omega)) (by first | decide | (dsimp only; omega)) ?_
  rintro _ _ _ ⟨rfl, x, cx, rfl, rfl, hx⟩
  refine OWp.astore_n hk at_4 (pc' := 5) rfl (kn := 3) rfl rfl rfl (by simp only [List.set_cons_zero, List.set_cons_succ]; rfl) ?_
  refine OWp.iload_n hk at_5 (pc' := 6) rfl rfl ?_
  refine OWp.callS hk at_6 (pc' := 9) rfl (hw _ (List.mem_of_getElem? (i := 0) rfl)) (hw _ (List.mem_of_getElem? (i := 1) rfl)) (hw _ (List.mem_of_getElem? (i := 2) rfl)) (hw _ (List.mem_of_getElem? (i := 3) rfl)) (by decide) (c_STR hw hEL O2 hzc hmem p2) rfl (by simp) rfl (lenOf pd_12 rfl) rfl (W := 0) rfl (by first | decide | (dsimp only; omega)) (by first | decide | (dsimp only; omega)) (by first | decide | (dsimp only; omega)) (by first | decide | (dsimp only; omega)) ?_
  rintro _ _ _ ⟨rfl, y, cy, rfl, rfl, hy⟩
  refine OWp.astore hk at_9 (pc' := 11) rfl rfl rfl (by simp only [List.set_cons_zero, List.set_cons_succ]; rfl) ?_
  refine OWp.iload_n hk at_11 (pc' := 12) rfl rfl ?_
  refine OWp.callS hk at_12 (pc' := 15) rfl (hw _ (List.mem_of_getElem? (i := 0) rfl)) (hw _ (List.mem_of_getElem? (i := 1) rfl)) (hw _ (List.mem_of_getElem? (i := 2) rfl)) (hw _ (List.mem_of_getElem? (i := 3) rfl)) (by decide) (c_STR hw hEL O2 hzc hmem p3) rfl (by simp) rfl (lenOf pd_12 rfl) rfl (W := 0) rfl (by first | decide | (dsimp only; omega)) (by first | decide | (dsimp only; omega)) (by first | decide | (dsimp only; omega)) (by first | decide | (dsimp only; omega)) ?_
  rintro _ _ _ ⟨rfl, z, cz, rfl, rfl, hz⟩
  refine OWp.astore hk at_15 (pc' := 17) rfl rfl rfl (by simp only [List.set_cons_zero, List.set_cons_succ]; rfl) ?_
  refine OWp.aload_n hk at_17 (pc' := 18) rfl rfl rfl ?_
  refine OWp.aload hk at_18 (pc' := 20) rfl rfl rfl ?_
  refine OWp.aload hk at_20 (pc' := 22) rfl rfl rfl ?_
  refine OWp.callS hk at_22 (pc' := 25) rfl (hw _ (List.mem_of_getElem? (i := 37) rfl)) (hw _ (List.mem_of_getElem? (i := 38) rfl)) (hw _ (List.mem_of_getElem? (i := 39) rfl)) (hw _ (List.mem_of_getElem? (i := 40) rfl)) (by decide) (c_CC hw hEL OM OL) rfl (by simp) rfl (lenOf pd_13 rfl) rfl (W := 0) rfl (by first | decide | (dsimp only; omega)) (by first | decide | (dsimp only; omega)) (by first | decide | (dsimp only; omega)) (by first | decide | (dsimp only; omega)) ?_
  rintro _ _ _ ⟨rfl, k, ck, rfl, rfl, hQ⟩
  refine OWp.astore hk at_25 (pc' := 27) rfl rfl rfl (by simp only [List.set_cons_zero, List.set_cons_succ]; rfl) ?_
  refine OWp.aload_n hk at_27 (pc' := 28) rfl rfl rfl ?_
  refine OWp.aload hk at_28 (pc' := 30) rfl rfl rfl ?_
  refine OWp.callV hk at_30 (pc' := 33) rfl (hw _ (List.mem_of_getElem? (i := 74) rfl)) (hw _ (List.mem_of_getElem? (i := 75) rfl)) (nfs (hw _ (List.mem_of_getElem? (i := 77) rfl))) (hw _ (List.mem_of_getElem? (i := 77) rfl)) (hw _ (List.mem_of_getElem? (i := 76) rfl)) (hw _ (List.mem_of_getElem? (i := 39) rfl)) (hw _ (List.mem_of_getElem? (i := 78) rfl)) (by decide) (by simp) hQ.1 (c_GCN hw hEL hQ) rfl (by simp) rfl (lenOf pd_14 rfl) rfl (W := 1) rfl (by first | decide | (dsimp only; omega)) (by first | decide | (dsimp only; omega)) (by first | decide | (dsimp only; omega)) (by first | decide | (dsimp only; omega)) ?_
  rintro _ _ _ ⟨rfl, rfl, rfl⟩
  refine OWp.callV hk at_33 (pc' := 36) rfl (hw _ (List.mem_of_getElem? (i := 79) rfl)) (hw _ (List.mem_of_getElem? (i := 80) rfl)) (nfs (hw _ (List.mem_of_getElem? (i := 82) rfl))) (hw _ (List.mem_of_getElem? (i := 82) rfl)) (hw _ (List.mem_of_getElem? (i := 81) rfl)) (hw _ (List.mem_of_getElem? (i := 6) rfl)) (hw _ (List.mem_of_getElem? (i := 83) rfl)) (by decide) (by simp) hx (c_EQ hw hEL) rfl (by simp) rfl (lenOf pd_15 rfl) rfl (W := 0) rfl (by first | decide | (dsimp only; omega)) (by first | decide | (dsimp only; omega)) (by first | decide | (dsimp only; omega)) (by first | decide | (dsimp only; omega)) ?_
  rintro _ _ _ ⟨rfl, rfl, rfl⟩
  refine OWp.istore hk at_36 (pc' := 38) rfl rfl (by simp only [List.set_cons_zero, List.set_cons_succ]; rfl) ?_
  refine OWp.aload hk at_38 (pc' := 40) rfl rfl rfl ?_
  refine OWp.aload hk at_40 (pc' := 42) rfl rfl rfl ?_
  refine OWp.callV hk at_42 (pc' := 45) rfl (hw _ (List.mem_of_getElem? (i := 84) rfl)) (hw _ (List.mem_of_getElem? (i := 85) rfl)) (nfs (hw _ (List.mem_of_getElem? (i := 87) rfl))) (hw _ (List.mem_of_getElem? (i := 87) rfl)) (hw _ (List.mem_of_getElem? (i := 86) rfl)) (hw _ (List.mem_of_getElem? (i := 39) rfl)) (hw _ (List.mem_of_getElem? (i := 88) rfl)) (by decide) (by simp) hQ.1 (c_GCU hw hEL hQ) rfl (by simp) rfl (lenOf pd_14 rfl) rfl (W := 1) rfl (by first | decide | (dsimp only; omega)) (by first | decide | (dsimp only; omega)) (by first | decide | (dsimp only; omega)) (by first | decide | (dsimp only; omega)) ?_
  rintro _ _ _ ⟨rfl, rfl, rfl⟩
  refine OWp.callV hk at_45 (pc' := 48) rfl (hw _ (List.mem_of_getElem? (i := 79) rfl)) (hw _ (List.mem_of_getElem? (i := 80) rfl)) (nfs (hw _ (List.mem_of_getElem? (i := 82) rfl))) (hw _ (List.mem_of_getElem? (i := 82) rfl)) (hw _ (List.mem_of_getElem? (i := 81) rfl)) (hw _ (List.mem_of_getElem? (i := 6) rfl)) (hw _ (List.mem_of_getElem? (i := 83) rfl)) (by decide) (by simp) hy (c_EQ hw hEL) rfl (by simp) rfl (lenOf pd_15 rfl) rfl (W := 0) rfl (by first | decide | (dsimp only; omega)) (by first | decide | (dsimp only; omega)) (by first | decide | (dsimp only; omega)) (by first | decide | (dsimp only; omega)) ?_
  rintro _ _ _ ⟨rfl, rfl, rfl⟩
  refine OWp.istore hk at_48 (pc' := 50) rfl rfl (by simp only [List.set_cons_zero, List.set_cons_succ]; rfl) ?_
  refine OWp.aload hk at_50 (pc' := 52) rfl rfl rfl ?_
  refine OWp.aload hk at_52 (pc' := 54) rfl rfl rfl ?_
  refine OWp.callV hk at_54 (pc' := 57) rfl (hw _ (List.mem_of_getElem? (i := 89) rfl)) (hw _ (List.mem_of_getElem? (i := 90) rfl)) (nfs (hw _ (List.mem_of_getElem? (i := 92) rfl))) (hw _ (List.mem_of_getElem? (i := 92) rfl)) (hw _ (List.mem_of_getElem? (i := 91) rfl)) (hw _ (List.mem_of_getElem? (i := 39) rfl)) (hw _ (List.mem_of_getElem? (i := 93) rfl)) (by decide) (by simp) hQ.1 (c_GRO hw hEL hQ) rfl (by simp) rfl (lenOf pd_14 rfl) rfl (W := 1) rfl (by first | decide | (dsimp only; omega)) (by first | decide | (dsimp only; omega)) (by first | decide | (dsimp only; omega)) (by first | decide | (dsimp only; omega)) ?_
  rintro _ _ _ ⟨rfl, rfl, rfl⟩
  refine OWp.callV hk at_57 (pc' := 60) rfl (hw _ (List.mem_of_getElem? (i := 79) rfl)) (hw _ (List.mem_of_getElem? (i := 80) rfl)) (nfs (hw _ (List.mem_of_getElem? (i := 82) rfl))) (hw _ (List.mem_of_getElem? (i := 82) rfl)) (hw _ (List.mem_of_getElem? (i := 81) rfl)) (hw _ (List.mem_of_getElem? (i := 6) rfl)) (hw _ (List.mem_of_getElem? (i := 83) rfl)) (by decide) (by simp) hz (c_EQ hw hEL) rfl (by simp) rfl (lenOf pd_15 rfl) rfl (W := 0) rfl (by first | decide | (dsimp only; omega)) (by first | decide | (dsimp only; omega)) (by first | decide | (dsimp only; omega)) (by first | decide | (dsimp only; omega)) ?_
  rintro _ _ _ ⟨rfl, rfl, rfl⟩
  refine OWp.istore hk at_60 (pc' := 62) rfl rfl (by simp only [List.set_cons_zero, List.set_cons_succ]; rfl) ?_
  refine OWp.aload hk at_62 (pc' := 64) rfl rfl rfl ?_
  refine OWp.callV hk at_64 (pc' := 67) rfl (hw _ (List.mem_of_getElem? (i := 94) rfl)) (hw _ (List.mem_of_getElem? (i := 95) rfl)) (nfs (hw _ (List.mem_of_getElem? (i := 97) rfl))) (hw _ (List.mem_of_getElem? (i := 97) rfl)) (hw _ (List.mem_of_getElem? (i := 96) rfl)) (hw _ (List.mem_of_getElem? (i := 39) rfl)) (hw _ (List.mem_of_getElem? (i := 98) rfl)) (by decide) (by simp) hQ.1 (c_GHA hw hEL hQ) rfl (by simp) rfl (lenOf pd_16 rfl) rfl (W := 0) rfl (by first | decide | (dsimp only; omega)) (by first | decide | (dsimp only; omega)) (by first | decide | (dsimp only; omega)) (by first | decide | (dsimp only; omega)) ?_
  rintro _ _ _ ⟨rfl, rfl, rfl⟩
  refine OWp.nonnullNo hk at_67 (pc' := 70) rfl ?_
  refine OWp.iconst hk at_70 (pc' := 71) rfl (z := 1) rfl ?_
  refine OWp.goto hk at_71 (by decide) (pc' := 75) rfl ?_
  refine OWp.istore hk at_75 (pc' := 77) rfl rfl (by simp only [List.set_cons_zero, List.set_cons_succ]; rfl) ?_
  refine OWp.aload hk at_77 (pc' := 79) rfl rfl rfl ?_
  refine OWp.callV hk at_79 (pc' := 82) rfl (hw _ (List.mem_of_getElem? (i := 99) rfl)) (hw _ (List.mem_of_getElem? (i := 100) rfl)) (nfs (hw _ (List.mem_of_getElem? (i := 102) rfl))) (hw _ (List.mem_of_getElem? (i := 102) rfl)) (hw _ (List.mem_of_getElem? (i := 101) rfl)) (hw _ (List.mem_of_getElem? (i := 39) rfl)) (hw _ (List.mem_of_getElem? (i := 103) rfl)) (by decide) (by simp) hQ.1 (c_GRE hw hEL hQ) rfl (by simp) rfl (lenOf pd_17 rfl) rfl (W := 0) rfl (by first | decide | (dsimp only; omega)) (by first | decide | (dsimp only; omega)) (by first | decide | (dsimp only; omega)) (by first | decide | (dsimp only; omega)) ?_
  rintro _ _ _ ⟨rfl, rfl, rfl⟩
  refine OWp.nonnullNo hk at_82 (pc' := 85) rfl ?_
  refine OWp.iconst hk at_85 (pc' := 86) rfl (z := 1) rfl ?_
  refine OWp.goto hk at_86 (by decide) (pc' := 90) rfl ?_
  refine OWp.istore hk at_90 (pc' := 92) rfl rfl (by simp only [List.set_cons_zero, List.set_cons_succ]; rfl) ?_
  refine OWp.iload hk at_92 (pc' := 94) rfl rfl ?_
  refine OWp.ifNo hk at_94 (XT.i0_eq_f (by decide)) (pc' := 97) rfl ?_
  refine OWp.iload hk at_97 (pc' := 99) rfl rfl ?_
  refine OWp.ifNo hk at_99 (XT.i0_eq_f (by decide)) (pc' := 102) rfl ?_
  refine OWp.iload hk at_102 (pc' := 104) rfl rfl ?_
  refine OWp.ifNo hk at_104 (XT.i0_eq_f (by decide)) (pc' := 107) rfl ?_
  refine OWp.iload hk at_107 (pc' := 109) rfl rfl ?_
  refine OWp.ifNo hk at_109 (XT.i0_eq_f (by decide)) (pc' := 112) rfl ?_
  refine OWp.iload hk at_112 (pc' := 114) rfl rfl ?_
  refine OWp.ifNo hk at_114 (XT.i0_eq_f (by decide)) (pc' := 117) rfl ?_
  refine OWp.iconst hk at_117 (pc' := 118) rfl (z := 1) rfl ?_
  refine OWp.goto hk at_118 (by decide) (pc' := 122) rfl ?_
  exact OWp.retN hk (Or.inl rfl) at_122 (M' := []) (N' := []) rfl (List.nil_sublist _) (by simp) (by decide) (by decide)
set_option maxRecDepth 65536 in
set_option maxHeartbeats 40000000 in
theorem comes_1 {Post : Tables → Env → Array Value → State → Outcome → State → Prop} (hpost : ∀ tb e args s v u, (limb_1_1.after args s (.returned v) u = true ∧ limb_1_2.after args s (.returned v) u = true ∧ True) → ReturnedEndW s (.returned v) u (Jvm.fieldLocs frame_1_writes args s ++ Jvm.arrayLocs frame_1_arrays args s ++ Jvm.staticLocs frame_1_statics s) 32 1216 → Post tb e args s (.returned v) u) :
    ArmFor flags0 classFile x code maxLocals ret World_1 tables_1 room_1 Calls_1 rest_1 Pre_1 Post := by
  intro l hfl _ _ p e ha hc hk s m args below hf hA hF happ hP
  obtain ⟨hcalls, hrest, hpre⟩ := hP
  obtain ⟨-, -, -, hnamed, -, -, -, hat⟩ := (Spec.applies_iff hf).mp happ
  obtain ⟨hg, hn⟩ := and_e (Cond.before_iff.mp (show (Jvm.Cond.and given_1 narrow_1).before args s = true from hpre))
  obtain ⟨g0, r0⟩ := and_e hg
  obtain ⟨q0, r1⟩ := and_e r0
  obtain ⟨q1, r2⟩ := and_e r1
  obtain ⟨w0, w1, w2, rfl⟩ : ∃ w0 w1 w2 : Value, args = #[w0, w1, w2] := by
    have hs : args.size = 3 := by simpa [Cond.value, given_1] using g0
    obtain ⟨L⟩ := args
    match L, hs with
    | [w0, w1, w2], _ => exact ⟨w0, w1, w2, rfl⟩
  have hw := fun d (hd : d ∈ tables_1) => atoms_spec (ws := Jvm.Cond.code x code maxLocals ret :: tables_1) hat d (List.mem_cons_of_mem _ hd)
  obtain ⟨hsets, hown0⟩ := atoms_of _ (rest_1_c_eq ▸ (show rest_1_c.before _ s = true from hrest))
  have hfit : Fit s := fun {y c} hc i hi => by
    obtain ⟨ha, rfl⟩ := Array.getElem?_eq_some_iff.mp hc
    have q := List.all_eq_true.mp ((Array.all_eq_true_iff_forall_mem.mp hF) _ (Array.getElem_mem ha)) i (List.mem_range.mpr hi)
    simpa [Array.getElem?_eq_getElem hi] using q
  obtain ⟨i0, e0⟩ := is_v q0
  obtain rfl : w0 = (.int i0) := Option.some.inj e0
  obtain ⟨i1, e1⟩ := is_v q1
  obtain rfl : w1 = (.int i1) := Option.some.inj e1
  obtain ⟨i2, e2⟩ := is_v r2
  obtain rfl : w2 = (.int i2) := Option.some.inj e2
  obtain ⟨zc, ezc⟩ := is_v (Cond.before_iff.mp (hsets _ (List.mem_of_getElem? (i := 1) rfl)))
  have O2 : Sta s s.heap "java/lang/String" "COMPACT_STRINGS" "Z" (.int zc) := Sta.start ezc (Or.inl (hsets _ (List.mem_of_getElem? (i := 0) rfl)))
  have hzc : ¬ (zc = (0 : Int32)) := gotF (Cond.eq_ints ezc (Term.int_eval (0))) (not_v (Cond.before_iff.mp (hsets _ (List.mem_of_getElem? (i := 2) rfl))))
  obtain ⟨fm, efm, hfm⟩ := isR_v (Cond.before_iff.mp (hsets _ (List.mem_of_getElem? (i := 8) rfl)))
  have O4 : Sta s s.heap "jdk/internal/util/Preconditions" "SIOOBE_FORMATTER" "Ljava/util/function/BiFunction;" fm := Sta.start efm (Or.inl (hsets _ (List.mem_of_getElem? (i := 7) rfl)))
  obtain ⟨am, eam⟩ := exa_v (Cond.before_iff.mp (hsets _ (List.mem_of_getElem? (i := 11) rfl)))
  have OM : Sta s s.heap "java/util/ImmutableCollections" "EMPTY_MAP" "Ljava/util/ImmutableCollections$MapN;" (.ref am) := Sta.start eam (Or.inl (hsets _ (List.mem_of_getElem? (i := 10) rfl)))
  obtain ⟨al, eal⟩ := exa_v (Cond.before_iff.mp (hsets _ (List.mem_of_getElem? (i := 18) rfl)))
  have OL : Sta s s.heap "java/util/ImmutableCollections" "EMPTY_LIST" "Ljava/util/ImmutableCollections$ListN;" (.ref al) := Sta.start eal (Or.inl (hsets _ (List.mem_of_getElem? (i := 17) rfl)))
  have hEL : EW s #[.int i0, .int i1, .int i2] consts_1 := (EW.cons (hw _ (List.mem_of_getElem? (i := 18) rfl)) (by decide) EW.nil)
  have hCH : CHv s consts_1 s.vm s.heap := CHv.start hEL (fun p hp => hcalls.1 p hp) (hsets _ (List.mem_of_getElem? (i := 2) rfl)) (hw _ (List.mem_of_getElem? (i := 19) rfl)) (hw _ (List.mem_of_getElem? (i := 5) rfl))
  have I0 : OInv s consts_1 s.vm s.heap (dom []) s.vm s.heap [] [] [] := ⟨CHr.refl hCH, ext_refl _, fun _ h => (nomatch h), List.nodup_nil, fun _ h => (nomatch h), fun _ h => (nomatch h)⟩
  obtain ⟨n, o, h1, h2, h3, v, L, rfl, ⟨M, N, rfl, -⟩, -, hL, hq⟩ := c_law (l := l) hw hEL O2 hzc OM OL (List.mem_of_getElem? (i := 0) rfl) i0 i1 i2 p e ha hc hk s m _ below hf ((Spec.applies_iff_loose hf).mp happ).1 ⟨rfl, State.Warmed39.refl s, I0⟩ trivial
  refine ⟨n, _, h1, h2, h3, hpost _ _ _ _ _ _ ⟨Cond.after_iff.mpr rfl, Cond.after_iff.mpr (eq_i res_at (Term.int_eval (1)) rfl), trivial⟩ ⟨hq.1, hq.2.1, hq.2.2.1, (hq.2.2.2.sift fun y hy => Or.inr ((hL y hy).elim id fun z => (nomatch z))).mono (by decide) (by decide)⟩⟩
theorem main_1_1 : Claimed_1_1 := comes_1 fun _ _ _ _ _ _ h hF => ⟨h.1, hF⟩
theorem main_1_2 : Claimed_1_2 := comes_1 fun _ _ _ _ _ _ h hF => ⟨h.2.1, hF⟩
end Law
end Jvm.Pilot.@@N@@
namespace Jvm.Pilot.@@N@@
open Jvm Jvm.ClassFile Sem Op Lib Jvm.Free Jvm.Stand Jvm.Pilot.@@N@@.Jvm.D
/-! MADE BY PROGRAM (witnessworld.py) out of the Statement's table words and the real class files: 35 classes; the members and pool entries that the words name. The judged class is class 1, her method 2. -/
namespace start1
open Jvm.ClassFile
def u (s : String) : CpInfo := .utf8 (stringToUtf16 s)
/-- a pool by its gaps: so many unusable entries, then the entry; so many at the end -/
def gap : Nat → List CpInfo → List CpInfo
  | 0, r => r
  | n + 1, r => .unusable :: gap n r
def poolList (es : List (Nat × CpInfo)) (last : Nat) : List CpInfo := es.foldr (fun e r => gap e.1 (e.2 :: r)) (gap last [])
def pool (es : List (Nat × CpInfo)) (last : Nat) : Array CpInfo := ⟨poolList es last⟩
def fileOf (pool : Array CpInfo) (this : Nat) (attrs : Array Attribute := #[]) (ms : Array MethodInfo := #[]) (fl : Nat := 33) (sup : Nat := 0) (ifs : Array Nat := #[]) (fds : Array FieldInfo := #[]) : ClassFile where
  minorVersion := 0
  majorVersion := 65
  constantPool := pool
  accessFlags := fl
  thisClass := this
  superClass := sup
  interfaces := ifs
  fields := fds
  methods := ms
  attributes := attrs
def plain (name : String) (sup : Option ClassId) : Class where
  name := name
  kind := .ordinary
  loader := none
  accessFlags := 33
  super := sup
  interfaces := #[]
  cf := none
  fields := #[]
  methods := #[]
  instanceTypes := #[]
  staticTypes := #[]
  resolved := #[]
  callSites := []
  init := .initialized
  statics := none
  mirror := none

def pool0 : Array CpInfo := pool [(5, u "<init>"), (0, u "()V"), (1, .class_ 10), (1, u "java/lang/Object")] 113

def k0c0 : Code := { maxStack := 0, maxLocals := 1, code := object_method_1_code, exceptionTable := #[], attributes := #[] }
def k0m0 : Method := { name := "<init>", desc := "()V", sig := { parameters := [], returnType := none }, accessFlags := 1, code := some k0c0 }
/-- java/lang/Object -/
def k0 : Class := { plain "java/lang/Object" none with
  accessFlags := 33
  interfaces := #[]
  cf := some (fileOf pool0 8 #[] #[{ accessFlags := 1, nameIndex := 5, descriptorIndex := 6, attributes := #[] }] 33 0 #[] #[])
  fields := #[]
  methods := #[k0m0]
  instanceTypes := #[]
  staticTypes := #[]
  resolved := Array.replicate 124 none
  statics := none }

def pool1 : Array CpInfo := pool [(2, .class_ 4), (1, u "java/lang/Object"), (0, u "<init>"), (0, u "()V"), (0, .class_ 8), (0, u "java/lang/String"), (0, .methodref 7 10), (0, .nameAndType 5 11), (0, u "([C)V"), (0, .methodref 7 13), (0, .nameAndType 14 15), (0, u "valueOf"), (0, u "(C)Ljava/lang/String;"), (0, .methodref 17 18), (0, .class_ 19), (0, .nameAndType 20 21), (0, u "com/example/goals_to_queue/goalstoqueue/QueueEntryCustomComponentPinLaw"), (0, u "str"), (0, u "(I)Ljava/lang/String;"), (0, .methodref 23 24), (0, .class_ 25), (0, .nameAndType 26 27), (0, u "com/example/goals_to_queue/goalstoqueue/QueueEntry"), (0, u "customComponent"), (0, u "(Ljava/lang/String;Ljava/lang/String;Ljava/lang/String;)Lcom/example/goals_to_queue/goalstoqueue/QueueEntry;"), (0, .methodref 23 29), (0, .nameAndType 30 31), (0, u "className"), (0, u "()Ljava/lang/String;"), (0, .methodref 7 33), (0, .nameAndType 34 35), (0, u "equals"), (0, u "(Ljava/lang/Object;)Z"), (0, .methodref 23 37), (0, .nameAndType 38 31), (0, u "customName"), (0, .methodref 23 40), (0, .nameAndType 41 31), (0, u "role"), (0, .methodref 23 43), (0, .nameAndType 44 45), (0, u "handler"), (0, u "()Lcom/example/goals_to_queue/goalstoqueue/NablarchHandler;"), (0, .methodref 23 47), (0, .nameAndType 48 49), (0, u "reference"), (0, u "()Lcom/example/goals_to_queue/goalstoqueue/DefaultComponent;"), (3, u "law"), (0, u "(III)Z")] 2

def k1m0 : Method := { name := "<init>", desc := "()V", sig := { parameters := [], returnType := none }, accessFlags := 1, code := none }
def k1c1 : Code := { maxStack := 6, maxLocals := 5, code := method_2_code, exceptionTable := #[], attributes := #[] }
def k1m1 : Method := { name := "str", desc := "(I)Ljava/lang/String;", sig := { parameters := [.int], returnType := some (.object "java/lang/String") }, accessFlags := 10, code := some k1c1 }
def k1c2 : Code := { maxStack := 3, maxLocals := 12, code := code, exceptionTable := #[], attributes := #[] }
def k1m2 : Method := { name := "law", desc := "(III)Z", sig := { parameters := [.int, .int, .int], returnType := some .boolean }, accessFlags := 9, code := some k1c2 }
/-- com/example/goals_to_queue/goalstoqueue/QueueEntryCustomComponentPinLaw -/
def k1 : Class := { plain "com/example/goals_to_queue/goalstoqueue/QueueEntryCustomComponentPinLaw" (some 0) with
  accessFlags := 49
  interfaces := #[]
  cf := some (fileOf pool1 17 #[] #[{ accessFlags := 1, nameIndex := 5, descriptorIndex := 6, attributes := #[] }, { accessFlags := 10, nameIndex := 20, descriptorIndex := 21, attributes := #[] }, { accessFlags := 9, nameIndex := 53, descriptorIndex := 54, attributes := #[] }] 49 2 #[] #[])
  fields := #[]
  methods := #[k1m0, k1m1, k1m2]
  instanceTypes := #[]
  staticTypes := #[]
  resolved := Array.replicate 57 none
  statics := none }

def pool2 : Array CpInfo := pool [(1, .class_ 2), (0, u "java/io/Serializable"), (0, .class_ 4), (0, u "java/lang/Object")] 2

/-- java/io/Serializable -/
def k2 : Class := { plain "java/io/Serializable" (some 0) with
  accessFlags := 1537
  interfaces := #[]
  cf := some (fileOf pool2 1 #[] #[] 1537 3 #[] #[])
  fields := #[]
  methods := #[]
  instanceTypes := #[]
  staticTypes := #[]
  resolved := Array.replicate 7 none
  statics := none }

def pool3 : Array CpInfo := pool [(1, .class_ 2), (0, u "java/lang/Comparable"), (0, .class_ 4), (0, u "java/lang/Object")] 7

/-- java/lang/Comparable -/
def k3 : Class := { plain "java/lang/Comparable" (some 0) with
  accessFlags := 1537
  interfaces := #[]
  cf := some (fileOf pool3 1 #[] #[] 1537 3 #[] #[])
  fields := #[]
  methods := #[]
  instanceTypes := #[]
  staticTypes := #[]
  resolved := Array.replicate 12 none
  statics := none }

def pool4 : Array CpInfo := pool [(2, .class_ 4), (1, u "java/lang/CharSequence"), (42, .class_ 48), (0, u "java/lang/CharSequence$1CodePointIterator"), (10, .class_ 60), (0, u "java/lang/CharSequence$1CharIterator"), (5, .class_ 67), (0, u "java/lang/Object")] 63

/-- java/lang/CharSequence -/
def k4 : Class := { plain "java/lang/CharSequence" (some 0) with
  accessFlags := 1537
  interfaces := #[]
  cf := some (fileOf pool4 2 #[.nestMembers #[47, 59]] #[] 1537 66 #[] #[])
  fields := #[]
  methods := #[]
  instanceTypes := #[]
  staticTypes := #[]
  resolved := Array.replicate 131 none
  statics := none }

def pool5 : Array CpInfo := pool [(1, .class_ 2), (0, u "java/lang/constant/Constable"), (0, .class_ 4), (0, u "java/lang/Object")] 6

/-- java/lang/constant/Constable -/
def k5 : Class := { plain "java/lang/constant/Constable" (some 0) with
  accessFlags := 1537
  interfaces := #[]
  cf := some (fileOf pool5 1 #[] #[] 1537 3 #[] #[])
  fields := #[]
  methods := #[]
  instanceTypes := #[]
  staticTypes := #[]
  resolved := Array.replicate 11 none
  statics := none }

def pool6 : Array CpInfo := pool [(1, .class_ 2), (0, u "java/lang/constant/ConstantDesc"), (0, .class_ 4), (0, u "java/lang/Object")] 32

/-- java/lang/constant/ConstantDesc -/
def k6 : Class := { plain "java/lang/constant/ConstantDesc" (some 0) with
  accessFlags := 1537
  interfaces := #[]
  cf := some (fileOf pool6 1 #[] #[] 1537 3 #[] #[])
  fields := #[]
  methods := #[]
  instanceTypes := #[]
  staticTypes := #[]
  resolved := Array.replicate 37 none
  statics := none }

def pool7 : Array CpInfo := pool [(1, .methodref 2 3), (0, .class_ 4), (0, .nameAndType 5 6), (0, u "java/lang/Object"), (0, u "<init>"), (0, u "()V"), (0, .string 8), (0, u ""), (0, .fieldref 10 11), (0, .class_ 12), (0, .nameAndType 13 14), (0, u "java/lang/String"), (0, u "value"), (0, u "[B"), (0, .fieldref 10 16), (0, .nameAndType 17 18), (0, u "coder"), (0, u "B"), (2, u "hash"), (0, u "I"), (2, u "hashIsZero"), (0, u "Z"), (0, .methodref 10 28), (0, .nameAndType 5 29), (0, u "([CIILjava/lang/Void;)V"), (8, .fieldref 10 39), (0, .nameAndType 40 26), (0, u "COMPACT_STRINGS"), (1, .class_ 44), (1, u "java/lang/StringUTF16"), (0, u "compress"), (1, .methodref 42 48), (0, .nameAndType 49 50), (0, u "coderFromArrayLen"), (0, u "([BI)B"), (2, u "toBytes"), (53, .class_ 109), (1, u "java/lang/StringLatin1"), (67, .methodref 42 178), (0, .nameAndType 45 179), (0, u "([CII)[B"), (29, .methodref 10 210), (0, .nameAndType 5 211), (0, u "([BB)V"), (157, u "(C)Z"), (173, u "equals"), (29, u "(Ljava/lang/Object;)Z"), (1, .class_ 576), (0, u "java/lang/CharSequence"), (22, u "CASE_INSENSITIVE_ORDER"), (0, u "Ljava/util/Comparator;"), (181, u "valueOf"), (0, u "(C)Ljava/lang/String;"), (226, u "([C)V"), (4, .methodref 107 1016), (0, .nameAndType 1017 369), (0, u "canEncode"), (0, .methodref 107 1019), (0, .nameAndType 53 1020), (0, u "(C)[B"), (80, u "serialPersistentFields"), (0, u "[Ljava/io/ObjectStreamField;"), (0, .class_ 1104), (0, u "java/lang/String$CaseInsensitiveComparator"), (1, .class_ 1107), (0, u "java/io/Serializable"), (0, .class_ 1109), (0, u "java/lang/Comparable"), (0, .class_ 1111), (0, u "java/lang/constant/Constable"), (0, .class_ 1113), (0, u "java/lang/constant/ConstantDesc"), (2, u "serialVersionUID"), (0, u "J"), (3, u "REPL"), (0, u "C"), (2, u "LATIN1"), (1, u "UTF16")] 323

def k7m0 : Method := { name := "<init>", desc := "()V", sig := { parameters := [], returnType := none }, accessFlags := 1, code := none }
def k7c1 : Code := { maxStack := 5, maxLocals := 2, code := jdk_42_method_3_code, exceptionTable := #[], attributes := #[] }
def k7m1 : Method := { name := "<init>", desc := "([C)V", sig := { parameters := [(.array .char)], returnType := none }, accessFlags := 1, code := some k7c1 }
def k7c2 : Code := { maxStack := 2, maxLocals := 3, code := jdk_42_method_66_code, exceptionTable := #[], attributes := #[] }
def k7m2 : Method := { name := "equals", desc := "(Ljava/lang/Object;)Z", sig := { parameters := [(.object "java/lang/Object")], returnType := some .boolean }, accessFlags := 1, code := some k7c2 }
def k7c3 : Code := { maxStack := 4, maxLocals := 1, code := jdk_42_method_139_code, exceptionTable := #[], attributes := #[] }
def k7m3 : Method := { name := "valueOf", desc := "(C)Ljava/lang/String;", sig := { parameters := [.char], returnType := some (.object "java/lang/String") }, accessFlags := 9, code := some k7c3 }
def k7c4 : Code := { maxStack := 4, maxLocals := 6, code := jdk_42_method_149_code, exceptionTable := #[], attributes := #[] }
def k7m4 : Method := { name := "<init>", desc := "([CIILjava/lang/Void;)V", sig := { parameters := [(.array .char), .int, .int, (.object "java/lang/Void")], returnType := none }, accessFlags := 2, code := some k7c4 }
def k7c5 : Code := { maxStack := 2, maxLocals := 3, code := jdk_42_method_151_code, exceptionTable := #[], attributes := #[] }
def k7m5 : Method := { name := "<init>", desc := "([BB)V", sig := { parameters := [(.array .byte), .byte], returnType := none }, accessFlags := 0, code := some k7c5 }
/-- java/lang/String -/
def k7 : Class := { plain "java/lang/String" (some 0) with
  accessFlags := 49
  interfaces := #[2, 3, 4, 5, 6]
  cf := some (fileOf pool7 10 #[.nestMembers #[1103]] #[{ accessFlags := 1, nameIndex := 5, descriptorIndex := 6, attributes := #[] }, { accessFlags := 1, nameIndex := 5, descriptorIndex := 1010, attributes := #[] }, { accessFlags := 1, nameIndex := 543, descriptorIndex := 573, attributes := #[] }, { accessFlags := 9, nameIndex := 782, descriptorIndex := 783, attributes := #[] }, { accessFlags := 2, nameIndex := 5, descriptorIndex := 29, attributes := #[] }, { accessFlags := 0, nameIndex := 5, descriptorIndex := 211, attributes := #[] }] 49 2 #[1106, 1108, 575, 1110, 1112] #[{ accessFlags := 18, nameIndex := 13, descriptorIndex := 14, attributes := #[] }, { accessFlags := 18, nameIndex := 17, descriptorIndex := 18, attributes := #[] }, { accessFlags := 2, nameIndex := 21, descriptorIndex := 22, attributes := #[] }, { accessFlags := 2, nameIndex := 25, descriptorIndex := 26, attributes := #[] }, { accessFlags := 26, nameIndex := 1116, descriptorIndex := 1117, attributes := #[] }, { accessFlags := 24, nameIndex := 40, descriptorIndex := 26, attributes := #[] }, { accessFlags := 26, nameIndex := 1101, descriptorIndex := 1102, attributes := #[] }, { accessFlags := 26, nameIndex := 1121, descriptorIndex := 1122, attributes := #[] }, { accessFlags := 25, nameIndex := 599, descriptorIndex := 600, attributes := #[] }, { accessFlags := 24, nameIndex := 1125, descriptorIndex := 18, attributes := #[] }, { accessFlags := 24, nameIndex := 1127, descriptorIndex := 18, attributes := #[] }])
  fields := #[{ name := "value", type := (.array .byte), accessFlags := 18, slot := 0, constantValue := 0 }, { name := "coder", type := .byte, accessFlags := 18, slot := 1, constantValue := 0 }, { name := "hash", type := .int, accessFlags := 2, slot := 2, constantValue := 0 }, { name := "hashIsZero", type := .boolean, accessFlags := 2, slot := 3, constantValue := 0 }, { name := "serialVersionUID", type := .long, accessFlags := 26, slot := 0, constantValue := 0 }, { name := "COMPACT_STRINGS", type := .boolean, accessFlags := 24, slot := 1, constantValue := 0 }, { name := "serialPersistentFields", type := (.array (.object "java/io/ObjectStreamField")), accessFlags := 26, slot := 2, constantValue := 0 }, { name := "REPL", type := .char, accessFlags := 26, slot := 3, constantValue := 0 }, { name := "CASE_INSENSITIVE_ORDER", type := (.object "java/util/Comparator"), accessFlags := 25, slot := 4, constantValue := 0 }, { name := "LATIN1", type := .byte, accessFlags := 24, slot := 5, constantValue := 0 }, { name := "UTF16", type := .byte, accessFlags := 24, slot := 6, constantValue := 0 }]
  methods := #[k7m0, k7m1, k7m2, k7m3, k7m4, k7m5]
  instanceTypes := #[(.array .byte), .byte, .int, .boolean]
  staticTypes := #[.long, .boolean, (.array (.object "java/io/ObjectStreamField")), .char, (.object "java/util/Comparator"), .byte, .byte]
  resolved := Array.replicate 1451 none
  statics := some 0 }

def pool8 : Array CpInfo := pool [(6, .class_ 8), (1, u "java/lang/Object"), (0, u "<init>"), (0, u "()V"), (1, .class_ 14), (1, u "java/lang/StringUTF16"), (31, u "$assertionsDisabled"), (0, u "Z"), (13, u "HI_BYTE_SHIFT"), (0, u "I"), (2, u "LO_BYTE_SHIFT"), (49, .methodref 12 116), (0, .nameAndType 117 118), (0, u "compress"), (0, u "([CI[BII)I"), (3, u "([CII)[B"), (138, u "coderFromArrayLen"), (0, u "([BI)B"), (106, .class_ 371), (1, u "java/lang/StringUTF16$LinesSpliterator"), (58, u "MAX_LENGTH"), (196, .class_ 628), (0, u "java/lang/StringUTF16$CodePointsSpliterator"), (0, .class_ 630), (0, u "java/lang/StringUTF16$CharsSpliterator")] 4

def k8m0 : Method := { name := "<init>", desc := "()V", sig := { parameters := [], returnType := none }, accessFlags := 0, code := none }
def k8c1 : Code := { maxStack := 2, maxLocals := 2, code := jdk_52_method_15_code, exceptionTable := #[], attributes := #[] }
def k8m1 : Method := { name := "coderFromArrayLen", desc := "([BI)B", sig := { parameters := [(.array .byte), .int], returnType := some .byte }, accessFlags := 8, code := some k8c1 }
def k8c2 : Code := { maxStack := 5, maxLocals := 6, code := jdk_52_method_16_code, exceptionTable := #[], attributes := #[] }
def k8m2 : Method := { name := "compress", desc := "([CII)[B", sig := { parameters := [(.array .char), .int, .int], returnType := some (.array .byte) }, accessFlags := 9, code := some k8c2 }
def k8c3 : Code := { maxStack := 3, maxLocals := 7, code := jdk_52_method_21_code, exceptionTable := #[], attributes := #[] }
def k8m3 : Method := { name := "compress", desc := "([CI[BII)I", sig := { parameters := [(.array .char), .int, (.array .byte), .int, .int], returnType := some .int }, accessFlags := 9, code := some k8c3 }
/-- java/lang/StringUTF16 -/
def k8 : Class := { plain "java/lang/StringUTF16" (some 0) with
  accessFlags := 48
  interfaces := #[]
  cf := some (fileOf pool8 12 #[.nestMembers #[627, 629, 369]] #[{ accessFlags := 0, nameIndex := 9, descriptorIndex := 10, attributes := #[] }, { accessFlags := 8, nameIndex := 261, descriptorIndex := 262, attributes := #[] }, { accessFlags := 9, nameIndex := 117, descriptorIndex := 122, attributes := #[] }, { accessFlags := 9, nameIndex := 117, descriptorIndex := 118, attributes := #[] }] 48 6 #[] #[{ accessFlags := 26, nameIndex := 61, descriptorIndex := 62, attributes := #[] }, { accessFlags := 26, nameIndex := 65, descriptorIndex := 62, attributes := #[] }, { accessFlags := 24, nameIndex := 430, descriptorIndex := 62, attributes := #[] }, { accessFlags := 4120, nameIndex := 46, descriptorIndex := 47, attributes := #[] }])
  fields := #[{ name := "HI_BYTE_SHIFT", type := .int, accessFlags := 26, slot := 0, constantValue := 0 }, { name := "LO_BYTE_SHIFT", type := .int, accessFlags := 26, slot := 1, constantValue := 0 }, { name := "MAX_LENGTH", type := .int, accessFlags := 24, slot := 2, constantValue := 0 }, { name := "$assertionsDisabled", type := .boolean, accessFlags := 4120, slot := 3, constantValue := 0 }]
  methods := #[k8m0, k8m1, k8m2, k8m3]
  instanceTypes := #[]
  staticTypes := #[.int, .int, .int, .boolean]
  resolved := Array.replicate 635 none
  statics := none }

def pool9 : Array CpInfo := pool [(1, .methodref 2 3), (0, .class_ 4), (0, .nameAndType 5 6), (0, u "java/lang/Object"), (0, u "<init>"), (0, u "()V"), (0, .fieldref 8 9), (0, .class_ 10), (0, .nameAndType 11 12), (0, u "com/example/goals_to_queue/goalstoqueue/QueueEntry"), (0, u "className"), (0, u "Ljava/lang/String;"), (0, .fieldref 8 14), (0, .nameAndType 15 16), (0, u "handler"), (0, u "Lcom/example/goals_to_queue/goalstoqueue/NablarchHandler;"), (0, .fieldref 8 18), (0, .nameAndType 19 12), (0, u "role"), (0, .fieldref 8 21), (0, .nameAndType 22 23), (0, u "reference"), (0, u "Lcom/example/goals_to_queue/goalstoqueue/DefaultComponent;"), (0, .fieldref 8 25), (0, .nameAndType 26 12), (0, u "customName"), (0, .interfaceMethodref 28 29), (0, .class_ 30), (0, .nameAndType 31 32), (0, u "java/util/Map"), (0, u "of"), (0, u "()Ljava/util/Map;"), (0, .fieldref 8 34), (0, .nameAndType 35 36), (0, u "properties"), (0, u "Ljava/util/Map;"), (0, .interfaceMethodref 38 39), (0, .class_ 40), (0, .nameAndType 31 41), (0, u "java/util/List"), (0, u "()Ljava/util/List;"), (0, .fieldref 8 43), (0, .nameAndType 44 45), (0, u "askingItems"), (0, u "Ljava/util/List;"), (0, .fieldref 8 47), (0, .nameAndType 48 45), (0, u "referredParts"), (19, u "()Ljava/lang/String;"), (2, .methodref 8 72), (0, .nameAndType 5 73), (0, u "(Ljava/lang/String;Lcom/example/goals_to_queue/goalstoqueue/NablarchHandler;Ljava/lang/String;Lcom/example/goals_to_queue/goalstoqueue/DefaultComponent;Ljava/lang/String;)V"), (7, u "()Lcom/example/goals_to_queue/goalstoqueue/NablarchHandler;"), (117, u "customComponent"), (0, u "(Ljava/lang/String;Ljava/lang/String;Ljava/lang/String;)Lcom/example/goals_to_queue/goalstoqueue/QueueEntry;"), (11, u "()Lcom/example/goals_to_queue/goalstoqueue/DefaultComponent;")] 26

def k9c0 : Code := { maxStack := 2, maxLocals := 6, code := prog_26_method_1_code, exceptionTable := #[], attributes := #[] }
def k9m0 : Method := { name := "<init>", desc := "(Ljava/lang/String;Lcom/example/goals_to_queue/goalstoqueue/NablarchHandler;Ljava/lang/String;Lcom/example/goals_to_queue/goalstoqueue/DefaultComponent;Ljava/lang/String;)V", sig := { parameters := [(.object "java/lang/String"), (.object "com/example/goals_to_queue/goalstoqueue/NablarchHandler"), (.object "java/lang/String"), (.object "com/example/goals_to_queue/goalstoqueue/DefaultComponent"), (.object "java/lang/String")], returnType := none }, accessFlags := 2, code := some k9c0 }
def k9c1 : Code := { maxStack := 7, maxLocals := 3, code := prog_26_method_6_code, exceptionTable := #[], attributes := #[] }
def k9m1 : Method := { name := "customComponent", desc := "(Ljava/lang/String;Ljava/lang/String;Ljava/lang/String;)Lcom/example/goals_to_queue/goalstoqueue/QueueEntry;", sig := { parameters := [(.object "java/lang/String"), (.object "java/lang/String"), (.object "java/lang/String")], returnType := some (.object "com/example/goals_to_queue/goalstoqueue/QueueEntry") }, accessFlags := 9, code := some k9c1 }
def k9c2 : Code := { maxStack := 1, maxLocals := 1, code := prog_26_method_16_code, exceptionTable := #[], attributes := #[] }
def k9m2 : Method := { name := "className", desc := "()Ljava/lang/String;", sig := { parameters := [], returnType := some (.object "java/lang/String") }, accessFlags := 1, code := some k9c2 }
def k9c3 : Code := { maxStack := 1, maxLocals := 1, code := prog_26_method_19_code, exceptionTable := #[], attributes := #[] }
def k9m3 : Method := { name := "handler", desc := "()Lcom/example/goals_to_queue/goalstoqueue/NablarchHandler;", sig := { parameters := [], returnType := some (.object "com/example/goals_to_queue/goalstoqueue/NablarchHandler") }, accessFlags := 1, code := some k9c3 }
def k9c4 : Code := { maxStack := 1, maxLocals := 1, code := prog_26_method_20_code, exceptionTable := #[], attributes := #[] }
def k9m4 : Method := { name := "role", desc := "()Ljava/lang/String;", sig := { parameters := [], returnType := some (.object "java/lang/String") }, accessFlags := 1, code := some k9c4 }
def k9c5 : Code := { maxStack := 1, maxLocals := 1, code := prog_26_method_22_code, exceptionTable := #[], attributes := #[] }
def k9m5 : Method := { name := "reference", desc := "()Lcom/example/goals_to_queue/goalstoqueue/DefaultComponent;", sig := { parameters := [], returnType := some (.object "com/example/goals_to_queue/goalstoqueue/DefaultComponent") }, accessFlags := 1, code := some k9c5 }
def k9c6 : Code := { maxStack := 1, maxLocals := 1, code := prog_26_method_24_code, exceptionTable := #[], attributes := #[] }
def k9m6 : Method := { name := "customName", desc := "()Ljava/lang/String;", sig := { parameters := [], returnType := some (.object "java/lang/String") }, accessFlags := 1, code := some k9c6 }
/-- com/example/goals_to_queue/goalstoqueue/QueueEntry -/
def k9 : Class := { plain "com/example/goals_to_queue/goalstoqueue/QueueEntry" (some 0) with
  accessFlags := 33
  interfaces := #[]
  cf := some (fileOf pool9 8 #[] #[{ accessFlags := 2, nameIndex := 5, descriptorIndex := 73, attributes := #[] }, { accessFlags := 9, nameIndex := 199, descriptorIndex := 200, attributes := #[] }, { accessFlags := 1, nameIndex := 11, descriptorIndex := 68, attributes := #[] }, { accessFlags := 1, nameIndex := 15, descriptorIndex := 81, attributes := #[] }, { accessFlags := 1, nameIndex := 19, descriptorIndex := 68, attributes := #[] }, { accessFlags := 1, nameIndex := 22, descriptorIndex := 212, attributes := #[] }, { accessFlags := 1, nameIndex := 26, descriptorIndex := 68, attributes := #[] }] 33 2 #[] #[{ accessFlags := 18, nameIndex := 11, descriptorIndex := 12, attributes := #[] }, { accessFlags := 18, nameIndex := 15, descriptorIndex := 16, attributes := #[] }, { accessFlags := 18, nameIndex := 19, descriptorIndex := 12, attributes := #[] }, { accessFlags := 18, nameIndex := 22, descriptorIndex := 23, attributes := #[] }, { accessFlags := 18, nameIndex := 26, descriptorIndex := 12, attributes := #[] }, { accessFlags := 18, nameIndex := 35, descriptorIndex := 36, attributes := #[] }, { accessFlags := 18, nameIndex := 44, descriptorIndex := 45, attributes := #[] }, { accessFlags := 18, nameIndex := 48, descriptorIndex := 45, attributes := #[] }])
  fields := #[{ name := "className", type := (.object "java/lang/String"), accessFlags := 18, slot := 0, constantValue := 0 }, { name := "handler", type := (.object "com/example/goals_to_queue/goalstoqueue/NablarchHandler"), accessFlags := 18, slot := 1, constantValue := 0 }, { name := "role", type := (.object "java/lang/String"), accessFlags := 18, slot := 2, constantValue := 0 }, { name := "reference", type := (.object "com/example/goals_to_queue/goalstoqueue/DefaultComponent"), accessFlags := 18, slot := 3, constantValue := 0 }, { name := "customName", type := (.object "java/lang/String"), accessFlags := 18, slot := 4, constantValue := 0 }, { name := "properties", type := (.object "java/util/Map"), accessFlags := 18, slot := 5, constantValue := 0 }, { name := "askingItems", type := (.object "java/util/List"), accessFlags := 18, slot := 6, constantValue := 0 }, { name := "referredParts", type := (.object "java/util/List"), accessFlags := 18, slot := 7, constantValue := 0 }]
  methods := #[k9m0, k9m1, k9m2, k9m3, k9m4, k9m5, k9m6]
  instanceTypes := #[(.object "java/lang/String"), (.object "com/example/goals_to_queue/goalstoqueue/NablarchHandler"), (.object "java/lang/String"), (.object "com/example/goals_to_queue/goalstoqueue/DefaultComponent"), (.object "java/lang/String"), (.object "java/util/Map"), (.object "java/util/List"), (.object "java/util/List")]
  staticTypes := #[]
  resolved := Array.replicate 239 none
  statics := none }

def pool10 : Array CpInfo := pool [(2, .class_ 4), (1, u "java/util/Map"), (31, .class_ 37), (0, u "java/util/Map$Entry"), (43, .fieldref 82 83), (0, .class_ 84), (0, .nameAndType 85 86), (0, u "java/util/ImmutableCollections"), (0, u "EMPTY_MAP"), (0, u "Ljava/util/ImmutableCollections$MapN;"), (6, .class_ 94), (0, u "java/lang/Object"), (13, u "of"), (0, u "()Ljava/util/Map;")] 153

def k10c0 : Code := { maxStack := 1, maxLocals := 0, code := jdk_72_method_26_code, exceptionTable := #[], attributes := #[] }
def k10m0 : Method := { name := "of", desc := "()Ljava/util/Map;", sig := { parameters := [], returnType := some (.object "java/util/Map") }, accessFlags := 9, code := some k10c0 }
/-- java/util/Map -/
def k10 : Class := { plain "java/util/Map" (some 0) with
  accessFlags := 1537
  interfaces := #[]
  cf := some (fileOf pool10 2 #[.nestMembers #[36]] #[{ accessFlags := 9, nameIndex := 108, descriptorIndex := 109, attributes := #[] }] 1537 93 #[] #[])
  fields := #[]
  methods := #[k10m0]
  instanceTypes := #[]
  staticTypes := #[]
  resolved := Array.replicate 263 none
  statics := none }

def pool11 : Array CpInfo := pool [(2, .class_ 4), (1, u "java/lang/Object"), (0, u "<init>"), (0, u "()V"), (3, .class_ 11), (0, u "java/util/ImmutableCollections$List12"), (0, .class_ 13), (0, u "java/util/ImmutableCollections$ListN"), (3, u "Z"), (29, .class_ 49), (1, u "java/util/ImmutableCollections"), (0, u "$assertionsDisabled"), (5, u "[Ljava/lang/Object;"), (5, u "EMPTY_LIST"), (0, u "Ljava/util/ImmutableCollections$ListN;"), (8, u "EMPTY_LIST_NULLS"), (22, u "SALT32L"), (0, u "J"), (2, u "REVERSE"), (6, u "archivedObjects"), (2, u "EMPTY"), (0, u "Ljava/lang/Object;"), (0, .class_ 112), (0, u "java/util/ImmutableCollections$SetN"), (5, u "EMPTY_SET"), (0, u "Ljava/util/ImmutableCollections$SetN;"), (0, .class_ 121), (0, u "java/util/ImmutableCollections$MapN"), (3, u "EMPTY_MAP"), (0, u "Ljava/util/ImmutableCollections$MapN;"), (4, u "EXPAND_FACTOR"), (0, u "I"), (36, .class_ 170), (0, u "java/util/ImmutableCollections$MapN$MapNIterator"), (0, .class_ 172), (0, u "java/util/ImmutableCollections$MapN$1"), (0, .class_ 174), (0, u "java/util/ImmutableCollections$Map1"), (0, .class_ 176), (0, u "java/util/ImmutableCollections$AbstractImmutableMap"), (0, .class_ 178), (0, u "java/util/ImmutableCollections$SetN$SetNIterator"), (0, .class_ 180), (0, u "java/util/ImmutableCollections$Set12"), (0, .class_ 182), (0, u "java/util/ImmutableCollections$Set12$1"), (0, .class_ 184), (0, u "java/util/ImmutableCollections$AbstractImmutableSet"), (0, .class_ 186), (0, u "java/util/ImmutableCollections$SubList"), (0, .class_ 188), (0, u "java/util/ImmutableCollections$ListItr"), (0, .class_ 190), (0, u "java/util/ImmutableCollections$AbstractImmutableList"), (0, .class_ 192), (0, u "java/util/ImmutableCollections$AbstractImmutableCollection"), (0, .class_ 194), (0, u "java/util/ImmutableCollections$Access"), (0, .class_ 196), (0, u "java/util/ImmutableCollections$Access$1")] 16

def k11m0 : Method := { name := "<init>", desc := "()V", sig := { parameters := [], returnType := none }, accessFlags := 2, code := none }
/-- java/util/ImmutableCollections -/
def k11 : Class := { plain "java/util/ImmutableCollections" (some 0) with
  accessFlags := 32
  interfaces := #[]
  cf := some (fileOf pool11 47 #[.nestMembers #[120, 169, 171, 173, 175, 111, 177, 179, 181, 183, 12, 10, 185, 187, 189, 191, 193, 195]] #[{ accessFlags := 2, nameIndex := 5, descriptorIndex := 6, attributes := #[] }] 32 2 #[] #[{ accessFlags := 26, nameIndex := 95, descriptorIndex := 96, attributes := #[] }, { accessFlags := 26, nameIndex := 99, descriptorIndex := 17, attributes := #[] }, { accessFlags := 10, nameIndex := 106, descriptorIndex := 56, attributes := #[] }, { accessFlags := 26, nameIndex := 109, descriptorIndex := 110, attributes := #[] }, { accessFlags := 24, nameIndex := 62, descriptorIndex := 63, attributes := #[] }, { accessFlags := 24, nameIndex := 72, descriptorIndex := 63, attributes := #[] }, { accessFlags := 24, nameIndex := 118, descriptorIndex := 119, attributes := #[] }, { accessFlags := 24, nameIndex := 125, descriptorIndex := 126, attributes := #[] }, { accessFlags := 24, nameIndex := 131, descriptorIndex := 132, attributes := #[] }, { accessFlags := 4120, nameIndex := 50, descriptorIndex := 17, attributes := #[] }])
  fields := #[{ name := "SALT32L", type := .long, accessFlags := 26, slot := 0, constantValue := 0 }, { name := "REVERSE", type := .boolean, accessFlags := 26, slot := 1, constantValue := 0 }, { name := "archivedObjects", type := (.array (.object "java/lang/Object")), accessFlags := 10, slot := 2, constantValue := 0 }, { name := "EMPTY", type := (.object "java/lang/Object"), accessFlags := 26, slot := 3, constantValue := 0 }, { name := "EMPTY_LIST", type := (.object "java/util/ImmutableCollections$ListN"), accessFlags := 24, slot := 4, constantValue := 0 }, { name := "EMPTY_LIST_NULLS", type := (.object "java/util/ImmutableCollections$ListN"), accessFlags := 24, slot := 5, constantValue := 0 }, { name := "EMPTY_SET", type := (.object "java/util/ImmutableCollections$SetN"), accessFlags := 24, slot := 6, constantValue := 0 }, { name := "EMPTY_MAP", type := (.object "java/util/ImmutableCollections$MapN"), accessFlags := 24, slot := 7, constantValue := 0 }, { name := "EXPAND_FACTOR", type := .int, accessFlags := 24, slot := 8, constantValue := 0 }, { name := "$assertionsDisabled", type := .boolean, accessFlags := 4120, slot := 9, constantValue := 0 }]
  methods := #[k11m0]
  instanceTypes := #[]
  staticTypes := #[.long, .boolean, (.array (.object "java/lang/Object")), (.object "java/lang/Object"), (.object "java/util/ImmutableCollections$ListN"), (.object "java/util/ImmutableCollections$ListN"), (.object "java/util/ImmutableCollections$SetN"), (.object "java/util/ImmutableCollections$MapN"), .int, .boolean]
  resolved := Array.replicate 213 none
  statics := some 1 }

def pool12 : Array CpInfo := pool [(8, .class_ 10), (1, u "java/lang/Iterable"), (24, .class_ 36), (0, u "java/lang/Object")] 25

/-- java/lang/Iterable -/
def k12 : Class := { plain "java/lang/Iterable" (some 0) with
  accessFlags := 1537
  interfaces := #[]
  cf := some (fileOf pool12 8 #[] #[] 1537 35 #[] #[])
  fields := #[]
  methods := #[]
  instanceTypes := #[]
  staticTypes := #[]
  resolved := Array.replicate 62 none
  statics := none }

def pool13 : Array CpInfo := pool [(10, .class_ 12), (1, u "java/util/Collection"), (47, .class_ 61), (0, u "java/lang/Object"), (0, .class_ 63), (0, u "java/lang/Iterable")] 51

/-- java/util/Collection -/
def k13 : Class := { plain "java/util/Collection" (some 0) with
  accessFlags := 1537
  interfaces := #[12]
  cf := some (fileOf pool13 10 #[] #[] 1537 60 #[62] #[])
  fields := #[]
  methods := #[]
  instanceTypes := #[]
  staticTypes := #[]
  resolved := Array.replicate 115 none
  statics := none }

def pool14 : Array CpInfo := pool [(8, .class_ 10), (1, u "java/util/SequencedCollection"), (15, .class_ 27), (0, u "java/lang/Object"), (0, .class_ 29), (0, u "java/util/Collection")] 27

/-- java/util/SequencedCollection -/
def k14 : Class := { plain "java/util/SequencedCollection" (some 0) with
  accessFlags := 1537
  interfaces := #[13]
  cf := some (fileOf pool14 8 #[] #[] 1537 26 #[28] #[])
  fields := #[]
  methods := #[]
  instanceTypes := #[]
  staticTypes := #[]
  resolved := Array.replicate 57 none
  statics := none }

def pool15 : Array CpInfo := pool [(8, .class_ 10), (1, u "java/util/List"), (77, u "of"), (1, .fieldref 91 92), (0, .class_ 93), (0, .nameAndType 94 95), (0, u "java/util/ImmutableCollections"), (0, u "EMPTY_LIST"), (0, u "Ljava/util/ImmutableCollections$ListN;"), (7, .class_ 104), (0, u "java/lang/Object"), (14, u "()Ljava/util/List;"), (0, .class_ 121), (0, u "java/util/SequencedCollection")] 129

def k15c0 : Code := { maxStack := 1, maxLocals := 0, code := jdk_40_method_36_code, exceptionTable := #[], attributes := #[] }
def k15m0 : Method := { name := "of", desc := "()Ljava/util/List;", sig := { parameters := [], returnType := some (.object "java/util/List") }, accessFlags := 9, code := some k15c0 }
/-- java/util/List -/
def k15 : Class := { plain "java/util/List" (some 0) with
  accessFlags := 1537
  interfaces := #[14]
  cf := some (fileOf pool15 8 #[] #[{ accessFlags := 9, nameIndex := 88, descriptorIndex := 119, attributes := #[] }] 1537 103 #[120] #[])
  fields := #[]
  methods := #[k15m0]
  instanceTypes := #[]
  staticTypes := #[]
  resolved := Array.replicate 251 none
  statics := none }

def pool16 : Array CpInfo := pool [(4, .class_ 6), (1, u "java/lang/Object"), (0, u "<init>"), (0, u "()V"), (5, .class_ 16), (1, u "java/lang/StringLatin1"), (73, u "canEncode"), (14, u "(C)Z"), (15, u "$assertionsDisabled"), (0, u "Z"), (98, .class_ 223), (1, u "java/lang/StringLatin1$LinesSpliterator"), (156, u "toBytes"), (1, u "(C)[B"), (7, .class_ 391), (0, u "java/lang/StringLatin1$CharsSpliterator")] 3

def k16m0 : Method := { name := "<init>", desc := "()V", sig := { parameters := [], returnType := none }, accessFlags := 0, code := none }
def k16c1 : Code := { maxStack := 2, maxLocals := 1, code := jdk_43_method_3_code, exceptionTable := #[], attributes := #[] }
def k16m1 : Method := { name := "canEncode", desc := "(C)Z", sig := { parameters := [.char], returnType := some .boolean }, accessFlags := 9, code := some k16c1 }
def k16c2 : Code := { maxStack := 4, maxLocals := 1, code := jdk_43_method_46_code, exceptionTable := #[], attributes := #[] }
def k16m2 : Method := { name := "toBytes", desc := "(C)[B", sig := { parameters := [.char], returnType := some (.array .byte) }, accessFlags := 9, code := some k16c2 }
/-- java/lang/StringLatin1 -/
def k16 : Class := { plain "java/lang/StringLatin1" (some 0) with
  accessFlags := 48
  interfaces := #[]
  cf := some (fileOf pool16 14 #[.nestMembers #[390, 221]] #[{ accessFlags := 0, nameIndex := 7, descriptorIndex := 8, attributes := #[] }, { accessFlags := 9, nameIndex := 90, descriptorIndex := 105, attributes := #[] }, { accessFlags := 9, nameIndex := 380, descriptorIndex := 382, attributes := #[] }] 48 4 #[] #[{ accessFlags := 4120, nameIndex := 121, descriptorIndex := 122, attributes := #[] }])
  fields := #[{ name := "$assertionsDisabled", type := .boolean, accessFlags := 4120, slot := 0, constantValue := 0 }]
  methods := #[k16m0, k16m1, k16m2]
  instanceTypes := #[]
  staticTypes := #[.boolean]
  resolved := Array.replicate 395 none
  statics := none }

def pool17 : Array CpInfo := pool [(2, .class_ 4), (1, u "java/lang/Object"), (0, u "<init>"), (0, u "()V"), (17, .class_ 26), (1, u "jdk/internal/util/Preconditions"), (28, .class_ 56), (0, u "jdk/internal/util/Preconditions$4"), (57, .class_ 115), (0, u "jdk/internal/util/Preconditions$1"), (7, u "SIOOBE_FORMATTER"), (0, u "Ljava/util/function/BiFunction;"), (0, .class_ 126), (0, u "jdk/internal/util/Preconditions$2"), (3, u "AIOOBE_FORMATTER"), (0, .class_ 132), (0, u "jdk/internal/util/Preconditions$3"), (3, u "IOOBE_FORMATTER")] 57

def k17m0 : Method := { name := "<init>", desc := "()V", sig := { parameters := [], returnType := none }, accessFlags := 1, code := none }
/-- jdk/internal/util/Preconditions -/
def k17 : Class := { plain "jdk/internal/util/Preconditions" (some 0) with
  accessFlags := 33
  interfaces := #[]
  cf := some (fileOf pool17 24 #[.nestMembers #[55, 131, 125, 114]] #[{ accessFlags := 1, nameIndex := 5, descriptorIndex := 6, attributes := #[] }] 33 2 #[] #[{ accessFlags := 25, nameIndex := 123, descriptorIndex := 124, attributes := #[] }, { accessFlags := 25, nameIndex := 130, descriptorIndex := 124, attributes := #[] }, { accessFlags := 25, nameIndex := 136, descriptorIndex := 124, attributes := #[] }])
  fields := #[{ name := "SIOOBE_FORMATTER", type := (.object "java/util/function/BiFunction"), accessFlags := 25, slot := 0, constantValue := 0 }, { name := "AIOOBE_FORMATTER", type := (.object "java/util/function/BiFunction"), accessFlags := 25, slot := 1, constantValue := 0 }, { name := "IOOBE_FORMATTER", type := (.object "java/util/function/BiFunction"), accessFlags := 25, slot := 2, constantValue := 0 }]
  methods := #[k17m0]
  instanceTypes := #[]
  staticTypes := #[(.object "java/util/function/BiFunction"), (.object "java/util/function/BiFunction"), (.object "java/util/function/BiFunction")]
  resolved := Array.replicate 194 none
  statics := some 2 }

def pool18 : Array CpInfo := pool [(9, u "<init>"), (6, .class_ 18), (1, u "java/lang/Object"), (0, u "()V"), (1, .class_ 23), (1, u "jdk/internal/util/ArraysSupport"), (0, u "LOG2_ARRAY_LONG_INDEX_SCALE"), (0, u "I"), (2, u "U"), (0, u "Ljdk/internal/misc/Unsafe;"), (8, u "BIG_ENDIAN"), (0, u "Z"), (8, u "LOG2_BYTE_BIT_SIZE"), (4, u "LOG2_ARRAY_INT_INDEX_SCALE"), (54, u "JLA"), (0, u "Ljdk/internal/access/JavaLangAccess;"), (11, u "LOG2_ARRAY_BOOLEAN_INDEX_SCALE"), (9, u "LOG2_ARRAY_BYTE_INDEX_SCALE"), (5, u "LOG2_ARRAY_CHAR_INDEX_SCALE"), (5, u "LOG2_ARRAY_SHORT_INDEX_SCALE"), (18, u "LOG2_ARRAY_FLOAT_INDEX_SCALE"), (24, u "LOG2_ARRAY_DOUBLE_INDEX_SCALE"), (89, u "T_BOOLEAN"), (2, u "T_CHAR"), (1, u "T_FLOAT"), (1, u "T_DOUBLE"), (1, u "T_BYTE"), (1, u "T_SHORT"), (1, u "T_INT"), (1, u "T_LONG"), (1, u "SOFT_MAX_ARRAY_LENGTH")] 83

def k18m0 : Method := { name := "<init>", desc := "()V", sig := { parameters := [], returnType := none }, accessFlags := 2, code := none }
/-- jdk/internal/util/ArraysSupport -/
def k18 : Class := { plain "jdk/internal/util/ArraysSupport" (some 0) with
  accessFlags := 33
  interfaces := #[]
  cf := some (fileOf pool18 21 #[] #[{ accessFlags := 2, nameIndex := 9, descriptorIndex := 19, attributes := #[] }] 33 16 #[] #[{ accessFlags := 24, nameIndex := 28, descriptorIndex := 29, attributes := #[] }, { accessFlags := 26, nameIndex := 38, descriptorIndex := 39, attributes := #[] }, { accessFlags := 25, nameIndex := 121, descriptorIndex := 25, attributes := #[] }, { accessFlags := 25, nameIndex := 131, descriptorIndex := 25, attributes := #[] }, { accessFlags := 25, nameIndex := 137, descriptorIndex := 25, attributes := #[] }, { accessFlags := 25, nameIndex := 143, descriptorIndex := 25, attributes := #[] }, { accessFlags := 25, nameIndex := 53, descriptorIndex := 25, attributes := #[] }, { accessFlags := 25, nameIndex := 24, descriptorIndex := 25, attributes := #[] }, { accessFlags := 25, nameIndex := 162, descriptorIndex := 25, attributes := #[] }, { accessFlags := 25, nameIndex := 187, descriptorIndex := 25, attributes := #[] }, { accessFlags := 26, nameIndex := 48, descriptorIndex := 25, attributes := #[] }, { accessFlags := 25, nameIndex := 277, descriptorIndex := 25, attributes := #[] }, { accessFlags := 25, nameIndex := 280, descriptorIndex := 25, attributes := #[] }, { accessFlags := 25, nameIndex := 282, descriptorIndex := 25, attributes := #[] }, { accessFlags := 25, nameIndex := 284, descriptorIndex := 25, attributes := #[] }, { accessFlags := 25, nameIndex := 286, descriptorIndex := 25, attributes := #[] }, { accessFlags := 25, nameIndex := 288, descriptorIndex := 25, attributes := #[] }, { accessFlags := 25, nameIndex := 290, descriptorIndex := 25, attributes := #[] }, { accessFlags := 25, nameIndex := 292, descriptorIndex := 25, attributes := #[] }, { accessFlags := 26, nameIndex := 108, descriptorIndex := 109, attributes := #[] }, { accessFlags := 25, nameIndex := 294, descriptorIndex := 25, attributes := #[] }])
  fields := #[{ name := "U", type := (.object "jdk/internal/misc/Unsafe"), accessFlags := 24, slot := 0, constantValue := 0 }, { name := "BIG_ENDIAN", type := .boolean, accessFlags := 26, slot := 1, constantValue := 0 }, { name := "LOG2_ARRAY_BOOLEAN_INDEX_SCALE", type := .int, accessFlags := 25, slot := 2, constantValue := 0 }, { name := "LOG2_ARRAY_BYTE_INDEX_SCALE", type := .int, accessFlags := 25, slot := 3, constantValue := 0 }, { name := "LOG2_ARRAY_CHAR_INDEX_SCALE", type := .int, accessFlags := 25, slot := 4, constantValue := 0 }, { name := "LOG2_ARRAY_SHORT_INDEX_SCALE", type := .int, accessFlags := 25, slot := 5, constantValue := 0 }, { name := "LOG2_ARRAY_INT_INDEX_SCALE", type := .int, accessFlags := 25, slot := 6, constantValue := 0 }, { name := "LOG2_ARRAY_LONG_INDEX_SCALE", type := .int, accessFlags := 25, slot := 7, constantValue := 0 }, { name := "LOG2_ARRAY_FLOAT_INDEX_SCALE", type := .int, accessFlags := 25, slot := 8, constantValue := 0 }, { name := "LOG2_ARRAY_DOUBLE_INDEX_SCALE", type := .int, accessFlags := 25, slot := 9, constantValue := 0 }, { name := "LOG2_BYTE_BIT_SIZE", type := .int, accessFlags := 26, slot := 10, constantValue := 0 }, { name := "T_BOOLEAN", type := .int, accessFlags := 25, slot := 11, constantValue := 0 }, { name := "T_CHAR", type := .int, accessFlags := 25, slot := 12, constantValue := 0 }, { name := "T_FLOAT", type := .int, accessFlags := 25, slot := 13, constantValue := 0 }, { name := "T_DOUBLE", type := .int, accessFlags := 25, slot := 14, constantValue := 0 }, { name := "T_BYTE", type := .int, accessFlags := 25, slot := 15, constantValue := 0 }, { name := "T_SHORT", type := .int, accessFlags := 25, slot := 16, constantValue := 0 }, { name := "T_INT", type := .int, accessFlags := 25, slot := 17, constantValue := 0 }, { name := "T_LONG", type := .int, accessFlags := 25, slot := 18, constantValue := 0 }, { name := "JLA", type := (.object "jdk/internal/access/JavaLangAccess"), accessFlags := 26, slot := 19, constantValue := 0 }, { name := "SOFT_MAX_ARRAY_LENGTH", type := .int, accessFlags := 25, slot := 20, constantValue := 0 }]
  methods := #[k18m0]
  instanceTypes := #[]
  staticTypes := #[(.object "jdk/internal/misc/Unsafe"), .boolean, .int, .int, .int, .int, .int, .int, .int, .int, .int, .int, .int, .int, .int, .int, .int, .int, .int, (.object "jdk/internal/access/JavaLangAccess"), .int]
  resolved := Array.replicate 378 none
  statics := none }

def pool19 : Array CpInfo := pool [(2, .class_ 4), (1, u "java/lang/Object"), (0, u "<init>"), (0, u "()V"), (1, .class_ 10), (1, u "java/util/AbstractMap"), (42, .class_ 54), (0, u "java/util/Map"), (9, u "keySet"), (0, u "Ljava/util/Set;"), (0, .class_ 67), (0, u "java/util/AbstractMap$1"), (5, u "values"), (0, u "Ljava/util/Collection;"), (0, .class_ 76), (0, u "java/util/AbstractMap$2"), (104, .class_ 182), (0, u "java/util/AbstractMap$ViewCollection"), (0, .class_ 184), (0, u "java/util/AbstractMap$SimpleImmutableEntry"), (0, .class_ 186), (0, u "java/util/AbstractMap$SimpleEntry"), (0, .class_ 188), (0, u "java/util/AbstractMap$2$1"), (0, .class_ 190), (0, u "java/util/AbstractMap$1$1")] 5

def k19m0 : Method := { name := "<init>", desc := "()V", sig := { parameters := [], returnType := none }, accessFlags := 4, code := none }
/-- java/util/AbstractMap -/
def k19 : Class := { plain "java/util/AbstractMap" (some 0) with
  accessFlags := 1057
  interfaces := #[10]
  cf := some (fileOf pool19 8 #[.nestMembers #[181, 183, 185, 75, 187, 66, 189]] #[{ accessFlags := 4, nameIndex := 5, descriptorIndex := 6, attributes := #[] }] 1057 2 #[53] #[{ accessFlags := 128, nameIndex := 64, descriptorIndex := 65, attributes := #[] }, { accessFlags := 128, nameIndex := 73, descriptorIndex := 74, attributes := #[] }])
  fields := #[{ name := "keySet", type := (.object "java/util/Set"), accessFlags := 128, slot := 0, constantValue := 0 }, { name := "values", type := (.object "java/util/Collection"), accessFlags := 128, slot := 1, constantValue := 0 }]
  methods := #[k19m0]
  instanceTypes := #[(.object "java/util/Set"), (.object "java/util/Collection")]
  staticTypes := #[]
  resolved := Array.replicate 196 none
  statics := none }

def pool20 : Array CpInfo := pool [(2, .class_ 4), (1, u "java/util/AbstractMap"), (0, u "<init>"), (0, u "()V"), (1, .class_ 10), (1, u "java/util/ImmutableCollections"), (3, .class_ 16), (1, u "java/util/ImmutableCollections$AbstractImmutableMap"), (2, .class_ 20), (0, u "java/io/Serializable")] 66

def k20m0 : Method := { name := "<init>", desc := "()V", sig := { parameters := [], returnType := none }, accessFlags := 0, code := none }
/-- java/util/ImmutableCollections$AbstractImmutableMap -/
def k20 : Class := { plain "java/util/ImmutableCollections$AbstractImmutableMap" (some 19) with
  accessFlags := 1056
  interfaces := #[2]
  cf := some (fileOf pool20 14 #[.nestHost 8] #[{ accessFlags := 0, nameIndex := 5, descriptorIndex := 6, attributes := #[] }] 1056 2 #[19] #[])
  fields := #[]
  methods := #[k20m0]
  instanceTypes := #[(.object "java/util/Set"), (.object "java/util/Collection")]
  staticTypes := #[]
  resolved := Array.replicate 87 none
  statics := none }

def pool21 : Array CpInfo := pool [(1, .class_ 2), (0, u "java/util/ImmutableCollections"), (1, .class_ 6), (1, u "java/util/ImmutableCollections$AbstractImmutableMap"), (10, .class_ 19), (1, u "java/util/ImmutableCollections$MapN"), (0, u "size"), (0, u "I"), (4, u "table"), (0, u "[Ljava/lang/Object;")] 121

/-- java/util/ImmutableCollections$MapN -/
def k21 : Class := { plain "java/util/ImmutableCollections$MapN" (some 20) with
  accessFlags := 48
  interfaces := #[]
  cf := some (fileOf pool21 17 #[.nestHost 1] #[] 48 4 #[] #[{ accessFlags := 16, nameIndex := 26, descriptorIndex := 27, attributes := #[] }, { accessFlags := 16, nameIndex := 20, descriptorIndex := 21, attributes := #[] }])
  fields := #[{ name := "table", type := (.array (.object "java/lang/Object")), accessFlags := 16, slot := 2, constantValue := 0 }, { name := "size", type := .int, accessFlags := 16, slot := 3, constantValue := 0 }]
  methods := #[]
  instanceTypes := #[(.object "java/util/Set"), (.object "java/util/Collection"), (.array (.object "java/lang/Object")), .int]
  staticTypes := #[]
  resolved := Array.replicate 149 none
  statics := none }

def pool22 : Array CpInfo := pool [(2, .class_ 4), (1, u "java/lang/Object"), (0, u "<init>"), (0, u "()V"), (1, .class_ 10), (1, u "java/util/AbstractCollection"), (66, .class_ 78), (0, u "java/util/Collection")] 81

def k22m0 : Method := { name := "<init>", desc := "()V", sig := { parameters := [], returnType := none }, accessFlags := 4, code := none }
/-- java/util/AbstractCollection -/
def k22 : Class := { plain "java/util/AbstractCollection" (some 0) with
  accessFlags := 1057
  interfaces := #[13]
  cf := some (fileOf pool22 8 #[] #[{ accessFlags := 4, nameIndex := 5, descriptorIndex := 6, attributes := #[] }] 1057 2 #[77] #[])
  fields := #[]
  methods := #[k22m0]
  instanceTypes := #[]
  staticTypes := #[]
  resolved := Array.replicate 160 none
  statics := none }

def pool23 : Array CpInfo := pool [(2, .class_ 4), (1, u "java/util/AbstractCollection"), (0, u "<init>"), (0, u "()V"), (1, .class_ 10), (1, u "java/util/ImmutableCollections"), (2, .class_ 14), (0, u "java/util/ImmutableCollections$AbstractImmutableCollection")] 41

def k23m0 : Method := { name := "<init>", desc := "()V", sig := { parameters := [], returnType := none }, accessFlags := 0, code := none }
/-- java/util/ImmutableCollections$AbstractImmutableCollection -/
def k23 : Class := { plain "java/util/ImmutableCollections$AbstractImmutableCollection" (some 22) with
  accessFlags := 1056
  interfaces := #[]
  cf := some (fileOf pool23 13 #[.nestHost 8] #[{ accessFlags := 0, nameIndex := 5, descriptorIndex := 6, attributes := #[] }] 1056 2 #[] #[])
  fields := #[]
  methods := #[k23m0]
  instanceTypes := #[]
  staticTypes := #[]
  resolved := Array.replicate 56 none
  statics := none }

def pool24 : Array CpInfo := pool [(1, .class_ 2), (0, u "java/util/RandomAccess"), (0, .class_ 4), (0, u "java/lang/Object")] 2

/-- java/util/RandomAccess -/
def k24 : Class := { plain "java/util/RandomAccess" (some 0) with
  accessFlags := 1537
  interfaces := #[]
  cf := some (fileOf pool24 1 #[] #[] 1537 3 #[] #[])
  fields := #[]
  methods := #[]
  instanceTypes := #[]
  staticTypes := #[]
  resolved := Array.replicate 7 none
  statics := none }

def pool25 : Array CpInfo := pool [(2, .class_ 4), (1, u "java/util/ImmutableCollections$AbstractImmutableCollection"), (0, u "<init>"), (0, u "()V"), (1, .class_ 10), (1, u "java/util/ImmutableCollections"), (3, .class_ 16), (1, u "java/util/ImmutableCollections$AbstractImmutableList"), (60, .class_ 78), (0, u "java/util/List"), (45, .class_ 125), (0, u "java/util/RandomAccess")] 70

def k25m0 : Method := { name := "<init>", desc := "()V", sig := { parameters := [], returnType := none }, accessFlags := 0, code := none }
/-- java/util/ImmutableCollections$AbstractImmutableList -/
def k25 : Class := { plain "java/util/ImmutableCollections$AbstractImmutableList" (some 23) with
  accessFlags := 1056
  interfaces := #[15, 24]
  cf := some (fileOf pool25 14 #[.nestHost 8] #[{ accessFlags := 0, nameIndex := 5, descriptorIndex := 6, attributes := #[] }] 1056 2 #[77, 124] #[])
  fields := #[]
  methods := #[k25m0]
  instanceTypes := #[]
  staticTypes := #[]
  resolved := Array.replicate 196 none
  statics := none }

def pool26 : Array CpInfo := pool [(2, .class_ 4), (1, u "java/util/ImmutableCollections$AbstractImmutableList"), (3, .class_ 10), (1, u "java/util/ImmutableCollections$ListN"), (0, u "elements"), (0, u "[Ljava/lang/Object;"), (2, u "allowNulls"), (0, u "Z"), (42, .class_ 60), (0, u "java/io/Serializable"), (53, .class_ 115), (0, u "java/util/ImmutableCollections")] 3

/-- java/util/ImmutableCollections$ListN -/
def k26 : Class := { plain "java/util/ImmutableCollections$ListN" (some 25) with
  accessFlags := 48
  interfaces := #[2]
  cf := some (fileOf pool26 8 #[.nestHost 114] #[] 48 2 #[59] #[{ accessFlags := 18, nameIndex := 11, descriptorIndex := 12, attributes := #[] }, { accessFlags := 18, nameIndex := 15, descriptorIndex := 16, attributes := #[] }])
  fields := #[{ name := "elements", type := (.array (.object "java/lang/Object")), accessFlags := 18, slot := 0, constantValue := 0 }, { name := "allowNulls", type := .boolean, accessFlags := 18, slot := 1, constantValue := 0 }]
  methods := #[]
  instanceTypes := #[(.array (.object "java/lang/Object")), .boolean]
  staticTypes := #[]
  resolved := Array.replicate 119 none
  statics := none }

def pool27 : Array CpInfo := pool [(1, u "java/lang/Cloneable"), (0, .class_ 1), (0, u "java/lang/Object"), (0, .class_ 3)] 3

/-- java/lang/Cloneable -/
def k27 : Class := { plain "java/lang/Cloneable" (some 0) with
  accessFlags := 1537
  interfaces := #[]
  cf := some (fileOf pool27 2 #[] #[] 1537 4 #[] #[])
  fields := #[]
  methods := #[]
  instanceTypes := #[]
  staticTypes := #[]
  resolved := Array.replicate 8 none
  statics := none }

/-- the primitive byte -/
def k28 : Class := { plain "byte" none with kind := .primitive 'B', accessFlags := 0x411 }
/-- [B -/
def k29 : Class := { plain "[B" (some 0) with kind := .array 28 .byte, interfaces := #[27, 2], accessFlags := 1041 }

/-- the primitive char -/
def k30 : Class := { plain "char" none with kind := .primitive 'C', accessFlags := 0x411 }
/-- [C -/
def k31 : Class := { plain "[C" (some 0) with kind := .array 30 .char, interfaces := #[27, 2], accessFlags := 1041 }

/-- the primitive int -/
def k32 : Class := { plain "int" none with kind := .primitive 'I', accessFlags := 0x411 }
/-- [I -/
def k33 : Class := { plain "[I" (some 0) with kind := .array 32 .int, interfaces := #[27, 2], accessFlags := 1041 }

/-- [Ljava/lang/Object; -/
def k34 : Class := { plain "[Ljava/lang/Object;" (some 0) with kind := .array 0 (.object "java/lang/Object"), interfaces := #[27, 2], accessFlags := 1041 }

def heap : Heap := #[{ cls := 7, slots := #[.long 0, .int 1, .null, .int 0, .null, .int 0, .int 0], vm := .statics 7 },
  { cls := 11, slots := #[.long 0, .int 0, .null, .null, .ref 5, .null, .null, .ref 4, .int 0, .int 0], vm := .statics 11 },
  { cls := 17, slots := #[.null, .null, .null], vm := .statics 17 },
  { cls := 34, slots := #[], vm := .none },
  { cls := 21, slots := #[.null, .null, .ref 3, .int 0], vm := .none },
  { cls := 26, slots := #[.ref 3, .int 0], vm := .none }]
def classes : Array Class := #[k0, k1, k2, k3, k4, k5, k6, k7, k8, k9, k10, k11, k12, k13, k14, k15, k16, k17, k18, k19, k20, k21, k22, k23, k24, k25, k26, k27, k28, k29, k30, k31, k32, k33, k34]
def interned : List (Array UInt16 × Addr) := []
def slotsUsed : Nat := 26
def theMethod : MethodId := ⟨1, 2⟩
def args0 : Array Value := #[.int 5, .int 7, .int 9]
def aboutOver (below : List Frame) : State where
  vm := { classes := classes, interned := interned.toArray }
  heap := heap
  slotsUsed := slotsUsed
  threads := #[{ frames := .invoking theMethod args0 :: below }]
def below0 : List Frame := [.native { method := ⟨0, 0⟩, args := #[] }]
def about1 : State := aboutOver below0
def p0 : Program := .bare "" "" ""
def e0 : Env := launch0.env 0 0 0
theorem w_frames : about1.frames = Frame.invoking theMethod args0 :: below0 := rfl
set_option maxRecDepth 65536 in
theorem w_args : argsFit about1.vm theMethod args0 = true := by decide +kernel
set_option maxRecDepth 65536 in
theorem w_heap : heapFits about1 = true := by decide +kernel
set_option maxRecDepth 65536 in
theorem w_runnable : about1.curStatus? = some .runnable := by decide +kernel
set_option maxRecDepth 65536 in
theorem w_alone : about1.alone = true := by decide +kernel
set_option maxRecDepth 65536 in
theorem w_named : about1.methodNamed? x = some theMethod := by decide +kernel
set_option maxRecDepth 65536 in
theorem w_hears : about1.hears theMethod below0 = true := by decide +kernel
set_option maxRecDepth 65536 in
theorem w_ripe : about1.ripe theMethod args0 below0 = true := by decide +kernel
theorem w_running : about1.status = .running := rfl
set_option maxRecDepth 65536 in
theorem w_room : about1.hasRoom e0.platform room_1 = true :=
  launch0.hasRoom_least _ room_1 (by decide +kernel) (by decide +kernel) (by decide +kernel) (by decide +kernel) (by decide +kernel) (by decide +kernel)
theorem allAtoms_all (ts : List Jvm.Cond) (a : Array Jvm.Value) (st : Jvm.State) : (allAtoms ts).before a st = ts.all (fun c => c.before a st) := by
  induction ts with
  | nil => rfl
  | cons c t ih =>
    show (Jvm.Cond.and c (allAtoms t)).before a st = _
    rw [Jvm.Cond.before_and, ih, List.all_cons]
def words1 : List Jvm.Cond := Jvm.Cond.code x code maxLocals ret :: tables_1
/-- a 'code' word, met by the world's own term for the bytes: nothing is compared byte by byte -/
theorem code_word {y : MethodName} {bytes : ByteArray} {mx : Nat} {rt : Option FieldType} {a : Array Value} {s : State} {m : MethodId} {meth : Method} {c : Code} (h1 : s.methodNamed? y = some m) (h2 : s.vm.method? m = some meth) (h3 : meth.code = some c) (h4 : c.code = bytes)
    (h5 : (c.maxLocals == mx && c.exceptionTable.isEmpty && decide (c.maxStack ≤ mostOperands) && decide (meth.sig.returnType = rt) && !meth.locks && decide (parseMethodDescriptor y.desc = some meth.sig)) = true) : (Jvm.Cond.code y bytes mx rt).before a s = true := by
  simp only [Bool.and_eq_true, beq_iff_eq, Bool.not_eq_true', decide_eq_true_eq] at h5
  obtain ⟨⟨⟨⟨⟨g1, g2⟩, g3⟩, g4⟩, g5⟩, g6⟩ := h5
  simp [Cond.before, Cond.holds, Cond.value, h1, h2, h3, h4, g1, g2, g3, g4, g5, g6]
def isCode : Jvm.Cond → Bool
  | .code _ _ _ _ => true
  | _ => false
theorem all_split {L : List Jvm.Cond} {P : Jvm.Cond → Bool} (h1 : L.all (fun c => isCode c || P c) = true) (h2 : ∀ c ∈ L.filter isCode, P c = true) : L.all P = true := by
  refine List.all_eq_true.mpr fun c hc => ?_
  have h := List.all_eq_true.mp h1 c hc
  rcases Bool.eq_false_or_eq_true (isCode c) with hi | hi
  · exact h2 c (List.mem_filter.mpr ⟨hc, hi⟩)
  · simpa [hi] using h
set_option maxRecDepth 65536 in
theorem w_c0 : (Jvm.Cond.code x code maxLocals ret).before args0 about1 = true := code_word (m := ⟨1, 2⟩) (meth := k1m2) (c := k1c2) (by decide +kernel) rfl rfl rfl (by decide +kernel)
set_option maxRecDepth 65536 in
theorem w_c1 : (Jvm.Cond.code ({ cls := "com/example/goals_to_queue/goalstoqueue/QueueEntryCustomComponentPinLaw", name := "str", desc := "(I)Ljava/lang/String;" } : Jvm.MethodName) method_2_code (5 : Nat) (Option.some (Jvm.ClassFile.FieldType.object "java/lang/String"))).before args0 about1 = true := code_word (m := ⟨1, 1⟩) (meth := k1m1) (c := k1c1) (by decide +kernel) rfl rfl rfl (by decide +kernel)
set_option maxRecDepth 65536 in
theorem w_c2 : (Jvm.Cond.code ({ cls := "java/lang/String", name := "<init>", desc := "([C)V" } : Jvm.MethodName) jdk_42_method_3_code (2 : Nat) (Option.none : Option Jvm.ClassFile.FieldType)).before args0 about1 = true := code_word (m := ⟨7, 1⟩) (meth := k7m1) (c := k7c1) (by decide +kernel) rfl rfl rfl (by decide +kernel)
set_option maxRecDepth 65536 in
theorem w_c3 : (Jvm.Cond.code ({ cls := "java/lang/String", name := "<init>", desc := "([CIILjava/lang/Void;)V" } : Jvm.MethodName) jdk_42_method_149_code (6 : Nat) (Option.none : Option Jvm.ClassFile.FieldType)).before args0 about1 = true := code_word (m := ⟨7, 4⟩) (meth := k7m4) (c := k7c4) (by decide +kernel) rfl rfl rfl (by decide +kernel)
set_option maxRecDepth 65536 in
theorem w_c4 : (Jvm.Cond.code ({ cls := "java/lang/Object", name := "<init>", desc := "()V" } : Jvm.MethodName) object_method_1_code (1 : Nat) (Option.none : Option Jvm.ClassFile.FieldType)).before args0 about1 = true := code_word (m := ⟨0, 0⟩) (meth := k0m0) (c := k0c0) (by decide +kernel) rfl rfl rfl (by decide +kernel)
set_option maxRecDepth 65536 in
theorem w_c5 : (Jvm.Cond.code ({ cls := "java/lang/StringUTF16", name := "compress", desc := "([CII)[B" } : Jvm.MethodName) jdk_52_method_16_code (6 : Nat) (Option.some (Jvm.ClassFile.FieldType.array Jvm.ClassFile.FieldType.byte))).before args0 about1 = true := code_word (m := ⟨8, 2⟩) (meth := k8m2) (c := k8c2) (by decide +kernel) rfl rfl rfl (by decide +kernel)
set_option maxRecDepth 65536 in
theorem w_c6 : (Jvm.Cond.code ({ cls := "java/lang/StringUTF16", name := "compress", desc := "([CI[BII)I" } : Jvm.MethodName) jdk_52_method_21_code (7 : Nat) (Option.some Jvm.ClassFile.FieldType.int)).before args0 about1 = true := code_word (m := ⟨8, 3⟩) (meth := k8m3) (c := k8c3) (by decide +kernel) rfl rfl rfl (by decide +kernel)
set_option maxRecDepth 65536 in
theorem w_c7 : (Jvm.Cond.code ({ cls := "java/lang/StringUTF16", name := "coderFromArrayLen", desc := "([BI)B" } : Jvm.MethodName) jdk_52_method_15_code (2 : Nat) (Option.some Jvm.ClassFile.FieldType.byte)).before args0 about1 = true := code_word (m := ⟨8, 1⟩) (meth := k8m1) (c := k8c1) (by decide +kernel) rfl rfl rfl (by decide +kernel)
set_option maxRecDepth 65536 in
theorem w_c8 : (Jvm.Cond.code ({ cls := "com/example/goals_to_queue/goalstoqueue/QueueEntry", name := "customComponent", desc := "(Ljava/lang/String;Ljava/lang/String;Ljava/lang/String;)Lcom/example/goals_to_queue/goalstoqueue/QueueEntry;" } : Jvm.MethodName) prog_26_method_6_code (3 : Nat) (Option.some (Jvm.ClassFile.FieldType.object "com/example/goals_to_queue/goalstoqueue/QueueEntry"))).before args0 about1 = true := code_word (m := ⟨9, 1⟩) (meth := k9m1) (c := k9c1) (by decide +kernel) rfl rfl rfl (by decide +kernel)
set_option maxRecDepth 65536 in
theorem w_c9 : (Jvm.Cond.code ({ cls := "com/example/goals_to_queue/goalstoqueue/QueueEntry", name := "<init>", desc := "(Ljava/lang/String;Lcom/example/goals_to_queue/goalstoqueue/NablarchHandler;Ljava/lang/String;Lcom/example/goals_to_queue/goalstoqueue/DefaultComponent;Ljava/lang/String;)V" } : Jvm.MethodName) prog_26_method_1_code (6 : Nat) (Option.none : Option Jvm.ClassFile.FieldType)).before args0 about1 = true := code_word (m := ⟨9, 0⟩) (meth := k9m0) (c := k9c0) (by decide +kernel) rfl rfl rfl (by decide +kernel)
set_option maxRecDepth 65536 in
theorem w_c10 : (Jvm.Cond.code ({ cls := "java/util/Map", name := "of", desc := "()Ljava/util/Map;" } : Jvm.MethodName) jdk_72_method_26_code (0 : Nat) (Option.some (Jvm.ClassFile.FieldType.object "java/util/Map"))).before args0 about1 = true := code_word (m := ⟨10, 0⟩) (meth := k10m0) (c := k10c0) (by decide +kernel) rfl rfl rfl (by decide +kernel)
set_option maxRecDepth 65536 in
theorem w_c11 : (Jvm.Cond.code ({ cls := "java/util/List", name := "of", desc := "()Ljava/util/List;" } : Jvm.MethodName) jdk_40_method_36_code (0 : Nat) (Option.some (Jvm.ClassFile.FieldType.object "java/util/List"))).before args0 about1 = true := code_word (m := ⟨15, 0⟩) (meth := k15m0) (c := k15c0) (by decide +kernel) rfl rfl rfl (by decide +kernel)
set_option maxRecDepth 65536 in
theorem w_c12 : (Jvm.Cond.code ({ cls := "com/example/goals_to_queue/goalstoqueue/QueueEntry", name := "className", desc := "()Ljava/lang/String;" } : Jvm.MethodName) prog_26_method_16_code (1 : Nat) (Option.some (Jvm.ClassFile.FieldType.object "java/lang/String"))).before args0 about1 = true := code_word (m := ⟨9, 2⟩) (meth := k9m2) (c := k9c2) (by decide +kernel) rfl rfl rfl (by decide +kernel)
set_option maxRecDepth 65536 in
theorem w_c13 : (Jvm.Cond.code ({ cls := "java/lang/String", name := "equals", desc := "(Ljava/lang/Object;)Z" } : Jvm.MethodName) jdk_42_method_66_code (3 : Nat) (Option.some Jvm.ClassFile.FieldType.boolean)).before args0 about1 = true := code_word (m := ⟨7, 2⟩) (meth := k7m2) (c := k7c2) (by decide +kernel) rfl rfl rfl (by decide +kernel)
set_option maxRecDepth 65536 in
theorem w_c14 : (Jvm.Cond.code ({ cls := "com/example/goals_to_queue/goalstoqueue/QueueEntry", name := "customName", desc := "()Ljava/lang/String;" } : Jvm.MethodName) prog_26_method_24_code (1 : Nat) (Option.some (Jvm.ClassFile.FieldType.object "java/lang/String"))).before args0 about1 = true := code_word (m := ⟨9, 6⟩) (meth := k9m6) (c := k9c6) (by decide +kernel) rfl rfl rfl (by decide +kernel)
set_option maxRecDepth 65536 in
theorem w_c15 : (Jvm.Cond.code ({ cls := "com/example/goals_to_queue/goalstoqueue/QueueEntry", name := "role", desc := "()Ljava/lang/String;" } : Jvm.MethodName) prog_26_method_20_code (1 : Nat) (Option.some (Jvm.ClassFile.FieldType.object "java/lang/String"))).before args0 about1 = true := code_word (m := ⟨9, 4⟩) (meth := k9m4) (c := k9c4) (by decide +kernel) rfl rfl rfl (by decide +kernel)
set_option maxRecDepth 65536 in
theorem w_c16 : (Jvm.Cond.code ({ cls := "com/example/goals_to_queue/goalstoqueue/QueueEntry", name := "handler", desc := "()Lcom/example/goals_to_queue/goalstoqueue/NablarchHandler;" } : Jvm.MethodName) prog_26_method_19_code (1 : Nat) (Option.some (Jvm.ClassFile.FieldType.object "com/example/goals_to_queue/goalstoqueue/NablarchHandler"))).before args0 about1 = true := code_word (m := ⟨9, 3⟩) (meth := k9m3) (c := k9c3) (by decide +kernel) rfl rfl rfl (by decide +kernel)
set_option maxRecDepth 65536 in
theorem w_c17 : (Jvm.Cond.code ({ cls := "com/example/goals_to_queue/goalstoqueue/QueueEntry", name := "reference", desc := "()Lcom/example/goals_to_queue/goalstoqueue/DefaultComponent;" } : Jvm.MethodName) prog_26_method_22_code (1 : Nat) (Option.some (Jvm.ClassFile.FieldType.object "com/example/goals_to_queue/goalstoqueue/DefaultComponent"))).before args0 about1 = true := code_word (m := ⟨9, 5⟩) (meth := k9m5) (c := k9c5) (by decide +kernel) rfl rfl rfl (by decide +kernel)
set_option maxRecDepth 65536 in
theorem w_c18 : (Jvm.Cond.code ({ cls := "java/lang/String", name := "valueOf", desc := "(C)Ljava/lang/String;" } : Jvm.MethodName) jdk_42_method_139_code (1 : Nat) (Option.some (Jvm.ClassFile.FieldType.object "java/lang/String"))).before args0 about1 = true := code_word (m := ⟨7, 3⟩) (meth := k7m3) (c := k7c3) (by decide +kernel) rfl rfl rfl (by decide +kernel)
set_option maxRecDepth 65536 in
theorem w_c19 : (Jvm.Cond.code ({ cls := "java/lang/StringLatin1", name := "canEncode", desc := "(C)Z" } : Jvm.MethodName) jdk_43_method_3_code (1 : Nat) (Option.some Jvm.ClassFile.FieldType.boolean)).before args0 about1 = true := code_word (m := ⟨16, 1⟩) (meth := k16m1) (c := k16c1) (by decide +kernel) rfl rfl rfl (by decide +kernel)
set_option maxRecDepth 65536 in
theorem w_c20 : (Jvm.Cond.code ({ cls := "java/lang/StringLatin1", name := "toBytes", desc := "(C)[B" } : Jvm.MethodName) jdk_43_method_46_code (1 : Nat) (Option.some (Jvm.ClassFile.FieldType.array Jvm.ClassFile.FieldType.byte))).before args0 about1 = true := code_word (m := ⟨16, 2⟩) (meth := k16m2) (c := k16c2) (by decide +kernel) rfl rfl rfl (by decide +kernel)
set_option maxRecDepth 65536 in
theorem w_c21 : (Jvm.Cond.code ({ cls := "java/lang/String", name := "<init>", desc := "([BB)V" } : Jvm.MethodName) jdk_42_method_151_code (3 : Nat) (Option.none : Option Jvm.ClassFile.FieldType)).before args0 about1 = true := code_word (m := ⟨7, 5⟩) (meth := k7m5) (c := k7c5) (by decide +kernel) rfl rfl rfl (by decide +kernel)
def codes1 : List Jvm.Cond := [Jvm.Cond.code x code maxLocals ret, Jvm.Cond.code ({ cls := "com/example/goals_to_queue/goalstoqueue/QueueEntryCustomComponentPinLaw", name := "str", desc := "(I)Ljava/lang/String;" } : Jvm.MethodName) method_2_code (5 : Nat) (Option.some (Jvm.ClassFile.FieldType.object "java/lang/String")), Jvm.Cond.code ({ cls := "java/lang/String", name := "<init>", desc := "([C)V" } : Jvm.MethodName) jdk_42_method_3_code (2 : Nat) (Option.none : Option Jvm.ClassFile.FieldType), Jvm.Cond.code ({ cls := "java/lang/String", name := "<init>", desc := "([CIILjava/lang/Void;)V" } : Jvm.MethodName) jdk_42_method_149_code (6 : Nat) (Option.none : Option Jvm.ClassFile.FieldType), Jvm.Cond.code ({ cls := "java/lang/Object", name := "<init>", desc := "()V" } : Jvm.MethodName) object_method_1_code (1 : Nat) (Option.none : Option Jvm.ClassFile.FieldType), Jvm.Cond.code ({ cls := "java/lang/StringUTF16", name := "compress", desc := "([CII)[B" } : Jvm.MethodName) jdk_52_method_16_code (6 : Nat) (Option.some (Jvm.ClassFile.FieldType.array Jvm.ClassFile.FieldType.byte)), Jvm.Cond.code ({ cls := "java/lang/StringUTF16", name := "compress", desc := "([CI[BII)I" } : Jvm.MethodName) jdk_52_method_21_code (7 : Nat) (Option.some Jvm.ClassFile.FieldType.int), Jvm.Cond.code ({ cls := "java/lang/StringUTF16", name := "coderFromArrayLen", desc := "([BI)B" } : Jvm.MethodName) jdk_52_method_15_code (2 : Nat) (Option.some Jvm.ClassFile.FieldType.byte), Jvm.Cond.code ({ cls := "com/example/goals_to_queue/goalstoqueue/QueueEntry", name := "customComponent", desc := "(Ljava/lang/String;Ljava/lang/String;Ljava/lang/String;)Lcom/example/goals_to_queue/goalstoqueue/QueueEntry;" } : Jvm.MethodName) prog_26_method_6_code (3 : Nat) (Option.some (Jvm.ClassFile.FieldType.object "com/example/goals_to_queue/goalstoqueue/QueueEntry")), Jvm.Cond.code ({ cls := "com/example/goals_to_queue/goalstoqueue/QueueEntry", name := "<init>", desc := "(Ljava/lang/String;Lcom/example/goals_to_queue/goalstoqueue/NablarchHandler;Ljava/lang/String;Lcom/example/goals_to_queue/goalstoqueue/DefaultComponent;Ljava/lang/String;)V" } : Jvm.MethodName) prog_26_method_1_code (6 : Nat) (Option.none : Option Jvm.ClassFile.FieldType), Jvm.Cond.code ({ cls := "java/util/Map", name := "of", desc := "()Ljava/util/Map;" } : Jvm.MethodName) jdk_72_method_26_code (0 : Nat) (Option.some (Jvm.ClassFile.FieldType.object "java/util/Map")), Jvm.Cond.code ({ cls := "java/util/List", name := "of", desc := "()Ljava/util/List;" } : Jvm.MethodName) jdk_40_method_36_code (0 : Nat) (Option.some (Jvm.ClassFile.FieldType.object "java/util/List")), Jvm.Cond.code ({ cls := "com/example/goals_to_queue/goalstoqueue/QueueEntry", name := "className", desc := "()Ljava/lang/String;" } : Jvm.MethodName) prog_26_method_16_code (1 : Nat) (Option.some (Jvm.ClassFile.FieldType.object "java/lang/String")), Jvm.Cond.code ({ cls := "java/lang/String", name := "equals", desc := "(Ljava/lang/Object;)Z" } : Jvm.MethodName) jdk_42_method_66_code (3 : Nat) (Option.some Jvm.ClassFile.FieldType.boolean), Jvm.Cond.code ({ cls := "com/example/goals_to_queue/goalstoqueue/QueueEntry", name := "customName", desc := "()Ljava/lang/String;" } : Jvm.MethodName) prog_26_method_24_code (1 : Nat) (Option.some (Jvm.ClassFile.FieldType.object "java/lang/String")), Jvm.Cond.code ({ cls := "com/example/goals_to_queue/goalstoqueue/QueueEntry", name := "role", desc := "()Ljava/lang/String;" } : Jvm.MethodName) prog_26_method_20_code (1 : Nat) (Option.some (Jvm.ClassFile.FieldType.object "java/lang/String")), Jvm.Cond.code ({ cls := "com/example/goals_to_queue/goalstoqueue/QueueEntry", name := "handler", desc := "()Lcom/example/goals_to_queue/goalstoqueue/NablarchHandler;" } : Jvm.MethodName) prog_26_method_19_code (1 : Nat) (Option.some (Jvm.ClassFile.FieldType.object "com/example/goals_to_queue/goalstoqueue/NablarchHandler")), Jvm.Cond.code ({ cls := "com/example/goals_to_queue/goalstoqueue/QueueEntry", name := "reference", desc := "()Lcom/example/goals_to_queue/goalstoqueue/DefaultComponent;" } : Jvm.MethodName) prog_26_method_22_code (1 : Nat) (Option.some (Jvm.ClassFile.FieldType.object "com/example/goals_to_queue/goalstoqueue/DefaultComponent")), Jvm.Cond.code ({ cls := "java/lang/String", name := "valueOf", desc := "(C)Ljava/lang/String;" } : Jvm.MethodName) jdk_42_method_139_code (1 : Nat) (Option.some (Jvm.ClassFile.FieldType.object "java/lang/String")), Jvm.Cond.code ({ cls := "java/lang/StringLatin1", name := "canEncode", desc := "(C)Z" } : Jvm.MethodName) jdk_43_method_3_code (1 : Nat) (Option.some Jvm.ClassFile.FieldType.boolean), Jvm.Cond.code ({ cls := "java/lang/StringLatin1", name := "toBytes", desc := "(C)[B" } : Jvm.MethodName) jdk_43_method_46_code (1 : Nat) (Option.some (Jvm.ClassFile.FieldType.array Jvm.ClassFile.FieldType.byte)), Jvm.Cond.code ({ cls := "java/lang/String", name := "<init>", desc := "([BB)V" } : Jvm.MethodName) jdk_42_method_151_code (3 : Nat) (Option.none : Option Jvm.ClassFile.FieldType)]
set_option maxRecDepth 65536 in
theorem codes_eq : words1.filter isCode = codes1 := rfl
theorem w_codes : ∀ c ∈ words1.filter isCode, c.before args0 about1 = true := by
  rw [codes_eq]
  intro c hc
  simp only [codes1, List.mem_cons, List.not_mem_nil, or_false] at hc
  rcases hc with rfl | rfl | rfl | rfl | rfl | rfl | rfl | rfl | rfl | rfl | rfl | rfl | rfl | rfl | rfl | rfl | rfl | rfl | rfl | rfl | rfl | rfl
  · exact w_c0
  · exact w_c1
  · exact w_c2
  · exact w_c3
  · exact w_c4
  · exact w_c5
  · exact w_c6
  · exact w_c7
  · exact w_c8
  · exact w_c9
  · exact w_c10
  · exact w_c11
  · exact w_c12
  · exact w_c13
  · exact w_c14
  · exact w_c15
  · exact w_c16
  · exact w_c17
  · exact w_c18
  · exact w_c19
  · exact w_c20
  · exact w_c21
set_option maxRecDepth 65536 in
theorem w_t1 : (words1.take 24).all (fun c => isCode c || c.before args0 about1) = true := by decide +kernel
set_option maxRecDepth 65536 in
theorem w_t2 : ((words1.drop 24).take 24).all (fun c => isCode c || c.before args0 about1) = true := by decide +kernel
set_option maxRecDepth 65536 in
theorem w_t3 : (((words1.drop 24).drop 24).take 24).all (fun c => isCode c || c.before args0 about1) = true := by decide +kernel
set_option maxRecDepth 65536 in
theorem w_t4 : ((((words1.drop 24).drop 24).drop 24).take 24).all (fun c => isCode c || c.before args0 about1) = true := by decide +kernel
set_option maxRecDepth 65536 in
theorem w_t5 : ((((words1.drop 24).drop 24).drop 24).drop 24).all (fun c => isCode c || c.before args0 about1) = true := by decide +kernel
theorem w_tables : (allAtoms (Jvm.Cond.code x code maxLocals ret :: tables_1)).before args0 about1 = true := by
  rw [allAtoms_all]
  show words1.all (fun c => c.before args0 about1) = true
  refine all_split ?_ w_codes
  rw [← List.take_append_drop 24 words1, List.all_append, w_t1, ← List.take_append_drop 24 (words1.drop 24), List.all_append, w_t2, ← List.take_append_drop 24 ((words1.drop 24).drop 24), List.all_append, w_t3, ← List.take_append_drop 24 (((words1.drop 24).drop 24).drop 24), List.all_append, w_t4, w_t5]
  rfl
set_option maxRecDepth 65536 in
theorem w_rest : rest_1_c.before args0 about1 = true := by decide +kernel
set_option maxRecDepth 65536 in
theorem w_case : (Jvm.Cond.and given_1 narrow_1).before args0 about1 = true := by decide +kernel
set_option maxRecDepth 65536 in
theorem w_consts : constsHeld consts_1 about1 := Jvm.Lit.constsHeldB_iff.mp (by decide +kernel)
theorem w_applies : (headSpec (Jvm.Cond.code x code maxLocals ret :: tables_1) room_1).applies x e0.platform about1 = true :=
  (Spec.applies_iff w_frames).mpr ⟨w_running, w_runnable, w_alone, w_named, w_hears, w_ripe, w_room, w_tables⟩
theorem atStart : AtStart classFile x code maxLocals ret World_1 tables_1 room_1 Calls_1 rest_1 Pre_1 launch0 p0 e0 about1 theMethod args0 below0 :=
  ⟨lists_1, trivial, launch0.admits_env _ _ _, launch0.least_env, fairChoices_fair.cas, fairChoices_fair.clock, w_frames, w_args, w_heap, w_applies, ⟨w_consts, trivial⟩, w_rest, w_case⟩
end start1
theorem witness_1 : WitnessClaimed_1 := ⟨start1.p0, start1.e0, start1.about1, start1.theMethod, start1.args0, start1.below0, start1.atStart⟩
end Jvm.Pilot.@@N@@
