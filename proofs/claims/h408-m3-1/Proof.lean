import JvmDerived
import JvmDerived.Pilot.@@N@@Statement
import JvmDerived.Pilot.@@N@@Code
set_option linter.unusedVariables false
set_option linter.unusedSimpArgs false
namespace Jvm.RoadKit
open Sem ClassFile Op Lib Jvm.Stand Jvm.Free Jvm.LawKit
section New
variable {p : Program} {l : Launch} {e : Env} {R : Room} {s : State} {m : MethodId} {args : Array Value} {below : List Frame} {meth : Method} {c : Code} {T : State} {locs : List Loc} {cells slots : Nat}
theorem retI (X : Stand p l e R s m args below meth c T locs cells slots) (hx : p.tables.exec = Jvm.exec) {pc : Nat} {Ls : Array Slot} {z : Int32} {rest : List Value} (hret : meth.sig.returnType = some .int) (hd : decode c.code pc = .ok (.ireturn, 1)) {fs : List Frame}
    (hl : ∀ (f : JFrame) (acts : List Action), f.method = m → f.locked = none → f.entered = [] → (doReturn e (T.setTop f) acts (some (.int z))).1 = T.setFrames fs) : Steps p.tables e below (T.setTop (mkF m pc Ls (.int z :: rest))) (T.setFrames fs) := by
  have hm' : T.vm.method? m = some meth := X.method'
  have hn : narrow .int (.int z) = .int z := rfl
  show Steps p.tables e below (T.setTop { method := m, pc := pc, locals := Ls, stack := _ :: rest, locked := none }) _
  jvm_step X.here [X.here.top, hx, hd, hm', hret, hn]
  first | (intro acts; rw [hl _ acts rfl rfl rfl]) | rw [hl _ _ rfl rfl rfl]
  exact Steps.refl _
end New
end Jvm.RoadKit
namespace Jvm.Pilot.@@N@@
open Jvm Jvm.ClassFile Sem Op Lib Jvm.Free Jvm.Stand Jvm.LawKit Jvm.RoadKit Bundle Jvm.Pilot.@@N@@.Jvm.D
theorem own_bt {P : Prop} [Decidable P] (h : P) : ifCond.holds .eq (if P then (1 : Int32) else (0 : Int32)) = false ∧ ifCond.holds .ne (if P then (1 : Int32) else (0 : Int32)) = true := by rw [if_pos h]; exact ⟨rfl, rfl⟩
theorem own_bf {P : Prop} [Decidable P] (h : ¬ P) : ifCond.holds .eq (if P then (1 : Int32) else (0 : Int32)) = true ∧ ifCond.holds .ne (if P then (1 : Int32) else (0 : Int32)) = false := by rw [if_neg h]; exact ⟨rfl, rfl⟩
theorem own_getI (L : List Int32) (i : Nat) : (List.map Value.int L).getD i (.int (0 : Int32)) = .int (L.getD i 0) := by
  simp only [List.getD_eq_getElem?_getD, List.getElem?_map]; cases L[i]? <;> rfl
theorem own_getJ (L : List Int64) (i : Nat) : (List.map Value.long L).getD i (.long (0 : Int64)) = .long (L.getD i 0) := by
  simp only [List.getD_eq_getElem?_getD, List.getElem?_map]; cases L[i]? <;> rfl
theorem own_setI (L : List Int32) (i : Nat) (x : Int32) : (List.map Value.int L).set i (.int x) = List.map Value.int (L.set i x) := (List.map_set).symm
theorem own_setJ (L : List Int64) (i : Nat) (x : Int64) : (List.map Value.long L).set i (.long x) = List.map Value.long (L.set i x) := (List.map_set).symm
theorem own_ns {Z : State} {h : Heap} {o : Addr} {C : String} (E : Exa Z h o C) : ∃ c : Cell, h[o]? = some c ∧ c.vm.isStatics = false := by
  obtain ⟨c, k, h1, -, -, h4, -⟩ := E; exact ⟨c, h1, h4⟩
theorem own_sta_keep {Z : State} {h h' : Heap} {ws : List Addr} {C n d : String} {v : Value} (S : Sta Z h C n d v) (K : Keep h h' ws) (q : ∀ w ∈ ws, ∃ c : Cell, h[w]? = some c ∧ c.vm.isStatics = false) : Sta Z h' C n d v := by
  obtain ⟨cf, i, k, f, st, cell, h1, h2, h3, h4, h5, h6, h7⟩ := S
  refine ⟨cf, i, k, f, st, cell, h1, h2, h3, h4, K.2.1 _ _ h5 (fun z => ?_), h6, h7⟩
  obtain ⟨c, e1, e2⟩ := q _ z
  cases h5.symm.trans e1; rw [e2] at h6; cases h6
theorem own_selp {s : State} {args args' : Array Value} {y z : MethodName} (hcls : z.cls = y.cls) (hnf : NotFace s z) (hz : (Cond.instanceMethod z).before args' s = true) (hpriv : s.PrivateAt y) (hinst : (Cond.instanceMethod y).before args s = true) (hy : y.cls ≠ "java/lang/invoke/MethodHandle" ∧ y.cls ≠ "java/lang/invoke/VarHandle") : (Cond.selects y.cls y y).before args s = true := by
  obtain ⟨mz, _, hnz, _⟩ := Cond.instanceMethod_spec hz
  obtain ⟨k, hk, hni⟩ := hnf mz hnz
  exact selects_self_of_private (by rw [← hcls]; exact findClass_of_methodNamed hnz) hk hni hpriv hinst hy
theorem own_hide {p : Program} {l : Launch} {e : Env} {R : Room} {s : State} {m : MethodId} {args : Array Value} {below : List Frame} {meth : Method} {c : Code} {T : State} {locs : List Loc} {cells slots n0 : Nat} (X : Stand p l e R s m args below meth c T locs cells slots) (N : Fr n0 locs) : ∃ LL, Stand p l e R s m args below meth c T LL cells slots ∧ Fr n0 LL := ⟨_, X, N⟩
theorem own_ent {tb : Tables} {e : Env} {below : List Frame} {a b t : State} (h : a = b) (s : Steps tb e below a t) : Steps tb e below b t := h ▸ s
theorem own_swne {x k : Int32} {n : Int} (h : ¬ x = k) (e : k.toInt = n) : n ≠ x.toInt := fun q => h (Int32.toInt_inj.mp (by rw [e, q]))
def own_P (n m : Nat) (I : List Int32) (U : List Int64) (S : List Int32) (val : Nat → Int64) (pres : Nat → Prop) : Prop :=
  I.length = 16 ∧ U.length = 16 ∧ S.length = m ∧ n ≤ 5 ∧ m ≤ 8 ∧
  (∀ j, j < n → ∃ id, id < m ∧ pres id ∧ I.getD j 0 = Int32.ofNat id ∧ S.getD id 0 = Int32.ofNat j ∧ U.getD j 0 = val id) ∧
  ∀ id, pres id → id < m ∧ ∃ j, j < n ∧ I.getD j 0 = Int32.ofNat id
def own_H (n : Nat) (U : List Int64) : Prop := ∀ j, j < n → (U.getD 0 0).toInt ≤ (U.getD j 0).toInt
theorem own_on (a : Nat) (h : a < 100) : (Int32.ofNat a).toInt = a := Int32.toInt_ofNat_small (by omega)
theorem own_onn (a : Nat) (h : a < 100) : (Int32.ofNat a).toNatClampNeg = a := by
  simp only [Int32.toNatClampNeg, own_on a h]; rfl
theorem own_oni {a b : Nat} (ha : a < 100) (hb : b < 100) (h : Int32.ofNat a = Int32.ofNat b) : a = b := by
  have := congrArg Int32.toInt h; rw [own_on a ha, own_on b hb] at this; omega
theorem own_gsI (L : List Int32) (s j : Nat) (x : Int32) (hs : s < L.length) : (L.set s x).getD j 0 = if s = j then x else L.getD j 0 := by
  simp only [List.getD_eq_getElem?_getD, List.getElem?_set]
  by_cases h : s = j
  · subst h; simp [hs]
  · simp [h]
theorem own_gsJ (L : List Int64) (s j : Nat) (x : Int64) (hs : s < L.length) : (L.set s x).getD j 0 = if s = j then x else L.getD j 0 := by
  simp only [List.getD_eq_getElem?_getD, List.getElem?_set]
  by_cases h : s = j
  · subst h; simp [hs]
  · simp [h]
/- a place's own id names it back -/
theorem own_uniq {n m : Nat} {I : List Int32} {U : List Int64} {S : List Int32} {val : Nat → Int64} {pres : Nat → Prop} (P : own_P n m I U S val pres) {j id : Nat} (hj : j < n) (hid : id < m) (h : I.getD j 0 = Int32.ofNat id) : pres id ∧ S.getD id 0 = Int32.ofNat j ∧ U.getD j 0 = val id := by
  obtain ⟨-, -, -, hn, hm, A, -⟩ := P
  obtain ⟨id', h1, h2, h3, h4, h5⟩ := A j hj
  have : id = id' := own_oni (by omega) (by omega) (h.symm.trans h3)
  subst this
  exact ⟨h2, h4, h5⟩
/- two entries change places -/
theorem own_swap {n m : Nat} {I : List Int32} {U : List Int64} {S : List Int32} {val : Nat → Int64} {pres : Nat → Prop} (P : own_P n m I U S val pres) (a b : Nat) (ha : a < n) (hb : b < n) (hab : ¬ a = b) :
    own_P n m ((I.set b (I.getD a 0)).set a (I.getD b 0)) ((U.set b (U.getD a 0)).set a (U.getD b 0)) ((S.set (I.getD a 0).toNatClampNeg (Int32.ofNat b)).set (I.getD b 0).toNatClampNeg (Int32.ofNat a)) val pres := by
  have PP := P
  obtain ⟨l1, l2, l3, hn, hm, A, B⟩ := P
  obtain ⟨ia, a1, a2, a3, a4, a5⟩ := A a ha
  obtain ⟨ib, b1, b2, b3, b4, b5⟩ := A b hb
  have na : (I.getD a 0).toNatClampNeg = ia := by rw [a3]; exact own_onn ia (by omega)
  have nb : (I.getD b 0).toNatClampNeg = ib := by rw [b3]; exact own_onn ib (by omega)
  have hne : ¬ ia = ib := fun q => by
    subst q; exact hab (own_oni (by omega) (by omega) (a4.symm.trans b4))
  refine ⟨by simp [l1], by simp [l2], by simp [l3], hn, hm, fun j hj => ?_, fun id hid => ?_⟩
  · rw [own_gsI _ _ _ _ (by simp only [List.length_set]; omega), own_gsI _ _ _ _ (by omega), own_gsJ _ _ _ _ (by simp only [List.length_set]; omega), own_gsJ _ _ _ _ (by omega), na, nb]
    by_cases ja : a = j
    · subst ja
      rw [if_pos rfl, if_pos rfl]
      exact ⟨ib, b1, b2, b3, by rw [own_gsI _ _ _ _ (by simp only [List.length_set]; omega), if_pos rfl], b5⟩
    · rw [if_neg ja, if_neg ja]
      by_cases jb : b = j
      · subst jb
        rw [if_pos rfl, if_pos rfl]
        exact ⟨ia, a1, a2, a3, by rw [own_gsI _ _ _ _ (by simp only [List.length_set]; omega), if_neg (fun q => hne q.symm), own_gsI _ _ _ _ (by omega), if_pos rfl], a5⟩
      · rw [if_neg jb, if_neg jb]
        obtain ⟨ij, j1, j2, j3, j4, j5⟩ := A j hj
        have q1 : ¬ ia = ij := fun q => by subst q; exact ja (own_oni (by omega) (by omega) (a4.symm.trans j4))
        have q2 : ¬ ib = ij := fun q => by subst q; exact jb (own_oni (by omega) (by omega) (b4.symm.trans j4))
        exact ⟨ij, j1, j2, j3, by rw [own_gsI _ _ _ _ (by simp only [List.length_set]; omega), if_neg q2, own_gsI _ _ _ _ (by omega), if_neg q1]; exact j4, j5⟩
  · obtain ⟨hidm, j, hj, h⟩ := B id hid
    refine ⟨hidm, ?_⟩
    by_cases ja : j = a
    · subst ja
      refine ⟨b, hb, ?_⟩
      rw [own_gsI _ _ _ _ (by simp only [List.length_set]; omega), if_neg hab, own_gsI _ _ _ _ (by omega), if_pos rfl]; exact h
    · by_cases jb : j = b
      · subst jb
        refine ⟨a, ha, ?_⟩
        rw [own_gsI _ _ _ _ (by simp only [List.length_set]; omega), if_pos rfl]; exact h
      · refine ⟨j, hj, ?_⟩
        rw [own_gsI _ _ _ _ (by simp only [List.length_set]; omega), if_neg (fun q => ja q.symm), own_gsI _ _ _ _ (by omega), if_neg (fun q => jb q.symm)]; exact h
theorem own_swH {n : Nat} {U : List Int64} (l2 : U.length = 16) (hn : n ≤ 5) (b : Nat) (hb : b < n) (h0 : ¬ 0 = b) (h : ∀ j, j < n → ¬ j = 0 → (U.getD b 0).toInt ≤ (U.getD j 0).toInt) (hr : (U.getD b 0).toInt ≤ (U.getD 0 0).toInt) : own_H n ((U.set b (U.getD 0 0)).set 0 (U.getD b 0)) := fun j hj => by
  rw [own_gsJ _ _ _ _ (by simp only [List.length_set]; omega), if_pos rfl, own_gsJ _ _ _ _ (by simp only [List.length_set]; omega), own_gsJ _ _ _ _ (by omega)]
  by_cases j0 : 0 = j
  · rw [if_pos j0]; omega
  · rw [if_neg j0]
    by_cases jb : b = j
    · rw [if_pos jb]; exact hr
    · rw [if_neg jb]; exact h j hj (fun q => j0 q.symm)
theorem own_sameI (L : List Int32) (j : Nat) (h : j < L.length) : L.set j (L.getD j 0) = L := by
  apply List.ext_getElem (by simp)
  intro i h1 h2
  rw [List.getElem_set]
  split
  · rename_i e; subst e; simp [List.getD_eq_getElem?_getD, h]
  · rfl
theorem own_sameJ (L : List Int64) (j : Nat) (h : j < L.length) : L.set j (L.getD j 0) = L := by
  apply List.ext_getElem (by simp)
  intro i h1 h2
  rw [List.getElem_set]
  split
  · rename_i e; subst e; simp [List.getD_eq_getElem?_getD, h]
  · rfl
/- an entry placed where it is -/
theorem own_stay {n m : Nat} {I : List Int32} {U : List Int64} {S : List Int32} {val : Nat → Int64} {pres : Nat → Prop} (P : own_P n m I U S val pres) (a : Nat) (ha : a < n) : I.set a (I.getD a 0) = I ∧ U.set a (U.getD a 0) = U ∧ S.set (I.getD a 0).toNatClampNeg (Int32.ofNat a) = S := by
  obtain ⟨l1, l2, l3, hn, hm, A, B⟩ := P
  obtain ⟨ia, a1, a2, a3, a4, a5⟩ := A a ha
  refine ⟨own_sameI _ _ (by omega), own_sameJ _ _ (by omega), ?_⟩
  rw [a3, own_onn ia (by omega), ← a4]
  exact own_sameI _ _ (by omega)
/- one entry more, at the end -/
theorem own_push {n m m' : Nat} {I : List Int32} {U : List Int64} {S S' : List Int32} {val : Nat → Int64} (P : own_P n m I U S val (fun i => i < n)) (hn : n < 5) (hm : n < m') (hm' : m' ≤ 8) (hmm : m ≤ m') (l3 : S'.length = m') (hS : ∀ i, i < m → S'.getD i 0 = S.getD i 0) :
    own_P (n + 1) m' (I.set n (Int32.ofNat n)) (U.set n (val n)) (S'.set n (Int32.ofNat n)) val (fun i => i < n + 1) := by
  obtain ⟨l1, l2, -, -, hm8, A, B⟩ := P
  refine ⟨by simp [l1], by simp [l2], by simp [l3], by omega, hm', fun j hj => ?_, fun id hid => ?_⟩
  · rw [own_gsI _ _ _ _ (by omega), own_gsJ _ _ _ _ (by omega)]
    by_cases jn : n = j
    · subst jn
      rw [if_pos rfl, if_pos rfl]
      exact ⟨n, hm, by omega, rfl, by rw [own_gsI _ _ _ _ (by omega), if_pos rfl], rfl⟩
    · rw [if_neg jn, if_neg jn]
      obtain ⟨ij, j1, j2, j3, j4, j5⟩ := A j (by omega)
      exact ⟨ij, by omega, by omega, j3, by rw [own_gsI _ _ _ _ (by omega), if_neg (by omega), hS ij j1]; exact j4, j5⟩
  · by_cases e : id = n
    · exact ⟨by omega, n, by omega, by rw [own_gsI _ _ _ _ (by omega), if_pos rfl, e]⟩
    · obtain ⟨hidm, j, hj, h⟩ := B id (by omega)
      exact ⟨by omega, j, by omega, by rw [own_gsI _ _ _ _ (by omega), if_neg (by omega)]; exact h⟩
theorem own_pushH {n : Nat} {U : List Int64} (l2 : U.length = 16) (hn : n < 5) (H : own_H n U) (x : Int64) : ∀ j, j < n + 1 → ¬ j = n → ((U.set n x).getD 0 0).toInt ≤ ((U.set n x).getD j 0).toInt := fun j hj hne => by
  rw [own_gsJ _ _ _ _ (by omega), own_gsJ _ _ _ _ (by omega), if_neg (show ¬ n = 0 by omega), if_neg (show ¬ n = j by omega)]
  exact H j (by omega)
/- an entry taken out: its id k stood at a; the last one comes in its place -/
theorem own_rmP {n m : Nat} {I : List Int32} {U : List Int64} {S : List Int32} {val : Nat → Int64} {pres : Nat → Prop} (P : own_P (n + 1) m I U S val pres) (k a : Nat) (hk : k < m) (ha : a < n) (hI : I.getD a 0 = Int32.ofNat k) :
    own_P n m (I.set a (I.getD n 0)) (U.set a (U.getD n 0)) ((S.set k (-1)).set (I.getD n 0).toNatClampNeg (Int32.ofNat a)) val (fun i => pres i ∧ ¬ i = k) := by
  have PP := P
  obtain ⟨l1, l2, l3, hn, hm, A, B⟩ := P
  obtain ⟨-, hSk, hUk⟩ := own_uniq PP (show a < n + 1 by omega) hk hI
  obtain ⟨il, b1, b2, b3, b4, b5⟩ := A n (by omega)
  have nb : (I.getD n 0).toNatClampNeg = il := by rw [b3]; exact own_onn il (by omega)
  have hne : ¬ k = il := fun q => by
    subst q; have := own_oni (by omega) (by omega) (hSk.symm.trans b4); omega
  refine ⟨by simp [l1], by simp [l2], by simp [l3], by omega, hm, fun j hj => ?_, fun id hid => ?_⟩
  · rw [own_gsI _ _ _ _ (by omega), own_gsJ _ _ _ _ (by omega), nb]
    by_cases ja : a = j
    · subst ja
      rw [if_pos rfl, if_pos rfl]
      exact ⟨il, b1, ⟨b2, fun q => hne q.symm⟩, b3, by rw [own_gsI _ _ _ _ (by simp only [List.length_set]; omega), if_pos rfl], b5⟩
    · rw [if_neg ja, if_neg ja]
      obtain ⟨ij, j1, j2, j3, j4, j5⟩ := A j (by omega)
      have q1 : ¬ k = ij := fun q => by subst q; exact ja (own_oni (by omega) (by omega) (hSk.symm.trans j4))
      have q2 : ¬ il = ij := fun q => by subst q; have := own_oni (by omega) (by omega) (b4.symm.trans j4); omega
      exact ⟨ij, j1, ⟨j2, fun q => q1 q.symm⟩, j3, by rw [own_gsI _ _ _ _ (by simp only [List.length_set]; omega), if_neg q2, own_gsI _ _ _ _ (by omega), if_neg q1]; exact j4, j5⟩
  · obtain ⟨hidm, j, hj, h⟩ := B id hid.1
    refine ⟨hidm, ?_⟩
    by_cases jn : j = n
    · subst jn
      exact ⟨a, ha, by rw [own_gsI _ _ _ _ (by omega), if_pos rfl]; exact h⟩
    · by_cases ja : a = j
      · subst ja
        exact absurd (own_oni (by omega) (by omega) (h.symm.trans hI)) hid.2
      · exact ⟨j, by omega, by rw [own_gsI _ _ _ _ (by omega), if_neg ja]; exact h⟩
/- the last entry taken out -/
theorem own_rmL {n m : Nat} {I : List Int32} {U : List Int64} {S : List Int32} {val : Nat → Int64} {pres : Nat → Prop} (P : own_P (n + 1) m I U S val pres) (k : Nat) (hk : k < m) (hI : I.getD n 0 = Int32.ofNat k) :
    own_P n m I U (S.set k (-1)) val (fun i => pres i ∧ ¬ i = k) := by
  have PP := P
  obtain ⟨l1, l2, l3, hn, hm, A, B⟩ := P
  obtain ⟨-, hSk, hUk⟩ := own_uniq PP (show n < n + 1 by omega) hk hI
  refine ⟨l1, l2, by simp [l3], by omega, hm, fun j hj => ?_, fun id hid => ?_⟩
  · obtain ⟨ij, j1, j2, j3, j4, j5⟩ := A j (by omega)
    have q1 : ¬ k = ij := fun q => by subst q; have := own_oni (by omega) (by omega) (hSk.symm.trans j4); omega
    exact ⟨ij, j1, ⟨j2, fun q => q1 q.symm⟩, j3, by rw [own_gsI _ _ _ _ (by omega), if_neg q1]; exact j4, j5⟩
  · obtain ⟨hidm, j, hj, h⟩ := B id hid.1
    refine ⟨hidm, j, ?_, h⟩
    by_cases jn : j = n
    · subst jn; exact absurd (own_oni (by omega) (by omega) (h.symm.trans hI)) hid.2
    · omega
/- where a present id stands -/
theorem own_where {n m : Nat} {I : List Int32} {U : List Int64} {S : List Int32} {val : Nat → Int64} {pres : Nat → Prop} (P : own_P n m I U S val pres) (k : Nat) (hk : pres k) : k < m ∧ ∃ a, a < n ∧ S.getD k 0 = Int32.ofNat a ∧ I.getD a 0 = Int32.ofNat k ∧ U.getD a 0 = val k := by
  obtain ⟨hkm, a, ha, h⟩ := P.2.2.2.2.2.2 k hk
  obtain ⟨-, h1, h2⟩ := own_uniq P ha hkm h
  exact ⟨hkm, a, ha, h1, h, h2⟩
/- another stamp for an entry -/
theorem own_upd {n m : Nat} {I : List Int32} {U : List Int64} {S : List Int32} {val : Nat → Int64} {pres : Nat → Prop} (P : own_P n m I U S val pres) (k a : Nat) (ha : a < n) (hk : k < m) (hI : I.getD a 0 = Int32.ofNat k) (x : Int64) :
    own_P n m I (U.set a x) S (fun i => if i = k then x else val i) pres := by
  have PP := P
  obtain ⟨l1, l2, l3, hn, hm, A, B⟩ := P
  obtain ⟨-, hSk, -⟩ := own_uniq PP ha hk hI
  refine ⟨l1, by simp [l2], l3, hn, hm, fun j hj => ?_, B⟩
  obtain ⟨ij, j1, j2, j3, j4, j5⟩ := A j hj
  refine ⟨ij, j1, j2, j3, j4, ?_⟩
  show _ = (if ij = k then x else val ij)
  rw [own_gsJ _ _ _ _ (by omega)]
  by_cases ja : a = j
  · subst ja
    rw [if_pos rfl, if_pos (own_oni (by omega) (by omega) (j3.symm.trans hI))]
  · rw [if_neg ja, if_neg (fun q => by subst q; exact ja (own_oni (by omega) (by omega) (hSk.symm.trans j4)))]; exact j5
theorem own_ofn (x : Int32) (h : 0 ≤ x.toInt) : Int32.ofNat x.toNatClampNeg = x := by
  apply Int32.toInt_inj.mp
  have r := rng32 x
  rw [Int32.toInt_ofNat_small (by simp only [Int32.toNatClampNeg]; omega)]
  simp only [Int32.toNatClampNeg]; omega
theorem own_tn (x : Int32) (h : 0 ≤ x.toInt) : (x.toNatClampNeg : Int) = x.toInt := by simp only [Int32.toNatClampNeg]; omega
theorem own_i16 (x : Int32) (n : Nat) (hn : n ≤ 5) (h : 0 ≤ x.toInt ∧ x.toInt < n) : ¬ x < 0 ∧ x < (16 : Int32) := by
  rw [Int32.lt_iff_toInt_lt, Int32.lt_iff_toInt_lt, show (0 : Int32).toInt = 0 by decide, show (16 : Int32).toInt = 16 by decide]; omega
theorem own_l16 (x : Int32) (n : Nat) (hn : n ≤ 5) (h : 0 ≤ x.toInt ∧ x.toInt < n) : x.toNatClampNeg < 16 := by
  have := own_tn x h.1; omega
theorem own_nb (x : Int32) (n : Nat) (h : 0 ≤ x.toInt ∧ x.toInt < n) : x.toNatClampNeg < n := by
  have := own_tn x h.1; omega
/- an entry's id lies in the table of slots -/
theorem own_idb {n : Nat} {mm : Int32} {I : List Int32} {U : List Int64} {S : List Int32} {val : Nat → Int64} {pres : Nat → Prop} (P : own_P n mm.toNatClampNeg I U S val pres) (j : Nat) (hj : j < n) : (¬ I.getD j 0 < 0 ∧ I.getD j 0 < mm) ∧ (I.getD j 0).toNatClampNeg < S.length := by
  obtain ⟨l1, l2, l3, hn, hm, A, B⟩ := P
  obtain ⟨ia, a1, a2, a3, a4, a5⟩ := A j hj
  have e := own_on ia (by omega)
  have e2 := own_onn ia (by omega)
  rw [a3, l3, Int32.lt_iff_toInt_lt, Int32.lt_iff_toInt_lt, e, e2, show (0 : Int32).toInt = 0 by decide]
  simp only [Int32.toNatClampNeg] at a1 ⊢
  omega
theorem own_stayP {n m : Nat} {I : List Int32} {U : List Int64} {S : List Int32} {val : Nat → Int64} {pres : Nat → Prop} (P : own_P n m I U S val pres) (x : Int32) (h : 0 ≤ x.toInt ∧ x.toInt < n) : I.set x.toNatClampNeg (I.getD x.toNatClampNeg 0) = I ∧ U.set x.toNatClampNeg (U.getD x.toNatClampNeg 0) = U ∧ S.set (I.getD x.toNatClampNeg 0).toNatClampNeg x = S := by
  have q := own_stay P x.toNatClampNeg (own_nb x n h)
  rw [own_ofn x h.1] at q
  exact q
theorem own_moveP {n m : Nat} {I : List Int32} {U : List Int64} {S : List Int32} {val : Nat → Int64} {pres : Nat → Prop} (P : own_P n m I U S val pres) (x : Int32) (h : 0 < x.toInt ∧ x.toInt < n) :
    own_P n m ((I.set x.toNatClampNeg (I.getD ((0 : Int32)).toNatClampNeg 0)).set ((0 : Int32)).toNatClampNeg (I.getD x.toNatClampNeg 0)) ((U.set x.toNatClampNeg (U.getD ((0 : Int32)).toNatClampNeg 0)).set ((0 : Int32)).toNatClampNeg (U.getD x.toNatClampNeg 0)) ((S.set (I.getD ((0 : Int32)).toNatClampNeg 0).toNatClampNeg x).set (I.getD x.toNatClampNeg 0).toNatClampNeg (0 : Int32)) val pres := by
  have hb := own_nb x n ⟨by omega, h.2⟩
  have ht := own_tn x (by omega)
  have q := own_swap P 0 x.toNatClampNeg (by omega) hb (by omega)
  rw [own_ofn x (by omega)] at q
  exact q
/- the mirror: the child goes up, the root goes down -/
theorem own_downP {n m : Nat} {I : List Int32} {U : List Int64} {S : List Int32} {val : Nat → Int64} {pres : Nat → Prop} (P : own_P n m I U S val pres) (x : Int32) (h : 0 < x.toInt ∧ x.toInt < n) :
    own_P n m ((I.set ((0 : Int32)).toNatClampNeg (I.getD x.toNatClampNeg 0)).set x.toNatClampNeg (I.getD ((0 : Int32)).toNatClampNeg 0)) ((U.set ((0 : Int32)).toNatClampNeg (U.getD x.toNatClampNeg 0)).set x.toNatClampNeg (U.getD ((0 : Int32)).toNatClampNeg 0)) ((S.set (I.getD x.toNatClampNeg 0).toNatClampNeg (0 : Int32)).set (I.getD ((0 : Int32)).toNatClampNeg 0).toNatClampNeg x) val pres := by
  have hb := own_nb x n ⟨by omega, h.2⟩
  have ht := own_tn x (by omega)
  have q := own_swap P x.toNatClampNeg 0 hb (by omega) (by omega)
  rw [own_ofn x (by omega)] at q
  exact q
theorem own_par (x : Int32) (h : (0 : Int32) < x) (h5 : x.toInt < 5) : (x - (1 : Int32)) / (4 : Int32) = (0 : Int32) := by
  have k0 : (0 : Int32).toInt = 0 := by decide
  rw [Int32.lt_iff_toInt_lt] at h
  have e := c_isub x 1
  have r := rng32 (x - 1)
  rw [show (1 : Int32).toInt = 1 by decide] at e
  have q := (c_idiv (x - 1) 4 4 (by decide) (by decide)).1 (by omega)
  apply Int32.toInt_inj.mp
  omega
theorem own_upH {n : Nat} {U : List Int64} (l2 : U.length = 16) (hn : n ≤ 5) (x : Int32) (h : 0 < x.toInt ∧ x.toInt < n) (hlt : U.getD x.toNatClampNeg 0 < U.getD ((0 : Int32)).toNatClampNeg 0) (hU : ∀ j, j < n → ¬ j = x.toNatClampNeg → (U.getD 0 0).toInt ≤ (U.getD j 0).toInt) : own_H n ((U.set x.toNatClampNeg (U.getD ((0 : Int32)).toNatClampNeg 0)).set ((0 : Int32)).toNatClampNeg (U.getD x.toNatClampNeg 0)) := by
  have hlt' : (U.getD x.toNatClampNeg 0).toInt < (U.getD 0 0).toInt := Int64.lt_iff_toInt_lt.mp hlt
  have ht := own_tn x (by omega)
  refine own_swH l2 hn x.toNatClampNeg (own_nb x n ⟨by omega, h.2⟩) (by omega) (fun j hj h0 => ?_) (by omega)
  by_cases e : j = x.toNatClampNeg
  · rw [e]; exact Int.le_refl _
  · have := hU j hj e; omega
theorem own_upS {n : Nat} {U : List Int64} (x : Int32) (hnl : ¬ U.getD x.toNatClampNeg 0 < U.getD ((0 : Int32)).toNatClampNeg 0) (hU : ∀ j, j < n → ¬ j = x.toNatClampNeg → (U.getD 0 0).toInt ≤ (U.getD j 0).toInt) : own_H n U := fun j hj => by
  by_cases e : j = x.toNatClampNeg
  · rw [e]; have : ¬ (U.getD x.toNatClampNeg 0).toInt < (U.getD 0 0).toInt := fun q => hnl (Int64.lt_iff_toInt_lt.mpr q)
    omega
  · exact hU j hj e
theorem own_up0 {n : Nat} {U : List Int64} (x : Int32) (h0 : 0 ≤ x.toInt) (hnl : ¬ (0 : Int32) < x) (hU : ∀ j, j < n → ¬ j = x.toNatClampNeg → (U.getD 0 0).toInt ≤ (U.getD j 0).toInt) : own_H n U := fun j hj => by
  have k0 : (0 : Int32).toInt = 0 := by decide
  rw [Int32.lt_iff_toInt_lt] at hnl
  have ht := own_tn x h0
  by_cases e : j = x.toNatClampNeg
  · rw [e, show x.toNatClampNeg = 0 by omega]; exact Int.le_refl _
  · exact hU j hj e
theorem d4_0 : decode jdk_29_method_65_code 0 = .ok (.iload_n 0, 1) := by decide +kernel
theorem d4_1 : decode jdk_29_method_65_code 1 = .ok (.iload_n 1, 1) := by decide +kernel
theorem d4_2 : decode jdk_29_method_65_code 2 = .ok (.if_icmp .lt 7, 3) := by decide +kernel
theorem d4_5 : decode jdk_29_method_65_code 5 = .ok (.iload_n 0, 1) := by decide +kernel
theorem d4_6 : decode jdk_29_method_65_code 6 = .ok (.goto 4, 3) := by decide +kernel
theorem d4_9 : decode jdk_29_method_65_code 9 = .ok (.iload_n 1, 1) := by decide +kernel
theorem d4_10 : decode jdk_29_method_65_code 10 = .ok (.ireturn, 1) := by decide +kernel
theorem ef_4 (m : MethodId) (x0 : Int32) (x1 : Int32)  : entryFrame m #[(.int x0), (.int x1)] 2 = mkF m 0 #[.val (.int x0), .val (.int x1)] [] := by first | (simp [entryFrame, mkF, argsToLocals, Value.category]; done) | rfl
def F4 (x0 : Int32) (x1 : Int32) : Int32 := if x0 < x1 then x1 else x0
def Q4 (Z : State) (x0 : Int32) (x1 : Int32) (h0 : Heap) (n0 : Nat) (vE : Option Value) (hE : Heap) (LE : List Loc) : Prop := vE = some (.int (F4 x0 x1)) ∧ Fr n0 LE ∧ hE = h0
set_option maxRecDepth 65536 in
set_option maxHeartbeats 40000000 in
theorem rm4 (l : Launch) (Z : State) (a0 : Array Value) (hw : ∀ d ∈ tables_1, d.before a0 Z = true) (ws : List Jvm.Cond) (x0 : Int32) (x1 : Int32) (h0 : Heap) (n0 : Nat) (Z0 : n0 ≤ h0.size) :
    MetFree l (⟨"java/lang/Math", "max", "(II)I"⟩ : MethodName) (head1 (Jvm.Cond.code (⟨"java/lang/Math", "max", "(II)I"⟩ : MethodName) jdk_29_method_65_code 2 (some .int) :: ws) ({ frames := 0, cells := 0, slots := 0, locals := 0 } : Room)) (fun a U => a = #[(.int x0), (.int x1)] ∧ Z.Warmed39 U.vm ∧ U.heap = h0) (fun _ _ _ _ _ => True) (fun _ U o U' => ∃ vE LE, o = .returned vE ∧ Q4 Z x0 x1 h0 n0 vE U'.heap LE ∧ FrameEnd U o U' LE ({ frames := 0, cells := 0, slots := 0, locals := 0 } : Room).cells ({ frames := 0, cells := 0, slots := 0, locals := 0 } : Room).slots) := by
  refine MetFree.of_bodySF (Jvm.Free.JP.mathPlain rfl (by decide +kernel)) hisR ?_
  intro p e s m args below meth c s₁ Bd hml0 hP hK
  obtain ⟨rfl, hZ, hh⟩ := hP
  have hx := Bd.exec
  have hby := Bd.bytes
  have hml : c.maxLocals = 2 := hml0
  have hown : s.vm.findClass "java/lang/Math" = some m.cls := findClass_of_methodNamed Bd.named
  have hnm := (name_of_methodNamed Bd.named Bd.method).1
  have hlk : meth.locks = false := BodyLoose.notSynchronized Bd
  have X0 : Stand p l e ({ frames := 0, cells := 0, slots := 0, locals := 0 } : Room) s m #[(.int x0), (.int x1)] below meth c s₁ [] 0 0 := Stand.of_body Bd
  have e0 : s₁.heap = h0 := by rw [← hh, Bd.state]; rfl
  have N0 := Fr.nil n0
  obtain ⟨sE, hsE⟩ : ∃ z, z = (s₁.setTop (entryFrame m #[(.int x0), (.int x1)] 2)) := ⟨_, rfl⟩
  have st0 : Steps p.tables e below sE (s₁.setTop (mkF m 0 #[.val (.int x0), .val (.int x1)] [])) := by rw [hsE]; exact castTop (ef_4 m x0 x1) (Steps.refl _)
  have st1 : Steps p.tables e below sE (s₁.setTop (mkF m 2 #[.val (.int x0), .val (.int x1)] [(.int x1), (.int x0)])) := st0.trans (by
      show Steps _ _ _ (s₁.setTop (mkF m 0 #[.val (.int x0), .val (.int x1)] [])) _
      refine XS.iloadN X0.here hx rfl (hb hby d4_0) rfl ?_
      show Steps _ _ _ (s₁.setTop (mkF m 1 #[.val (.int x0), .val (.int x1)] [(.int x0)])) _
      refine XS.iloadN X0.here hx rfl (hb hby d4_1) rfl ?_
      exact Steps.refl _)
  by_cases hc2 : x0 < x1
  · have st3 : Steps p.tables e below sE (s₁.setTop (mkF m 10 #[.val (.int x0), .val (.int x1)] [(.int x1)])) := st1.trans (by
        show Steps _ _ _ (s₁.setTop (mkF m 2 #[.val (.int x0), .val (.int x1)] [(.int x1), (.int x0)])) _
        refine XS.icmpYes X0.here hx rfl (pc0 := 2) (pc' := 9) rfl (hb hby d4_2) rfl (tlt hc2).1 (by decide) (by decide) ?_
        show Steps _ _ _ (s₁.setTop (mkF m 9 #[.val (.int x0), .val (.int x1)] [])) _
        refine XS.iloadN X0.here hx rfl (hb hby d4_9) rfl ?_
        exact Steps.refl _)
    obtain ⟨fs, hr, hrun, hended, hW, hsame⟩ := X0.leave (v := some (.int x1)) (fun h => by rw [Bd.returns] at h; cases h) hlk
    refine ⟨_, _, (own_ent hsE st3).trans ?_, hrun, hended, _, _, rfl, ?_, ⟨_, rfl⟩, hW, hsame.mono (by decide) (by decide)⟩
    · exact retI X0 hx Bd.returns (hb hby d4_10) hr
    · show Q4 Z x0 x1 h0 n0 _ s₁.heap _
      rw [e0]
      exact ⟨by rw [F4, if_pos hc2], N0, rfl⟩
  · have st4 : Steps p.tables e below sE (s₁.setTop (mkF m 10 #[.val (.int x0), .val (.int x1)] [(.int x0)])) := st1.trans (by
        show Steps _ _ _ (s₁.setTop (mkF m 2 #[.val (.int x0), .val (.int x1)] [(.int x1), (.int x0)])) _
        refine XS.icmpNo X0.here hx rfl (hb hby d4_2) rfl (flt hc2).1 ?_
        show Steps _ _ _ (s₁.setTop (mkF m 5 #[.val (.int x0), .val (.int x1)] [])) _
        refine XS.iloadN X0.here hx rfl (hb hby d4_5) rfl ?_
        show Steps _ _ _ (s₁.setTop (mkF m 6 #[.val (.int x0), .val (.int x1)] [(.int x0)])) _
        refine XS.goto X0.here hx rfl (pc0 := 6) (pc' := 10) rfl (hb hby d4_6) (by decide) (by decide) ?_
        exact Steps.refl _)
    obtain ⟨fs, hr, hrun, hended, hW, hsame⟩ := X0.leave (v := some (.int x0)) (fun h => by rw [Bd.returns] at h; cases h) hlk
    refine ⟨_, _, (own_ent hsE st4).trans ?_, hrun, hended, _, _, rfl, ?_, ⟨_, rfl⟩, hW, hsame.mono (by decide) (by decide)⟩
    · exact retI X0 hx Bd.returns (hb hby d4_10) hr
    · show Q4 Z x0 x1 h0 n0 _ s₁.heap _
      rw [e0]
      exact ⟨by rw [F4, if_neg hc2], N0, rfl⟩
theorem d6_0 : decode jdk_29_method_69_code 0 = .ok (.iload_n 0, 1) := by decide +kernel
theorem d6_1 : decode jdk_29_method_69_code 1 = .ok (.iload_n 1, 1) := by decide +kernel
theorem d6_2 : decode jdk_29_method_69_code 2 = .ok (.if_icmp .gt 7, 3) := by decide +kernel
theorem d6_5 : decode jdk_29_method_69_code 5 = .ok (.iload_n 0, 1) := by decide +kernel
theorem d6_6 : decode jdk_29_method_69_code 6 = .ok (.goto 4, 3) := by decide +kernel
theorem d6_9 : decode jdk_29_method_69_code 9 = .ok (.iload_n 1, 1) := by decide +kernel
theorem d6_10 : decode jdk_29_method_69_code 10 = .ok (.ireturn, 1) := by decide +kernel
theorem ef_6 (m : MethodId) (x0 : Int32) (x1 : Int32)  : entryFrame m #[(.int x0), (.int x1)] 2 = mkF m 0 #[.val (.int x0), .val (.int x1)] [] := by first | (simp [entryFrame, mkF, argsToLocals, Value.category]; done) | rfl
def F6 (x0 : Int32) (x1 : Int32) : Int32 := if x1 < x0 then x1 else x0
def Q6 (Z : State) (x0 : Int32) (x1 : Int32) (h0 : Heap) (n0 : Nat) (vE : Option Value) (hE : Heap) (LE : List Loc) : Prop := vE = some (.int (F6 x0 x1)) ∧ Fr n0 LE ∧ hE = h0
set_option maxRecDepth 65536 in
set_option maxHeartbeats 40000000 in
theorem rm6 (l : Launch) (Z : State) (a0 : Array Value) (hw : ∀ d ∈ tables_1, d.before a0 Z = true) (ws : List Jvm.Cond) (x0 : Int32) (x1 : Int32) (h0 : Heap) (n0 : Nat) (Z0 : n0 ≤ h0.size) :
    MetFree l (⟨"java/lang/Math", "min", "(II)I"⟩ : MethodName) (head1 (Jvm.Cond.code (⟨"java/lang/Math", "min", "(II)I"⟩ : MethodName) jdk_29_method_69_code 2 (some .int) :: ws) ({ frames := 0, cells := 0, slots := 0, locals := 0 } : Room)) (fun a U => a = #[(.int x0), (.int x1)] ∧ Z.Warmed39 U.vm ∧ U.heap = h0) (fun _ _ _ _ _ => True) (fun _ U o U' => ∃ vE LE, o = .returned vE ∧ Q6 Z x0 x1 h0 n0 vE U'.heap LE ∧ FrameEnd U o U' LE ({ frames := 0, cells := 0, slots := 0, locals := 0 } : Room).cells ({ frames := 0, cells := 0, slots := 0, locals := 0 } : Room).slots) := by
  refine MetFree.of_bodySF (Jvm.Free.JP.mathPlain rfl (by decide +kernel)) hisR ?_
  intro p e s m args below meth c s₁ Bd hml0 hP hK
  obtain ⟨rfl, hZ, hh⟩ := hP
  have hx := Bd.exec
  have hby := Bd.bytes
  have hml : c.maxLocals = 2 := hml0
  have hown : s.vm.findClass "java/lang/Math" = some m.cls := findClass_of_methodNamed Bd.named
  have hnm := (name_of_methodNamed Bd.named Bd.method).1
  have hlk : meth.locks = false := BodyLoose.notSynchronized Bd
  have X0 : Stand p l e ({ frames := 0, cells := 0, slots := 0, locals := 0 } : Room) s m #[(.int x0), (.int x1)] below meth c s₁ [] 0 0 := Stand.of_body Bd
  have e0 : s₁.heap = h0 := by rw [← hh, Bd.state]; rfl
  have N0 := Fr.nil n0
  obtain ⟨sE, hsE⟩ : ∃ z, z = (s₁.setTop (entryFrame m #[(.int x0), (.int x1)] 2)) := ⟨_, rfl⟩
  have st0 : Steps p.tables e below sE (s₁.setTop (mkF m 0 #[.val (.int x0), .val (.int x1)] [])) := by rw [hsE]; exact castTop (ef_6 m x0 x1) (Steps.refl _)
  have st1 : Steps p.tables e below sE (s₁.setTop (mkF m 2 #[.val (.int x0), .val (.int x1)] [(.int x1), (.int x0)])) := st0.trans (by
      show Steps _ _ _ (s₁.setTop (mkF m 0 #[.val (.int x0), .val (.int x1)] [])) _
      refine XS.iloadN X0.here hx rfl (hb hby d6_0) rfl ?_
      show Steps _ _ _ (s₁.setTop (mkF m 1 #[.val (.int x0), .val (.int x1)] [(.int x0)])) _
      refine XS.iloadN X0.here hx rfl (hb hby d6_1) rfl ?_
      exact Steps.refl _)
  by_cases hc2 : x1 < x0
  · have st3 : Steps p.tables e below sE (s₁.setTop (mkF m 10 #[.val (.int x0), .val (.int x1)] [(.int x1)])) := st1.trans (by
        show Steps _ _ _ (s₁.setTop (mkF m 2 #[.val (.int x0), .val (.int x1)] [(.int x1), (.int x0)])) _
        refine XS.icmpYes X0.here hx rfl (pc0 := 2) (pc' := 9) rfl (hb hby d6_2) rfl (tlt hc2).2.2.1 (by decide) (by decide) ?_
        show Steps _ _ _ (s₁.setTop (mkF m 9 #[.val (.int x0), .val (.int x1)] [])) _
        refine XS.iloadN X0.here hx rfl (hb hby d6_9) rfl ?_
        exact Steps.refl _)
    obtain ⟨fs, hr, hrun, hended, hW, hsame⟩ := X0.leave (v := some (.int x1)) (fun h => by rw [Bd.returns] at h; cases h) hlk
    refine ⟨_, _, (own_ent hsE st3).trans ?_, hrun, hended, _, _, rfl, ?_, ⟨_, rfl⟩, hW, hsame.mono (by decide) (by decide)⟩
    · exact retI X0 hx Bd.returns (hb hby d6_10) hr
    · show Q6 Z x0 x1 h0 n0 _ s₁.heap _
      rw [e0]
      exact ⟨by rw [F6, if_pos hc2], N0, rfl⟩
  · have st4 : Steps p.tables e below sE (s₁.setTop (mkF m 10 #[.val (.int x0), .val (.int x1)] [(.int x0)])) := st1.trans (by
        show Steps _ _ _ (s₁.setTop (mkF m 2 #[.val (.int x0), .val (.int x1)] [(.int x1), (.int x0)])) _
        refine XS.icmpNo X0.here hx rfl (hb hby d6_2) rfl (flt hc2).2.2.1 ?_
        show Steps _ _ _ (s₁.setTop (mkF m 5 #[.val (.int x0), .val (.int x1)] [])) _
        refine XS.iloadN X0.here hx rfl (hb hby d6_5) rfl ?_
        show Steps _ _ _ (s₁.setTop (mkF m 6 #[.val (.int x0), .val (.int x1)] [(.int x0)])) _
        refine XS.goto X0.here hx rfl (pc0 := 6) (pc' := 10) rfl (hb hby d6_6) (by decide) (by decide) ?_
        exact Steps.refl _)
    obtain ⟨fs, hr, hrun, hended, hW, hsame⟩ := X0.leave (v := some (.int x0)) (fun h => by rw [Bd.returns] at h; cases h) hlk
    refine ⟨_, _, (own_ent hsE st4).trans ?_, hrun, hended, _, _, rfl, ?_, ⟨_, rfl⟩, hW, hsame.mono (by decide) (by decide)⟩
    · exact retI X0 hx Bd.returns (hb hby d6_10) hr
    · show Q6 Z x0 x1 h0 n0 _ s₁.heap _
      rw [e0]
      exact ⟨by rw [F6, if_neg hc2], N0, rfl⟩
theorem d14_0 : decode jdk_29_method_70_code 0 = .ok (.lload_n 0, 1) := by decide +kernel
theorem d14_1 : decode jdk_29_method_70_code 1 = .ok (.lload_n 2, 1) := by decide +kernel
theorem d14_2 : decode jdk_29_method_70_code 2 = .ok (.lcmp, 1) := by decide +kernel
theorem d14_3 : decode jdk_29_method_70_code 3 = .ok (.ifCond .gt 7, 3) := by decide +kernel
theorem d14_6 : decode jdk_29_method_70_code 6 = .ok (.lload_n 0, 1) := by decide +kernel
theorem d14_7 : decode jdk_29_method_70_code 7 = .ok (.goto 4, 3) := by decide +kernel
theorem d14_10 : decode jdk_29_method_70_code 10 = .ok (.lload_n 2, 1) := by decide +kernel
theorem d14_11 : decode jdk_29_method_70_code 11 = .ok (.lreturn, 1) := by decide +kernel
theorem ef_14 (m : MethodId) (x0 : Int64) (x1 : Int64)  : entryFrame m #[(.long x0), (.long x1)] 4 = mkF m 0 #[.val (.long x0), .second, .val (.long x1), .second] [] := by first | (simp [entryFrame, mkF, argsToLocals, Value.category]; done) | rfl
def F14 (x0 : Int64) (x1 : Int64) : Int64 := if x1 < x0 then x1 else x0
def Q14 (Z : State) (x0 : Int64) (x1 : Int64) (h0 : Heap) (n0 : Nat) (vE : Option Value) (hE : Heap) (LE : List Loc) : Prop := vE = some (.long (F14 x0 x1)) ∧ Fr n0 LE ∧ hE = h0
set_option maxRecDepth 65536 in
set_option maxHeartbeats 40000000 in
theorem rm14 (l : Launch) (Z : State) (a0 : Array Value) (hw : ∀ d ∈ tables_1, d.before a0 Z = true) (ws : List Jvm.Cond) (x0 : Int64) (x1 : Int64) (h0 : Heap) (n0 : Nat) (Z0 : n0 ≤ h0.size) :
    MetFree l (⟨"java/lang/Math", "min", "(JJ)J"⟩ : MethodName) (head1 (Jvm.Cond.code (⟨"java/lang/Math", "min", "(JJ)J"⟩ : MethodName) jdk_29_method_70_code 4 (some .long) :: ws) ({ frames := 0, cells := 0, slots := 0, locals := 0 } : Room)) (fun a U => a = #[(.long x0), (.long x1)] ∧ Z.Warmed39 U.vm ∧ U.heap = h0) (fun _ _ _ _ _ => True) (fun _ U o U' => ∃ vE LE, o = .returned vE ∧ Q14 Z x0 x1 h0 n0 vE U'.heap LE ∧ FrameEnd U o U' LE ({ frames := 0, cells := 0, slots := 0, locals := 0 } : Room).cells ({ frames := 0, cells := 0, slots := 0, locals := 0 } : Room).slots) := by
  refine MetFree.of_bodySF (Jvm.Free.JP.mathPlain rfl (by decide +kernel)) hisR ?_
  intro p e s m args below meth c s₁ Bd hml0 hP hK
  obtain ⟨rfl, hZ, hh⟩ := hP
  have hx := Bd.exec
  have hby := Bd.bytes
  have hml : c.maxLocals = 4 := hml0
  have hown : s.vm.findClass "java/lang/Math" = some m.cls := findClass_of_methodNamed Bd.named
  have hnm := (name_of_methodNamed Bd.named Bd.method).1
  have hlk : meth.locks = false := BodyLoose.notSynchronized Bd
  have X0 : Stand p l e ({ frames := 0, cells := 0, slots := 0, locals := 0 } : Room) s m #[(.long x0), (.long x1)] below meth c s₁ [] 0 0 := Stand.of_body Bd
  have e0 : s₁.heap = h0 := by rw [← hh, Bd.state]; rfl
  have N0 := Fr.nil n0
  obtain ⟨sE, hsE⟩ : ∃ z, z = (s₁.setTop (entryFrame m #[(.long x0), (.long x1)] 4)) := ⟨_, rfl⟩
  have st0 : Steps p.tables e below sE (s₁.setTop (mkF m 0 #[.val (.long x0), .second, .val (.long x1), .second] [])) := by rw [hsE]; exact castTop (ef_14 m x0 x1) (Steps.refl _)
  have st1 : Steps p.tables e below sE (s₁.setTop (mkF m 3 #[.val (.long x0), .second, .val (.long x1), .second] [(.int (lcmpW x0 x1))])) := st0.trans (by
      show Steps _ _ _ (s₁.setTop (mkF m 0 #[.val (.long x0), .second, .val (.long x1), .second] [])) _
      refine XS.lloadN X0.here hx rfl (hb hby d14_0) rfl ?_
      show Steps _ _ _ (s₁.setTop (mkF m 1 #[.val (.long x0), .second, .val (.long x1), .second] [(.long x0)])) _
      refine XS.lloadN X0.here hx rfl (hb hby d14_1) rfl ?_
      show Steps _ _ _ (s₁.setTop (mkF m 2 #[.val (.long x0), .second, .val (.long x1), .second] [(.long x1), (.long x0)])) _
      refine XS.lcmp X0.here hx rfl (hb hby d14_2) rfl ?_
      exact Steps.refl _)
  by_cases hc2 : x1 < x0
  · have st3 : Steps p.tables e below sE (s₁.setTop (mkF m 11 #[.val (.long x0), .second, .val (.long x1), .second] [(.long x1)])) := st1.trans (by
        show Steps _ _ _ (s₁.setTop (mkF m 3 #[.val (.long x0), .second, .val (.long x1), .second] [(.int (lcmpW x0 x1))])) _
        refine XS.ifYes X0.here hx rfl (pc0 := 3) (pc' := 10) rfl (hb hby d14_3) rfl ((if0 _ _).trans (tlt ((lw_gt _ _).mpr hc2)).2.2.1) (by decide) (by decide) ?_
        show Steps _ _ _ (s₁.setTop (mkF m 10 #[.val (.long x0), .second, .val (.long x1), .second] [])) _
        refine XS.lloadN X0.here hx rfl (hb hby d14_10) rfl ?_
        exact Steps.refl _)
    obtain ⟨fs, hr, hrun, hended, hW, hsame⟩ := X0.leave (v := some (.long x1)) (fun h => by rw [Bd.returns] at h; cases h) hlk
    refine ⟨_, _, (own_ent hsE st3).trans ?_, hrun, hended, _, _, rfl, ?_, ⟨_, rfl⟩, hW, hsame.mono (by decide) (by decide)⟩
    · exact retOut X0 hx (t := .long) Bd.returns rfl (Or.inr (Or.inl ⟨rfl, rfl, _, rfl⟩)) (hb hby d14_11) hr
    · show Q14 Z x0 x1 h0 n0 _ s₁.heap _
      rw [e0]
      exact ⟨by rw [F14, if_pos hc2], N0, rfl⟩
  · have st4 : Steps p.tables e below sE (s₁.setTop (mkF m 11 #[.val (.long x0), .second, .val (.long x1), .second] [(.long x0)])) := st1.trans (by
        show Steps _ _ _ (s₁.setTop (mkF m 3 #[.val (.long x0), .second, .val (.long x1), .second] [(.int (lcmpW x0 x1))])) _
        refine XS.ifNo X0.here hx rfl (hb hby d14_3) rfl ((if0 _ _).trans (flt (fun q => hc2 ((lw_gt _ _).mp q))).2.2.1) ?_
        show Steps _ _ _ (s₁.setTop (mkF m 6 #[.val (.long x0), .second, .val (.long x1), .second] [])) _
        refine XS.lloadN X0.here hx rfl (hb hby d14_6) rfl ?_
        show Steps _ _ _ (s₁.setTop (mkF m 7 #[.val (.long x0), .second, .val (.long x1), .second] [(.long x0)])) _
        refine XS.goto X0.here hx rfl (pc0 := 7) (pc' := 11) rfl (hb hby d14_7) (by decide) (by decide) ?_
        exact Steps.refl _)
    obtain ⟨fs, hr, hrun, hended, hW, hsame⟩ := X0.leave (v := some (.long x0)) (fun h => by rw [Bd.returns] at h; cases h) hlk
    refine ⟨_, _, (own_ent hsE st4).trans ?_, hrun, hended, _, _, rfl, ?_, ⟨_, rfl⟩, hW, hsame.mono (by decide) (by decide)⟩
    · exact retOut X0 hx (t := .long) Bd.returns rfl (Or.inr (Or.inl ⟨rfl, rfl, _, rfl⟩)) (hb hby d14_11) hr
    · show Q14 Z x0 x1 h0 n0 _ s₁.heap _
      rw [e0]
      exact ⟨by rw [F14, if_neg hc2], N0, rfl⟩
theorem d8_0 : decode jdk_65_method_30_code 0 = .ok (.iload_n 1, 1) := by decide +kernel
theorem d8_1 : decode jdk_65_method_30_code 1 = .ok (.iload_n 2, 1) := by decide +kernel
theorem d8_2 : decode jdk_65_method_30_code 2 = .ok (.if_icmp .le 44, 3) := by decide +kernel
theorem d8_46 : decode jdk_65_method_30_code 46 = .ok (.iload_n 1, 1) := by decide +kernel
theorem d8_47 : decode jdk_65_method_30_code 47 = .ok (.ifCond .ge 12, 3) := by decide +kernel
theorem d8_59 : decode jdk_65_method_30_code 59 = .ok (.iload_n 2, 1) := by decide +kernel
theorem d8_60 : decode jdk_65_method_30_code 60 = .ok (.iload_n 0, 1) := by decide +kernel
theorem d8_61 : decode jdk_65_method_30_code 61 = .ok (.if_icmp .le 12, 3) := by decide +kernel
theorem d8_73 : decode jdk_65_method_30_code 73 = .ok (.return_, 1) := by decide +kernel
theorem pn_0 : plainName "java/util/Arrays" = true := by first | (simp [plainName, overriddenIn]; done) | decide +kernel
theorem ef_8 (m : MethodId) (x0 : Int32) (x1 : Int32) (x2 : Int32)  : entryFrame m #[(.int x0), (.int x1), (.int x2)] 3 = mkF m 0 #[.val (.int x0), .val (.int x1), .val (.int x2)] [] := by first | (simp [entryFrame, mkF, argsToLocals, Value.category]; done) | rfl
def Q8 (Z : State) (x0 : Int32) (x1 : Int32) (x2 : Int32) (h0 : Heap) (n0 : Nat) (vE : Option Value) (hE : Heap) (LE : List Loc) : Prop := vE = none ∧ Fr n0 LE ∧ hE = h0
set_option maxRecDepth 65536 in
set_option maxHeartbeats 40000000 in
theorem rm8 (l : Launch) (Z : State) (a0 : Array Value) (hw : ∀ d ∈ tables_1, d.before a0 Z = true) (ws : List Jvm.Cond) (x0 : Int32) (x1 : Int32) (x2 : Int32) (h0 : Heap) (n0 : Nat) (Z0 : n0 ≤ h0.size) (ha1 : ¬ x2 < x1) (ha2 : ¬ x1 < (0 : Int32)) (ha3 : ¬ x0 < x2) :
    MetFree l (⟨"java/util/Arrays", "rangeCheck", "(III)V"⟩ : MethodName) (head1 (Jvm.Cond.code (⟨"java/util/Arrays", "rangeCheck", "(III)V"⟩ : MethodName) jdk_65_method_30_code 3 none :: ws) ({ frames := 0, cells := 0, slots := 0, locals := 0 } : Room)) (fun a U => a = #[(.int x0), (.int x1), (.int x2)] ∧ Z.Warmed39 U.vm ∧ U.heap = h0) (fun _ _ _ _ _ => True) (fun _ U o U' => ∃ vE LE, o = .returned vE ∧ Q8 Z x0 x1 x2 h0 n0 vE U'.heap LE ∧ FrameEnd U o U' LE ({ frames := 0, cells := 0, slots := 0, locals := 0 } : Room).cells ({ frames := 0, cells := 0, slots := 0, locals := 0 } : Room).slots) := by
  refine MetFree.of_bodySF (plainFor_of_name pn_0) hisR ?_
  intro p e s m args below meth c s₁ Bd hml0 hP hK
  obtain ⟨rfl, hZ, hh⟩ := hP
  have hx := Bd.exec
  have hby := Bd.bytes
  have hml : c.maxLocals = 3 := hml0
  have hown : s.vm.findClass "java/util/Arrays" = some m.cls := findClass_of_methodNamed Bd.named
  have hnm := (name_of_methodNamed Bd.named Bd.method).1
  have hlk : meth.locks = false := BodyLoose.notSynchronized Bd
  have X0 : Stand p l e ({ frames := 0, cells := 0, slots := 0, locals := 0 } : Room) s m #[(.int x0), (.int x1), (.int x2)] below meth c s₁ [] 0 0 := Stand.of_body Bd
  have e0 : s₁.heap = h0 := by rw [← hh, Bd.state]; rfl
  have N0 := Fr.nil n0
  obtain ⟨sE, hsE⟩ : ∃ z, z = (s₁.setTop (entryFrame m #[(.int x0), (.int x1), (.int x2)] 3)) := ⟨_, rfl⟩
  have st0 : Steps p.tables e below sE (s₁.setTop (mkF m 0 #[.val (.int x0), .val (.int x1), .val (.int x2)] [])) := by rw [hsE]; exact castTop (ef_8 m x0 x1 x2) (Steps.refl _)
  have st1 : Steps p.tables e below sE (s₁.setTop (mkF m 2 #[.val (.int x0), .val (.int x1), .val (.int x2)] [(.int x2), (.int x1)])) := st0.trans (by
      show Steps _ _ _ (s₁.setTop (mkF m 0 #[.val (.int x0), .val (.int x1), .val (.int x2)] [])) _
      refine XS.iloadN X0.here hx rfl (hb hby d8_0) rfl ?_
      show Steps _ _ _ (s₁.setTop (mkF m 1 #[.val (.int x0), .val (.int x1), .val (.int x2)] [(.int x1)])) _
      refine XS.iloadN X0.here hx rfl (hb hby d8_1) rfl ?_
      exact Steps.refl _)
  have hf2 : ¬ (x2 < x1) := ha1
  have st3 : Steps p.tables e below sE (s₁.setTop (mkF m 47 #[.val (.int x0), .val (.int x1), .val (.int x2)] [(.int x1)])) := st1.trans (by
      show Steps _ _ _ (s₁.setTop (mkF m 2 #[.val (.int x0), .val (.int x1), .val (.int x2)] [(.int x2), (.int x1)])) _
      refine XS.icmpYes X0.here hx rfl (pc0 := 2) (pc' := 46) rfl (hb hby d8_2) rfl (flt hf2).2.2.2 (by decide) (by decide) ?_
      show Steps _ _ _ (s₁.setTop (mkF m 46 #[.val (.int x0), .val (.int x1), .val (.int x2)] [])) _
      refine XS.iloadN X0.here hx rfl (hb hby d8_46) rfl ?_
      exact Steps.refl _)
  have hf4 : ¬ (x1 < (0 : Int32)) := ha2
  have st5 : Steps p.tables e below sE (s₁.setTop (mkF m 61 #[.val (.int x0), .val (.int x1), .val (.int x2)] [(.int x0), (.int x2)])) := st3.trans (by
      show Steps _ _ _ (s₁.setTop (mkF m 47 #[.val (.int x0), .val (.int x1), .val (.int x2)] [(.int x1)])) _
      refine XS.ifYes X0.here hx rfl (pc0 := 47) (pc' := 59) rfl (hb hby d8_47) rfl ((if0 _ _).trans (flt hf4).2.1) (by decide) (by decide) ?_
      show Steps _ _ _ (s₁.setTop (mkF m 59 #[.val (.int x0), .val (.int x1), .val (.int x2)] [])) _
      refine XS.iloadN X0.here hx rfl (hb hby d8_59) rfl ?_
      show Steps _ _ _ (s₁.setTop (mkF m 60 #[.val (.int x0), .val (.int x1), .val (.int x2)] [(.int x2)])) _
      refine XS.iloadN X0.here hx rfl (hb hby d8_60) rfl ?_
      exact Steps.refl _)
  have hf6 : ¬ (x0 < x2) := ha3
  have st7 : Steps p.tables e below sE (s₁.setTop (mkF m 73 #[.val (.int x0), .val (.int x1), .val (.int x2)] [])) := st5.trans (by
      show Steps _ _ _ (s₁.setTop (mkF m 61 #[.val (.int x0), .val (.int x1), .val (.int x2)] [(.int x0), (.int x2)])) _
      refine XS.icmpYes X0.here hx rfl (pc0 := 61) (pc' := 73) rfl (hb hby d8_61) rfl (flt hf6).2.2.2 (by decide) (by decide) ?_
      exact Steps.refl _)
  obtain ⟨fs, hr, hrun, hended, hW, hsame⟩ := X0.leave (v := none) (fun _ => rfl) hlk
  refine ⟨_, _, (own_ent hsE st7).trans ?_, hrun, hended, _, _, rfl, ?_, ⟨_, rfl⟩, hW, hsame.mono (by decide) (by decide)⟩
  · exact X0.returnOut hx Bd.returns (hb hby d8_73) hr
  · show Q8 Z x0 x1 x2 h0 n0 _ s₁.heap _
    rw [e0]
    exact ⟨rfl, N0, rfl⟩
theorem d9_0 : decode prog_24_method_10_code 0 = .ok (.aload_n 0, 1) := by decide +kernel
theorem d9_1 : decode prog_24_method_10_code 1 = .ok (.getfield 7, 3) := by decide +kernel
theorem d9_4 : decode prog_24_method_10_code 4 = .ok (.iload 4, 2) := by decide +kernel
theorem d9_6 : decode prog_24_method_10_code 6 = .ok (.iload_n 1, 1) := by decide +kernel
theorem d9_7 : decode prog_24_method_10_code 7 = .ok (.iastore, 1) := by decide +kernel
theorem d9_8 : decode prog_24_method_10_code 8 = .ok (.aload_n 0, 1) := by decide +kernel
theorem d9_9 : decode prog_24_method_10_code 9 = .ok (.getfield 13, 3) := by decide +kernel
theorem d9_12 : decode prog_24_method_10_code 12 = .ok (.iload 4, 2) := by decide +kernel
theorem d9_14 : decode prog_24_method_10_code 14 = .ok (.lload_n 2, 1) := by decide +kernel
theorem d9_15 : decode prog_24_method_10_code 15 = .ok (.lastore, 1) := by decide +kernel
theorem d9_16 : decode prog_24_method_10_code 16 = .ok (.aload_n 0, 1) := by decide +kernel
theorem d9_17 : decode prog_24_method_10_code 17 = .ok (.getfield 17, 3) := by decide +kernel
theorem d9_20 : decode prog_24_method_10_code 20 = .ok (.iload_n 1, 1) := by decide +kernel
theorem d9_21 : decode prog_24_method_10_code 21 = .ok (.iload 4, 2) := by decide +kernel
theorem d9_23 : decode prog_24_method_10_code 23 = .ok (.iastore, 1) := by decide +kernel
theorem d9_24 : decode prog_24_method_10_code 24 = .ok (.return_, 1) := by decide +kernel
theorem pn_1 : plainName "com/example/folioseek/folioseek/UseOrder" = true := by first | (simp [plainName, overriddenIn]; done) | decide +kernel
theorem ef_9 (m : MethodId) (x0 : Addr) (x1 : Int32) (x2 : Int64) (x3 : Int32)  : entryFrame m #[(.ref x0), (.int x1), (.long x2), (.int x3)] 5 = mkF m 0 #[.val (.ref x0), .val (.int x1), .val (.long x2), .second, .val (.int x3)] [] := by first | (simp [entryFrame, mkF, argsToLocals, Value.category]; done) | rfl
def Q9 (Z : State) (x0 : Addr) (x1 : Int32) (x2 : Int64) (x3 : Int32) (aI : Addr) (aU : Addr) (aS : Addr) (kI : ClassId) (kU : ClassId) (kS : ClassId) (LI : List Int32) (LU : List Int64) (LS : List Int32) (mm : Int32) (h0 : Heap) (n0 : Nat) (vE : Option Value) (hE : Heap) (LE : List Loc) : Prop := vE = none ∧ Fr n0 LE ∧ Keep h0 hE [aI, aU, aS] ∧ Arv Z hE aI kI .int (16 : Int32) (List.map Value.int (LI.set (x3).toNatClampNeg x1)) (.int (0 : Int32)) ∧ Arv Z hE aU kU .long (16 : Int32) (List.map Value.long (LU.set (x3).toNatClampNeg x2)) (.long (0 : Int64)) ∧ Arv Z hE aS kS .int mm (List.map Value.int (LS.set (x1).toNatClampNeg x3)) (.int (0 : Int32))
set_option maxRecDepth 65536 in
set_option maxHeartbeats 40000000 in
theorem rm9 (l : Launch) (Z : State) (a0 : Array Value) (hw : ∀ d ∈ tables_1, d.before a0 Z = true) (ws : List Jvm.Cond) (x0 : Addr) (x1 : Int32) (x2 : Int64) (x3 : Int32) (aI : Addr) (aU : Addr) (aS : Addr) (kI : ClassId) (kU : ClassId) (kS : ClassId) (LI : List Int32) (LU : List Int64) (LS : List Int32) (mm : Int32) (h0 : Heap) (n0 : Nat) (Z0 : n0 ≤ h0.size) (F_i : Fld Z h0 x0 "com/example/folioseek/folioseek/UseOrder" "ids" "[I" (.ref aI)) (F_u : Fld Z h0 x0 "com/example/folioseek/folioseek/UseOrder" "uses" "[J" (.ref aU)) (F_s : Fld Z h0 x0 "com/example/folioseek/folioseek/UseOrder" "slots" "[I" (.ref aS)) (A_i : Arv Z h0 aI kI .int (16 : Int32) (List.map Value.int LI) (.int (0 : Int32))) (A_u : Arv Z h0 aU kU .long (16 : Int32) (List.map Value.long LU) (.long (0 : Int64))) (A_s : Arv Z h0 aS kS .int mm (List.map Value.int LS) (.int (0 : Int32))) (hs : ¬ x3 < 0 ∧ x3 < (16 : Int32)) (hid : ¬ x1 < 0 ∧ x1 < mm) (hl : LI.length = 16 ∧ LU.length = 16 ∧ x3.toNatClampNeg < 16 ∧ x1.toNatClampNeg < LS.length) (g_i : n0 ≤ aI) (g_u : n0 ≤ aU) (g_s : n0 ≤ aS) (ne_iu : aI ≠ aU) (ne_is : aI ≠ aS) (ne_us : aU ≠ aS) (ne_xi : x0 ≠ aI) (ne_xu : x0 ≠ aU) (ne_xs : x0 ≠ aS) :
    MetFree l (⟨"com/example/folioseek/folioseek/UseOrder", "place", "(IJI)V"⟩ : MethodName) (head1 (Jvm.Cond.code (⟨"com/example/folioseek/folioseek/UseOrder", "place", "(IJI)V"⟩ : MethodName) prog_24_method_10_code 5 none :: ws) ({ frames := 0, cells := 0, slots := 0, locals := 0 } : Room)) (fun a U => a = #[(.ref x0), (.int x1), (.long x2), (.int x3)] ∧ Z.Warmed39 U.vm ∧ U.heap = h0) (fun _ _ _ _ _ => True) (fun _ U o U' => ∃ vE LE, o = .returned vE ∧ Q9 Z x0 x1 x2 x3 aI aU aS kI kU kS LI LU LS mm h0 n0 vE U'.heap LE ∧ FrameEnd U o U' LE ({ frames := 0, cells := 0, slots := 0, locals := 0 } : Room).cells ({ frames := 0, cells := 0, slots := 0, locals := 0 } : Room).slots) := by
  refine MetFree.of_bodySF (plainFor_of_name pn_1) hisR ?_
  intro p e s m args below meth c s₁ Bd hml0 hP hK
  obtain ⟨rfl, hZ, hh⟩ := hP
  have hx := Bd.exec
  have hby := Bd.bytes
  have hml : c.maxLocals = 5 := hml0
  have hown : s.vm.findClass "com/example/folioseek/folioseek/UseOrder" = some m.cls := findClass_of_methodNamed Bd.named
  have hnm := (name_of_methodNamed Bd.named Bd.method).1
  have hlk : meth.locks = false := BodyLoose.notSynchronized Bd
  have X0 : Stand p l e ({ frames := 0, cells := 0, slots := 0, locals := 0 } : Room) s m #[(.ref x0), (.int x1), (.long x2), (.int x3)] below meth c s₁ [] 0 0 := Stand.of_body Bd
  have e0 : s₁.heap = h0 := by rw [← hh, Bd.state]; rfl
  have N0 := Fr.nil n0
  obtain ⟨sE, hsE⟩ : ∃ z, z = (s₁.setTop (entryFrame m #[(.ref x0), (.int x1), (.long x2), (.int x3)] 5)) := ⟨_, rfl⟩
  have st0 : Steps p.tables e below sE (s₁.setTop (mkF m 0 #[.val (.ref x0), .val (.int x1), .val (.long x2), .second, .val (.int x3)] [])) := by rw [hsE]; exact castTop (ef_9 m x0 x1 x2 x3) (Steps.refl _)
  have K0 : Keep h0 h0 [aI, aU, aS] := Keep.refl _ _
  have st1 : Steps p.tables e below sE (s₁.setTop (mkF m 1 #[.val (.ref x0), .val (.int x1), .val (.long x2), .second, .val (.int x3)] [(.ref x0)])) := st0.trans (by
      show Steps _ _ _ (s₁.setTop (mkF m 0 #[.val (.ref x0), .val (.int x1), .val (.long x2), .second, .val (.int x3)] [])) _
      refine XS.aloadN X0.here hx rfl (hb hby d9_0) rfl rfl ?_
      exact Steps.refl _)
  obtain ⟨T2, X2, e2, sr2⟩ := getF X0 hx hZ hown (host := "") (Or.inl (hw _ (List.mem_of_getElem? (i := 11) rfl))) Via.refl e0 F_i (g := (mkF m 1 #[.val (.ref x0), .val (.int x1), .val (.long x2), .second, .val (.int x3)] [(.ref x0)])) rfl rfl (hb hby d9_1)
  have st3 : Steps p.tables e below sE (T2.setTop (mkF m 4 #[.val (.ref x0), .val (.int x1), .val (.long x2), .second, .val (.int x3)] [(.ref aI)])) := st1.trans (sr2 _ (Steps.refl _))
  have st4 : Steps p.tables e below sE (T2.setTop (mkF m 7 #[.val (.ref x0), .val (.int x1), .val (.long x2), .second, .val (.int x3)] [(.int x1), (.int x3), (.ref aI)])) := st3.trans (by
      show Steps _ _ _ (T2.setTop (mkF m 4 #[.val (.ref x0), .val (.int x1), .val (.long x2), .second, .val (.int x3)] [(.ref aI)])) _
      refine XS.iload X2.here hx rfl (hb hby d9_4) rfl ?_
      show Steps _ _ _ (T2.setTop (mkF m 6 #[.val (.ref x0), .val (.int x1), .val (.long x2), .second, .val (.int x3)] [(.int x3), (.ref aI)])) _
      refine XS.iloadN X2.here hx rfl (hb hby d9_6) rfl ?_
      exact Steps.refl _)
  obtain ⟨cl5, Ar5, q5, S5, N5, H5, G5⟩ := id A_i
  have hin5 : ¬ (x3 < 0 ∨ cl5.slots.size ≤ (x3).toNatClampNeg) := inb_of S5 hs
  obtain ⟨T6, h6, X6, e6, W6, sr6⟩ := stI X2 hx hZ e2 Ar5 (j := x3) hin5 (g := (mkF m 7 #[.val (.ref x0), .val (.int x1), .val (.long x2), .second, .val (.int x3)] [(.int x1), (.int x3), (.ref aI)])) rfl rfl (hb hby d9_7)
  have f7 : Fld Z h6 x0 "com/example/folioseek/folioseek/UseOrder" "ids" "[I" (.ref aI) := F_i.other W6 (Or.inl ne_xi)
  have f8 : Fld Z h6 x0 "com/example/folioseek/folioseek/UseOrder" "uses" "[J" (.ref aU) := F_u.other W6 (Or.inl ne_xi)
  have f9 : Fld Z h6 x0 "com/example/folioseek/folioseek/UseOrder" "slots" "[I" (.ref aS) := F_s.other W6 (Or.inl ne_xi)
  have f10 : Arv Z h6 aU kU .long (16 : Int32) (List.map Value.long LU) (.long (0 : Int64)) := A_u.other W6 (Ne.symm ne_iu)
  have f11 : Arv Z h6 aS kS .int mm (List.map Value.int LS) (.int (0 : Int32)) := A_s.other W6 (Ne.symm ne_is)
  have f12 : Arv Z h6 aI kI .int (16 : Int32) (List.map Value.int (LI.set (x3).toNatClampNeg x1)) (.int (0 : Int32)) := (by have q := Arv.set Ar5 q5 S5 N5 H5 G5 rfl W6 _ rfl (by rw [List.length_map, hl.1]; exact hl.2.2.1); rw [own_setI] at q; exact q)
  have K13 : Keep h0 h6 [aI, aU, aS] := K0.wr W6 (Or.inl (List.mem_of_getElem? (i := 0) rfl))
  have Z6 : n0 ≤ h6.size := Nat.le_trans Z0 (Keep.of_wr W6).1
  have N6 := Fr.snoc X6 N0 g_i
  obtain ⟨LL6, X6, N6⟩ := own_hide X6 N6
  have st14 : Steps p.tables e below sE (T6.setTop (mkF m 8 #[.val (.ref x0), .val (.int x1), .val (.long x2), .second, .val (.int x3)] [])) := st4.trans (sr6 _ (Steps.refl _))
  have st15 : Steps p.tables e below sE (T6.setTop (mkF m 9 #[.val (.ref x0), .val (.int x1), .val (.long x2), .second, .val (.int x3)] [(.ref x0)])) := st14.trans (by
      show Steps _ _ _ (T6.setTop (mkF m 8 #[.val (.ref x0), .val (.int x1), .val (.long x2), .second, .val (.int x3)] [])) _
      refine XS.aloadN X6.here hx rfl (hb hby d9_8) rfl rfl ?_
      exact Steps.refl _)
  obtain ⟨T16, X16, e16, sr16⟩ := getF X6 hx hZ hown (host := "") (Or.inl (hw _ (List.mem_of_getElem? (i := 13) rfl))) Via.refl e6 f8 (g := (mkF m 9 #[.val (.ref x0), .val (.int x1), .val (.long x2), .second, .val (.int x3)] [(.ref x0)])) rfl rfl (hb hby d9_9)
  have st17 : Steps p.tables e below sE (T16.setTop (mkF m 12 #[.val (.ref x0), .val (.int x1), .val (.long x2), .second, .val (.int x3)] [(.ref aU)])) := st15.trans (sr16 _ (Steps.refl _))
  have st18 : Steps p.tables e below sE (T16.setTop (mkF m 15 #[.val (.ref x0), .val (.int x1), .val (.long x2), .second, .val (.int x3)] [(.long x2), (.int x3), (.ref aU)])) := st17.trans (by
      show Steps _ _ _ (T16.setTop (mkF m 12 #[.val (.ref x0), .val (.int x1), .val (.long x2), .second, .val (.int x3)] [(.ref aU)])) _
      refine XS.iload X16.here hx rfl (hb hby d9_12) rfl ?_
      show Steps _ _ _ (T16.setTop (mkF m 14 #[.val (.ref x0), .val (.int x1), .val (.long x2), .second, .val (.int x3)] [(.int x3), (.ref aU)])) _
      refine XS.lloadN X16.here hx rfl (hb hby d9_14) rfl ?_
      exact Steps.refl _)
  obtain ⟨cl19, Ar19, q19, S19, N19, H19, G19⟩ := id f10
  have hin19 : ¬ (x3 < 0 ∨ cl19.slots.size ≤ (x3).toNatClampNeg) := inb_of S19 hs
  obtain ⟨T20, h20, X20, e20, W20, sr20⟩ := stJ X16 hx hZ e16 Ar19 (j := x3) hin19 (g := (mkF m 15 #[.val (.ref x0), .val (.int x1), .val (.long x2), .second, .val (.int x3)] [(.long x2), (.int x3), (.ref aU)])) rfl rfl (hb hby d9_15)
  have f21 : Fld Z h20 x0 "com/example/folioseek/folioseek/UseOrder" "ids" "[I" (.ref aI) := f7.other W20 (Or.inl ne_xu)
  have f22 : Fld Z h20 x0 "com/example/folioseek/folioseek/UseOrder" "uses" "[J" (.ref aU) := f8.other W20 (Or.inl ne_xu)
  have f23 : Fld Z h20 x0 "com/example/folioseek/folioseek/UseOrder" "slots" "[I" (.ref aS) := f9.other W20 (Or.inl ne_xu)
  have f24 : Arv Z h20 aS kS .int mm (List.map Value.int LS) (.int (0 : Int32)) := f11.other W20 (Ne.symm ne_us)
  have f25 : Arv Z h20 aI kI .int (16 : Int32) (List.map Value.int (LI.set (x3).toNatClampNeg x1)) (.int (0 : Int32)) := f12.other W20 ne_iu
  have f26 : Arv Z h20 aU kU .long (16 : Int32) (List.map Value.long (LU.set (x3).toNatClampNeg x2)) (.long (0 : Int64)) := (by have q := Arv.set Ar19 q19 S19 N19 H19 G19 rfl W20 _ rfl (by rw [List.length_map, hl.2.1]; exact hl.2.2.1); rw [own_setJ] at q; exact q)
  have K27 : Keep h0 h20 [aI, aU, aS] := K13.wr W20 (Or.inl (List.mem_of_getElem? (i := 1) rfl))
  have Z20 : n0 ≤ h20.size := Nat.le_trans Z6 (Keep.of_wr W20).1
  have N20 := Fr.snoc X20 N6 g_u
  obtain ⟨LL20, X20, N20⟩ := own_hide X20 N20
  have st28 : Steps p.tables e below sE (T20.setTop (mkF m 16 #[.val (.ref x0), .val (.int x1), .val (.long x2), .second, .val (.int x3)] [])) := st18.trans (sr20 _ (Steps.refl _))
  have st29 : Steps p.tables e below sE (T20.setTop (mkF m 17 #[.val (.ref x0), .val (.int x1), .val (.long x2), .second, .val (.int x3)] [(.ref x0)])) := st28.trans (by
      show Steps _ _ _ (T20.setTop (mkF m 16 #[.val (.ref x0), .val (.int x1), .val (.long x2), .second, .val (.int x3)] [])) _
      refine XS.aloadN X20.here hx rfl (hb hby d9_16) rfl rfl ?_
      exact Steps.refl _)
  obtain ⟨T30, X30, e30, sr30⟩ := getF X20 hx hZ hown (host := "") (Or.inl (hw _ (List.mem_of_getElem? (i := 15) rfl))) Via.refl e20 f23 (g := (mkF m 17 #[.val (.ref x0), .val (.int x1), .val (.long x2), .second, .val (.int x3)] [(.ref x0)])) rfl rfl (hb hby d9_17)
  have st31 : Steps p.tables e below sE (T30.setTop (mkF m 20 #[.val (.ref x0), .val (.int x1), .val (.long x2), .second, .val (.int x3)] [(.ref aS)])) := st29.trans (sr30 _ (Steps.refl _))
  have st32 : Steps p.tables e below sE (T30.setTop (mkF m 23 #[.val (.ref x0), .val (.int x1), .val (.long x2), .second, .val (.int x3)] [(.int x3), (.int x1), (.ref aS)])) := st31.trans (by
      show Steps _ _ _ (T30.setTop (mkF m 20 #[.val (.ref x0), .val (.int x1), .val (.long x2), .second, .val (.int x3)] [(.ref aS)])) _
      refine XS.iloadN X30.here hx rfl (hb hby d9_20) rfl ?_
      show Steps _ _ _ (T30.setTop (mkF m 21 #[.val (.ref x0), .val (.int x1), .val (.long x2), .second, .val (.int x3)] [(.int x1), (.ref aS)])) _
      refine XS.iload X30.here hx rfl (hb hby d9_21) rfl ?_
      exact Steps.refl _)
  obtain ⟨cl33, Ar33, q33, S33, N33, H33, G33⟩ := id f24
  have hin33 : ¬ (x1 < 0 ∨ cl33.slots.size ≤ (x1).toNatClampNeg) := inb_of S33 hid
  obtain ⟨T34, h34, X34, e34, W34, sr34⟩ := stI X30 hx hZ e30 Ar33 (j := x1) hin33 (g := (mkF m 23 #[.val (.ref x0), .val (.int x1), .val (.long x2), .second, .val (.int x3)] [(.int x3), (.int x1), (.ref aS)])) rfl rfl (hb hby d9_23)
  have f35 : Fld Z h34 x0 "com/example/folioseek/folioseek/UseOrder" "ids" "[I" (.ref aI) := f21.other W34 (Or.inl ne_xs)
  have f36 : Fld Z h34 x0 "com/example/folioseek/folioseek/UseOrder" "uses" "[J" (.ref aU) := f22.other W34 (Or.inl ne_xs)
  have f37 : Fld Z h34 x0 "com/example/folioseek/folioseek/UseOrder" "slots" "[I" (.ref aS) := f23.other W34 (Or.inl ne_xs)
  have f38 : Arv Z h34 aI kI .int (16 : Int32) (List.map Value.int (LI.set (x3).toNatClampNeg x1)) (.int (0 : Int32)) := f25.other W34 ne_is
  have f39 : Arv Z h34 aU kU .long (16 : Int32) (List.map Value.long (LU.set (x3).toNatClampNeg x2)) (.long (0 : Int64)) := f26.other W34 ne_us
  have f40 : Arv Z h34 aS kS .int mm (List.map Value.int (LS.set (x1).toNatClampNeg x3)) (.int (0 : Int32)) := (by have q := Arv.set Ar33 q33 S33 N33 H33 G33 rfl W34 _ rfl (by rw [List.length_map]; exact hl.2.2.2); rw [own_setI] at q; exact q)
  have K41 : Keep h0 h34 [aI, aU, aS] := K27.wr W34 (Or.inl (List.mem_of_getElem? (i := 2) rfl))
  have Z34 : n0 ≤ h34.size := Nat.le_trans Z20 (Keep.of_wr W34).1
  have N34 := Fr.snoc X34 N20 g_s
  obtain ⟨LL34, X34, N34⟩ := own_hide X34 N34
  have st42 : Steps p.tables e below sE (T34.setTop (mkF m 24 #[.val (.ref x0), .val (.int x1), .val (.long x2), .second, .val (.int x3)] [])) := st32.trans (sr34 _ (Steps.refl _))
  obtain ⟨fs, hr, hrun, hended, hW, hsame⟩ := X34.leave (v := none) (fun _ => rfl) hlk
  refine ⟨_, _, (own_ent hsE st42).trans ?_, hrun, hended, _, _, rfl, ?_, ⟨_, rfl⟩, hW, hsame.mono (by decide) (by decide)⟩
  · exact X34.returnOut hx Bd.returns (hb hby d9_24) hr
  · show Q9 Z x0 x1 x2 x3 aI aU aS kI kU kS LI LU LS mm h0 n0 _ T34.heap _
    rw [e34]
    exact ⟨rfl, N34, K41, f38, f39, f40⟩
theorem own_pos {x : Int32} (h : (0 : Int32) < x) : 0 < x.toInt := by have := Int32.lt_iff_toInt_lt.mp h; simpa using this
theorem pd_0 : parseMethodDescriptor "(IJI)V" = some ⟨[.int, .long, .int], none⟩ := by decide +kernel
theorem d10_0 : decode prog_24_method_8_code 0 = .ok (.aload_n 0, 1) := by decide +kernel
theorem d10_1 : decode prog_24_method_8_code 1 = .ok (.getfield 7, 3) := by decide +kernel
theorem d10_4 : decode prog_24_method_8_code 4 = .ok (.iload_n 1, 1) := by decide +kernel
theorem d10_5 : decode prog_24_method_8_code 5 = .ok (.iaload, 1) := by decide +kernel
theorem d10_6 : decode prog_24_method_8_code 6 = .ok (.istore_n 2, 1) := by decide +kernel
theorem d10_7 : decode prog_24_method_8_code 7 = .ok (.aload_n 0, 1) := by decide +kernel
theorem d10_8 : decode prog_24_method_8_code 8 = .ok (.getfield 13, 3) := by decide +kernel
theorem d10_11 : decode prog_24_method_8_code 11 = .ok (.iload_n 1, 1) := by decide +kernel
theorem d10_12 : decode prog_24_method_8_code 12 = .ok (.laload, 1) := by decide +kernel
theorem d10_13 : decode prog_24_method_8_code 13 = .ok (.lstore_n 3, 1) := by decide +kernel
theorem d10_14 : decode prog_24_method_8_code 14 = .ok (.iload_n 1, 1) := by decide +kernel
theorem d10_15 : decode prog_24_method_8_code 15 = .ok (.ifCond .le 50, 3) := by decide +kernel
theorem d10_18 : decode prog_24_method_8_code 18 = .ok (.iload_n 1, 1) := by decide +kernel
theorem d10_19 : decode prog_24_method_8_code 19 = .ok (.iconst 1, 1) := by decide +kernel
theorem d10_20 : decode prog_24_method_8_code 20 = .ok (.isub, 1) := by decide +kernel
theorem d10_21 : decode prog_24_method_8_code 21 = .ok (.iconst 4, 1) := by decide +kernel
theorem d10_22 : decode prog_24_method_8_code 22 = .ok (.idiv, 1) := by decide +kernel
theorem d10_23 : decode prog_24_method_8_code 23 = .ok (.istore 5, 2) := by decide +kernel
theorem d10_25 : decode prog_24_method_8_code 25 = .ok (.aload_n 0, 1) := by decide +kernel
theorem d10_26 : decode prog_24_method_8_code 26 = .ok (.getfield 13, 3) := by decide +kernel
theorem d10_29 : decode prog_24_method_8_code 29 = .ok (.iload 5, 2) := by decide +kernel
theorem d10_31 : decode prog_24_method_8_code 31 = .ok (.laload, 1) := by decide +kernel
theorem d10_32 : decode prog_24_method_8_code 32 = .ok (.lload_n 3, 1) := by decide +kernel
theorem d10_33 : decode prog_24_method_8_code 33 = .ok (.lcmp, 1) := by decide +kernel
theorem d10_34 : decode prog_24_method_8_code 34 = .ok (.ifCond .gt 6, 3) := by decide +kernel
theorem d10_37 : decode prog_24_method_8_code 37 = .ok (.goto 28, 3) := by decide +kernel
theorem d10_40 : decode prog_24_method_8_code 40 = .ok (.aload_n 0, 1) := by decide +kernel
theorem d10_41 : decode prog_24_method_8_code 41 = .ok (.aload_n 0, 1) := by decide +kernel
theorem d10_42 : decode prog_24_method_8_code 42 = .ok (.getfield 7, 3) := by decide +kernel
theorem d10_45 : decode prog_24_method_8_code 45 = .ok (.iload 5, 2) := by decide +kernel
theorem d10_47 : decode prog_24_method_8_code 47 = .ok (.iaload, 1) := by decide +kernel
theorem d10_48 : decode prog_24_method_8_code 48 = .ok (.aload_n 0, 1) := by decide +kernel
theorem d10_49 : decode prog_24_method_8_code 49 = .ok (.getfield 13, 3) := by decide +kernel
theorem d10_52 : decode prog_24_method_8_code 52 = .ok (.iload 5, 2) := by decide +kernel
theorem d10_54 : decode prog_24_method_8_code 54 = .ok (.laload, 1) := by decide +kernel
theorem d10_55 : decode prog_24_method_8_code 55 = .ok (.iload_n 1, 1) := by decide +kernel
theorem d10_56 : decode prog_24_method_8_code 56 = .ok (.invokevirtual 43, 3) := by decide +kernel
theorem d10_59 : decode prog_24_method_8_code 59 = .ok (.iload 5, 2) := by decide +kernel
theorem d10_61 : decode prog_24_method_8_code 61 = .ok (.istore_n 1, 1) := by decide +kernel
theorem d10_62 : decode prog_24_method_8_code 62 = .ok (.goto (-48), 3) := by decide +kernel
theorem d10_65 : decode prog_24_method_8_code 65 = .ok (.aload_n 0, 1) := by decide +kernel
theorem d10_66 : decode prog_24_method_8_code 66 = .ok (.iload_n 2, 1) := by decide +kernel
theorem d10_67 : decode prog_24_method_8_code 67 = .ok (.lload_n 3, 1) := by decide +kernel
theorem d10_68 : decode prog_24_method_8_code 68 = .ok (.iload_n 1, 1) := by decide +kernel
theorem d10_69 : decode prog_24_method_8_code 69 = .ok (.invokevirtual 43, 3) := by decide +kernel
theorem d10_72 : decode prog_24_method_8_code 72 = .ok (.return_, 1) := by decide +kernel
theorem ef_10 (m : MethodId) (x0 : Addr) (x1 : Int32)  : entryFrame m #[(.ref x0), (.int x1)] 6 = mkF m 0 #[.val (.ref x0), .val (.int x1), .unset, .unset, .unset, .unset] [] := by first | (simp [entryFrame, mkF, argsToLocals, Value.category]; done) | rfl
def Q10 (Z : State) (x0 : Addr) (x1 : Int32) (aI : Addr) (aU : Addr) (aS : Addr) (kI : ClassId) (kU : ClassId) (kS : ClassId) (LI : List Int32) (LU : List Int64) (LS : List Int32) (mm : Int32) (n : Nat) (val : Nat → Int64) (pres : Nat → Prop) (h0 : Heap) (n0 : Nat) (vE : Option Value) (hE : Heap) (LE : List Loc) : Prop := vE = none ∧ Fr n0 LE ∧ Keep h0 hE [aI, aU, aS] ∧ (∃ (LI' : List Int32) (LU' : List Int64) (LS' : List Int32), Arv Z hE aI kI .int (16 : Int32) (List.map Value.int LI') (.int (0 : Int32)) ∧ Arv Z hE aU kU .long (16 : Int32) (List.map Value.long LU') (.long (0 : Int64)) ∧ Arv Z hE aS kS .int mm (List.map Value.int LS') (.int (0 : Int32)) ∧ own_P n mm.toNatClampNeg LI' LU' LS' val pres ∧ own_H n LU')
set_option maxRecDepth 65536 in
set_option maxHeartbeats 40000000 in
theorem rm10 (l : Launch) (Z : State) (a0 : Array Value) (hw : ∀ d ∈ tables_1, d.before a0 Z = true) (ws : List Jvm.Cond) (x0 : Addr) (x1 : Int32) (aI : Addr) (aU : Addr) (aS : Addr) (kI : ClassId) (kU : ClassId) (kS : ClassId) (LI : List Int32) (LU : List Int64) (LS : List Int32) (mm : Int32) (n : Nat) (val : Nat → Int64) (pres : Nat → Prop) (h0 : Heap) (n0 : Nat) (Z0 : n0 ≤ h0.size) (E_x : Exa Z h0 x0 "com/example/folioseek/folioseek/UseOrder") (F_i : Fld Z h0 x0 "com/example/folioseek/folioseek/UseOrder" "ids" "[I" (.ref aI)) (F_u : Fld Z h0 x0 "com/example/folioseek/folioseek/UseOrder" "uses" "[J" (.ref aU)) (F_s : Fld Z h0 x0 "com/example/folioseek/folioseek/UseOrder" "slots" "[I" (.ref aS)) (A_i : Arv Z h0 aI kI .int (16 : Int32) (List.map Value.int LI) (.int (0 : Int32))) (A_u : Arv Z h0 aU kU .long (16 : Int32) (List.map Value.long LU) (.long (0 : Int64))) (A_s : Arv Z h0 aS kS .int mm (List.map Value.int LS) (.int (0 : Int32))) (hP : own_P n mm.toNatClampNeg LI LU LS val pres) (hsl : 0 ≤ x1.toInt ∧ x1.toInt < n) (hU : ∀ j, j < n → ¬ j = x1.toNatClampNeg → (LU.getD 0 0).toInt ≤ (LU.getD j 0).toInt) (g_i : n0 ≤ aI) (g_u : n0 ≤ aU) (g_s : n0 ≤ aS) (ne_iu : aI ≠ aU) (ne_is : aI ≠ aS) (ne_us : aU ≠ aS) (ne_xi : x0 ≠ aI) (ne_xu : x0 ≠ aU) (ne_xs : x0 ≠ aS) :
    MetFree l (⟨"com/example/folioseek/folioseek/UseOrder", "siftUp", "(I)V"⟩ : MethodName) (head1 (Jvm.Cond.code (⟨"com/example/folioseek/folioseek/UseOrder", "siftUp", "(I)V"⟩ : MethodName) prog_24_method_8_code 6 none :: ws) ({ frames := 1, cells := 0, slots := 0, locals := 16 } : Room)) (fun a U => a = #[(.ref x0), (.int x1)] ∧ Z.Warmed39 U.vm ∧ U.heap = h0) (fun _ _ _ _ _ => True) (fun _ U o U' => ∃ vE LE, o = .returned vE ∧ Q10 Z x0 x1 aI aU aS kI kU kS LI LU LS mm n val pres h0 n0 vE U'.heap LE ∧ FrameEnd U o U' LE ({ frames := 1, cells := 0, slots := 0, locals := 16 } : Room).cells ({ frames := 1, cells := 0, slots := 0, locals := 16 } : Room).slots) := by
  refine MetFree.of_bodySF (plainFor_of_name pn_1) hisR ?_
  intro p e s m args below meth c s₁ Bd hml0 hP hK
  obtain ⟨rfl, hZ, hh⟩ := hP
  have hx := Bd.exec
  have hby := Bd.bytes
  have hml : c.maxLocals = 6 := hml0
  have hown : s.vm.findClass "com/example/folioseek/folioseek/UseOrder" = some m.cls := findClass_of_methodNamed Bd.named
  have hnm := (name_of_methodNamed Bd.named Bd.method).1
  have hlk : meth.locks = false := BodyLoose.notSynchronized Bd
  have X0 : Stand p l e ({ frames := 1, cells := 0, slots := 0, locals := 16 } : Room) s m #[(.ref x0), (.int x1)] below meth c s₁ [] 0 0 := Stand.of_body Bd
  have e0 : s₁.heap = h0 := by rw [← hh, Bd.state]; rfl
  have N0 := Fr.nil n0
  obtain ⟨sE, hsE⟩ : ∃ z, z = (s₁.setTop (entryFrame m #[(.ref x0), (.int x1)] 6)) := ⟨_, rfl⟩
  have st0 : Steps p.tables e below sE (s₁.setTop (mkF m 0 #[.val (.ref x0), .val (.int x1), .unset, .unset, .unset, .unset] [])) := by rw [hsE]; exact castTop (ef_10 m x0 x1) (Steps.refl _)
  have K0 : Keep h0 h0 [aI, aU, aS] := Keep.refl _ _
  have st1 : Steps p.tables e below sE (s₁.setTop (mkF m 1 #[.val (.ref x0), .val (.int x1), .unset, .unset, .unset, .unset] [(.ref x0)])) := st0.trans (by
      show Steps _ _ _ (s₁.setTop (mkF m 0 #[.val (.ref x0), .val (.int x1), .unset, .unset, .unset, .unset] [])) _
      refine XS.aloadN X0.here hx rfl (hb hby d10_0) rfl rfl ?_
      exact Steps.refl _)
  obtain ⟨T2, X2, e2, sr2⟩ := getF X0 hx hZ hown (host := "") (Or.inl (hw _ (List.mem_of_getElem? (i := 11) rfl))) Via.refl e0 F_i (g := (mkF m 1 #[.val (.ref x0), .val (.int x1), .unset, .unset, .unset, .unset] [(.ref x0)])) rfl rfl (hb hby d10_1)
  have st3 : Steps p.tables e below sE (T2.setTop (mkF m 4 #[.val (.ref x0), .val (.int x1), .unset, .unset, .unset, .unset] [(.ref aI)])) := st1.trans (sr2 _ (Steps.refl _))
  obtain ⟨cl4, Ar4, q4, S4, N4, H4, G4⟩ := id A_i
  have hin4 : ¬ (x1 < 0 ∨ cl4.slots.size ≤ (x1).toNatClampNeg) := inb_of S4 (own_i16 x1 n hP.2.2.2.1 hsl)
  have hat4 : cl4.slots[(x1).toNatClampNeg]? = some (.int (LI.getD (x1).toNatClampNeg 0)) := H4.at hin4 (own_getI LI _)
  have st5 : Steps p.tables e below sE (T2.setTop (mkF m 6 #[.val (.ref x0), .val (.int x1), .unset, .unset, .unset, .unset] [(.int (LI.getD (x1).toNatClampNeg 0))])) := st3.trans (by
      show Steps _ _ _ (T2.setTop (mkF m 4 #[.val (.ref x0), .val (.int x1), .unset, .unset, .unset, .unset] [(.ref aI)])) _
      refine XS.iloadN X2.here hx rfl (hb hby d10_4) rfl ?_
      show Steps _ _ _ (T2.setTop (mkF m 5 #[.val (.ref x0), .val (.int x1), .unset, .unset, .unset, .unset] [(.int x1), (.ref aI)])) _
      refine X2.iaload hx (j := x1) (v := (.int (LI.getD (x1).toNatClampNeg 0))) (by rw [e2]; exact Ar4.1) (State.isArrayOf_alike hZ.alike Ar4.2.1) Ar4.2.2 hin4 hat4 (g := (mkF m 5 #[.val (.ref x0), .val (.int x1), .unset, .unset, .unset, .unset] [(.int x1), (.ref aI)])) rfl rfl (hb hby d10_5) _ ?_
      exact Steps.refl _)
  obtain ⟨idv, e_idv⟩ : ∃ z, z = (LI.getD (x1).toNatClampNeg 0) := ⟨_, rfl⟩
  rw [← e_idv] at st5
  have hidv := own_idb hP x1.toNatClampNeg (own_nb x1 n hsl)
  rw [show LI.getD x1.toNatClampNeg 0 = idv from e_idv.symm] at hidv
  have st6 : Steps p.tables e below sE (T2.setTop (mkF m 8 #[.val (.ref x0), .val (.int x1), .val (.int idv), .unset, .unset, .unset] [(.ref x0)])) := st5.trans (by
      show Steps _ _ _ (T2.setTop (mkF m 6 #[.val (.ref x0), .val (.int x1), .unset, .unset, .unset, .unset] [(.int idv)])) _
      refine XS.istoreN X2.here hx rfl (hb hby d10_6) rfl (l' := #[.val (.ref x0), .val (.int x1), .val (.int idv), .unset, .unset, .unset]) rfl ?_
      show Steps _ _ _ (T2.setTop (mkF m 7 #[.val (.ref x0), .val (.int x1), .val (.int idv), .unset, .unset, .unset] [])) _
      refine XS.aloadN X2.here hx rfl (hb hby d10_7) rfl rfl ?_
      exact Steps.refl _)
  obtain ⟨T7, X7, e7, sr7⟩ := getF X2 hx hZ hown (host := "") (Or.inl (hw _ (List.mem_of_getElem? (i := 13) rfl))) Via.refl e2 F_u (g := (mkF m 8 #[.val (.ref x0), .val (.int x1), .val (.int idv), .unset, .unset, .unset] [(.ref x0)])) rfl rfl (hb hby d10_8)
  have st8 : Steps p.tables e below sE (T7.setTop (mkF m 11 #[.val (.ref x0), .val (.int x1), .val (.int idv), .unset, .unset, .unset] [(.ref aU)])) := st6.trans (sr7 _ (Steps.refl _))
  obtain ⟨cl9, Ar9, q9, S9, N9, H9, G9⟩ := id A_u
  have hin9 : ¬ (x1 < 0 ∨ cl9.slots.size ≤ (x1).toNatClampNeg) := inb_of S9 (own_i16 x1 n hP.2.2.2.1 hsl)
  have hat9 : cl9.slots[(x1).toNatClampNeg]? = some (.long (LU.getD (x1).toNatClampNeg 0)) := H9.at hin9 (own_getJ LU _)
  have st10 : Steps p.tables e below sE (T7.setTop (mkF m 13 #[.val (.ref x0), .val (.int x1), .val (.int idv), .unset, .unset, .unset] [(.long (LU.getD (x1).toNatClampNeg 0))])) := st8.trans (by
      show Steps _ _ _ (T7.setTop (mkF m 11 #[.val (.ref x0), .val (.int x1), .val (.int idv), .unset, .unset, .unset] [(.ref aU)])) _
      refine XS.iloadN X7.here hx rfl (hb hby d10_11) rfl ?_
      show Steps _ _ _ (T7.setTop (mkF m 12 #[.val (.ref x0), .val (.int x1), .val (.int idv), .unset, .unset, .unset] [(.int x1), (.ref aU)])) _
      refine X7.laload hx (j := x1) (v := (.long (LU.getD (x1).toNatClampNeg 0))) (by rw [e7]; exact Ar9.1) (State.isArrayOf_alike hZ.alike Ar9.2.1) Ar9.2.2 hin9 hat9 (g := (mkF m 12 #[.val (.ref x0), .val (.int x1), .val (.int idv), .unset, .unset, .unset] [(.int x1), (.ref aU)])) rfl rfl (hb hby d10_12) _ ?_
      exact Steps.refl _)
  obtain ⟨usv, e_usv⟩ : ∃ z, z = (LU.getD (x1).toNatClampNeg 0) := ⟨_, rfl⟩
  rw [← e_usv] at st10
  have st11 : Steps p.tables e below sE (T7.setTop (mkF m 15 #[.val (.ref x0), .val (.int x1), .val (.int idv), .val (.long usv), .second, .unset] [(.int x1)])) := st10.trans (by
      show Steps _ _ _ (T7.setTop (mkF m 13 #[.val (.ref x0), .val (.int x1), .val (.int idv), .unset, .unset, .unset] [(.long usv)])) _
      refine XS.lstoreN X7.here hx rfl (hb hby d10_13) rfl (l' := #[.val (.ref x0), .val (.int x1), .val (.int idv), .val (.long usv), .second, .unset]) rfl ?_
      show Steps _ _ _ (T7.setTop (mkF m 14 #[.val (.ref x0), .val (.int x1), .val (.int idv), .val (.long usv), .second, .unset] [])) _
      refine XS.iloadN X7.here hx rfl (hb hby d10_14) rfl ?_
      exact Steps.refl _)
  by_cases hc12 : (0 : Int32) < x1
  · have st13 : Steps p.tables e below sE (T7.setTop (mkF m 23 #[.val (.ref x0), .val (.int x1), .val (.int idv), .val (.long usv), .second, .unset] [(.int ((x1 - (1 : Int32)) / (4 : Int32)))])) := st11.trans (by
        show Steps _ _ _ (T7.setTop (mkF m 15 #[.val (.ref x0), .val (.int x1), .val (.int idv), .val (.long usv), .second, .unset] [(.int x1)])) _
        refine XS.ifNo X7.here hx rfl (hb hby d10_15) rfl ((if0 _ _).trans (tlt hc12).2.2.2) ?_
        show Steps _ _ _ (T7.setTop (mkF m 18 #[.val (.ref x0), .val (.int x1), .val (.int idv), .val (.long usv), .second, .unset] [])) _
        refine XS.iloadN X7.here hx rfl (hb hby d10_18) rfl ?_
        show Steps _ _ _ (T7.setTop (mkF m 19 #[.val (.ref x0), .val (.int x1), .val (.int idv), .val (.long usv), .second, .unset] [(.int x1)])) _
        refine XS.iconst X7.here hx rfl (hb hby d10_19) ?_
        show Steps _ _ _ (T7.setTop (mkF m 20 #[.val (.ref x0), .val (.int x1), .val (.int idv), .val (.long usv), .second, .unset] [(.int (1 : Int32)), (.int x1)])) _
        refine XS.isub X7.here hx rfl (hb hby d10_20) rfl ?_
        show Steps _ _ _ (T7.setTop (mkF m 21 #[.val (.ref x0), .val (.int x1), .val (.int idv), .val (.long usv), .second, .unset] [(.int (x1 - (1 : Int32)))])) _
        refine XS.iconst X7.here hx rfl (hb hby d10_21) ?_
        show Steps _ _ _ (T7.setTop (mkF m 22 #[.val (.ref x0), .val (.int x1), .val (.int idv), .val (.long usv), .second, .unset] [(.int (4 : Int32)), (.int (x1 - (1 : Int32)))])) _
        refine XS.idiv X7.here hx rfl (hb hby d10_22) rfl (by decide) ?_
        exact Steps.refl _)
    have hp0 : ((x1 - (1 : Int32)) / (4 : Int32)) = (0 : Int32) := own_par x1 hc12 (by have := hP.2.2.2.1; omega)
    rw [hp0] at st13
    have st14 : Steps p.tables e below sE (T7.setTop (mkF m 26 #[.val (.ref x0), .val (.int x1), .val (.int idv), .val (.long usv), .second, .val (.int (0 : Int32))] [(.ref x0)])) := st13.trans (by
        show Steps _ _ _ (T7.setTop (mkF m 23 #[.val (.ref x0), .val (.int x1), .val (.int idv), .val (.long usv), .second, .unset] [(.int (0 : Int32))])) _
        refine XS.istore X7.here hx rfl (hb hby d10_23) rfl (l' := #[.val (.ref x0), .val (.int x1), .val (.int idv), .val (.long usv), .second, .val (.int (0 : Int32))]) rfl ?_
        show Steps _ _ _ (T7.setTop (mkF m 25 #[.val (.ref x0), .val (.int x1), .val (.int idv), .val (.long usv), .second, .val (.int (0 : Int32))] [])) _
        refine XS.aloadN X7.here hx rfl (hb hby d10_25) rfl rfl ?_
        exact Steps.refl _)
    obtain ⟨T15, X15, e15, sr15⟩ := getF X7 hx hZ hown (host := "") (Or.inl (hw _ (List.mem_of_getElem? (i := 13) rfl))) Via.refl e7 F_u (g := (mkF m 26 #[.val (.ref x0), .val (.int x1), .val (.int idv), .val (.long usv), .second, .val (.int (0 : Int32))] [(.ref x0)])) rfl rfl (hb hby d10_26)
    have st16 : Steps p.tables e below sE (T15.setTop (mkF m 29 #[.val (.ref x0), .val (.int x1), .val (.int idv), .val (.long usv), .second, .val (.int (0 : Int32))] [(.ref aU)])) := st14.trans (sr15 _ (Steps.refl _))
    obtain ⟨cl17, Ar17, q17, S17, N17, H17, G17⟩ := id A_u
    have hin17 : ¬ ((0 : Int32) < 0 ∨ cl17.slots.size ≤ ((0 : Int32)).toNatClampNeg) := inb_of S17 (by decide)
    have hat17 : cl17.slots[((0 : Int32)).toNatClampNeg]? = some (.long (LU.getD ((0 : Int32)).toNatClampNeg 0)) := H17.at hin17 (own_getJ LU _)
    have st18 : Steps p.tables e below sE (T15.setTop (mkF m 34 #[.val (.ref x0), .val (.int x1), .val (.int idv), .val (.long usv), .second, .val (.int (0 : Int32))] [(.int (lcmpW (LU.getD ((0 : Int32)).toNatClampNeg 0) usv))])) := st16.trans (by
        show Steps _ _ _ (T15.setTop (mkF m 29 #[.val (.ref x0), .val (.int x1), .val (.int idv), .val (.long usv), .second, .val (.int (0 : Int32))] [(.ref aU)])) _
        refine XS.iload X15.here hx rfl (hb hby d10_29) rfl ?_
        show Steps _ _ _ (T15.setTop (mkF m 31 #[.val (.ref x0), .val (.int x1), .val (.int idv), .val (.long usv), .second, .val (.int (0 : Int32))] [(.int (0 : Int32)), (.ref aU)])) _
        refine X15.laload hx (j := (0 : Int32)) (v := (.long (LU.getD ((0 : Int32)).toNatClampNeg 0))) (by rw [e15]; exact Ar17.1) (State.isArrayOf_alike hZ.alike Ar17.2.1) Ar17.2.2 hin17 hat17 (g := (mkF m 31 #[.val (.ref x0), .val (.int x1), .val (.int idv), .val (.long usv), .second, .val (.int (0 : Int32))] [(.int (0 : Int32)), (.ref aU)])) rfl rfl (hb hby d10_31) _ ?_
        show Steps _ _ _ (T15.setTop (mkF m 32 #[.val (.ref x0), .val (.int x1), .val (.int idv), .val (.long usv), .second, .val (.int (0 : Int32))] [(.long (LU.getD ((0 : Int32)).toNatClampNeg 0))])) _
        refine XS.lloadN X15.here hx rfl (hb hby d10_32) rfl ?_
        show Steps _ _ _ (T15.setTop (mkF m 33 #[.val (.ref x0), .val (.int x1), .val (.int idv), .val (.long usv), .second, .val (.int (0 : Int32))] [(.long usv), (.long (LU.getD ((0 : Int32)).toNatClampNeg 0))])) _
        refine XS.lcmp X15.here hx rfl (hb hby d10_33) rfl ?_
        exact Steps.refl _)
    by_cases hc19 : usv < (LU.getD ((0 : Int32)).toNatClampNeg 0)
    · have st20 : Steps p.tables e below sE (T15.setTop (mkF m 42 #[.val (.ref x0), .val (.int x1), .val (.int idv), .val (.long usv), .second, .val (.int (0 : Int32))] [(.ref x0), (.ref x0)])) := st18.trans (by
          show Steps _ _ _ (T15.setTop (mkF m 34 #[.val (.ref x0), .val (.int x1), .val (.int idv), .val (.long usv), .second, .val (.int (0 : Int32))] [(.int (lcmpW (LU.getD ((0 : Int32)).toNatClampNeg 0) usv))])) _
          refine XS.ifYes X15.here hx rfl (pc0 := 34) (pc' := 40) rfl (hb hby d10_34) rfl ((if0 _ _).trans (tlt ((lw_gt _ _).mpr hc19)).2.2.1) (by decide) (by decide) ?_
          show Steps _ _ _ (T15.setTop (mkF m 40 #[.val (.ref x0), .val (.int x1), .val (.int idv), .val (.long usv), .second, .val (.int (0 : Int32))] [])) _
          refine XS.aloadN X15.here hx rfl (hb hby d10_40) rfl rfl ?_
          show Steps _ _ _ (T15.setTop (mkF m 41 #[.val (.ref x0), .val (.int x1), .val (.int idv), .val (.long usv), .second, .val (.int (0 : Int32))] [(.ref x0)])) _
          refine XS.aloadN X15.here hx rfl (hb hby d10_41) rfl rfl ?_
          exact Steps.refl _)
      obtain ⟨T21, X21, e21, sr21⟩ := getF X15 hx hZ hown (host := "") (Or.inl (hw _ (List.mem_of_getElem? (i := 11) rfl))) Via.refl e15 F_i (g := (mkF m 42 #[.val (.ref x0), .val (.int x1), .val (.int idv), .val (.long usv), .second, .val (.int (0 : Int32))] [(.ref x0), (.ref x0)])) rfl rfl (hb hby d10_42)
      have st22 : Steps p.tables e below sE (T21.setTop (mkF m 45 #[.val (.ref x0), .val (.int x1), .val (.int idv), .val (.long usv), .second, .val (.int (0 : Int32))] [(.ref aI), (.ref x0)])) := st20.trans (sr21 _ (Steps.refl _))
      obtain ⟨cl23, Ar23, q23, S23, N23, H23, G23⟩ := id A_i
      have hin23 : ¬ ((0 : Int32) < 0 ∨ cl23.slots.size ≤ ((0 : Int32)).toNatClampNeg) := inb_of S23 (by decide)
      have hat23 : cl23.slots[((0 : Int32)).toNatClampNeg]? = some (.int (LI.getD ((0 : Int32)).toNatClampNeg 0)) := H23.at hin23 (own_getI LI _)
      have st24 : Steps p.tables e below sE (T21.setTop (mkF m 49 #[.val (.ref x0), .val (.int x1), .val (.int idv), .val (.long usv), .second, .val (.int (0 : Int32))] [(.ref x0), (.int (LI.getD ((0 : Int32)).toNatClampNeg 0)), (.ref x0)])) := st22.trans (by
          show Steps _ _ _ (T21.setTop (mkF m 45 #[.val (.ref x0), .val (.int x1), .val (.int idv), .val (.long usv), .second, .val (.int (0 : Int32))] [(.ref aI), (.ref x0)])) _
          refine XS.iload X21.here hx rfl (hb hby d10_45) rfl ?_
          show Steps _ _ _ (T21.setTop (mkF m 47 #[.val (.ref x0), .val (.int x1), .val (.int idv), .val (.long usv), .second, .val (.int (0 : Int32))] [(.int (0 : Int32)), (.ref aI), (.ref x0)])) _
          refine X21.iaload hx (j := (0 : Int32)) (v := (.int (LI.getD ((0 : Int32)).toNatClampNeg 0))) (by rw [e21]; exact Ar23.1) (State.isArrayOf_alike hZ.alike Ar23.2.1) Ar23.2.2 hin23 hat23 (g := (mkF m 47 #[.val (.ref x0), .val (.int x1), .val (.int idv), .val (.long usv), .second, .val (.int (0 : Int32))] [(.int (0 : Int32)), (.ref aI), (.ref x0)])) rfl rfl (hb hby d10_47) _ ?_
          show Steps _ _ _ (T21.setTop (mkF m 48 #[.val (.ref x0), .val (.int x1), .val (.int idv), .val (.long usv), .second, .val (.int (0 : Int32))] [(.int (LI.getD ((0 : Int32)).toNatClampNeg 0)), (.ref x0)])) _
          refine XS.aloadN X21.here hx rfl (hb hby d10_48) rfl rfl ?_
          exact Steps.refl _)
      obtain ⟨T25, X25, e25, sr25⟩ := getF X21 hx hZ hown (host := "") (Or.inl (hw _ (List.mem_of_getElem? (i := 13) rfl))) Via.refl e21 F_u (g := (mkF m 49 #[.val (.ref x0), .val (.int x1), .val (.int idv), .val (.long usv), .second, .val (.int (0 : Int32))] [(.ref x0), (.int (LI.getD ((0 : Int32)).toNatClampNeg 0)), (.ref x0)])) rfl rfl (hb hby d10_49)
      have st26 : Steps p.tables e below sE (T25.setTop (mkF m 52 #[.val (.ref x0), .val (.int x1), .val (.int idv), .val (.long usv), .second, .val (.int (0 : Int32))] [(.ref aU), (.int (LI.getD ((0 : Int32)).toNatClampNeg 0)), (.ref x0)])) := st24.trans (sr25 _ (Steps.refl _))
      obtain ⟨cl27, Ar27, q27, S27, N27, H27, G27⟩ := id A_u
      have hin27 : ¬ ((0 : Int32) < 0 ∨ cl27.slots.size ≤ ((0 : Int32)).toNatClampNeg) := inb_of S27 (by decide)
      have hat27 : cl27.slots[((0 : Int32)).toNatClampNeg]? = some (.long (LU.getD ((0 : Int32)).toNatClampNeg 0)) := H27.at hin27 (own_getJ LU _)
      have st28 : Steps p.tables e below sE (T25.setTop (mkF m 56 #[.val (.ref x0), .val (.int x1), .val (.int idv), .val (.long usv), .second, .val (.int (0 : Int32))] [(.int x1), (.long (LU.getD ((0 : Int32)).toNatClampNeg 0)), (.int (LI.getD ((0 : Int32)).toNatClampNeg 0)), (.ref x0)])) := st26.trans (by
          show Steps _ _ _ (T25.setTop (mkF m 52 #[.val (.ref x0), .val (.int x1), .val (.int idv), .val (.long usv), .second, .val (.int (0 : Int32))] [(.ref aU), (.int (LI.getD ((0 : Int32)).toNatClampNeg 0)), (.ref x0)])) _
          refine XS.iload X25.here hx rfl (hb hby d10_52) rfl ?_
          show Steps _ _ _ (T25.setTop (mkF m 54 #[.val (.ref x0), .val (.int x1), .val (.int idv), .val (.long usv), .second, .val (.int (0 : Int32))] [(.int (0 : Int32)), (.ref aU), (.int (LI.getD ((0 : Int32)).toNatClampNeg 0)), (.ref x0)])) _
          refine X25.laload hx (j := (0 : Int32)) (v := (.long (LU.getD ((0 : Int32)).toNatClampNeg 0))) (by rw [e25]; exact Ar27.1) (State.isArrayOf_alike hZ.alike Ar27.2.1) Ar27.2.2 hin27 hat27 (g := (mkF m 54 #[.val (.ref x0), .val (.int x1), .val (.int idv), .val (.long usv), .second, .val (.int (0 : Int32))] [(.int (0 : Int32)), (.ref aU), (.int (LI.getD ((0 : Int32)).toNatClampNeg 0)), (.ref x0)])) rfl rfl (hb hby d10_54) _ ?_
          show Steps _ _ _ (T25.setTop (mkF m 55 #[.val (.ref x0), .val (.int x1), .val (.int idv), .val (.long usv), .second, .val (.int (0 : Int32))] [(.long (LU.getD ((0 : Int32)).toNatClampNeg 0)), (.int (LI.getD ((0 : Int32)).toNatClampNeg 0)), (.ref x0)])) _
          refine XS.iloadN X25.here hx rfl (hb hby d10_55) rfl ?_
          exact Steps.refl _)
      have h0n : 0 < n := by omega
      have hid0 := own_idb hP 0 h0n
      obtain ⟨cq29, q29, q29'⟩ := E_x.cell
      obtain ⟨_, _, ⟨T29, L29, k29, n29⟩, -, X29, ⟨Lc29, hQ29, l29, y29, z29⟩, sr29⟩ := X25.privateBack hx (y := (⟨"com/example/folioseek/folioseek/UseOrder", "place", "(IJI)V"⟩ : MethodName)) hown (mvT hZ (hw _ (List.mem_of_getElem? (i := 45) rfl))) (mvT hZ (hw _ (List.mem_of_getElem? (i := 46) rfl))) (own_selp (z := (⟨"com/example/folioseek/folioseek/UseOrder", "add", "(IJ)V"⟩ : MethodName)) rfl (notFace_of_selects (args := #[]) (mvT hZ (hw _ (List.mem_of_getElem? (i := 20) rfl)))) (args' := #[]) (mvT hZ (hw _ (List.mem_of_getElem? (i := 19) rfl))) (Cond.privateMethod_at (mvP hZ (hw _ (List.mem_of_getElem? (i := 47) rfl)) (args := #[]))) (mvT hZ (hw _ (List.mem_of_getElem? (i := 46) rfl))) (by decide)) (Cond.privateMethod_at (mvP hZ (hw _ (List.mem_of_getElem? (i := 47) rfl)) (args := #[]))) (mvT hZ (hw _ (List.mem_of_getElem? (i := 48) rfl))) (by decide) (backOf (W := 0) (rm9 l Z a0 hw [] x0 (LI.getD ((0 : Int32)).toNatClampNeg 0) (LU.getD ((0 : Int32)).toNatClampNeg 0) x1 aI aU aS kI kU kS LI LU LS mm h0 n0 Z0 F_i F_u F_s A_i A_u A_s (own_i16 x1 n hP.2.2.2.1 hsl) hid0.1 ⟨hP.1, hP.2.1, own_l16 x1 n hP.2.2.2.1 hsl, hid0.2⟩ g_i g_u g_s ne_iu ne_is ne_us ne_xi ne_xu ne_xs) hZ (hw _ (List.mem_of_getElem? (i := 48) rfl)) (hw _ (List.mem_of_getElem? (i := 3) rfl)) (by decide) (by decide)) (g := (mkF m 56 #[.val (.ref x0), .val (.int x1), .val (.int idv), .val (.long usv), .second, .val (.int (0 : Int32))] [(.int x1), (.long (LU.getD ((0 : Int32)).toNatClampNeg 0)), (.int (LI.getD ((0 : Int32)).toNatClampNeg 0)), (.ref x0)])) rfl (by rw [hml]; rfl) (Steps.refl _) (a := x0) (by rw [e25]; exact q29) q29' (argsL := [(.int (LI.getD ((0 : Int32)).toNatClampNeg 0)), (.long (LU.getD ((0 : Int32)).toNatClampNeg 0)), (.int x1)]) (rest := []) (lenOf pd_0 rfl) rfl (by show 2 * 0 + _ ≤ _; exact Nat.le_of_eq rfl) (hb hby d10_56) (fun _ _ => ⟨rfl, e25, (by decide : 0 + 0 ≤ _), (by decide : 0 + 0 ≤ _)⟩)
      dsimp only [Pt.U, Pt.locs, Pt.cells, Pt.slots] at X29 l29 y29 z29 sr29 hQ29
      subst l29 y29 z29
      obtain ⟨rfl, N29q, K29c, f29_0, f29_1, f29_2⟩ := hQ29
      have N29 := Fr.app N0 N29q
      obtain ⟨LL29, X29, N29⟩ := own_hide X29 N29
      have f30 : Exa Z T29.heap x0 "com/example/folioseek/folioseek/UseOrder" := E_x.keep K29c
      have f31 : Fld Z T29.heap x0 "com/example/folioseek/folioseek/UseOrder" "ids" "[I" (.ref aI) := F_i.keep K29c (ninS ne_xi (ninS ne_xu (ninS ne_xs nin0)))
      have f32 : Fld Z T29.heap x0 "com/example/folioseek/folioseek/UseOrder" "uses" "[J" (.ref aU) := F_u.keep K29c (ninS ne_xi (ninS ne_xu (ninS ne_xs nin0)))
      have f33 : Fld Z T29.heap x0 "com/example/folioseek/folioseek/UseOrder" "slots" "[I" (.ref aS) := F_s.keep K29c (ninS ne_xi (ninS ne_xu (ninS ne_xs nin0)))
      have K34 : Keep h0 T29.heap [aI, aU, aS] := K0.trans K29c (allS (Or.inl (List.mem_of_getElem? (i := 0) rfl)) (allS (Or.inl (List.mem_of_getElem? (i := 1) rfl)) (allS (Or.inl (List.mem_of_getElem? (i := 2) rfl)) all0)))
      have Z35 : n0 ≤ T29.heap.size := Nat.le_trans Z0 K29c.1
      have st36 : Steps p.tables e below sE (T29.setTop (mkF m 59 #[.val (.ref x0), .val (.int x1), .val (.int idv), .val (.long usv), .second, .val (.int (0 : Int32))] [])) := st28.trans (sr29)
      have st37 : Steps p.tables e below sE (T29.setTop (mkF m 15 #[.val (.ref x0), .val (.int (0 : Int32)), .val (.int idv), .val (.long usv), .second, .val (.int (0 : Int32))] [(.int (0 : Int32))])) := st36.trans (by
          show Steps _ _ _ (T29.setTop (mkF m 59 #[.val (.ref x0), .val (.int x1), .val (.int idv), .val (.long usv), .second, .val (.int (0 : Int32))] [])) _
          refine XS.iload X29.here hx rfl (hb hby d10_59) rfl ?_
          show Steps _ _ _ (T29.setTop (mkF m 61 #[.val (.ref x0), .val (.int x1), .val (.int idv), .val (.long usv), .second, .val (.int (0 : Int32))] [(.int (0 : Int32))])) _
          refine XS.istoreN X29.here hx rfl (hb hby d10_61) rfl (l' := #[.val (.ref x0), .val (.int (0 : Int32)), .val (.int idv), .val (.long usv), .second, .val (.int (0 : Int32))]) rfl ?_
          show Steps _ _ _ (T29.setTop (mkF m 62 #[.val (.ref x0), .val (.int (0 : Int32)), .val (.int idv), .val (.long usv), .second, .val (.int (0 : Int32))] [])) _
          refine XS.goto X29.here hx rfl (pc0 := 62) (pc' := 14) rfl (hb hby d10_62) (by decide) (by decide) ?_
          show Steps _ _ _ (T29.setTop (mkF m 14 #[.val (.ref x0), .val (.int (0 : Int32)), .val (.int idv), .val (.long usv), .second, .val (.int (0 : Int32))] [])) _
          refine XS.iloadN X29.here hx rfl (hb hby d10_14) rfl ?_
          exact Steps.refl _)
      have hf38 : ¬ ((0 : Int32) < (0 : Int32)) := by decide
      have st39 : Steps p.tables e below sE (T29.setTop (mkF m 69 #[.val (.ref x0), .val (.int (0 : Int32)), .val (.int idv), .val (.long usv), .second, .val (.int (0 : Int32))] [(.int (0 : Int32)), (.long usv), (.int idv), (.ref x0)])) := st37.trans (by
          show Steps _ _ _ (T29.setTop (mkF m 15 #[.val (.ref x0), .val (.int (0 : Int32)), .val (.int idv), .val (.long usv), .second, .val (.int (0 : Int32))] [(.int (0 : Int32))])) _
          refine XS.ifYes X29.here hx rfl (pc0 := 15) (pc' := 65) rfl (hb hby d10_15) rfl ((if0 _ _).trans (flt hf38).2.2.2) (by decide) (by decide) ?_
          show Steps _ _ _ (T29.setTop (mkF m 65 #[.val (.ref x0), .val (.int (0 : Int32)), .val (.int idv), .val (.long usv), .second, .val (.int (0 : Int32))] [])) _
          refine XS.aloadN X29.here hx rfl (hb hby d10_65) rfl rfl ?_
          show Steps _ _ _ (T29.setTop (mkF m 66 #[.val (.ref x0), .val (.int (0 : Int32)), .val (.int idv), .val (.long usv), .second, .val (.int (0 : Int32))] [(.ref x0)])) _
          refine XS.iloadN X29.here hx rfl (hb hby d10_66) rfl ?_
          show Steps _ _ _ (T29.setTop (mkF m 67 #[.val (.ref x0), .val (.int (0 : Int32)), .val (.int idv), .val (.long usv), .second, .val (.int (0 : Int32))] [(.int idv), (.ref x0)])) _
          refine XS.lloadN X29.here hx rfl (hb hby d10_67) rfl ?_
          show Steps _ _ _ (T29.setTop (mkF m 68 #[.val (.ref x0), .val (.int (0 : Int32)), .val (.int idv), .val (.long usv), .second, .val (.int (0 : Int32))] [(.long usv), (.int idv), (.ref x0)])) _
          refine XS.iloadN X29.here hx rfl (hb hby d10_68) rfl ?_
          exact Steps.refl _)
      obtain ⟨cq40, q40, q40'⟩ := f30.cell
      obtain ⟨_, _, ⟨T40, L40, k40, n40⟩, -, X40, ⟨Lc40, hQ40, l40, y40, z40⟩, sr40⟩ := X29.privateBack hx (y := (⟨"com/example/folioseek/folioseek/UseOrder", "place", "(IJI)V"⟩ : MethodName)) hown (mvT hZ (hw _ (List.mem_of_getElem? (i := 45) rfl))) (mvT hZ (hw _ (List.mem_of_getElem? (i := 46) rfl))) (own_selp (z := (⟨"com/example/folioseek/folioseek/UseOrder", "add", "(IJ)V"⟩ : MethodName)) rfl (notFace_of_selects (args := #[]) (mvT hZ (hw _ (List.mem_of_getElem? (i := 20) rfl)))) (args' := #[]) (mvT hZ (hw _ (List.mem_of_getElem? (i := 19) rfl))) (Cond.privateMethod_at (mvP hZ (hw _ (List.mem_of_getElem? (i := 47) rfl)) (args := #[]))) (mvT hZ (hw _ (List.mem_of_getElem? (i := 46) rfl))) (by decide)) (Cond.privateMethod_at (mvP hZ (hw _ (List.mem_of_getElem? (i := 47) rfl)) (args := #[]))) (mvT hZ (hw _ (List.mem_of_getElem? (i := 48) rfl))) (by decide) (backOf (W := 0) (rm9 l Z a0 hw [] x0 idv usv (0 : Int32) aI aU aS kI kU kS (LI.set (x1).toNatClampNeg (LI.getD ((0 : Int32)).toNatClampNeg 0)) (LU.set (x1).toNatClampNeg (LU.getD ((0 : Int32)).toNatClampNeg 0)) (LS.set ((LI.getD ((0 : Int32)).toNatClampNeg 0)).toNatClampNeg x1) mm T29.heap n0 Z35 f31 f32 f33 f29_0 f29_1 f29_2 (by decide) hidv.1 ⟨by rw [List.length_set]; exact hP.1, by rw [List.length_set]; exact hP.2.1, by decide, by rw [List.length_set]; exact hidv.2⟩ g_i g_u g_s ne_iu ne_is ne_us ne_xi ne_xu ne_xs) hZ (hw _ (List.mem_of_getElem? (i := 48) rfl)) (hw _ (List.mem_of_getElem? (i := 3) rfl)) (by decide) (by decide)) (g := (mkF m 69 #[.val (.ref x0), .val (.int (0 : Int32)), .val (.int idv), .val (.long usv), .second, .val (.int (0 : Int32))] [(.int (0 : Int32)), (.long usv), (.int idv), (.ref x0)])) rfl (by rw [hml]; rfl) (Steps.refl _) (a := x0) q40 q40' (argsL := [(.int idv), (.long usv), (.int (0 : Int32))]) (rest := []) (lenOf pd_0 rfl) rfl (by show 2 * 0 + _ ≤ _; exact Nat.le_of_eq rfl) (hb hby d10_69) (fun _ _ => ⟨rfl, rfl, (by decide : 0 + 0 ≤ _), (by decide : 0 + 0 ≤ _)⟩)
      dsimp only [Pt.U, Pt.locs, Pt.cells, Pt.slots] at X40 l40 y40 z40 sr40 hQ40
      subst l40 y40 z40
      obtain ⟨rfl, N40q, K40c, f40_0, f40_1, f40_2⟩ := hQ40
      have N40 := Fr.app N29 N40q
      obtain ⟨LL40, X40, N40⟩ := own_hide X40 N40
      have f41 : Exa Z T40.heap x0 "com/example/folioseek/folioseek/UseOrder" := f30.keep K40c
      have f42 : Fld Z T40.heap x0 "com/example/folioseek/folioseek/UseOrder" "ids" "[I" (.ref aI) := f31.keep K40c (ninS ne_xi (ninS ne_xu (ninS ne_xs nin0)))
      have f43 : Fld Z T40.heap x0 "com/example/folioseek/folioseek/UseOrder" "uses" "[J" (.ref aU) := f32.keep K40c (ninS ne_xi (ninS ne_xu (ninS ne_xs nin0)))
      have f44 : Fld Z T40.heap x0 "com/example/folioseek/folioseek/UseOrder" "slots" "[I" (.ref aS) := f33.keep K40c (ninS ne_xi (ninS ne_xu (ninS ne_xs nin0)))
      have K45 : Keep h0 T40.heap [aI, aU, aS] := K34.trans K40c (allS (Or.inl (List.mem_of_getElem? (i := 0) rfl)) (allS (Or.inl (List.mem_of_getElem? (i := 1) rfl)) (allS (Or.inl (List.mem_of_getElem? (i := 2) rfl)) all0)))
      have Z46 : n0 ≤ T40.heap.size := Nat.le_trans Z35 K40c.1
      have st47 : Steps p.tables e below sE (T40.setTop (mkF m 72 #[.val (.ref x0), .val (.int (0 : Int32)), .val (.int idv), .val (.long usv), .second, .val (.int (0 : Int32))] [])) := st39.trans (sr40)
      obtain ⟨fs, hr, hrun, hended, hW, hsame⟩ := X40.leave (v := none) (fun _ => rfl) hlk
      refine ⟨_, _, (own_ent hsE st47).trans ?_, hrun, hended, _, _, rfl, ?_, ⟨_, rfl⟩, hW, hsame.mono (by decide) (by decide)⟩
      · exact X40.returnOut hx Bd.returns (hb hby d10_72) hr
      · show Q10 Z x0 x1 aI aU aS kI kU kS LI LU LS mm n val pres h0 n0 _ T40.heap _
        exact ⟨rfl, N40, K45, ⟨_, _, _, f40_0, f40_1, f40_2, by rw [e_idv, e_usv]; exact own_moveP hP x1 ⟨own_pos hc12, hsl.2⟩, by rw [e_usv]; exact own_upH hP.2.1 hP.2.2.2.1 x1 ⟨own_pos hc12, hsl.2⟩ (by rw [← e_usv]; exact hc19) hU⟩⟩
    · have st48 : Steps p.tables e below sE (T15.setTop (mkF m 69 #[.val (.ref x0), .val (.int x1), .val (.int idv), .val (.long usv), .second, .val (.int (0 : Int32))] [(.int x1), (.long usv), (.int idv), (.ref x0)])) := st18.trans (by
          show Steps _ _ _ (T15.setTop (mkF m 34 #[.val (.ref x0), .val (.int x1), .val (.int idv), .val (.long usv), .second, .val (.int (0 : Int32))] [(.int (lcmpW (LU.getD ((0 : Int32)).toNatClampNeg 0) usv))])) _
          refine XS.ifNo X15.here hx rfl (hb hby d10_34) rfl ((if0 _ _).trans (flt (fun q => hc19 ((lw_gt _ _).mp q))).2.2.1) ?_
          show Steps _ _ _ (T15.setTop (mkF m 37 #[.val (.ref x0), .val (.int x1), .val (.int idv), .val (.long usv), .second, .val (.int (0 : Int32))] [])) _
          refine XS.goto X15.here hx rfl (pc0 := 37) (pc' := 65) rfl (hb hby d10_37) (by decide) (by decide) ?_
          show Steps _ _ _ (T15.setTop (mkF m 65 #[.val (.ref x0), .val (.int x1), .val (.int idv), .val (.long usv), .second, .val (.int (0 : Int32))] [])) _
          refine XS.aloadN X15.here hx rfl (hb hby d10_65) rfl rfl ?_
          show Steps _ _ _ (T15.setTop (mkF m 66 #[.val (.ref x0), .val (.int x1), .val (.int idv), .val (.long usv), .second, .val (.int (0 : Int32))] [(.ref x0)])) _
          refine XS.iloadN X15.here hx rfl (hb hby d10_66) rfl ?_
          show Steps _ _ _ (T15.setTop (mkF m 67 #[.val (.ref x0), .val (.int x1), .val (.int idv), .val (.long usv), .second, .val (.int (0 : Int32))] [(.int idv), (.ref x0)])) _
          refine XS.lloadN X15.here hx rfl (hb hby d10_67) rfl ?_
          show Steps _ _ _ (T15.setTop (mkF m 68 #[.val (.ref x0), .val (.int x1), .val (.int idv), .val (.long usv), .second, .val (.int (0 : Int32))] [(.long usv), (.int idv), (.ref x0)])) _
          refine XS.iloadN X15.here hx rfl (hb hby d10_68) rfl ?_
          exact Steps.refl _)
      obtain ⟨cq49, q49, q49'⟩ := E_x.cell
      obtain ⟨_, _, ⟨T49, L49, k49, n49⟩, -, X49, ⟨Lc49, hQ49, l49, y49, z49⟩, sr49⟩ := X15.privateBack hx (y := (⟨"com/example/folioseek/folioseek/UseOrder", "place", "(IJI)V"⟩ : MethodName)) hown (mvT hZ (hw _ (List.mem_of_getElem? (i := 45) rfl))) (mvT hZ (hw _ (List.mem_of_getElem? (i := 46) rfl))) (own_selp (z := (⟨"com/example/folioseek/folioseek/UseOrder", "add", "(IJ)V"⟩ : MethodName)) rfl (notFace_of_selects (args := #[]) (mvT hZ (hw _ (List.mem_of_getElem? (i := 20) rfl)))) (args' := #[]) (mvT hZ (hw _ (List.mem_of_getElem? (i := 19) rfl))) (Cond.privateMethod_at (mvP hZ (hw _ (List.mem_of_getElem? (i := 47) rfl)) (args := #[]))) (mvT hZ (hw _ (List.mem_of_getElem? (i := 46) rfl))) (by decide)) (Cond.privateMethod_at (mvP hZ (hw _ (List.mem_of_getElem? (i := 47) rfl)) (args := #[]))) (mvT hZ (hw _ (List.mem_of_getElem? (i := 48) rfl))) (by decide) (backOf (W := 0) (rm9 l Z a0 hw [] x0 idv usv x1 aI aU aS kI kU kS LI LU LS mm h0 n0 Z0 F_i F_u F_s A_i A_u A_s (own_i16 x1 n hP.2.2.2.1 hsl) hidv.1 ⟨hP.1, hP.2.1, own_l16 x1 n hP.2.2.2.1 hsl, hidv.2⟩ g_i g_u g_s ne_iu ne_is ne_us ne_xi ne_xu ne_xs) hZ (hw _ (List.mem_of_getElem? (i := 48) rfl)) (hw _ (List.mem_of_getElem? (i := 3) rfl)) (by decide) (by decide)) (g := (mkF m 69 #[.val (.ref x0), .val (.int x1), .val (.int idv), .val (.long usv), .second, .val (.int (0 : Int32))] [(.int x1), (.long usv), (.int idv), (.ref x0)])) rfl (by rw [hml]; rfl) (Steps.refl _) (a := x0) (by rw [e15]; exact q49) q49' (argsL := [(.int idv), (.long usv), (.int x1)]) (rest := []) (lenOf pd_0 rfl) rfl (by show 2 * 0 + _ ≤ _; exact Nat.le_of_eq rfl) (hb hby d10_69) (fun _ _ => ⟨rfl, e15, (by decide : 0 + 0 ≤ _), (by decide : 0 + 0 ≤ _)⟩)
      dsimp only [Pt.U, Pt.locs, Pt.cells, Pt.slots] at X49 l49 y49 z49 sr49 hQ49
      subst l49 y49 z49
      obtain ⟨rfl, N49q, K49c, f49_0, f49_1, f49_2⟩ := hQ49
      have N49 := Fr.app N0 N49q
      obtain ⟨LL49, X49, N49⟩ := own_hide X49 N49
      have f50 : Exa Z T49.heap x0 "com/example/folioseek/folioseek/UseOrder" := E_x.keep K49c
      have f51 : Fld Z T49.heap x0 "com/example/folioseek/folioseek/UseOrder" "ids" "[I" (.ref aI) := F_i.keep K49c (ninS ne_xi (ninS ne_xu (ninS ne_xs nin0)))
      have f52 : Fld Z T49.heap x0 "com/example/folioseek/folioseek/UseOrder" "uses" "[J" (.ref aU) := F_u.keep K49c (ninS ne_xi (ninS ne_xu (ninS ne_xs nin0)))
      have f53 : Fld Z T49.heap x0 "com/example/folioseek/folioseek/UseOrder" "slots" "[I" (.ref aS) := F_s.keep K49c (ninS ne_xi (ninS ne_xu (ninS ne_xs nin0)))
      have K54 : Keep h0 T49.heap [aI, aU, aS] := K0.trans K49c (allS (Or.inl (List.mem_of_getElem? (i := 0) rfl)) (allS (Or.inl (List.mem_of_getElem? (i := 1) rfl)) (allS (Or.inl (List.mem_of_getElem? (i := 2) rfl)) all0)))
      have Z55 : n0 ≤ T49.heap.size := Nat.le_trans Z0 K49c.1
      have st56 : Steps p.tables e below sE (T49.setTop (mkF m 72 #[.val (.ref x0), .val (.int x1), .val (.int idv), .val (.long usv), .second, .val (.int (0 : Int32))] [])) := st48.trans (sr49)
      obtain ⟨fs, hr, hrun, hended, hW, hsame⟩ := X49.leave (v := none) (fun _ => rfl) hlk
      refine ⟨_, _, (own_ent hsE st56).trans ?_, hrun, hended, _, _, rfl, ?_, ⟨_, rfl⟩, hW, hsame.mono (by decide) (by decide)⟩
      · exact X49.returnOut hx Bd.returns (hb hby d10_72) hr
      · show Q10 Z x0 x1 aI aU aS kI kU kS LI LU LS mm n val pres h0 n0 _ T49.heap _
        exact ⟨rfl, N49, K54, ⟨LI, LU, LS, by rw [← (own_stayP hP x1 hsl).1, ← e_idv]; exact f49_0, by rw [← (own_stayP hP x1 hsl).2.1, ← e_usv]; exact f49_1, by rw [← (own_stayP hP x1 hsl).2.2, ← e_idv]; exact f49_2, hP, own_upS x1 (by rw [← e_usv]; exact hc19) hU⟩⟩
  · have st57 : Steps p.tables e below sE (T7.setTop (mkF m 69 #[.val (.ref x0), .val (.int x1), .val (.int idv), .val (.long usv), .second, .unset] [(.int x1), (.long usv), (.int idv), (.ref x0)])) := st11.trans (by
        show Steps _ _ _ (T7.setTop (mkF m 15 #[.val (.ref x0), .val (.int x1), .val (.int idv), .val (.long usv), .second, .unset] [(.int x1)])) _
        refine XS.ifYes X7.here hx rfl (pc0 := 15) (pc' := 65) rfl (hb hby d10_15) rfl ((if0 _ _).trans (flt hc12).2.2.2) (by decide) (by decide) ?_
        show Steps _ _ _ (T7.setTop (mkF m 65 #[.val (.ref x0), .val (.int x1), .val (.int idv), .val (.long usv), .second, .unset] [])) _
        refine XS.aloadN X7.here hx rfl (hb hby d10_65) rfl rfl ?_
        show Steps _ _ _ (T7.setTop (mkF m 66 #[.val (.ref x0), .val (.int x1), .val (.int idv), .val (.long usv), .second, .unset] [(.ref x0)])) _
        refine XS.iloadN X7.here hx rfl (hb hby d10_66) rfl ?_
        show Steps _ _ _ (T7.setTop (mkF m 67 #[.val (.ref x0), .val (.int x1), .val (.int idv), .val (.long usv), .second, .unset] [(.int idv), (.ref x0)])) _
        refine XS.lloadN X7.here hx rfl (hb hby d10_67) rfl ?_
        show Steps _ _ _ (T7.setTop (mkF m 68 #[.val (.ref x0), .val (.int x1), .val (.int idv), .val (.long usv), .second, .unset] [(.long usv), (.int idv), (.ref x0)])) _
        refine XS.iloadN X7.here hx rfl (hb hby d10_68) rfl ?_
        exact Steps.refl _)
    obtain ⟨cq58, q58, q58'⟩ := E_x.cell
    obtain ⟨_, _, ⟨T58, L58, k58, n58⟩, -, X58, ⟨Lc58, hQ58, l58, y58, z58⟩, sr58⟩ := X7.privateBack hx (y := (⟨"com/example/folioseek/folioseek/UseOrder", "place", "(IJI)V"⟩ : MethodName)) hown (mvT hZ (hw _ (List.mem_of_getElem? (i := 45) rfl))) (mvT hZ (hw _ (List.mem_of_getElem? (i := 46) rfl))) (own_selp (z := (⟨"com/example/folioseek/folioseek/UseOrder", "add", "(IJ)V"⟩ : MethodName)) rfl (notFace_of_selects (args := #[]) (mvT hZ (hw _ (List.mem_of_getElem? (i := 20) rfl)))) (args' := #[]) (mvT hZ (hw _ (List.mem_of_getElem? (i := 19) rfl))) (Cond.privateMethod_at (mvP hZ (hw _ (List.mem_of_getElem? (i := 47) rfl)) (args := #[]))) (mvT hZ (hw _ (List.mem_of_getElem? (i := 46) rfl))) (by decide)) (Cond.privateMethod_at (mvP hZ (hw _ (List.mem_of_getElem? (i := 47) rfl)) (args := #[]))) (mvT hZ (hw _ (List.mem_of_getElem? (i := 48) rfl))) (by decide) (backOf (W := 0) (rm9 l Z a0 hw [] x0 idv usv x1 aI aU aS kI kU kS LI LU LS mm h0 n0 Z0 F_i F_u F_s A_i A_u A_s (own_i16 x1 n hP.2.2.2.1 hsl) hidv.1 ⟨hP.1, hP.2.1, own_l16 x1 n hP.2.2.2.1 hsl, hidv.2⟩ g_i g_u g_s ne_iu ne_is ne_us ne_xi ne_xu ne_xs) hZ (hw _ (List.mem_of_getElem? (i := 48) rfl)) (hw _ (List.mem_of_getElem? (i := 3) rfl)) (by decide) (by decide)) (g := (mkF m 69 #[.val (.ref x0), .val (.int x1), .val (.int idv), .val (.long usv), .second, .unset] [(.int x1), (.long usv), (.int idv), (.ref x0)])) rfl (by rw [hml]; rfl) (Steps.refl _) (a := x0) (by rw [e7]; exact q58) q58' (argsL := [(.int idv), (.long usv), (.int x1)]) (rest := []) (lenOf pd_0 rfl) rfl (by show 2 * 0 + _ ≤ _; exact Nat.le_of_eq rfl) (hb hby d10_69) (fun _ _ => ⟨rfl, e7, (by decide : 0 + 0 ≤ _), (by decide : 0 + 0 ≤ _)⟩)
    dsimp only [Pt.U, Pt.locs, Pt.cells, Pt.slots] at X58 l58 y58 z58 sr58 hQ58
    subst l58 y58 z58
    obtain ⟨rfl, N58q, K58c, f58_0, f58_1, f58_2⟩ := hQ58
    have N58 := Fr.app N0 N58q
    obtain ⟨LL58, X58, N58⟩ := own_hide X58 N58
    have f59 : Exa Z T58.heap x0 "com/example/folioseek/folioseek/UseOrder" := E_x.keep K58c
    have f60 : Fld Z T58.heap x0 "com/example/folioseek/folioseek/UseOrder" "ids" "[I" (.ref aI) := F_i.keep K58c (ninS ne_xi (ninS ne_xu (ninS ne_xs nin0)))
    have f61 : Fld Z T58.heap x0 "com/example/folioseek/folioseek/UseOrder" "uses" "[J" (.ref aU) := F_u.keep K58c (ninS ne_xi (ninS ne_xu (ninS ne_xs nin0)))
    have f62 : Fld Z T58.heap x0 "com/example/folioseek/folioseek/UseOrder" "slots" "[I" (.ref aS) := F_s.keep K58c (ninS ne_xi (ninS ne_xu (ninS ne_xs nin0)))
    have K63 : Keep h0 T58.heap [aI, aU, aS] := K0.trans K58c (allS (Or.inl (List.mem_of_getElem? (i := 0) rfl)) (allS (Or.inl (List.mem_of_getElem? (i := 1) rfl)) (allS (Or.inl (List.mem_of_getElem? (i := 2) rfl)) all0)))
    have Z64 : n0 ≤ T58.heap.size := Nat.le_trans Z0 K58c.1
    have st65 : Steps p.tables e below sE (T58.setTop (mkF m 72 #[.val (.ref x0), .val (.int x1), .val (.int idv), .val (.long usv), .second, .unset] [])) := st57.trans (sr58)
    obtain ⟨fs, hr, hrun, hended, hW, hsame⟩ := X58.leave (v := none) (fun _ => rfl) hlk
    refine ⟨_, _, (own_ent hsE st65).trans ?_, hrun, hended, _, _, rfl, ?_, ⟨_, rfl⟩, hW, hsame.mono (by decide) (by decide)⟩
    · exact X58.returnOut hx Bd.returns (hb hby d10_72) hr
    · show Q10 Z x0 x1 aI aU aS kI kU kS LI LU LS mm n val pres h0 n0 _ T58.heap _
      exact ⟨rfl, N58, K63, ⟨LI, LU, LS, by rw [← (own_stayP hP x1 hsl).1, ← e_idv]; exact f58_0, by rw [← (own_stayP hP x1 hsl).2.1, ← e_usv]; exact f58_1, by rw [← (own_stayP hP x1 hsl).2.2, ← e_idv]; exact f58_2, hP, own_up0 x1 hsl.1 hc12 hU⟩⟩
theorem own_far (x : Int32) (n : Nat) (hn : n ≤ 5) (h : 0 < x.toInt ∧ x.toInt < n) : ¬ (((4 : Int32) * x) + (1 : Int32)) < Int32.ofNat n := by
  have e1 := c_imul 4 x
  have e2 := c_iadd (4 * x) 1
  have r1 := rng32 (4 * x)
  have r2 := rng32 (4 * x + 1)
  rw [show (4 : Int32).toInt = 4 by decide] at e1
  rw [show (1 : Int32).toInt = 1 by decide] at e2
  rw [Int32.lt_iff_toInt_lt, own_on n (by omega)]
  omega
theorem own_dnH {n : Nat} {U : List Int64} (l2 : U.length = 16) (hn : n ≤ 5) (c : Nat) (hc : c < n) (h0 : ¬ c = 0) (h : ∀ j, j < n → ¬ j = 0 → (U.getD c 0).toInt ≤ (U.getD j 0).toInt) (hr : (U.getD c 0).toInt ≤ (U.getD 0 0).toInt) : own_H n ((U.set 0 (U.getD c 0)).set c (U.getD 0 0)) := fun j hj => by
  rw [own_gsJ _ _ _ _ (by simp only [List.length_set]; omega), if_neg h0, own_gsJ _ _ _ _ (by omega), if_pos rfl, own_gsJ _ _ _ _ (by simp only [List.length_set]; omega), own_gsJ _ _ _ _ (by omega)]
  by_cases jc : c = j
  · rw [if_pos jc]; exact hr
  · rw [if_neg jc]
    by_cases j0 : 0 = j
    · rw [if_pos j0]; omega
    · rw [if_neg j0]; exact h j hj (fun q => j0 q.symm)
theorem own_dnS {n : Nat} {U : List Int64} (h : ∀ j, j < n → ¬ j = 0 → (U.getD 0 0).toInt ≤ (U.getD j 0).toInt) : own_H n U := fun j hj => by
  by_cases j0 : j = 0
  · rw [j0]; exact Int.le_refl _
  · exact h j hj j0
theorem d12_0 : decode prog_24_method_9_code 0 = .ok (.aload_n 0, 1) := by decide +kernel
theorem d12_1 : decode prog_24_method_9_code 1 = .ok (.getfield 7, 3) := by decide +kernel
theorem d12_4 : decode prog_24_method_9_code 4 = .ok (.iload_n 1, 1) := by decide +kernel
theorem d12_5 : decode prog_24_method_9_code 5 = .ok (.iaload, 1) := by decide +kernel
theorem d12_6 : decode prog_24_method_9_code 6 = .ok (.istore_n 2, 1) := by decide +kernel
theorem d12_7 : decode prog_24_method_9_code 7 = .ok (.aload_n 0, 1) := by decide +kernel
theorem d12_8 : decode prog_24_method_9_code 8 = .ok (.getfield 13, 3) := by decide +kernel
theorem d12_11 : decode prog_24_method_9_code 11 = .ok (.iload_n 1, 1) := by decide +kernel
theorem d12_12 : decode prog_24_method_9_code 12 = .ok (.laload, 1) := by decide +kernel
theorem d12_13 : decode prog_24_method_9_code 13 = .ok (.lstore_n 3, 1) := by decide +kernel
theorem d12_14 : decode prog_24_method_9_code 14 = .ok (.iconst 4, 1) := by decide +kernel
theorem d12_15 : decode prog_24_method_9_code 15 = .ok (.iload_n 1, 1) := by decide +kernel
theorem d12_16 : decode prog_24_method_9_code 16 = .ok (.imul, 1) := by decide +kernel
theorem d12_17 : decode prog_24_method_9_code 17 = .ok (.iconst 1, 1) := by decide +kernel
theorem d12_18 : decode prog_24_method_9_code 18 = .ok (.iadd, 1) := by decide +kernel
theorem d12_19 : decode prog_24_method_9_code 19 = .ok (.aload_n 0, 1) := by decide +kernel
theorem d12_20 : decode prog_24_method_9_code 20 = .ok (.getfield 20, 3) := by decide +kernel
theorem d12_23 : decode prog_24_method_9_code 23 = .ok (.if_icmp .ge 104, 3) := by decide +kernel
theorem d12_127 : decode prog_24_method_9_code 127 = .ok (.aload_n 0, 1) := by decide +kernel
theorem d12_128 : decode prog_24_method_9_code 128 = .ok (.iload_n 2, 1) := by decide +kernel
theorem d12_129 : decode prog_24_method_9_code 129 = .ok (.lload_n 3, 1) := by decide +kernel
theorem d12_130 : decode prog_24_method_9_code 130 = .ok (.iload_n 1, 1) := by decide +kernel
theorem d12_131 : decode prog_24_method_9_code 131 = .ok (.invokevirtual 43, 3) := by decide +kernel
theorem d12_134 : decode prog_24_method_9_code 134 = .ok (.return_, 1) := by decide +kernel
theorem ef_dnP (m : MethodId) (x0 : Addr) (x1 : Int32)  : entryFrame m #[(.ref x0), (.int x1)] 8 = mkF m 0 #[.val (.ref x0), .val (.int x1), .unset, .unset, .unset, .unset, .unset, .unset] [] := by first | (simp [entryFrame, mkF, argsToLocals, Value.category]; done) | rfl
def QdnP (Z : State) (x0 : Addr) (x1 : Int32) (aI : Addr) (aU : Addr) (aS : Addr) (kI : ClassId) (kU : ClassId) (kS : ClassId) (LI : List Int32) (LU : List Int64) (LS : List Int32) (mm : Int32) (n : Nat) (val : Nat → Int64) (pres : Nat → Prop) (h0 : Heap) (n0 : Nat) (vE : Option Value) (hE : Heap) (LE : List Loc) : Prop := vE = none ∧ Fr n0 LE ∧ Keep h0 hE [aI, aU, aS] ∧ Arv Z hE aI kI .int (16 : Int32) (List.map Value.int LI) (.int (0 : Int32)) ∧ Arv Z hE aU kU .long (16 : Int32) (List.map Value.long LU) (.long (0 : Int64)) ∧ Arv Z hE aS kS .int mm (List.map Value.int LS) (.int (0 : Int32))
set_option maxRecDepth 65536 in
set_option maxHeartbeats 40000000 in
theorem rmdnP (l : Launch) (Z : State) (a0 : Array Value) (hw : ∀ d ∈ tables_1, d.before a0 Z = true) (ws : List Jvm.Cond) (x0 : Addr) (x1 : Int32) (aI : Addr) (aU : Addr) (aS : Addr) (kI : ClassId) (kU : ClassId) (kS : ClassId) (LI : List Int32) (LU : List Int64) (LS : List Int32) (mm : Int32) (n : Nat) (val : Nat → Int64) (pres : Nat → Prop) (h0 : Heap) (n0 : Nat) (Z0 : n0 ≤ h0.size) (E_x : Exa Z h0 x0 "com/example/folioseek/folioseek/UseOrder") (F_i : Fld Z h0 x0 "com/example/folioseek/folioseek/UseOrder" "ids" "[I" (.ref aI)) (F_u : Fld Z h0 x0 "com/example/folioseek/folioseek/UseOrder" "uses" "[J" (.ref aU)) (F_s : Fld Z h0 x0 "com/example/folioseek/folioseek/UseOrder" "slots" "[I" (.ref aS)) (F_z : Fld Z h0 x0 "com/example/folioseek/folioseek/UseOrder" "size" "I" (.int (Int32.ofNat n))) (A_i : Arv Z h0 aI kI .int (16 : Int32) (List.map Value.int LI) (.int (0 : Int32))) (A_u : Arv Z h0 aU kU .long (16 : Int32) (List.map Value.long LU) (.long (0 : Int64))) (A_s : Arv Z h0 aS kS .int mm (List.map Value.int LS) (.int (0 : Int32))) (hP : own_P n mm.toNatClampNeg LI LU LS val pres) (hsl : 0 < x1.toInt ∧ x1.toInt < n) (g_i : n0 ≤ aI) (g_u : n0 ≤ aU) (g_s : n0 ≤ aS) (ne_iu : aI ≠ aU) (ne_is : aI ≠ aS) (ne_us : aU ≠ aS) (ne_xi : x0 ≠ aI) (ne_xu : x0 ≠ aU) (ne_xs : x0 ≠ aS) :
    MetFree l (⟨"com/example/folioseek/folioseek/UseOrder", "siftDown", "(I)V"⟩ : MethodName) (head1 (Jvm.Cond.code (⟨"com/example/folioseek/folioseek/UseOrder", "siftDown", "(I)V"⟩ : MethodName) prog_24_method_9_code 8 none :: ws) ({ frames := 1, cells := 0, slots := 0, locals := 16 } : Room)) (fun a U => a = #[(.ref x0), (.int x1)] ∧ Z.Warmed39 U.vm ∧ U.heap = h0) (fun _ _ _ _ _ => True) (fun _ U o U' => ∃ vE LE, o = .returned vE ∧ QdnP Z x0 x1 aI aU aS kI kU kS LI LU LS mm n val pres h0 n0 vE U'.heap LE ∧ FrameEnd U o U' LE ({ frames := 1, cells := 0, slots := 0, locals := 16 } : Room).cells ({ frames := 1, cells := 0, slots := 0, locals := 16 } : Room).slots) := by
  refine MetFree.of_bodySF (plainFor_of_name pn_1) hisR ?_
  intro p e s m args below meth c s₁ Bd hml0 hP hK
  obtain ⟨rfl, hZ, hh⟩ := hP
  have hx := Bd.exec
  have hby := Bd.bytes
  have hml : c.maxLocals = 8 := hml0
  have hown : s.vm.findClass "com/example/folioseek/folioseek/UseOrder" = some m.cls := findClass_of_methodNamed Bd.named
  have hnm := (name_of_methodNamed Bd.named Bd.method).1
  have hlk : meth.locks = false := BodyLoose.notSynchronized Bd
  have X0 : Stand p l e ({ frames := 1, cells := 0, slots := 0, locals := 16 } : Room) s m #[(.ref x0), (.int x1)] below meth c s₁ [] 0 0 := Stand.of_body Bd
  have e0 : s₁.heap = h0 := by rw [← hh, Bd.state]; rfl
  have N0 := Fr.nil n0
  obtain ⟨sE, hsE⟩ : ∃ z, z = (s₁.setTop (entryFrame m #[(.ref x0), (.int x1)] 8)) := ⟨_, rfl⟩
  have st0 : Steps p.tables e below sE (s₁.setTop (mkF m 0 #[.val (.ref x0), .val (.int x1), .unset, .unset, .unset, .unset, .unset, .unset] [])) := by rw [hsE]; exact castTop (ef_dnP m x0 x1) (Steps.refl _)
  have K0 : Keep h0 h0 [aI, aU, aS] := Keep.refl _ _
  have st1 : Steps p.tables e below sE (s₁.setTop (mkF m 1 #[.val (.ref x0), .val (.int x1), .unset, .unset, .unset, .unset, .unset, .unset] [(.ref x0)])) := st0.trans (by
      show Steps _ _ _ (s₁.setTop (mkF m 0 #[.val (.ref x0), .val (.int x1), .unset, .unset, .unset, .unset, .unset, .unset] [])) _
      refine XS.aloadN X0.here hx rfl (hb hby d12_0) rfl rfl ?_
      exact Steps.refl _)
  obtain ⟨T2, X2, e2, sr2⟩ := getF X0 hx hZ hown (host := "") (Or.inl (hw _ (List.mem_of_getElem? (i := 11) rfl))) Via.refl e0 F_i (g := (mkF m 1 #[.val (.ref x0), .val (.int x1), .unset, .unset, .unset, .unset, .unset, .unset] [(.ref x0)])) rfl rfl (hb hby d12_1)
  have st3 : Steps p.tables e below sE (T2.setTop (mkF m 4 #[.val (.ref x0), .val (.int x1), .unset, .unset, .unset, .unset, .unset, .unset] [(.ref aI)])) := st1.trans (sr2 _ (Steps.refl _))
  obtain ⟨cl4, Ar4, q4, S4, N4, H4, G4⟩ := id A_i
  have hin4 : ¬ (x1 < 0 ∨ cl4.slots.size ≤ (x1).toNatClampNeg) := inb_of S4 (own_i16 x1 n hP.2.2.2.1 ⟨by omega, hsl.2⟩)
  have hat4 : cl4.slots[(x1).toNatClampNeg]? = some (.int (LI.getD (x1).toNatClampNeg 0)) := H4.at hin4 (own_getI LI _)
  have st5 : Steps p.tables e below sE (T2.setTop (mkF m 6 #[.val (.ref x0), .val (.int x1), .unset, .unset, .unset, .unset, .unset, .unset] [(.int (LI.getD (x1).toNatClampNeg 0))])) := st3.trans (by
      show Steps _ _ _ (T2.setTop (mkF m 4 #[.val (.ref x0), .val (.int x1), .unset, .unset, .unset, .unset, .unset, .unset] [(.ref aI)])) _
      refine XS.iloadN X2.here hx rfl (hb hby d12_4) rfl ?_
      show Steps _ _ _ (T2.setTop (mkF m 5 #[.val (.ref x0), .val (.int x1), .unset, .unset, .unset, .unset, .unset, .unset] [(.int x1), (.ref aI)])) _
      refine X2.iaload hx (j := x1) (v := (.int (LI.getD (x1).toNatClampNeg 0))) (by rw [e2]; exact Ar4.1) (State.isArrayOf_alike hZ.alike Ar4.2.1) Ar4.2.2 hin4 hat4 (g := (mkF m 5 #[.val (.ref x0), .val (.int x1), .unset, .unset, .unset, .unset, .unset, .unset] [(.int x1), (.ref aI)])) rfl rfl (hb hby d12_5) _ ?_
      exact Steps.refl _)
  obtain ⟨idv, e_idv⟩ : ∃ z, z = (LI.getD (x1).toNatClampNeg 0) := ⟨_, rfl⟩
  rw [← e_idv] at st5
  have hidv := own_idb hP x1.toNatClampNeg (own_nb x1 n ⟨by omega, hsl.2⟩)
  rw [show LI.getD x1.toNatClampNeg 0 = idv from e_idv.symm] at hidv
  have st6 : Steps p.tables e below sE (T2.setTop (mkF m 8 #[.val (.ref x0), .val (.int x1), .val (.int idv), .unset, .unset, .unset, .unset, .unset] [(.ref x0)])) := st5.trans (by
      show Steps _ _ _ (T2.setTop (mkF m 6 #[.val (.ref x0), .val (.int x1), .unset, .unset, .unset, .unset, .unset, .unset] [(.int idv)])) _
      refine XS.istoreN X2.here hx rfl (hb hby d12_6) rfl (l' := #[.val (.ref x0), .val (.int x1), .val (.int idv), .unset, .unset, .unset, .unset, .unset]) rfl ?_
      show Steps _ _ _ (T2.setTop (mkF m 7 #[.val (.ref x0), .val (.int x1), .val (.int idv), .unset, .unset, .unset, .unset, .unset] [])) _
      refine XS.aloadN X2.here hx rfl (hb hby d12_7) rfl rfl ?_
      exact Steps.refl _)
  obtain ⟨T7, X7, e7, sr7⟩ := getF X2 hx hZ hown (host := "") (Or.inl (hw _ (List.mem_of_getElem? (i := 13) rfl))) Via.refl e2 F_u (g := (mkF m 8 #[.val (.ref x0), .val (.int x1), .val (.int idv), .unset, .unset, .unset, .unset, .unset] [(.ref x0)])) rfl rfl (hb hby d12_8)
  have st8 : Steps p.tables e below sE (T7.setTop (mkF m 11 #[.val (.ref x0), .val (.int x1), .val (.int idv), .unset, .unset, .unset, .unset, .unset] [(.ref aU)])) := st6.trans (sr7 _ (Steps.refl _))
  obtain ⟨cl9, Ar9, q9, S9, N9, H9, G9⟩ := id A_u
  have hin9 : ¬ (x1 < 0 ∨ cl9.slots.size ≤ (x1).toNatClampNeg) := inb_of S9 (own_i16 x1 n hP.2.2.2.1 ⟨by omega, hsl.2⟩)
  have hat9 : cl9.slots[(x1).toNatClampNeg]? = some (.long (LU.getD (x1).toNatClampNeg 0)) := H9.at hin9 (own_getJ LU _)
  have st10 : Steps p.tables e below sE (T7.setTop (mkF m 13 #[.val (.ref x0), .val (.int x1), .val (.int idv), .unset, .unset, .unset, .unset, .unset] [(.long (LU.getD (x1).toNatClampNeg 0))])) := st8.trans (by
      show Steps _ _ _ (T7.setTop (mkF m 11 #[.val (.ref x0), .val (.int x1), .val (.int idv), .unset, .unset, .unset, .unset, .unset] [(.ref aU)])) _
      refine XS.iloadN X7.here hx rfl (hb hby d12_11) rfl ?_
      show Steps _ _ _ (T7.setTop (mkF m 12 #[.val (.ref x0), .val (.int x1), .val (.int idv), .unset, .unset, .unset, .unset, .unset] [(.int x1), (.ref aU)])) _
      refine X7.laload hx (j := x1) (v := (.long (LU.getD (x1).toNatClampNeg 0))) (by rw [e7]; exact Ar9.1) (State.isArrayOf_alike hZ.alike Ar9.2.1) Ar9.2.2 hin9 hat9 (g := (mkF m 12 #[.val (.ref x0), .val (.int x1), .val (.int idv), .unset, .unset, .unset, .unset, .unset] [(.int x1), (.ref aU)])) rfl rfl (hb hby d12_12) _ ?_
      exact Steps.refl _)
  obtain ⟨usv, e_usv⟩ : ∃ z, z = (LU.getD (x1).toNatClampNeg 0) := ⟨_, rfl⟩
  rw [← e_usv] at st10
  have st11 : Steps p.tables e below sE (T7.setTop (mkF m 20 #[.val (.ref x0), .val (.int x1), .val (.int idv), .val (.long usv), .second, .unset, .unset, .unset] [(.ref x0), (.int (((4 : Int32) * x1) + (1 : Int32)))])) := st10.trans (by
      show Steps _ _ _ (T7.setTop (mkF m 13 #[.val (.ref x0), .val (.int x1), .val (.int idv), .unset, .unset, .unset, .unset, .unset] [(.long usv)])) _
      refine XS.lstoreN X7.here hx rfl (hb hby d12_13) rfl (l' := #[.val (.ref x0), .val (.int x1), .val (.int idv), .val (.long usv), .second, .unset, .unset, .unset]) rfl ?_
      show Steps _ _ _ (T7.setTop (mkF m 14 #[.val (.ref x0), .val (.int x1), .val (.int idv), .val (.long usv), .second, .unset, .unset, .unset] [])) _
      refine XS.iconst X7.here hx rfl (hb hby d12_14) ?_
      show Steps _ _ _ (T7.setTop (mkF m 15 #[.val (.ref x0), .val (.int x1), .val (.int idv), .val (.long usv), .second, .unset, .unset, .unset] [(.int (4 : Int32))])) _
      refine XS.iloadN X7.here hx rfl (hb hby d12_15) rfl ?_
      show Steps _ _ _ (T7.setTop (mkF m 16 #[.val (.ref x0), .val (.int x1), .val (.int idv), .val (.long usv), .second, .unset, .unset, .unset] [(.int x1), (.int (4 : Int32))])) _
      refine XS.imul X7.here hx rfl (hb hby d12_16) rfl ?_
      show Steps _ _ _ (T7.setTop (mkF m 17 #[.val (.ref x0), .val (.int x1), .val (.int idv), .val (.long usv), .second, .unset, .unset, .unset] [(.int ((4 : Int32) * x1))])) _
      refine XS.iconst X7.here hx rfl (hb hby d12_17) ?_
      show Steps _ _ _ (T7.setTop (mkF m 18 #[.val (.ref x0), .val (.int x1), .val (.int idv), .val (.long usv), .second, .unset, .unset, .unset] [(.int (1 : Int32)), (.int ((4 : Int32) * x1))])) _
      refine XS.iadd X7.here hx rfl (hb hby d12_18) rfl ?_
      show Steps _ _ _ (T7.setTop (mkF m 19 #[.val (.ref x0), .val (.int x1), .val (.int idv), .val (.long usv), .second, .unset, .unset, .unset] [(.int (((4 : Int32) * x1) + (1 : Int32)))])) _
      refine XS.aloadN X7.here hx rfl (hb hby d12_19) rfl rfl ?_
      exact Steps.refl _)
  obtain ⟨T12, X12, e12, sr12⟩ := getF X7 hx hZ hown (host := "") (Or.inl (hw _ (List.mem_of_getElem? (i := 22) rfl))) Via.refl e7 F_z (g := (mkF m 20 #[.val (.ref x0), .val (.int x1), .val (.int idv), .val (.long usv), .second, .unset, .unset, .unset] [(.ref x0), (.int (((4 : Int32) * x1) + (1 : Int32)))])) rfl rfl (hb hby d12_20)
  have st13 : Steps p.tables e below sE (T12.setTop (mkF m 23 #[.val (.ref x0), .val (.int x1), .val (.int idv), .val (.long usv), .second, .unset, .unset, .unset] [(.int (Int32.ofNat n)), (.int (((4 : Int32) * x1) + (1 : Int32)))])) := st11.trans (sr12 _ (Steps.refl _))
  have hf14 : ¬ ((((4 : Int32) * x1) + (1 : Int32)) < (Int32.ofNat n)) := own_far x1 n hP.2.2.2.1 hsl
  have st15 : Steps p.tables e below sE (T12.setTop (mkF m 131 #[.val (.ref x0), .val (.int x1), .val (.int idv), .val (.long usv), .second, .unset, .unset, .unset] [(.int x1), (.long usv), (.int idv), (.ref x0)])) := st13.trans (by
      show Steps _ _ _ (T12.setTop (mkF m 23 #[.val (.ref x0), .val (.int x1), .val (.int idv), .val (.long usv), .second, .unset, .unset, .unset] [(.int (Int32.ofNat n)), (.int (((4 : Int32) * x1) + (1 : Int32)))])) _
      refine XS.icmpYes X12.here hx rfl (pc0 := 23) (pc' := 127) rfl (hb hby d12_23) rfl (flt hf14).2.1 (by decide) (by decide) ?_
      show Steps _ _ _ (T12.setTop (mkF m 127 #[.val (.ref x0), .val (.int x1), .val (.int idv), .val (.long usv), .second, .unset, .unset, .unset] [])) _
      refine XS.aloadN X12.here hx rfl (hb hby d12_127) rfl rfl ?_
      show Steps _ _ _ (T12.setTop (mkF m 128 #[.val (.ref x0), .val (.int x1), .val (.int idv), .val (.long usv), .second, .unset, .unset, .unset] [(.ref x0)])) _
      refine XS.iloadN X12.here hx rfl (hb hby d12_128) rfl ?_
      show Steps _ _ _ (T12.setTop (mkF m 129 #[.val (.ref x0), .val (.int x1), .val (.int idv), .val (.long usv), .second, .unset, .unset, .unset] [(.int idv), (.ref x0)])) _
      refine XS.lloadN X12.here hx rfl (hb hby d12_129) rfl ?_
      show Steps _ _ _ (T12.setTop (mkF m 130 #[.val (.ref x0), .val (.int x1), .val (.int idv), .val (.long usv), .second, .unset, .unset, .unset] [(.long usv), (.int idv), (.ref x0)])) _
      refine XS.iloadN X12.here hx rfl (hb hby d12_130) rfl ?_
      exact Steps.refl _)
  obtain ⟨cq16, q16, q16'⟩ := E_x.cell
  obtain ⟨_, _, ⟨T16, L16, k16, n16⟩, -, X16, ⟨Lc16, hQ16, l16, y16, z16⟩, sr16⟩ := X12.privateBack hx (y := (⟨"com/example/folioseek/folioseek/UseOrder", "place", "(IJI)V"⟩ : MethodName)) hown (mvT hZ (hw _ (List.mem_of_getElem? (i := 45) rfl))) (mvT hZ (hw _ (List.mem_of_getElem? (i := 46) rfl))) (own_selp (z := (⟨"com/example/folioseek/folioseek/UseOrder", "add", "(IJ)V"⟩ : MethodName)) rfl (notFace_of_selects (args := #[]) (mvT hZ (hw _ (List.mem_of_getElem? (i := 20) rfl)))) (args' := #[]) (mvT hZ (hw _ (List.mem_of_getElem? (i := 19) rfl))) (Cond.privateMethod_at (mvP hZ (hw _ (List.mem_of_getElem? (i := 47) rfl)) (args := #[]))) (mvT hZ (hw _ (List.mem_of_getElem? (i := 46) rfl))) (by decide)) (Cond.privateMethod_at (mvP hZ (hw _ (List.mem_of_getElem? (i := 47) rfl)) (args := #[]))) (mvT hZ (hw _ (List.mem_of_getElem? (i := 48) rfl))) (by decide) (backOf (W := 0) (rm9 l Z a0 hw [] x0 idv usv x1 aI aU aS kI kU kS LI LU LS mm h0 n0 Z0 F_i F_u F_s A_i A_u A_s (own_i16 x1 n hP.2.2.2.1 ⟨by omega, hsl.2⟩) hidv.1 ⟨hP.1, hP.2.1, own_l16 x1 n hP.2.2.2.1 ⟨by omega, hsl.2⟩, hidv.2⟩ g_i g_u g_s ne_iu ne_is ne_us ne_xi ne_xu ne_xs) hZ (hw _ (List.mem_of_getElem? (i := 48) rfl)) (hw _ (List.mem_of_getElem? (i := 3) rfl)) (by decide) (by decide)) (g := (mkF m 131 #[.val (.ref x0), .val (.int x1), .val (.int idv), .val (.long usv), .second, .unset, .unset, .unset] [(.int x1), (.long usv), (.int idv), (.ref x0)])) rfl (by rw [hml]; rfl) (Steps.refl _) (a := x0) (by rw [e12]; exact q16) q16' (argsL := [(.int idv), (.long usv), (.int x1)]) (rest := []) (lenOf pd_0 rfl) rfl (by show 2 * 0 + _ ≤ _; exact Nat.le_of_eq rfl) (hb hby d12_131) (fun _ _ => ⟨rfl, e12, (by decide : 0 + 0 ≤ _), (by decide : 0 + 0 ≤ _)⟩)
  dsimp only [Pt.U, Pt.locs, Pt.cells, Pt.slots] at X16 l16 y16 z16 sr16 hQ16
  subst l16 y16 z16
  obtain ⟨rfl, N16q, K16c, f16_0, f16_1, f16_2⟩ := hQ16
  have N16 := Fr.app N0 N16q
  obtain ⟨LL16, X16, N16⟩ := own_hide X16 N16
  have f17 : Exa Z T16.heap x0 "com/example/folioseek/folioseek/UseOrder" := E_x.keep K16c
  have f18 : Fld Z T16.heap x0 "com/example/folioseek/folioseek/UseOrder" "ids" "[I" (.ref aI) := F_i.keep K16c (ninS ne_xi (ninS ne_xu (ninS ne_xs nin0)))
  have f19 : Fld Z T16.heap x0 "com/example/folioseek/folioseek/UseOrder" "uses" "[J" (.ref aU) := F_u.keep K16c (ninS ne_xi (ninS ne_xu (ninS ne_xs nin0)))
  have f20 : Fld Z T16.heap x0 "com/example/folioseek/folioseek/UseOrder" "slots" "[I" (.ref aS) := F_s.keep K16c (ninS ne_xi (ninS ne_xu (ninS ne_xs nin0)))
  have f21 : Fld Z T16.heap x0 "com/example/folioseek/folioseek/UseOrder" "size" "I" (.int (Int32.ofNat n)) := F_z.keep K16c (ninS ne_xi (ninS ne_xu (ninS ne_xs nin0)))
  have K22 : Keep h0 T16.heap [aI, aU, aS] := K0.trans K16c (allS (Or.inl (List.mem_of_getElem? (i := 0) rfl)) (allS (Or.inl (List.mem_of_getElem? (i := 1) rfl)) (allS (Or.inl (List.mem_of_getElem? (i := 2) rfl)) all0)))
  have Z23 : n0 ≤ T16.heap.size := Nat.le_trans Z0 K16c.1
  have st24 : Steps p.tables e below sE (T16.setTop (mkF m 134 #[.val (.ref x0), .val (.int x1), .val (.int idv), .val (.long usv), .second, .unset, .unset, .unset] [])) := st15.trans (sr16)
  obtain ⟨fs, hr, hrun, hended, hW, hsame⟩ := X16.leave (v := none) (fun _ => rfl) hlk
  refine ⟨_, _, (own_ent hsE st24).trans ?_, hrun, hended, _, _, rfl, ?_, ⟨_, rfl⟩, hW, hsame.mono (by decide) (by decide)⟩
  · exact X16.returnOut hx Bd.returns (hb hby d12_134) hr
  · show QdnP Z x0 x1 aI aU aS kI kU kS LI LU LS mm n val pres h0 n0 _ T16.heap _
    exact ⟨rfl, N16, K22, (by rw [← (own_stayP hP x1 ⟨by omega, hsl.2⟩).1, ← e_idv]; exact f16_0), (by rw [← (own_stayP hP x1 ⟨by omega, hsl.2⟩).2.1, ← e_usv]; exact f16_1), (by rw [← (own_stayP hP x1 ⟨by omega, hsl.2⟩).2.2, ← e_idv]; exact f16_2)⟩
def own_B (U : List Int64) (b : Int32) (c : Nat) : Prop := 0 < b.toInt ∧ b.toInt < c ∧ ∀ j, 0 < j → j < c → (U.getD b.toNatClampNeg 0).toInt ≤ (U.getD j 0).toInt
theorem own_b1 (U : List Int64) : own_B U (1 : Int32) 2 := by
  refine ⟨by decide, by decide, fun j h1 h2 => ?_⟩
  obtain rfl : j = 1 := by omega
  exact Int.le_refl _
theorem own_bs {U : List Int64} {b b' : Int32} (c : Nat) (hc : 0 < c ∧ c < 100) (h : own_B U b c) (e : b' = if U.getD (Int32.ofNat c).toNatClampNeg 0 < U.getD b.toNatClampNeg 0 then Int32.ofNat c else b) : own_B U b' (c + 1) := by
  obtain ⟨h1, h2, h3⟩ := h
  rw [own_onn c hc.2] at e
  by_cases q : U.getD c 0 < U.getD b.toNatClampNeg 0
  · rw [if_pos q] at e; subst e
    rw [Int64.lt_iff_toInt_lt] at q
    refine ⟨by rw [own_on c hc.2]; omega, by rw [own_on c hc.2]; omega, fun j j1 j2 => ?_⟩
    rw [own_onn c hc.2]
    by_cases jc : j = c
    · rw [jc]; exact Int.le_refl _
    · have := h3 j j1 (by omega); omega
  · rw [if_neg q] at e; subst e
    rw [Int64.lt_iff_toInt_lt] at q
    refine ⟨h1, by omega, fun j j1 j2 => ?_⟩
    by_cases jc : j = c
    · rw [jc]; omega
    · exact h3 j j1 (by omega)
theorem own_Bb {U : List Int64} {b : Int32} {c : Nat} (n : Nat) (h : own_B U b c) (hc : c ≤ n) : 0 ≤ b.toInt ∧ b.toInt < n := ⟨by have := h.1; omega, by have := h.2.1; omega⟩
theorem own_dnB {n : Nat} {U : List Int64} (l2 : U.length = 16) (hn : n ≤ 5) (b : Int32) (h : own_B U b n) (hlt : U.getD b.toNatClampNeg 0 < U.getD ((0 : Int32)).toNatClampNeg 0) : own_H n ((U.set ((0 : Int32)).toNatClampNeg (U.getD b.toNatClampNeg 0)).set b.toNatClampNeg (U.getD ((0 : Int32)).toNatClampNeg 0)) := by
  have hlt' : (U.getD b.toNatClampNeg 0).toInt < (U.getD 0 0).toInt := Int64.lt_iff_toInt_lt.mp hlt
  have ht := own_tn b (by have := h.1; omega)
  exact own_dnH l2 hn b.toNatClampNeg (own_nb b n (own_Bb n h (Nat.le_refl _))) (by have := h.1; omega) (fun j hj h0 => h.2.2 j (by omega) hj) (by omega)
theorem own_dnC {n : Nat} {U : List Int64} (b : Int32) (h : own_B U b n) (hlt : ¬ U.getD b.toNatClampNeg 0 < U.getD ((0 : Int32)).toNatClampNeg 0) : own_H n U := by
  have hlt' : ¬ (U.getD b.toNatClampNeg 0).toInt < (U.getD 0 0).toInt := fun q => hlt (Int64.lt_iff_toInt_lt.mpr q)
  exact own_dnS (fun j hj h0 => by have := h.2.2 j (by omega) hj; omega)
theorem pd_1 : parseMethodDescriptor "(II)I" = some ⟨[.int, .int], some .int⟩ := by decide +kernel
theorem d12_26 : decode prog_24_method_9_code 26 = .ok (.iconst 4, 1) := by decide +kernel
theorem d12_27 : decode prog_24_method_9_code 27 = .ok (.iload_n 1, 1) := by decide +kernel
theorem d12_28 : decode prog_24_method_9_code 28 = .ok (.imul, 1) := by decide +kernel
theorem d12_29 : decode prog_24_method_9_code 29 = .ok (.iconst 1, 1) := by decide +kernel
theorem d12_30 : decode prog_24_method_9_code 30 = .ok (.iadd, 1) := by decide +kernel
theorem d12_31 : decode prog_24_method_9_code 31 = .ok (.istore 5, 2) := by decide +kernel
theorem d12_33 : decode prog_24_method_9_code 33 = .ok (.iload 5, 2) := by decide +kernel
theorem d12_35 : decode prog_24_method_9_code 35 = .ok (.iconst 4, 1) := by decide +kernel
theorem d12_36 : decode prog_24_method_9_code 36 = .ok (.iadd, 1) := by decide +kernel
theorem d12_37 : decode prog_24_method_9_code 37 = .ok (.aload_n 0, 1) := by decide +kernel
theorem d12_38 : decode prog_24_method_9_code 38 = .ok (.getfield 20, 3) := by decide +kernel
theorem d12_41 : decode prog_24_method_9_code 41 = .ok (.invokestatic 54, 3) := by decide +kernel
theorem d12_44 : decode prog_24_method_9_code 44 = .ok (.istore 6, 2) := by decide +kernel
theorem d12_46 : decode prog_24_method_9_code 46 = .ok (.iload 5, 2) := by decide +kernel
theorem d12_48 : decode prog_24_method_9_code 48 = .ok (.iconst 1, 1) := by decide +kernel
theorem d12_49 : decode prog_24_method_9_code 49 = .ok (.iadd, 1) := by decide +kernel
theorem d12_50 : decode prog_24_method_9_code 50 = .ok (.istore 7, 2) := by decide +kernel
theorem d12_52 : decode prog_24_method_9_code 52 = .ok (.iload 7, 2) := by decide +kernel
theorem d12_54 : decode prog_24_method_9_code 54 = .ok (.iload 6, 2) := by decide +kernel
theorem d12_56 : decode prog_24_method_9_code 56 = .ok (.if_icmp .ge 31, 3) := by decide +kernel
theorem d12_59 : decode prog_24_method_9_code 59 = .ok (.aload_n 0, 1) := by decide +kernel
theorem d12_60 : decode prog_24_method_9_code 60 = .ok (.getfield 13, 3) := by decide +kernel
theorem d12_63 : decode prog_24_method_9_code 63 = .ok (.iload 7, 2) := by decide +kernel
theorem d12_65 : decode prog_24_method_9_code 65 = .ok (.laload, 1) := by decide +kernel
theorem d12_66 : decode prog_24_method_9_code 66 = .ok (.aload_n 0, 1) := by decide +kernel
theorem d12_67 : decode prog_24_method_9_code 67 = .ok (.getfield 13, 3) := by decide +kernel
theorem d12_70 : decode prog_24_method_9_code 70 = .ok (.iload 5, 2) := by decide +kernel
theorem d12_72 : decode prog_24_method_9_code 72 = .ok (.laload, 1) := by decide +kernel
theorem d12_73 : decode prog_24_method_9_code 73 = .ok (.lcmp, 1) := by decide +kernel
theorem d12_74 : decode prog_24_method_9_code 74 = .ok (.ifCond .ge 7, 3) := by decide +kernel
theorem d12_77 : decode prog_24_method_9_code 77 = .ok (.iload 7, 2) := by decide +kernel
theorem d12_79 : decode prog_24_method_9_code 79 = .ok (.istore 5, 2) := by decide +kernel
theorem d12_81 : decode prog_24_method_9_code 81 = .ok (.iinc 7 1, 3) := by decide +kernel
theorem d12_84 : decode prog_24_method_9_code 84 = .ok (.goto (-32), 3) := by decide +kernel
theorem d12_87 : decode prog_24_method_9_code 87 = .ok (.lload_n 3, 1) := by decide +kernel
theorem d12_88 : decode prog_24_method_9_code 88 = .ok (.aload_n 0, 1) := by decide +kernel
theorem d12_89 : decode prog_24_method_9_code 89 = .ok (.getfield 13, 3) := by decide +kernel
theorem d12_92 : decode prog_24_method_9_code 92 = .ok (.iload 5, 2) := by decide +kernel
theorem d12_94 : decode prog_24_method_9_code 94 = .ok (.laload, 1) := by decide +kernel
theorem d12_95 : decode prog_24_method_9_code 95 = .ok (.lcmp, 1) := by decide +kernel
theorem d12_96 : decode prog_24_method_9_code 96 = .ok (.ifCond .gt 6, 3) := by decide +kernel
theorem d12_99 : decode prog_24_method_9_code 99 = .ok (.goto 28, 3) := by decide +kernel
theorem d12_102 : decode prog_24_method_9_code 102 = .ok (.aload_n 0, 1) := by decide +kernel
theorem d12_103 : decode prog_24_method_9_code 103 = .ok (.aload_n 0, 1) := by decide +kernel
theorem d12_104 : decode prog_24_method_9_code 104 = .ok (.getfield 7, 3) := by decide +kernel
theorem d12_107 : decode prog_24_method_9_code 107 = .ok (.iload 5, 2) := by decide +kernel
theorem d12_109 : decode prog_24_method_9_code 109 = .ok (.iaload, 1) := by decide +kernel
theorem d12_110 : decode prog_24_method_9_code 110 = .ok (.aload_n 0, 1) := by decide +kernel
theorem d12_111 : decode prog_24_method_9_code 111 = .ok (.getfield 13, 3) := by decide +kernel
theorem d12_114 : decode prog_24_method_9_code 114 = .ok (.iload 5, 2) := by decide +kernel
theorem d12_116 : decode prog_24_method_9_code 116 = .ok (.laload, 1) := by decide +kernel
theorem d12_117 : decode prog_24_method_9_code 117 = .ok (.iload_n 1, 1) := by decide +kernel
theorem d12_118 : decode prog_24_method_9_code 118 = .ok (.invokevirtual 43, 3) := by decide +kernel
theorem d12_121 : decode prog_24_method_9_code 121 = .ok (.iload 5, 2) := by decide +kernel
theorem d12_123 : decode prog_24_method_9_code 123 = .ok (.istore_n 1, 1) := by decide +kernel
theorem d12_124 : decode prog_24_method_9_code 124 = .ok (.goto (-110), 3) := by decide +kernel
theorem ef_dn4 (m : MethodId) (x0 : Addr)  : entryFrame m #[(.ref x0), (.int (0 : Int32))] 8 = mkF m 0 #[.val (.ref x0), .val (.int (0 : Int32)), .unset, .unset, .unset, .unset, .unset, .unset] [] := by first | (simp [entryFrame, mkF, argsToLocals, Value.category]; done) | rfl
def Qdn4 (Z : State) (x0 : Addr) (aI : Addr) (aU : Addr) (aS : Addr) (kI : ClassId) (kU : ClassId) (kS : ClassId) (LI : List Int32) (LU : List Int64) (LS : List Int32) (mm : Int32) (val : Nat → Int64) (pres : Nat → Prop) (h0 : Heap) (n0 : Nat) (vE : Option Value) (hE : Heap) (LE : List Loc) : Prop := vE = none ∧ Fr n0 LE ∧ Keep h0 hE [aI, aU, aS] ∧ (∃ (LI' : List Int32) (LU' : List Int64) (LS' : List Int32), Arv Z hE aI kI .int (16 : Int32) (List.map Value.int LI') (.int (0 : Int32)) ∧ Arv Z hE aU kU .long (16 : Int32) (List.map Value.long LU') (.long (0 : Int64)) ∧ Arv Z hE aS kS .int mm (List.map Value.int LS') (.int (0 : Int32)) ∧ own_P 4 mm.toNatClampNeg LI' LU' LS' val pres ∧ own_H 4 LU')
set_option maxRecDepth 65536 in
set_option maxHeartbeats 40000000 in
theorem rmdn4 (l : Launch) (Z : State) (a0 : Array Value) (hw : ∀ d ∈ tables_1, d.before a0 Z = true) (ws : List Jvm.Cond) (x0 : Addr) (aI : Addr) (aU : Addr) (aS : Addr) (kI : ClassId) (kU : ClassId) (kS : ClassId) (LI : List Int32) (LU : List Int64) (LS : List Int32) (mm : Int32) (val : Nat → Int64) (pres : Nat → Prop) (h0 : Heap) (n0 : Nat) (Z0 : n0 ≤ h0.size) (E_x : Exa Z h0 x0 "com/example/folioseek/folioseek/UseOrder") (F_i : Fld Z h0 x0 "com/example/folioseek/folioseek/UseOrder" "ids" "[I" (.ref aI)) (F_u : Fld Z h0 x0 "com/example/folioseek/folioseek/UseOrder" "uses" "[J" (.ref aU)) (F_s : Fld Z h0 x0 "com/example/folioseek/folioseek/UseOrder" "slots" "[I" (.ref aS)) (F_z : Fld Z h0 x0 "com/example/folioseek/folioseek/UseOrder" "size" "I" (.int (4 : Int32))) (A_i : Arv Z h0 aI kI .int (16 : Int32) (List.map Value.int LI) (.int (0 : Int32))) (A_u : Arv Z h0 aU kU .long (16 : Int32) (List.map Value.long LU) (.long (0 : Int64))) (A_s : Arv Z h0 aS kS .int mm (List.map Value.int LS) (.int (0 : Int32))) (hP : own_P 4 mm.toNatClampNeg LI LU LS val pres) (g_i : n0 ≤ aI) (g_u : n0 ≤ aU) (g_s : n0 ≤ aS) (ne_iu : aI ≠ aU) (ne_is : aI ≠ aS) (ne_us : aU ≠ aS) (ne_xi : x0 ≠ aI) (ne_xu : x0 ≠ aU) (ne_xs : x0 ≠ aS) :
    MetFree l (⟨"com/example/folioseek/folioseek/UseOrder", "siftDown", "(I)V"⟩ : MethodName) (head1 (Jvm.Cond.code (⟨"com/example/folioseek/folioseek/UseOrder", "siftDown", "(I)V"⟩ : MethodName) prog_24_method_9_code 8 none :: ws) ({ frames := 1, cells := 0, slots := 0, locals := 16 } : Room)) (fun a U => a = #[(.ref x0), (.int (0 : Int32))] ∧ Z.Warmed39 U.vm ∧ U.heap = h0) (fun _ _ _ _ _ => True) (fun _ U o U' => ∃ vE LE, o = .returned vE ∧ Qdn4 Z x0 aI aU aS kI kU kS LI LU LS mm val pres h0 n0 vE U'.heap LE ∧ FrameEnd U o U' LE ({ frames := 1, cells := 0, slots := 0, locals := 16 } : Room).cells ({ frames := 1, cells := 0, slots := 0, locals := 16 } : Room).slots) := by
  refine MetFree.of_bodySF (plainFor_of_name pn_1) hisR ?_
  intro p e s m args below meth c s₁ Bd hml0 hP hK
  obtain ⟨rfl, hZ, hh⟩ := hP
  have hx := Bd.exec
  have hby := Bd.bytes
  have hml : c.maxLocals = 8 := hml0
  have hown : s.vm.findClass "com/example/folioseek/folioseek/UseOrder" = some m.cls := findClass_of_methodNamed Bd.named
  have hnm := (name_of_methodNamed Bd.named Bd.method).1
  have hlk : meth.locks = false := BodyLoose.notSynchronized Bd
  have X0 : Stand p l e ({ frames := 1, cells := 0, slots := 0, locals := 16 } : Room) s m #[(.ref x0), (.int (0 : Int32))] below meth c s₁ [] 0 0 := Stand.of_body Bd
  have e0 : s₁.heap = h0 := by rw [← hh, Bd.state]; rfl
  have N0 := Fr.nil n0
  obtain ⟨sE, hsE⟩ : ∃ z, z = (s₁.setTop (entryFrame m #[(.ref x0), (.int (0 : Int32))] 8)) := ⟨_, rfl⟩
  have st0 : Steps p.tables e below sE (s₁.setTop (mkF m 0 #[.val (.ref x0), .val (.int (0 : Int32)), .unset, .unset, .unset, .unset, .unset, .unset] [])) := by rw [hsE]; exact castTop (ef_dn4 m x0) (Steps.refl _)
  have K0 : Keep h0 h0 [aI, aU, aS] := Keep.refl _ _
  have st1 : Steps p.tables e below sE (s₁.setTop (mkF m 1 #[.val (.ref x0), .val (.int (0 : Int32)), .unset, .unset, .unset, .unset, .unset, .unset] [(.ref x0)])) := st0.trans (by
      show Steps _ _ _ (s₁.setTop (mkF m 0 #[.val (.ref x0), .val (.int (0 : Int32)), .unset, .unset, .unset, .unset, .unset, .unset] [])) _
      refine XS.aloadN X0.here hx rfl (hb hby d12_0) rfl rfl ?_
      exact Steps.refl _)
  obtain ⟨T2, X2, e2, sr2⟩ := getF X0 hx hZ hown (host := "") (Or.inl (hw _ (List.mem_of_getElem? (i := 11) rfl))) Via.refl e0 F_i (g := (mkF m 1 #[.val (.ref x0), .val (.int (0 : Int32)), .unset, .unset, .unset, .unset, .unset, .unset] [(.ref x0)])) rfl rfl (hb hby d12_1)
  have st3 : Steps p.tables e below sE (T2.setTop (mkF m 4 #[.val (.ref x0), .val (.int (0 : Int32)), .unset, .unset, .unset, .unset, .unset, .unset] [(.ref aI)])) := st1.trans (sr2 _ (Steps.refl _))
  obtain ⟨cl4, Ar4, q4, S4, N4, H4, G4⟩ := id A_i
  have hin4 : ¬ ((0 : Int32) < 0 ∨ cl4.slots.size ≤ ((0 : Int32)).toNatClampNeg) := inb_of S4 ⟨by decide, by decide⟩
  have hat4 : cl4.slots[((0 : Int32)).toNatClampNeg]? = some (.int (LI.getD ((0 : Int32)).toNatClampNeg 0)) := H4.at hin4 (own_getI LI _)
  have st5 : Steps p.tables e below sE (T2.setTop (mkF m 6 #[.val (.ref x0), .val (.int (0 : Int32)), .unset, .unset, .unset, .unset, .unset, .unset] [(.int (LI.getD ((0 : Int32)).toNatClampNeg 0))])) := st3.trans (by
      show Steps _ _ _ (T2.setTop (mkF m 4 #[.val (.ref x0), .val (.int (0 : Int32)), .unset, .unset, .unset, .unset, .unset, .unset] [(.ref aI)])) _
      refine XS.iloadN X2.here hx rfl (hb hby d12_4) rfl ?_
      show Steps _ _ _ (T2.setTop (mkF m 5 #[.val (.ref x0), .val (.int (0 : Int32)), .unset, .unset, .unset, .unset, .unset, .unset] [(.int (0 : Int32)), (.ref aI)])) _
      refine X2.iaload hx (j := (0 : Int32)) (v := (.int (LI.getD ((0 : Int32)).toNatClampNeg 0))) (by rw [e2]; exact Ar4.1) (State.isArrayOf_alike hZ.alike Ar4.2.1) Ar4.2.2 hin4 hat4 (g := (mkF m 5 #[.val (.ref x0), .val (.int (0 : Int32)), .unset, .unset, .unset, .unset, .unset, .unset] [(.int (0 : Int32)), (.ref aI)])) rfl rfl (hb hby d12_5) _ ?_
      exact Steps.refl _)
  obtain ⟨idv, e_idv⟩ : ∃ z, z = (LI.getD ((0 : Int32)).toNatClampNeg 0) := ⟨_, rfl⟩
  rw [← e_idv] at st5
  have hidv := own_idb hP 0 (by decide)
  rw [show LI.getD 0 0 = idv from e_idv.symm] at hidv
  have hB1 := own_b1 LU
  have st6 : Steps p.tables e below sE (T2.setTop (mkF m 8 #[.val (.ref x0), .val (.int (0 : Int32)), .val (.int idv), .unset, .unset, .unset, .unset, .unset] [(.ref x0)])) := st5.trans (by
      show Steps _ _ _ (T2.setTop (mkF m 6 #[.val (.ref x0), .val (.int (0 : Int32)), .unset, .unset, .unset, .unset, .unset, .unset] [(.int idv)])) _
      refine XS.istoreN X2.here hx rfl (hb hby d12_6) rfl (l' := #[.val (.ref x0), .val (.int (0 : Int32)), .val (.int idv), .unset, .unset, .unset, .unset, .unset]) rfl ?_
      show Steps _ _ _ (T2.setTop (mkF m 7 #[.val (.ref x0), .val (.int (0 : Int32)), .val (.int idv), .unset, .unset, .unset, .unset, .unset] [])) _
      refine XS.aloadN X2.here hx rfl (hb hby d12_7) rfl rfl ?_
      exact Steps.refl _)
  obtain ⟨T7, X7, e7, sr7⟩ := getF X2 hx hZ hown (host := "") (Or.inl (hw _ (List.mem_of_getElem? (i := 13) rfl))) Via.refl e2 F_u (g := (mkF m 8 #[.val (.ref x0), .val (.int (0 : Int32)), .val (.int idv), .unset, .unset, .unset, .unset, .unset] [(.ref x0)])) rfl rfl (hb hby d12_8)
  have st8 : Steps p.tables e below sE (T7.setTop (mkF m 11 #[.val (.ref x0), .val (.int (0 : Int32)), .val (.int idv), .unset, .unset, .unset, .unset, .unset] [(.ref aU)])) := st6.trans (sr7 _ (Steps.refl _))
  obtain ⟨cl9, Ar9, q9, S9, N9, H9, G9⟩ := id A_u
  have hin9 : ¬ ((0 : Int32) < 0 ∨ cl9.slots.size ≤ ((0 : Int32)).toNatClampNeg) := inb_of S9 ⟨by decide, by decide⟩
  have hat9 : cl9.slots[((0 : Int32)).toNatClampNeg]? = some (.long (LU.getD ((0 : Int32)).toNatClampNeg 0)) := H9.at hin9 (own_getJ LU _)
  have st10 : Steps p.tables e below sE (T7.setTop (mkF m 13 #[.val (.ref x0), .val (.int (0 : Int32)), .val (.int idv), .unset, .unset, .unset, .unset, .unset] [(.long (LU.getD ((0 : Int32)).toNatClampNeg 0))])) := st8.trans (by
      show Steps _ _ _ (T7.setTop (mkF m 11 #[.val (.ref x0), .val (.int (0 : Int32)), .val (.int idv), .unset, .unset, .unset, .unset, .unset] [(.ref aU)])) _
      refine XS.iloadN X7.here hx rfl (hb hby d12_11) rfl ?_
      show Steps _ _ _ (T7.setTop (mkF m 12 #[.val (.ref x0), .val (.int (0 : Int32)), .val (.int idv), .unset, .unset, .unset, .unset, .unset] [(.int (0 : Int32)), (.ref aU)])) _
      refine X7.laload hx (j := (0 : Int32)) (v := (.long (LU.getD ((0 : Int32)).toNatClampNeg 0))) (by rw [e7]; exact Ar9.1) (State.isArrayOf_alike hZ.alike Ar9.2.1) Ar9.2.2 hin9 hat9 (g := (mkF m 12 #[.val (.ref x0), .val (.int (0 : Int32)), .val (.int idv), .unset, .unset, .unset, .unset, .unset] [(.int (0 : Int32)), (.ref aU)])) rfl rfl (hb hby d12_12) _ ?_
      exact Steps.refl _)
  obtain ⟨usv, e_usv⟩ : ∃ z, z = (LU.getD ((0 : Int32)).toNatClampNeg 0) := ⟨_, rfl⟩
  rw [← e_usv] at st10
  have st11 : Steps p.tables e below sE (T7.setTop (mkF m 20 #[.val (.ref x0), .val (.int (0 : Int32)), .val (.int idv), .val (.long usv), .second, .unset, .unset, .unset] [(.ref x0), (.int (1 : Int32))])) := st10.trans (by
      show Steps _ _ _ (T7.setTop (mkF m 13 #[.val (.ref x0), .val (.int (0 : Int32)), .val (.int idv), .unset, .unset, .unset, .unset, .unset] [(.long usv)])) _
      refine XS.lstoreN X7.here hx rfl (hb hby d12_13) rfl (l' := #[.val (.ref x0), .val (.int (0 : Int32)), .val (.int idv), .val (.long usv), .second, .unset, .unset, .unset]) rfl ?_
      show Steps _ _ _ (T7.setTop (mkF m 14 #[.val (.ref x0), .val (.int (0 : Int32)), .val (.int idv), .val (.long usv), .second, .unset, .unset, .unset] [])) _
      refine XS.iconst X7.here hx rfl (hb hby d12_14) ?_
      show Steps _ _ _ (T7.setTop (mkF m 15 #[.val (.ref x0), .val (.int (0 : Int32)), .val (.int idv), .val (.long usv), .second, .unset, .unset, .unset] [(.int (4 : Int32))])) _
      refine XS.iloadN X7.here hx rfl (hb hby d12_15) rfl ?_
      show Steps _ _ _ (T7.setTop (mkF m 16 #[.val (.ref x0), .val (.int (0 : Int32)), .val (.int idv), .val (.long usv), .second, .unset, .unset, .unset] [(.int (0 : Int32)), (.int (4 : Int32))])) _
      refine XS.imul X7.here hx rfl (hb hby d12_16) rfl ?_
      show Steps _ _ _ (T7.setTop (mkF m 17 #[.val (.ref x0), .val (.int (0 : Int32)), .val (.int idv), .val (.long usv), .second, .unset, .unset, .unset] [(.int (0 : Int32))])) _
      refine XS.iconst X7.here hx rfl (hb hby d12_17) ?_
      show Steps _ _ _ (T7.setTop (mkF m 18 #[.val (.ref x0), .val (.int (0 : Int32)), .val (.int idv), .val (.long usv), .second, .unset, .unset, .unset] [(.int (1 : Int32)), (.int (0 : Int32))])) _
      refine XS.iadd X7.here hx rfl (hb hby d12_18) rfl ?_
      show Steps _ _ _ (T7.setTop (mkF m 19 #[.val (.ref x0), .val (.int (0 : Int32)), .val (.int idv), .val (.long usv), .second, .unset, .unset, .unset] [(.int (1 : Int32))])) _
      refine XS.aloadN X7.here hx rfl (hb hby d12_19) rfl rfl ?_
      exact Steps.refl _)
  obtain ⟨T12, X12, e12, sr12⟩ := getF X7 hx hZ hown (host := "") (Or.inl (hw _ (List.mem_of_getElem? (i := 22) rfl))) Via.refl e7 F_z (g := (mkF m 20 #[.val (.ref x0), .val (.int (0 : Int32)), .val (.int idv), .val (.long usv), .second, .unset, .unset, .unset] [(.ref x0), (.int (1 : Int32))])) rfl rfl (hb hby d12_20)
  have st13 : Steps p.tables e below sE (T12.setTop (mkF m 23 #[.val (.ref x0), .val (.int (0 : Int32)), .val (.int idv), .val (.long usv), .second, .unset, .unset, .unset] [(.int (4 : Int32)), (.int (1 : Int32))])) := st11.trans (sr12 _ (Steps.refl _))
  have hf14 : (1 : Int32) < (4 : Int32) := by decide
  have st15 : Steps p.tables e below sE (T12.setTop (mkF m 38 #[.val (.ref x0), .val (.int (0 : Int32)), .val (.int idv), .val (.long usv), .second, .val (.int (1 : Int32)), .unset, .unset] [(.ref x0), (.int (5 : Int32))])) := st13.trans (by
      show Steps _ _ _ (T12.setTop (mkF m 23 #[.val (.ref x0), .val (.int (0 : Int32)), .val (.int idv), .val (.long usv), .second, .unset, .unset, .unset] [(.int (4 : Int32)), (.int (1 : Int32))])) _
      refine XS.icmpNo X12.here hx rfl (hb hby d12_23) rfl (tlt hf14).2.1 ?_
      show Steps _ _ _ (T12.setTop (mkF m 26 #[.val (.ref x0), .val (.int (0 : Int32)), .val (.int idv), .val (.long usv), .second, .unset, .unset, .unset] [])) _
      refine XS.iconst X12.here hx rfl (hb hby d12_26) ?_
      show Steps _ _ _ (T12.setTop (mkF m 27 #[.val (.ref x0), .val (.int (0 : Int32)), .val (.int idv), .val (.long usv), .second, .unset, .unset, .unset] [(.int (4 : Int32))])) _
      refine XS.iloadN X12.here hx rfl (hb hby d12_27) rfl ?_
      show Steps _ _ _ (T12.setTop (mkF m 28 #[.val (.ref x0), .val (.int (0 : Int32)), .val (.int idv), .val (.long usv), .second, .unset, .unset, .unset] [(.int (0 : Int32)), (.int (4 : Int32))])) _
      refine XS.imul X12.here hx rfl (hb hby d12_28) rfl ?_
      show Steps _ _ _ (T12.setTop (mkF m 29 #[.val (.ref x0), .val (.int (0 : Int32)), .val (.int idv), .val (.long usv), .second, .unset, .unset, .unset] [(.int (0 : Int32))])) _
      refine XS.iconst X12.here hx rfl (hb hby d12_29) ?_
      show Steps _ _ _ (T12.setTop (mkF m 30 #[.val (.ref x0), .val (.int (0 : Int32)), .val (.int idv), .val (.long usv), .second, .unset, .unset, .unset] [(.int (1 : Int32)), (.int (0 : Int32))])) _
      refine XS.iadd X12.here hx rfl (hb hby d12_30) rfl ?_
      show Steps _ _ _ (T12.setTop (mkF m 31 #[.val (.ref x0), .val (.int (0 : Int32)), .val (.int idv), .val (.long usv), .second, .unset, .unset, .unset] [(.int (1 : Int32))])) _
      refine XS.istore X12.here hx rfl (hb hby d12_31) rfl (l' := #[.val (.ref x0), .val (.int (0 : Int32)), .val (.int idv), .val (.long usv), .second, .val (.int (1 : Int32)), .unset, .unset]) rfl ?_
      show Steps _ _ _ (T12.setTop (mkF m 33 #[.val (.ref x0), .val (.int (0 : Int32)), .val (.int idv), .val (.long usv), .second, .val (.int (1 : Int32)), .unset, .unset] [])) _
      refine XS.iload X12.here hx rfl (hb hby d12_33) rfl ?_
      show Steps _ _ _ (T12.setTop (mkF m 35 #[.val (.ref x0), .val (.int (0 : Int32)), .val (.int idv), .val (.long usv), .second, .val (.int (1 : Int32)), .unset, .unset] [(.int (1 : Int32))])) _
      refine XS.iconst X12.here hx rfl (hb hby d12_35) ?_
      show Steps _ _ _ (T12.setTop (mkF m 36 #[.val (.ref x0), .val (.int (0 : Int32)), .val (.int idv), .val (.long usv), .second, .val (.int (1 : Int32)), .unset, .unset] [(.int (4 : Int32)), (.int (1 : Int32))])) _
      refine XS.iadd X12.here hx rfl (hb hby d12_36) rfl ?_
      show Steps _ _ _ (T12.setTop (mkF m 37 #[.val (.ref x0), .val (.int (0 : Int32)), .val (.int idv), .val (.long usv), .second, .val (.int (1 : Int32)), .unset, .unset] [(.int (5 : Int32))])) _
      refine XS.aloadN X12.here hx rfl (hb hby d12_37) rfl rfl ?_
      exact Steps.refl _)
  obtain ⟨T16, X16, e16, sr16⟩ := getF X12 hx hZ hown (host := "") (Or.inl (hw _ (List.mem_of_getElem? (i := 22) rfl))) Via.refl e12 F_z (g := (mkF m 38 #[.val (.ref x0), .val (.int (0 : Int32)), .val (.int idv), .val (.long usv), .second, .val (.int (1 : Int32)), .unset, .unset] [(.ref x0), (.int (5 : Int32))])) rfl rfl (hb hby d12_38)
  have st17 : Steps p.tables e below sE (T16.setTop (mkF m 41 #[.val (.ref x0), .val (.int (0 : Int32)), .val (.int idv), .val (.long usv), .second, .val (.int (1 : Int32)), .unset, .unset] [(.int (4 : Int32)), (.int (5 : Int32))])) := st15.trans (sr16 _ (Steps.refl _))
  obtain ⟨_, _, ⟨T18, L18, k18, n18⟩, -, X18, ⟨Lc18, hQ18, l18, y18, z18⟩, sr18⟩ := Jvm.LawKit.callS X16 hx (y := (⟨"java/lang/Math", "min", "(II)I"⟩ : MethodName)) hown (mvT hZ (hw _ (List.mem_of_getElem? (i := 62) rfl))) (mvT hZ (hw _ (List.mem_of_getElem? (i := 33) rfl))) (mvT hZ (hw _ (List.mem_of_getElem? (i := 26) rfl))) (mvT hZ (hw _ (List.mem_of_getElem? (i := 34) rfl))) (by decide) (backOf (W := 0) (rm6 l Z a0 hw [] (5 : Int32) (4 : Int32)  h0 n0 Z0 ) hZ (hw _ (List.mem_of_getElem? (i := 34) rfl)) (hw _ (List.mem_of_getElem? (i := 26) rfl)) (by decide) (by decide)) (g := (mkF m 41 #[.val (.ref x0), .val (.int (0 : Int32)), .val (.int idv), .val (.long usv), .second, .val (.int (1 : Int32)), .unset, .unset] [(.int (4 : Int32)), (.int (5 : Int32))])) rfl (by rw [hml]; rfl) (argsL := [(.int (5 : Int32)), (.int (4 : Int32))]) (rest := []) (lenOf pd_1 rfl) rfl (by show 2 * 0 + _ ≤ _; exact Nat.le_of_eq rfl) (hb hby d12_41) (fun _ _ => ⟨rfl, e16, (by decide : 0 + 0 ≤ _), (by decide : 0 + 0 ≤ _)⟩)
  dsimp only [Pt.U, Pt.locs, Pt.cells, Pt.slots] at X18 l18 y18 z18 sr18 hQ18
  subst l18 y18 z18
  obtain ⟨rfl, N18q, hh18⟩ := hQ18
  have N18 := Fr.app N0 N18q
  obtain ⟨LL18, X18, N18⟩ := own_hide X18 N18
  have st19 : Steps p.tables e below sE (T18.setTop (mkF m 44 #[.val (.ref x0), .val (.int (0 : Int32)), .val (.int idv), .val (.long usv), .second, .val (.int (1 : Int32)), .unset, .unset] [(.int (F6 (5 : Int32) (4 : Int32)))])) := st17.trans (sr18 _ (Steps.refl _))
  have hmn : (F6 (5 : Int32) (4 : Int32)) = (4 : Int32) := by decide
  rw [hmn] at st19
  have st20 : Steps p.tables e below sE (T18.setTop (mkF m 52 #[.val (.ref x0), .val (.int (0 : Int32)), .val (.int idv), .val (.long usv), .second, .val (.int (1 : Int32)), .val (.int (4 : Int32)), .val (.int (2 : Int32))] [])) := st19.trans (by
      show Steps _ _ _ (T18.setTop (mkF m 44 #[.val (.ref x0), .val (.int (0 : Int32)), .val (.int idv), .val (.long usv), .second, .val (.int (1 : Int32)), .unset, .unset] [(.int (4 : Int32))])) _
      refine XS.istore X18.here hx rfl (hb hby d12_44) rfl (l' := #[.val (.ref x0), .val (.int (0 : Int32)), .val (.int idv), .val (.long usv), .second, .val (.int (1 : Int32)), .val (.int (4 : Int32)), .unset]) rfl ?_
      show Steps _ _ _ (T18.setTop (mkF m 46 #[.val (.ref x0), .val (.int (0 : Int32)), .val (.int idv), .val (.long usv), .second, .val (.int (1 : Int32)), .val (.int (4 : Int32)), .unset] [])) _
      refine XS.iload X18.here hx rfl (hb hby d12_46) rfl ?_
      show Steps _ _ _ (T18.setTop (mkF m 48 #[.val (.ref x0), .val (.int (0 : Int32)), .val (.int idv), .val (.long usv), .second, .val (.int (1 : Int32)), .val (.int (4 : Int32)), .unset] [(.int (1 : Int32))])) _
      refine XS.iconst X18.here hx rfl (hb hby d12_48) ?_
      show Steps _ _ _ (T18.setTop (mkF m 49 #[.val (.ref x0), .val (.int (0 : Int32)), .val (.int idv), .val (.long usv), .second, .val (.int (1 : Int32)), .val (.int (4 : Int32)), .unset] [(.int (1 : Int32)), (.int (1 : Int32))])) _
      refine XS.iadd X18.here hx rfl (hb hby d12_49) rfl ?_
      show Steps _ _ _ (T18.setTop (mkF m 50 #[.val (.ref x0), .val (.int (0 : Int32)), .val (.int idv), .val (.long usv), .second, .val (.int (1 : Int32)), .val (.int (4 : Int32)), .unset] [(.int (2 : Int32))])) _
      refine XS.istore X18.here hx rfl (hb hby d12_50) rfl (l' := #[.val (.ref x0), .val (.int (0 : Int32)), .val (.int idv), .val (.long usv), .second, .val (.int (1 : Int32)), .val (.int (4 : Int32)), .val (.int (2 : Int32))]) rfl ?_
      exact Steps.refl _)
  have st21 : Steps p.tables e below sE (T18.setTop (mkF m 56 #[.val (.ref x0), .val (.int (0 : Int32)), .val (.int idv), .val (.long usv), .second, .val (.int (1 : Int32)), .val (.int (4 : Int32)), .val (.int (2 : Int32))] [(.int (4 : Int32)), (.int (2 : Int32))])) := st20.trans (by
      show Steps _ _ _ (T18.setTop (mkF m 52 #[.val (.ref x0), .val (.int (0 : Int32)), .val (.int idv), .val (.long usv), .second, .val (.int (1 : Int32)), .val (.int (4 : Int32)), .val (.int (2 : Int32))] [])) _
      refine XS.iload X18.here hx rfl (hb hby d12_52) rfl ?_
      show Steps _ _ _ (T18.setTop (mkF m 54 #[.val (.ref x0), .val (.int (0 : Int32)), .val (.int idv), .val (.long usv), .second, .val (.int (1 : Int32)), .val (.int (4 : Int32)), .val (.int (2 : Int32))] [(.int (2 : Int32))])) _
      refine XS.iload X18.here hx rfl (hb hby d12_54) rfl ?_
      exact Steps.refl _)
  have hf22 : (2 : Int32) < (4 : Int32) := by decide
  have st23 : Steps p.tables e below sE (T18.setTop (mkF m 60 #[.val (.ref x0), .val (.int (0 : Int32)), .val (.int idv), .val (.long usv), .second, .val (.int (1 : Int32)), .val (.int (4 : Int32)), .val (.int (2 : Int32))] [(.ref x0)])) := st21.trans (by
      show Steps _ _ _ (T18.setTop (mkF m 56 #[.val (.ref x0), .val (.int (0 : Int32)), .val (.int idv), .val (.long usv), .second, .val (.int (1 : Int32)), .val (.int (4 : Int32)), .val (.int (2 : Int32))] [(.int (4 : Int32)), (.int (2 : Int32))])) _
      refine XS.icmpNo X18.here hx rfl (hb hby d12_56) rfl (tlt hf22).2.1 ?_
      show Steps _ _ _ (T18.setTop (mkF m 59 #[.val (.ref x0), .val (.int (0 : Int32)), .val (.int idv), .val (.long usv), .second, .val (.int (1 : Int32)), .val (.int (4 : Int32)), .val (.int (2 : Int32))] [])) _
      refine XS.aloadN X18.here hx rfl (hb hby d12_59) rfl rfl ?_
      exact Steps.refl _)
  obtain ⟨T24, X24, e24, sr24⟩ := getF X18 hx hZ hown (host := "") (Or.inl (hw _ (List.mem_of_getElem? (i := 13) rfl))) Via.refl hh18 F_u (g := (mkF m 60 #[.val (.ref x0), .val (.int (0 : Int32)), .val (.int idv), .val (.long usv), .second, .val (.int (1 : Int32)), .val (.int (4 : Int32)), .val (.int (2 : Int32))] [(.ref x0)])) rfl rfl (hb hby d12_60)
  have st25 : Steps p.tables e below sE (T24.setTop (mkF m 63 #[.val (.ref x0), .val (.int (0 : Int32)), .val (.int idv), .val (.long usv), .second, .val (.int (1 : Int32)), .val (.int (4 : Int32)), .val (.int (2 : Int32))] [(.ref aU)])) := st23.trans (sr24 _ (Steps.refl _))
  obtain ⟨cl26, Ar26, q26, S26, N26, H26, G26⟩ := id A_u
  have hin26 : ¬ ((2 : Int32) < 0 ∨ cl26.slots.size ≤ ((2 : Int32)).toNatClampNeg) := inb_of S26 ⟨by decide, by decide⟩
  have hat26 : cl26.slots[((2 : Int32)).toNatClampNeg]? = some (.long (LU.getD ((2 : Int32)).toNatClampNeg 0)) := H26.at hin26 (own_getJ LU _)
  have st27 : Steps p.tables e below sE (T24.setTop (mkF m 67 #[.val (.ref x0), .val (.int (0 : Int32)), .val (.int idv), .val (.long usv), .second, .val (.int (1 : Int32)), .val (.int (4 : Int32)), .val (.int (2 : Int32))] [(.ref x0), (.long (LU.getD ((2 : Int32)).toNatClampNeg 0))])) := st25.trans (by
      show Steps _ _ _ (T24.setTop (mkF m 63 #[.val (.ref x0), .val (.int (0 : Int32)), .val (.int idv), .val (.long usv), .second, .val (.int (1 : Int32)), .val (.int (4 : Int32)), .val (.int (2 : Int32))] [(.ref aU)])) _
      refine XS.iload X24.here hx rfl (hb hby d12_63) rfl ?_
      show Steps _ _ _ (T24.setTop (mkF m 65 #[.val (.ref x0), .val (.int (0 : Int32)), .val (.int idv), .val (.long usv), .second, .val (.int (1 : Int32)), .val (.int (4 : Int32)), .val (.int (2 : Int32))] [(.int (2 : Int32)), (.ref aU)])) _
      refine X24.laload hx (j := (2 : Int32)) (v := (.long (LU.getD ((2 : Int32)).toNatClampNeg 0))) (by rw [e24]; exact Ar26.1) (State.isArrayOf_alike hZ.alike Ar26.2.1) Ar26.2.2 hin26 hat26 (g := (mkF m 65 #[.val (.ref x0), .val (.int (0 : Int32)), .val (.int idv), .val (.long usv), .second, .val (.int (1 : Int32)), .val (.int (4 : Int32)), .val (.int (2 : Int32))] [(.int (2 : Int32)), (.ref aU)])) rfl rfl (hb hby d12_65) _ ?_
      show Steps _ _ _ (T24.setTop (mkF m 66 #[.val (.ref x0), .val (.int (0 : Int32)), .val (.int idv), .val (.long usv), .second, .val (.int (1 : Int32)), .val (.int (4 : Int32)), .val (.int (2 : Int32))] [(.long (LU.getD ((2 : Int32)).toNatClampNeg 0))])) _
      refine XS.aloadN X24.here hx rfl (hb hby d12_66) rfl rfl ?_
      exact Steps.refl _)
  obtain ⟨T28, X28, e28, sr28⟩ := getF X24 hx hZ hown (host := "") (Or.inl (hw _ (List.mem_of_getElem? (i := 13) rfl))) Via.refl e24 F_u (g := (mkF m 67 #[.val (.ref x0), .val (.int (0 : Int32)), .val (.int idv), .val (.long usv), .second, .val (.int (1 : Int32)), .val (.int (4 : Int32)), .val (.int (2 : Int32))] [(.ref x0), (.long (LU.getD ((2 : Int32)).toNatClampNeg 0))])) rfl rfl (hb hby d12_67)
  have st29 : Steps p.tables e below sE (T28.setTop (mkF m 70 #[.val (.ref x0), .val (.int (0 : Int32)), .val (.int idv), .val (.long usv), .second, .val (.int (1 : Int32)), .val (.int (4 : Int32)), .val (.int (2 : Int32))] [(.ref aU), (.long (LU.getD ((2 : Int32)).toNatClampNeg 0))])) := st27.trans (sr28 _ (Steps.refl _))
  obtain ⟨cl30, Ar30, q30, S30, N30, H30, G30⟩ := id A_u
  have hin30 : ¬ ((1 : Int32) < 0 ∨ cl30.slots.size ≤ ((1 : Int32)).toNatClampNeg) := inb_of S30 ⟨by decide, by decide⟩
  have hat30 : cl30.slots[((1 : Int32)).toNatClampNeg]? = some (.long (LU.getD ((1 : Int32)).toNatClampNeg 0)) := H30.at hin30 (own_getJ LU _)
  have st31 : Steps p.tables e below sE (T28.setTop (mkF m 74 #[.val (.ref x0), .val (.int (0 : Int32)), .val (.int idv), .val (.long usv), .second, .val (.int (1 : Int32)), .val (.int (4 : Int32)), .val (.int (2 : Int32))] [(.int (lcmpW (LU.getD ((2 : Int32)).toNatClampNeg 0) (LU.getD ((1 : Int32)).toNatClampNeg 0)))])) := st29.trans (by
      show Steps _ _ _ (T28.setTop (mkF m 70 #[.val (.ref x0), .val (.int (0 : Int32)), .val (.int idv), .val (.long usv), .second, .val (.int (1 : Int32)), .val (.int (4 : Int32)), .val (.int (2 : Int32))] [(.ref aU), (.long (LU.getD ((2 : Int32)).toNatClampNeg 0))])) _
      refine XS.iload X28.here hx rfl (hb hby d12_70) rfl ?_
      show Steps _ _ _ (T28.setTop (mkF m 72 #[.val (.ref x0), .val (.int (0 : Int32)), .val (.int idv), .val (.long usv), .second, .val (.int (1 : Int32)), .val (.int (4 : Int32)), .val (.int (2 : Int32))] [(.int (1 : Int32)), (.ref aU), (.long (LU.getD ((2 : Int32)).toNatClampNeg 0))])) _
      refine X28.laload hx (j := (1 : Int32)) (v := (.long (LU.getD ((1 : Int32)).toNatClampNeg 0))) (by rw [e28]; exact Ar30.1) (State.isArrayOf_alike hZ.alike Ar30.2.1) Ar30.2.2 hin30 hat30 (g := (mkF m 72 #[.val (.ref x0), .val (.int (0 : Int32)), .val (.int idv), .val (.long usv), .second, .val (.int (1 : Int32)), .val (.int (4 : Int32)), .val (.int (2 : Int32))] [(.int (1 : Int32)), (.ref aU), (.long (LU.getD ((2 : Int32)).toNatClampNeg 0))])) rfl rfl (hb hby d12_72) _ ?_
      show Steps _ _ _ (T28.setTop (mkF m 73 #[.val (.ref x0), .val (.int (0 : Int32)), .val (.int idv), .val (.long usv), .second, .val (.int (1 : Int32)), .val (.int (4 : Int32)), .val (.int (2 : Int32))] [(.long (LU.getD ((1 : Int32)).toNatClampNeg 0)), (.long (LU.getD ((2 : Int32)).toNatClampNeg 0))])) _
      refine XS.lcmp X28.here hx rfl (hb hby d12_73) rfl ?_
      exact Steps.refl _)
  obtain ⟨T35, L35, ls2, X35, N35, e35, e_ls2, st35⟩ : ∃ (T' : State) (L' : List Loc) (ls2 : Int32), Stand p l e ({ frames := 1, cells := 0, slots := 0, locals := 16 } : Room) s m #[(.ref x0), (.int (0 : Int32))] below meth c T' L' 0 0 ∧ Fr n0 L' ∧ T'.heap = h0 ∧ ls2 = (if (LU.getD ((2 : Int32)).toNatClampNeg 0) < (LU.getD ((1 : Int32)).toNatClampNeg 0) then (2 : Int32) else (1 : Int32)) ∧ Steps p.tables e below sE (T'.setTop (mkF m 81 #[.val (.ref x0), .val (.int (0 : Int32)), .val (.int idv), .val (.long usv), .second, .val (.int ls2), .val (.int (4 : Int32)), .val (.int (2 : Int32))] [])) := by
    by_cases hc32 : (LU.getD ((2 : Int32)).toNatClampNeg 0) < (LU.getD ((1 : Int32)).toNatClampNeg 0)
    · have st33 : Steps p.tables e below sE (T28.setTop (mkF m 81 #[.val (.ref x0), .val (.int (0 : Int32)), .val (.int idv), .val (.long usv), .second, .val (.int (2 : Int32)), .val (.int (4 : Int32)), .val (.int (2 : Int32))] [])) := st31.trans (by
          show Steps _ _ _ (T28.setTop (mkF m 74 #[.val (.ref x0), .val (.int (0 : Int32)), .val (.int idv), .val (.long usv), .second, .val (.int (1 : Int32)), .val (.int (4 : Int32)), .val (.int (2 : Int32))] [(.int (lcmpW (LU.getD ((2 : Int32)).toNatClampNeg 0) (LU.getD ((1 : Int32)).toNatClampNeg 0)))])) _
          refine XS.ifNo X28.here hx rfl (hb hby d12_74) rfl ((if0 _ _).trans (tlt ((lw_lt _ _).mpr hc32)).2.1) ?_
          show Steps _ _ _ (T28.setTop (mkF m 77 #[.val (.ref x0), .val (.int (0 : Int32)), .val (.int idv), .val (.long usv), .second, .val (.int (1 : Int32)), .val (.int (4 : Int32)), .val (.int (2 : Int32))] [])) _
          refine XS.iload X28.here hx rfl (hb hby d12_77) rfl ?_
          show Steps _ _ _ (T28.setTop (mkF m 79 #[.val (.ref x0), .val (.int (0 : Int32)), .val (.int idv), .val (.long usv), .second, .val (.int (1 : Int32)), .val (.int (4 : Int32)), .val (.int (2 : Int32))] [(.int (2 : Int32))])) _
          refine XS.istore X28.here hx rfl (hb hby d12_79) rfl (l' := #[.val (.ref x0), .val (.int (0 : Int32)), .val (.int idv), .val (.long usv), .second, .val (.int (2 : Int32)), .val (.int (4 : Int32)), .val (.int (2 : Int32))]) rfl ?_
          exact Steps.refl _)
      exact ⟨T28, _, _, X28, N18, e28, (by rw [if_pos hc32]), st33⟩
    · have st34 : Steps p.tables e below sE (T28.setTop (mkF m 81 #[.val (.ref x0), .val (.int (0 : Int32)), .val (.int idv), .val (.long usv), .second, .val (.int (1 : Int32)), .val (.int (4 : Int32)), .val (.int (2 : Int32))] [])) := st31.trans (by
          show Steps _ _ _ (T28.setTop (mkF m 74 #[.val (.ref x0), .val (.int (0 : Int32)), .val (.int idv), .val (.long usv), .second, .val (.int (1 : Int32)), .val (.int (4 : Int32)), .val (.int (2 : Int32))] [(.int (lcmpW (LU.getD ((2 : Int32)).toNatClampNeg 0) (LU.getD ((1 : Int32)).toNatClampNeg 0)))])) _
          refine XS.ifYes X28.here hx rfl (pc0 := 74) (pc' := 81) rfl (hb hby d12_74) rfl ((if0 _ _).trans (flt (fun q => hc32 ((lw_lt _ _).mp q))).2.1) (by decide) (by decide) ?_
          exact Steps.refl _)
      exact ⟨T28, _, _, X28, N18, e28, (by rw [if_neg hc32]), st34⟩
  have st36 : Steps p.tables e below sE (T35.setTop (mkF m 52 #[.val (.ref x0), .val (.int (0 : Int32)), .val (.int idv), .val (.long usv), .second, .val (.int ls2), .val (.int (4 : Int32)), .val (.int (3 : Int32))] [])) := st35.trans (by
      show Steps _ _ _ (T35.setTop (mkF m 81 #[.val (.ref x0), .val (.int (0 : Int32)), .val (.int idv), .val (.long usv), .second, .val (.int ls2), .val (.int (4 : Int32)), .val (.int (2 : Int32))] [])) _
      refine XS.iinc X35.here hx rfl (hb hby d12_81) rfl (l' := #[.val (.ref x0), .val (.int (0 : Int32)), .val (.int idv), .val (.long usv), .second, .val (.int ls2), .val (.int (4 : Int32)), .val (.int (3 : Int32))]) rfl ?_
      show Steps _ _ _ (T35.setTop (mkF m 84 #[.val (.ref x0), .val (.int (0 : Int32)), .val (.int idv), .val (.long usv), .second, .val (.int ls2), .val (.int (4 : Int32)), .val (.int (3 : Int32))] [])) _
      refine XS.goto X35.here hx rfl (pc0 := 84) (pc' := 52) rfl (hb hby d12_84) (by decide) (by decide) ?_
      exact Steps.refl _)
  have hB2 := own_bs 2 (by decide) hB1 e_ls2
  have st37 : Steps p.tables e below sE (T35.setTop (mkF m 56 #[.val (.ref x0), .val (.int (0 : Int32)), .val (.int idv), .val (.long usv), .second, .val (.int ls2), .val (.int (4 : Int32)), .val (.int (3 : Int32))] [(.int (4 : Int32)), (.int (3 : Int32))])) := st36.trans (by
      show Steps _ _ _ (T35.setTop (mkF m 52 #[.val (.ref x0), .val (.int (0 : Int32)), .val (.int idv), .val (.long usv), .second, .val (.int ls2), .val (.int (4 : Int32)), .val (.int (3 : Int32))] [])) _
      refine XS.iload X35.here hx rfl (hb hby d12_52) rfl ?_
      show Steps _ _ _ (T35.setTop (mkF m 54 #[.val (.ref x0), .val (.int (0 : Int32)), .val (.int idv), .val (.long usv), .second, .val (.int ls2), .val (.int (4 : Int32)), .val (.int (3 : Int32))] [(.int (3 : Int32))])) _
      refine XS.iload X35.here hx rfl (hb hby d12_54) rfl ?_
      exact Steps.refl _)
  have hf38 : (3 : Int32) < (4 : Int32) := by decide
  have st39 : Steps p.tables e below sE (T35.setTop (mkF m 60 #[.val (.ref x0), .val (.int (0 : Int32)), .val (.int idv), .val (.long usv), .second, .val (.int ls2), .val (.int (4 : Int32)), .val (.int (3 : Int32))] [(.ref x0)])) := st37.trans (by
      show Steps _ _ _ (T35.setTop (mkF m 56 #[.val (.ref x0), .val (.int (0 : Int32)), .val (.int idv), .val (.long usv), .second, .val (.int ls2), .val (.int (4 : Int32)), .val (.int (3 : Int32))] [(.int (4 : Int32)), (.int (3 : Int32))])) _
      refine XS.icmpNo X35.here hx rfl (hb hby d12_56) rfl (tlt hf38).2.1 ?_
      show Steps _ _ _ (T35.setTop (mkF m 59 #[.val (.ref x0), .val (.int (0 : Int32)), .val (.int idv), .val (.long usv), .second, .val (.int ls2), .val (.int (4 : Int32)), .val (.int (3 : Int32))] [])) _
      refine XS.aloadN X35.here hx rfl (hb hby d12_59) rfl rfl ?_
      exact Steps.refl _)
  obtain ⟨T40, X40, e40, sr40⟩ := getF X35 hx hZ hown (host := "") (Or.inl (hw _ (List.mem_of_getElem? (i := 13) rfl))) Via.refl e35 F_u (g := (mkF m 60 #[.val (.ref x0), .val (.int (0 : Int32)), .val (.int idv), .val (.long usv), .second, .val (.int ls2), .val (.int (4 : Int32)), .val (.int (3 : Int32))] [(.ref x0)])) rfl rfl (hb hby d12_60)
  have st41 : Steps p.tables e below sE (T40.setTop (mkF m 63 #[.val (.ref x0), .val (.int (0 : Int32)), .val (.int idv), .val (.long usv), .second, .val (.int ls2), .val (.int (4 : Int32)), .val (.int (3 : Int32))] [(.ref aU)])) := st39.trans (sr40 _ (Steps.refl _))
  obtain ⟨cl42, Ar42, q42, S42, N42, H42, G42⟩ := id A_u
  have hin42 : ¬ ((3 : Int32) < 0 ∨ cl42.slots.size ≤ ((3 : Int32)).toNatClampNeg) := inb_of S42 ⟨by decide, by decide⟩
  have hat42 : cl42.slots[((3 : Int32)).toNatClampNeg]? = some (.long (LU.getD ((3 : Int32)).toNatClampNeg 0)) := H42.at hin42 (own_getJ LU _)
  have st43 : Steps p.tables e below sE (T40.setTop (mkF m 67 #[.val (.ref x0), .val (.int (0 : Int32)), .val (.int idv), .val (.long usv), .second, .val (.int ls2), .val (.int (4 : Int32)), .val (.int (3 : Int32))] [(.ref x0), (.long (LU.getD ((3 : Int32)).toNatClampNeg 0))])) := st41.trans (by
      show Steps _ _ _ (T40.setTop (mkF m 63 #[.val (.ref x0), .val (.int (0 : Int32)), .val (.int idv), .val (.long usv), .second, .val (.int ls2), .val (.int (4 : Int32)), .val (.int (3 : Int32))] [(.ref aU)])) _
      refine XS.iload X40.here hx rfl (hb hby d12_63) rfl ?_
      show Steps _ _ _ (T40.setTop (mkF m 65 #[.val (.ref x0), .val (.int (0 : Int32)), .val (.int idv), .val (.long usv), .second, .val (.int ls2), .val (.int (4 : Int32)), .val (.int (3 : Int32))] [(.int (3 : Int32)), (.ref aU)])) _
      refine X40.laload hx (j := (3 : Int32)) (v := (.long (LU.getD ((3 : Int32)).toNatClampNeg 0))) (by rw [e40]; exact Ar42.1) (State.isArrayOf_alike hZ.alike Ar42.2.1) Ar42.2.2 hin42 hat42 (g := (mkF m 65 #[.val (.ref x0), .val (.int (0 : Int32)), .val (.int idv), .val (.long usv), .second, .val (.int ls2), .val (.int (4 : Int32)), .val (.int (3 : Int32))] [(.int (3 : Int32)), (.ref aU)])) rfl rfl (hb hby d12_65) _ ?_
      show Steps _ _ _ (T40.setTop (mkF m 66 #[.val (.ref x0), .val (.int (0 : Int32)), .val (.int idv), .val (.long usv), .second, .val (.int ls2), .val (.int (4 : Int32)), .val (.int (3 : Int32))] [(.long (LU.getD ((3 : Int32)).toNatClampNeg 0))])) _
      refine XS.aloadN X40.here hx rfl (hb hby d12_66) rfl rfl ?_
      exact Steps.refl _)
  obtain ⟨T44, X44, e44, sr44⟩ := getF X40 hx hZ hown (host := "") (Or.inl (hw _ (List.mem_of_getElem? (i := 13) rfl))) Via.refl e40 F_u (g := (mkF m 67 #[.val (.ref x0), .val (.int (0 : Int32)), .val (.int idv), .val (.long usv), .second, .val (.int ls2), .val (.int (4 : Int32)), .val (.int (3 : Int32))] [(.ref x0), (.long (LU.getD ((3 : Int32)).toNatClampNeg 0))])) rfl rfl (hb hby d12_67)
  have st45 : Steps p.tables e below sE (T44.setTop (mkF m 70 #[.val (.ref x0), .val (.int (0 : Int32)), .val (.int idv), .val (.long usv), .second, .val (.int ls2), .val (.int (4 : Int32)), .val (.int (3 : Int32))] [(.ref aU), (.long (LU.getD ((3 : Int32)).toNatClampNeg 0))])) := st43.trans (sr44 _ (Steps.refl _))
  obtain ⟨cl46, Ar46, q46, S46, N46, H46, G46⟩ := id A_u
  have hin46 : ¬ (ls2 < 0 ∨ cl46.slots.size ≤ (ls2).toNatClampNeg) := inb_of S46 (own_i16 _ 4 (by decide) (own_Bb 4 hB2 (by decide)))
  have hat46 : cl46.slots[(ls2).toNatClampNeg]? = some (.long (LU.getD (ls2).toNatClampNeg 0)) := H46.at hin46 (own_getJ LU _)
  have st47 : Steps p.tables e below sE (T44.setTop (mkF m 74 #[.val (.ref x0), .val (.int (0 : Int32)), .val (.int idv), .val (.long usv), .second, .val (.int ls2), .val (.int (4 : Int32)), .val (.int (3 : Int32))] [(.int (lcmpW (LU.getD ((3 : Int32)).toNatClampNeg 0) (LU.getD (ls2).toNatClampNeg 0)))])) := st45.trans (by
      show Steps _ _ _ (T44.setTop (mkF m 70 #[.val (.ref x0), .val (.int (0 : Int32)), .val (.int idv), .val (.long usv), .second, .val (.int ls2), .val (.int (4 : Int32)), .val (.int (3 : Int32))] [(.ref aU), (.long (LU.getD ((3 : Int32)).toNatClampNeg 0))])) _
      refine XS.iload X44.here hx rfl (hb hby d12_70) rfl ?_
      show Steps _ _ _ (T44.setTop (mkF m 72 #[.val (.ref x0), .val (.int (0 : Int32)), .val (.int idv), .val (.long usv), .second, .val (.int ls2), .val (.int (4 : Int32)), .val (.int (3 : Int32))] [(.int ls2), (.ref aU), (.long (LU.getD ((3 : Int32)).toNatClampNeg 0))])) _
      refine X44.laload hx (j := ls2) (v := (.long (LU.getD (ls2).toNatClampNeg 0))) (by rw [e44]; exact Ar46.1) (State.isArrayOf_alike hZ.alike Ar46.2.1) Ar46.2.2 hin46 hat46 (g := (mkF m 72 #[.val (.ref x0), .val (.int (0 : Int32)), .val (.int idv), .val (.long usv), .second, .val (.int ls2), .val (.int (4 : Int32)), .val (.int (3 : Int32))] [(.int ls2), (.ref aU), (.long (LU.getD ((3 : Int32)).toNatClampNeg 0))])) rfl rfl (hb hby d12_72) _ ?_
      show Steps _ _ _ (T44.setTop (mkF m 73 #[.val (.ref x0), .val (.int (0 : Int32)), .val (.int idv), .val (.long usv), .second, .val (.int ls2), .val (.int (4 : Int32)), .val (.int (3 : Int32))] [(.long (LU.getD (ls2).toNatClampNeg 0)), (.long (LU.getD ((3 : Int32)).toNatClampNeg 0))])) _
      refine XS.lcmp X44.here hx rfl (hb hby d12_73) rfl ?_
      exact Steps.refl _)
  obtain ⟨T51, L51, ls3, X51, N51, e51, e_ls3, st51⟩ : ∃ (T' : State) (L' : List Loc) (ls3 : Int32), Stand p l e ({ frames := 1, cells := 0, slots := 0, locals := 16 } : Room) s m #[(.ref x0), (.int (0 : Int32))] below meth c T' L' 0 0 ∧ Fr n0 L' ∧ T'.heap = h0 ∧ ls3 = (if (LU.getD ((3 : Int32)).toNatClampNeg 0) < (LU.getD (ls2).toNatClampNeg 0) then (3 : Int32) else ls2) ∧ Steps p.tables e below sE (T'.setTop (mkF m 81 #[.val (.ref x0), .val (.int (0 : Int32)), .val (.int idv), .val (.long usv), .second, .val (.int ls3), .val (.int (4 : Int32)), .val (.int (3 : Int32))] [])) := by
    by_cases hc48 : (LU.getD ((3 : Int32)).toNatClampNeg 0) < (LU.getD (ls2).toNatClampNeg 0)
    · have st49 : Steps p.tables e below sE (T44.setTop (mkF m 81 #[.val (.ref x0), .val (.int (0 : Int32)), .val (.int idv), .val (.long usv), .second, .val (.int (3 : Int32)), .val (.int (4 : Int32)), .val (.int (3 : Int32))] [])) := st47.trans (by
          show Steps _ _ _ (T44.setTop (mkF m 74 #[.val (.ref x0), .val (.int (0 : Int32)), .val (.int idv), .val (.long usv), .second, .val (.int ls2), .val (.int (4 : Int32)), .val (.int (3 : Int32))] [(.int (lcmpW (LU.getD ((3 : Int32)).toNatClampNeg 0) (LU.getD (ls2).toNatClampNeg 0)))])) _
          refine XS.ifNo X44.here hx rfl (hb hby d12_74) rfl ((if0 _ _).trans (tlt ((lw_lt _ _).mpr hc48)).2.1) ?_
          show Steps _ _ _ (T44.setTop (mkF m 77 #[.val (.ref x0), .val (.int (0 : Int32)), .val (.int idv), .val (.long usv), .second, .val (.int ls2), .val (.int (4 : Int32)), .val (.int (3 : Int32))] [])) _
          refine XS.iload X44.here hx rfl (hb hby d12_77) rfl ?_
          show Steps _ _ _ (T44.setTop (mkF m 79 #[.val (.ref x0), .val (.int (0 : Int32)), .val (.int idv), .val (.long usv), .second, .val (.int ls2), .val (.int (4 : Int32)), .val (.int (3 : Int32))] [(.int (3 : Int32))])) _
          refine XS.istore X44.here hx rfl (hb hby d12_79) rfl (l' := #[.val (.ref x0), .val (.int (0 : Int32)), .val (.int idv), .val (.long usv), .second, .val (.int (3 : Int32)), .val (.int (4 : Int32)), .val (.int (3 : Int32))]) rfl ?_
          exact Steps.refl _)
      exact ⟨T44, _, _, X44, N35, e44, (by rw [if_pos hc48]), st49⟩
    · have st50 : Steps p.tables e below sE (T44.setTop (mkF m 81 #[.val (.ref x0), .val (.int (0 : Int32)), .val (.int idv), .val (.long usv), .second, .val (.int ls2), .val (.int (4 : Int32)), .val (.int (3 : Int32))] [])) := st47.trans (by
          show Steps _ _ _ (T44.setTop (mkF m 74 #[.val (.ref x0), .val (.int (0 : Int32)), .val (.int idv), .val (.long usv), .second, .val (.int ls2), .val (.int (4 : Int32)), .val (.int (3 : Int32))] [(.int (lcmpW (LU.getD ((3 : Int32)).toNatClampNeg 0) (LU.getD (ls2).toNatClampNeg 0)))])) _
          refine XS.ifYes X44.here hx rfl (pc0 := 74) (pc' := 81) rfl (hb hby d12_74) rfl ((if0 _ _).trans (flt (fun q => hc48 ((lw_lt _ _).mp q))).2.1) (by decide) (by decide) ?_
          exact Steps.refl _)
      exact ⟨T44, _, _, X44, N35, e44, (by rw [if_neg hc48]), st50⟩
  have st52 : Steps p.tables e below sE (T51.setTop (mkF m 52 #[.val (.ref x0), .val (.int (0 : Int32)), .val (.int idv), .val (.long usv), .second, .val (.int ls3), .val (.int (4 : Int32)), .val (.int (4 : Int32))] [])) := st51.trans (by
      show Steps _ _ _ (T51.setTop (mkF m 81 #[.val (.ref x0), .val (.int (0 : Int32)), .val (.int idv), .val (.long usv), .second, .val (.int ls3), .val (.int (4 : Int32)), .val (.int (3 : Int32))] [])) _
      refine XS.iinc X51.here hx rfl (hb hby d12_81) rfl (l' := #[.val (.ref x0), .val (.int (0 : Int32)), .val (.int idv), .val (.long usv), .second, .val (.int ls3), .val (.int (4 : Int32)), .val (.int (4 : Int32))]) rfl ?_
      show Steps _ _ _ (T51.setTop (mkF m 84 #[.val (.ref x0), .val (.int (0 : Int32)), .val (.int idv), .val (.long usv), .second, .val (.int ls3), .val (.int (4 : Int32)), .val (.int (4 : Int32))] [])) _
      refine XS.goto X51.here hx rfl (pc0 := 84) (pc' := 52) rfl (hb hby d12_84) (by decide) (by decide) ?_
      exact Steps.refl _)
  have hB3 := own_bs 3 (by decide) hB2 e_ls3
  have st53 : Steps p.tables e below sE (T51.setTop (mkF m 56 #[.val (.ref x0), .val (.int (0 : Int32)), .val (.int idv), .val (.long usv), .second, .val (.int ls3), .val (.int (4 : Int32)), .val (.int (4 : Int32))] [(.int (4 : Int32)), (.int (4 : Int32))])) := st52.trans (by
      show Steps _ _ _ (T51.setTop (mkF m 52 #[.val (.ref x0), .val (.int (0 : Int32)), .val (.int idv), .val (.long usv), .second, .val (.int ls3), .val (.int (4 : Int32)), .val (.int (4 : Int32))] [])) _
      refine XS.iload X51.here hx rfl (hb hby d12_52) rfl ?_
      show Steps _ _ _ (T51.setTop (mkF m 54 #[.val (.ref x0), .val (.int (0 : Int32)), .val (.int idv), .val (.long usv), .second, .val (.int ls3), .val (.int (4 : Int32)), .val (.int (4 : Int32))] [(.int (4 : Int32))])) _
      refine XS.iload X51.here hx rfl (hb hby d12_54) rfl ?_
      exact Steps.refl _)
  have hf54 : ¬ ((4 : Int32) < (4 : Int32)) := by decide
  have st55 : Steps p.tables e below sE (T51.setTop (mkF m 89 #[.val (.ref x0), .val (.int (0 : Int32)), .val (.int idv), .val (.long usv), .second, .val (.int ls3), .val (.int (4 : Int32)), .val (.int (4 : Int32))] [(.ref x0), (.long usv)])) := st53.trans (by
      show Steps _ _ _ (T51.setTop (mkF m 56 #[.val (.ref x0), .val (.int (0 : Int32)), .val (.int idv), .val (.long usv), .second, .val (.int ls3), .val (.int (4 : Int32)), .val (.int (4 : Int32))] [(.int (4 : Int32)), (.int (4 : Int32))])) _
      refine XS.icmpYes X51.here hx rfl (pc0 := 56) (pc' := 87) rfl (hb hby d12_56) rfl (flt hf54).2.1 (by decide) (by decide) ?_
      show Steps _ _ _ (T51.setTop (mkF m 87 #[.val (.ref x0), .val (.int (0 : Int32)), .val (.int idv), .val (.long usv), .second, .val (.int ls3), .val (.int (4 : Int32)), .val (.int (4 : Int32))] [])) _
      refine XS.lloadN X51.here hx rfl (hb hby d12_87) rfl ?_
      show Steps _ _ _ (T51.setTop (mkF m 88 #[.val (.ref x0), .val (.int (0 : Int32)), .val (.int idv), .val (.long usv), .second, .val (.int ls3), .val (.int (4 : Int32)), .val (.int (4 : Int32))] [(.long usv)])) _
      refine XS.aloadN X51.here hx rfl (hb hby d12_88) rfl rfl ?_
      exact Steps.refl _)
  obtain ⟨T56, X56, e56, sr56⟩ := getF X51 hx hZ hown (host := "") (Or.inl (hw _ (List.mem_of_getElem? (i := 13) rfl))) Via.refl e51 F_u (g := (mkF m 89 #[.val (.ref x0), .val (.int (0 : Int32)), .val (.int idv), .val (.long usv), .second, .val (.int ls3), .val (.int (4 : Int32)), .val (.int (4 : Int32))] [(.ref x0), (.long usv)])) rfl rfl (hb hby d12_89)
  have st57 : Steps p.tables e below sE (T56.setTop (mkF m 92 #[.val (.ref x0), .val (.int (0 : Int32)), .val (.int idv), .val (.long usv), .second, .val (.int ls3), .val (.int (4 : Int32)), .val (.int (4 : Int32))] [(.ref aU), (.long usv)])) := st55.trans (sr56 _ (Steps.refl _))
  obtain ⟨cl58, Ar58, q58, S58, N58, H58, G58⟩ := id A_u
  have hin58 : ¬ (ls3 < 0 ∨ cl58.slots.size ≤ (ls3).toNatClampNeg) := inb_of S58 (own_i16 _ 4 (by decide) (own_Bb 4 hB3 (by decide)))
  have hat58 : cl58.slots[(ls3).toNatClampNeg]? = some (.long (LU.getD (ls3).toNatClampNeg 0)) := H58.at hin58 (own_getJ LU _)
  have st59 : Steps p.tables e below sE (T56.setTop (mkF m 96 #[.val (.ref x0), .val (.int (0 : Int32)), .val (.int idv), .val (.long usv), .second, .val (.int ls3), .val (.int (4 : Int32)), .val (.int (4 : Int32))] [(.int (lcmpW usv (LU.getD (ls3).toNatClampNeg 0)))])) := st57.trans (by
      show Steps _ _ _ (T56.setTop (mkF m 92 #[.val (.ref x0), .val (.int (0 : Int32)), .val (.int idv), .val (.long usv), .second, .val (.int ls3), .val (.int (4 : Int32)), .val (.int (4 : Int32))] [(.ref aU), (.long usv)])) _
      refine XS.iload X56.here hx rfl (hb hby d12_92) rfl ?_
      show Steps _ _ _ (T56.setTop (mkF m 94 #[.val (.ref x0), .val (.int (0 : Int32)), .val (.int idv), .val (.long usv), .second, .val (.int ls3), .val (.int (4 : Int32)), .val (.int (4 : Int32))] [(.int ls3), (.ref aU), (.long usv)])) _
      refine X56.laload hx (j := ls3) (v := (.long (LU.getD (ls3).toNatClampNeg 0))) (by rw [e56]; exact Ar58.1) (State.isArrayOf_alike hZ.alike Ar58.2.1) Ar58.2.2 hin58 hat58 (g := (mkF m 94 #[.val (.ref x0), .val (.int (0 : Int32)), .val (.int idv), .val (.long usv), .second, .val (.int ls3), .val (.int (4 : Int32)), .val (.int (4 : Int32))] [(.int ls3), (.ref aU), (.long usv)])) rfl rfl (hb hby d12_94) _ ?_
      show Steps _ _ _ (T56.setTop (mkF m 95 #[.val (.ref x0), .val (.int (0 : Int32)), .val (.int idv), .val (.long usv), .second, .val (.int ls3), .val (.int (4 : Int32)), .val (.int (4 : Int32))] [(.long (LU.getD (ls3).toNatClampNeg 0)), (.long usv)])) _
      refine XS.lcmp X56.here hx rfl (hb hby d12_95) rfl ?_
      exact Steps.refl _)
  by_cases hc60 : (LU.getD (ls3).toNatClampNeg 0) < usv
  · have st61 : Steps p.tables e below sE (T56.setTop (mkF m 104 #[.val (.ref x0), .val (.int (0 : Int32)), .val (.int idv), .val (.long usv), .second, .val (.int ls3), .val (.int (4 : Int32)), .val (.int (4 : Int32))] [(.ref x0), (.ref x0)])) := st59.trans (by
        show Steps _ _ _ (T56.setTop (mkF m 96 #[.val (.ref x0), .val (.int (0 : Int32)), .val (.int idv), .val (.long usv), .second, .val (.int ls3), .val (.int (4 : Int32)), .val (.int (4 : Int32))] [(.int (lcmpW usv (LU.getD (ls3).toNatClampNeg 0)))])) _
        refine XS.ifYes X56.here hx rfl (pc0 := 96) (pc' := 102) rfl (hb hby d12_96) rfl ((if0 _ _).trans (tlt ((lw_gt _ _).mpr hc60)).2.2.1) (by decide) (by decide) ?_
        show Steps _ _ _ (T56.setTop (mkF m 102 #[.val (.ref x0), .val (.int (0 : Int32)), .val (.int idv), .val (.long usv), .second, .val (.int ls3), .val (.int (4 : Int32)), .val (.int (4 : Int32))] [])) _
        refine XS.aloadN X56.here hx rfl (hb hby d12_102) rfl rfl ?_
        show Steps _ _ _ (T56.setTop (mkF m 103 #[.val (.ref x0), .val (.int (0 : Int32)), .val (.int idv), .val (.long usv), .second, .val (.int ls3), .val (.int (4 : Int32)), .val (.int (4 : Int32))] [(.ref x0)])) _
        refine XS.aloadN X56.here hx rfl (hb hby d12_103) rfl rfl ?_
        exact Steps.refl _)
    obtain ⟨T62, X62, e62, sr62⟩ := getF X56 hx hZ hown (host := "") (Or.inl (hw _ (List.mem_of_getElem? (i := 11) rfl))) Via.refl e56 F_i (g := (mkF m 104 #[.val (.ref x0), .val (.int (0 : Int32)), .val (.int idv), .val (.long usv), .second, .val (.int ls3), .val (.int (4 : Int32)), .val (.int (4 : Int32))] [(.ref x0), (.ref x0)])) rfl rfl (hb hby d12_104)
    have st63 : Steps p.tables e below sE (T62.setTop (mkF m 107 #[.val (.ref x0), .val (.int (0 : Int32)), .val (.int idv), .val (.long usv), .second, .val (.int ls3), .val (.int (4 : Int32)), .val (.int (4 : Int32))] [(.ref aI), (.ref x0)])) := st61.trans (sr62 _ (Steps.refl _))
    obtain ⟨cl64, Ar64, q64, S64, N64, H64, G64⟩ := id A_i
    have hin64 : ¬ (ls3 < 0 ∨ cl64.slots.size ≤ (ls3).toNatClampNeg) := inb_of S64 (own_i16 _ 4 (by decide) (own_Bb 4 hB3 (by decide)))
    have hat64 : cl64.slots[(ls3).toNatClampNeg]? = some (.int (LI.getD (ls3).toNatClampNeg 0)) := H64.at hin64 (own_getI LI _)
    have st65 : Steps p.tables e below sE (T62.setTop (mkF m 111 #[.val (.ref x0), .val (.int (0 : Int32)), .val (.int idv), .val (.long usv), .second, .val (.int ls3), .val (.int (4 : Int32)), .val (.int (4 : Int32))] [(.ref x0), (.int (LI.getD (ls3).toNatClampNeg 0)), (.ref x0)])) := st63.trans (by
        show Steps _ _ _ (T62.setTop (mkF m 107 #[.val (.ref x0), .val (.int (0 : Int32)), .val (.int idv), .val (.long usv), .second, .val (.int ls3), .val (.int (4 : Int32)), .val (.int (4 : Int32))] [(.ref aI), (.ref x0)])) _
        refine XS.iload X62.here hx rfl (hb hby d12_107) rfl ?_
        show Steps _ _ _ (T62.setTop (mkF m 109 #[.val (.ref x0), .val (.int (0 : Int32)), .val (.int idv), .val (.long usv), .second, .val (.int ls3), .val (.int (4 : Int32)), .val (.int (4 : Int32))] [(.int ls3), (.ref aI), (.ref x0)])) _
        refine X62.iaload hx (j := ls3) (v := (.int (LI.getD (ls3).toNatClampNeg 0))) (by rw [e62]; exact Ar64.1) (State.isArrayOf_alike hZ.alike Ar64.2.1) Ar64.2.2 hin64 hat64 (g := (mkF m 109 #[.val (.ref x0), .val (.int (0 : Int32)), .val (.int idv), .val (.long usv), .second, .val (.int ls3), .val (.int (4 : Int32)), .val (.int (4 : Int32))] [(.int ls3), (.ref aI), (.ref x0)])) rfl rfl (hb hby d12_109) _ ?_
        show Steps _ _ _ (T62.setTop (mkF m 110 #[.val (.ref x0), .val (.int (0 : Int32)), .val (.int idv), .val (.long usv), .second, .val (.int ls3), .val (.int (4 : Int32)), .val (.int (4 : Int32))] [(.int (LI.getD (ls3).toNatClampNeg 0)), (.ref x0)])) _
        refine XS.aloadN X62.here hx rfl (hb hby d12_110) rfl rfl ?_
        exact Steps.refl _)
    obtain ⟨T66, X66, e66, sr66⟩ := getF X62 hx hZ hown (host := "") (Or.inl (hw _ (List.mem_of_getElem? (i := 13) rfl))) Via.refl e62 F_u (g := (mkF m 111 #[.val (.ref x0), .val (.int (0 : Int32)), .val (.int idv), .val (.long usv), .second, .val (.int ls3), .val (.int (4 : Int32)), .val (.int (4 : Int32))] [(.ref x0), (.int (LI.getD (ls3).toNatClampNeg 0)), (.ref x0)])) rfl rfl (hb hby d12_111)
    have st67 : Steps p.tables e below sE (T66.setTop (mkF m 114 #[.val (.ref x0), .val (.int (0 : Int32)), .val (.int idv), .val (.long usv), .second, .val (.int ls3), .val (.int (4 : Int32)), .val (.int (4 : Int32))] [(.ref aU), (.int (LI.getD (ls3).toNatClampNeg 0)), (.ref x0)])) := st65.trans (sr66 _ (Steps.refl _))
    obtain ⟨cl68, Ar68, q68, S68, N68, H68, G68⟩ := id A_u
    have hin68 : ¬ (ls3 < 0 ∨ cl68.slots.size ≤ (ls3).toNatClampNeg) := inb_of S68 (own_i16 _ 4 (by decide) (own_Bb 4 hB3 (by decide)))
    have hat68 : cl68.slots[(ls3).toNatClampNeg]? = some (.long (LU.getD (ls3).toNatClampNeg 0)) := H68.at hin68 (own_getJ LU _)
    have st69 : Steps p.tables e below sE (T66.setTop (mkF m 118 #[.val (.ref x0), .val (.int (0 : Int32)), .val (.int idv), .val (.long usv), .second, .val (.int ls3), .val (.int (4 : Int32)), .val (.int (4 : Int32))] [(.int (0 : Int32)), (.long (LU.getD (ls3).toNatClampNeg 0)), (.int (LI.getD (ls3).toNatClampNeg 0)), (.ref x0)])) := st67.trans (by
        show Steps _ _ _ (T66.setTop (mkF m 114 #[.val (.ref x0), .val (.int (0 : Int32)), .val (.int idv), .val (.long usv), .second, .val (.int ls3), .val (.int (4 : Int32)), .val (.int (4 : Int32))] [(.ref aU), (.int (LI.getD (ls3).toNatClampNeg 0)), (.ref x0)])) _
        refine XS.iload X66.here hx rfl (hb hby d12_114) rfl ?_
        show Steps _ _ _ (T66.setTop (mkF m 116 #[.val (.ref x0), .val (.int (0 : Int32)), .val (.int idv), .val (.long usv), .second, .val (.int ls3), .val (.int (4 : Int32)), .val (.int (4 : Int32))] [(.int ls3), (.ref aU), (.int (LI.getD (ls3).toNatClampNeg 0)), (.ref x0)])) _
        refine X66.laload hx (j := ls3) (v := (.long (LU.getD (ls3).toNatClampNeg 0))) (by rw [e66]; exact Ar68.1) (State.isArrayOf_alike hZ.alike Ar68.2.1) Ar68.2.2 hin68 hat68 (g := (mkF m 116 #[.val (.ref x0), .val (.int (0 : Int32)), .val (.int idv), .val (.long usv), .second, .val (.int ls3), .val (.int (4 : Int32)), .val (.int (4 : Int32))] [(.int ls3), (.ref aU), (.int (LI.getD (ls3).toNatClampNeg 0)), (.ref x0)])) rfl rfl (hb hby d12_116) _ ?_
        show Steps _ _ _ (T66.setTop (mkF m 117 #[.val (.ref x0), .val (.int (0 : Int32)), .val (.int idv), .val (.long usv), .second, .val (.int ls3), .val (.int (4 : Int32)), .val (.int (4 : Int32))] [(.long (LU.getD (ls3).toNatClampNeg 0)), (.int (LI.getD (ls3).toNatClampNeg 0)), (.ref x0)])) _
        refine XS.iloadN X66.here hx rfl (hb hby d12_117) rfl ?_
        exact Steps.refl _)
    have hidc := own_idb hP ls3.toNatClampNeg (own_nb ls3 4 (own_Bb 4 hB3 (by decide)))
    obtain ⟨cq70, q70, q70'⟩ := E_x.cell
    obtain ⟨_, _, ⟨T70, L70, k70, n70⟩, -, X70, ⟨Lc70, hQ70, l70, y70, z70⟩, sr70⟩ := X66.privateBack hx (y := (⟨"com/example/folioseek/folioseek/UseOrder", "place", "(IJI)V"⟩ : MethodName)) hown (mvT hZ (hw _ (List.mem_of_getElem? (i := 45) rfl))) (mvT hZ (hw _ (List.mem_of_getElem? (i := 46) rfl))) (own_selp (z := (⟨"com/example/folioseek/folioseek/UseOrder", "add", "(IJ)V"⟩ : MethodName)) rfl (notFace_of_selects (args := #[]) (mvT hZ (hw _ (List.mem_of_getElem? (i := 20) rfl)))) (args' := #[]) (mvT hZ (hw _ (List.mem_of_getElem? (i := 19) rfl))) (Cond.privateMethod_at (mvP hZ (hw _ (List.mem_of_getElem? (i := 47) rfl)) (args := #[]))) (mvT hZ (hw _ (List.mem_of_getElem? (i := 46) rfl))) (by decide)) (Cond.privateMethod_at (mvP hZ (hw _ (List.mem_of_getElem? (i := 47) rfl)) (args := #[]))) (mvT hZ (hw _ (List.mem_of_getElem? (i := 48) rfl))) (by decide) (backOf (W := 0) (rm9 l Z a0 hw [] x0 (LI.getD (ls3).toNatClampNeg 0) (LU.getD (ls3).toNatClampNeg 0) (0 : Int32) aI aU aS kI kU kS LI LU LS mm h0 n0 Z0 F_i F_u F_s A_i A_u A_s (by decide) hidc.1 ⟨hP.1, hP.2.1, by decide, hidc.2⟩ g_i g_u g_s ne_iu ne_is ne_us ne_xi ne_xu ne_xs) hZ (hw _ (List.mem_of_getElem? (i := 48) rfl)) (hw _ (List.mem_of_getElem? (i := 3) rfl)) (by decide) (by decide)) (g := (mkF m 118 #[.val (.ref x0), .val (.int (0 : Int32)), .val (.int idv), .val (.long usv), .second, .val (.int ls3), .val (.int (4 : Int32)), .val (.int (4 : Int32))] [(.int (0 : Int32)), (.long (LU.getD (ls3).toNatClampNeg 0)), (.int (LI.getD (ls3).toNatClampNeg 0)), (.ref x0)])) rfl (by rw [hml]; rfl) (Steps.refl _) (a := x0) (by rw [e66]; exact q70) q70' (argsL := [(.int (LI.getD (ls3).toNatClampNeg 0)), (.long (LU.getD (ls3).toNatClampNeg 0)), (.int (0 : Int32))]) (rest := []) (lenOf pd_0 rfl) rfl (by show 2 * 0 + _ ≤ _; exact Nat.le_of_eq rfl) (hb hby d12_118) (fun _ _ => ⟨rfl, e66, (by decide : 0 + 0 ≤ _), (by decide : 0 + 0 ≤ _)⟩)
    dsimp only [Pt.U, Pt.locs, Pt.cells, Pt.slots] at X70 l70 y70 z70 sr70 hQ70
    subst l70 y70 z70
    obtain ⟨rfl, N70q, K70c, f70_0, f70_1, f70_2⟩ := hQ70
    have N70 := Fr.app N51 N70q
    obtain ⟨LL70, X70, N70⟩ := own_hide X70 N70
    have f71 : Exa Z T70.heap x0 "com/example/folioseek/folioseek/UseOrder" := E_x.keep K70c
    have f72 : Fld Z T70.heap x0 "com/example/folioseek/folioseek/UseOrder" "ids" "[I" (.ref aI) := F_i.keep K70c (ninS ne_xi (ninS ne_xu (ninS ne_xs nin0)))
    have f73 : Fld Z T70.heap x0 "com/example/folioseek/folioseek/UseOrder" "uses" "[J" (.ref aU) := F_u.keep K70c (ninS ne_xi (ninS ne_xu (ninS ne_xs nin0)))
    have f74 : Fld Z T70.heap x0 "com/example/folioseek/folioseek/UseOrder" "slots" "[I" (.ref aS) := F_s.keep K70c (ninS ne_xi (ninS ne_xu (ninS ne_xs nin0)))
    have f75 : Fld Z T70.heap x0 "com/example/folioseek/folioseek/UseOrder" "size" "I" (.int (4 : Int32)) := F_z.keep K70c (ninS ne_xi (ninS ne_xu (ninS ne_xs nin0)))
    have K76 : Keep h0 T70.heap [aI, aU, aS] := K0.trans K70c (allS (Or.inl (List.mem_of_getElem? (i := 0) rfl)) (allS (Or.inl (List.mem_of_getElem? (i := 1) rfl)) (allS (Or.inl (List.mem_of_getElem? (i := 2) rfl)) all0)))
    have Z77 : n0 ≤ T70.heap.size := Nat.le_trans Z0 K70c.1
    have st78 : Steps p.tables e below sE (T70.setTop (mkF m 121 #[.val (.ref x0), .val (.int (0 : Int32)), .val (.int idv), .val (.long usv), .second, .val (.int ls3), .val (.int (4 : Int32)), .val (.int (4 : Int32))] [])) := st69.trans (sr70)
    have st79 : Steps p.tables e below sE (T70.setTop (mkF m 20 #[.val (.ref x0), .val (.int ls3), .val (.int idv), .val (.long usv), .second, .val (.int ls3), .val (.int (4 : Int32)), .val (.int (4 : Int32))] [(.ref x0), (.int (((4 : Int32) * ls3) + (1 : Int32)))])) := st78.trans (by
        show Steps _ _ _ (T70.setTop (mkF m 121 #[.val (.ref x0), .val (.int (0 : Int32)), .val (.int idv), .val (.long usv), .second, .val (.int ls3), .val (.int (4 : Int32)), .val (.int (4 : Int32))] [])) _
        refine XS.iload X70.here hx rfl (hb hby d12_121) rfl ?_
        show Steps _ _ _ (T70.setTop (mkF m 123 #[.val (.ref x0), .val (.int (0 : Int32)), .val (.int idv), .val (.long usv), .second, .val (.int ls3), .val (.int (4 : Int32)), .val (.int (4 : Int32))] [(.int ls3)])) _
        refine XS.istoreN X70.here hx rfl (hb hby d12_123) rfl (l' := #[.val (.ref x0), .val (.int ls3), .val (.int idv), .val (.long usv), .second, .val (.int ls3), .val (.int (4 : Int32)), .val (.int (4 : Int32))]) rfl ?_
        show Steps _ _ _ (T70.setTop (mkF m 124 #[.val (.ref x0), .val (.int ls3), .val (.int idv), .val (.long usv), .second, .val (.int ls3), .val (.int (4 : Int32)), .val (.int (4 : Int32))] [])) _
        refine XS.goto X70.here hx rfl (pc0 := 124) (pc' := 14) rfl (hb hby d12_124) (by decide) (by decide) ?_
        show Steps _ _ _ (T70.setTop (mkF m 14 #[.val (.ref x0), .val (.int ls3), .val (.int idv), .val (.long usv), .second, .val (.int ls3), .val (.int (4 : Int32)), .val (.int (4 : Int32))] [])) _
        refine XS.iconst X70.here hx rfl (hb hby d12_14) ?_
        show Steps _ _ _ (T70.setTop (mkF m 15 #[.val (.ref x0), .val (.int ls3), .val (.int idv), .val (.long usv), .second, .val (.int ls3), .val (.int (4 : Int32)), .val (.int (4 : Int32))] [(.int (4 : Int32))])) _
        refine XS.iloadN X70.here hx rfl (hb hby d12_15) rfl ?_
        show Steps _ _ _ (T70.setTop (mkF m 16 #[.val (.ref x0), .val (.int ls3), .val (.int idv), .val (.long usv), .second, .val (.int ls3), .val (.int (4 : Int32)), .val (.int (4 : Int32))] [(.int ls3), (.int (4 : Int32))])) _
        refine XS.imul X70.here hx rfl (hb hby d12_16) rfl ?_
        show Steps _ _ _ (T70.setTop (mkF m 17 #[.val (.ref x0), .val (.int ls3), .val (.int idv), .val (.long usv), .second, .val (.int ls3), .val (.int (4 : Int32)), .val (.int (4 : Int32))] [(.int ((4 : Int32) * ls3))])) _
        refine XS.iconst X70.here hx rfl (hb hby d12_17) ?_
        show Steps _ _ _ (T70.setTop (mkF m 18 #[.val (.ref x0), .val (.int ls3), .val (.int idv), .val (.long usv), .second, .val (.int ls3), .val (.int (4 : Int32)), .val (.int (4 : Int32))] [(.int (1 : Int32)), (.int ((4 : Int32) * ls3))])) _
        refine XS.iadd X70.here hx rfl (hb hby d12_18) rfl ?_
        show Steps _ _ _ (T70.setTop (mkF m 19 #[.val (.ref x0), .val (.int ls3), .val (.int idv), .val (.long usv), .second, .val (.int ls3), .val (.int (4 : Int32)), .val (.int (4 : Int32))] [(.int (((4 : Int32) * ls3) + (1 : Int32)))])) _
        refine XS.aloadN X70.here hx rfl (hb hby d12_19) rfl rfl ?_
        exact Steps.refl _)
    obtain ⟨T80, X80, e80, sr80⟩ := getF X70 hx hZ hown (host := "") (Or.inl (hw _ (List.mem_of_getElem? (i := 22) rfl))) Via.refl rfl f75 (g := (mkF m 20 #[.val (.ref x0), .val (.int ls3), .val (.int idv), .val (.long usv), .second, .val (.int ls3), .val (.int (4 : Int32)), .val (.int (4 : Int32))] [(.ref x0), (.int (((4 : Int32) * ls3) + (1 : Int32)))])) rfl rfl (hb hby d12_20)
    have st81 : Steps p.tables e below sE (T80.setTop (mkF m 23 #[.val (.ref x0), .val (.int ls3), .val (.int idv), .val (.long usv), .second, .val (.int ls3), .val (.int (4 : Int32)), .val (.int (4 : Int32))] [(.int (4 : Int32)), (.int (((4 : Int32) * ls3) + (1 : Int32)))])) := st79.trans (sr80 _ (Steps.refl _))
    have hf82 : ¬ ((((4 : Int32) * ls3) + (1 : Int32)) < (4 : Int32)) := own_far ls3 4 (by decide) ⟨hB3.1, hB3.2.1⟩
    have st83 : Steps p.tables e below sE (T80.setTop (mkF m 131 #[.val (.ref x0), .val (.int ls3), .val (.int idv), .val (.long usv), .second, .val (.int ls3), .val (.int (4 : Int32)), .val (.int (4 : Int32))] [(.int ls3), (.long usv), (.int idv), (.ref x0)])) := st81.trans (by
        show Steps _ _ _ (T80.setTop (mkF m 23 #[.val (.ref x0), .val (.int ls3), .val (.int idv), .val (.long usv), .second, .val (.int ls3), .val (.int (4 : Int32)), .val (.int (4 : Int32))] [(.int (4 : Int32)), (.int (((4 : Int32) * ls3) + (1 : Int32)))])) _
        refine XS.icmpYes X80.here hx rfl (pc0 := 23) (pc' := 127) rfl (hb hby d12_23) rfl (flt hf82).2.1 (by decide) (by decide) ?_
        show Steps _ _ _ (T80.setTop (mkF m 127 #[.val (.ref x0), .val (.int ls3), .val (.int idv), .val (.long usv), .second, .val (.int ls3), .val (.int (4 : Int32)), .val (.int (4 : Int32))] [])) _
        refine XS.aloadN X80.here hx rfl (hb hby d12_127) rfl rfl ?_
        show Steps _ _ _ (T80.setTop (mkF m 128 #[.val (.ref x0), .val (.int ls3), .val (.int idv), .val (.long usv), .second, .val (.int ls3), .val (.int (4 : Int32)), .val (.int (4 : Int32))] [(.ref x0)])) _
        refine XS.iloadN X80.here hx rfl (hb hby d12_128) rfl ?_
        show Steps _ _ _ (T80.setTop (mkF m 129 #[.val (.ref x0), .val (.int ls3), .val (.int idv), .val (.long usv), .second, .val (.int ls3), .val (.int (4 : Int32)), .val (.int (4 : Int32))] [(.int idv), (.ref x0)])) _
        refine XS.lloadN X80.here hx rfl (hb hby d12_129) rfl ?_
        show Steps _ _ _ (T80.setTop (mkF m 130 #[.val (.ref x0), .val (.int ls3), .val (.int idv), .val (.long usv), .second, .val (.int ls3), .val (.int (4 : Int32)), .val (.int (4 : Int32))] [(.long usv), (.int idv), (.ref x0)])) _
        refine XS.iloadN X80.here hx rfl (hb hby d12_130) rfl ?_
        exact Steps.refl _)
    obtain ⟨cq84, q84, q84'⟩ := f71.cell
    obtain ⟨_, _, ⟨T84, L84, k84, n84⟩, -, X84, ⟨Lc84, hQ84, l84, y84, z84⟩, sr84⟩ := X80.privateBack hx (y := (⟨"com/example/folioseek/folioseek/UseOrder", "place", "(IJI)V"⟩ : MethodName)) hown (mvT hZ (hw _ (List.mem_of_getElem? (i := 45) rfl))) (mvT hZ (hw _ (List.mem_of_getElem? (i := 46) rfl))) (own_selp (z := (⟨"com/example/folioseek/folioseek/UseOrder", "add", "(IJ)V"⟩ : MethodName)) rfl (notFace_of_selects (args := #[]) (mvT hZ (hw _ (List.mem_of_getElem? (i := 20) rfl)))) (args' := #[]) (mvT hZ (hw _ (List.mem_of_getElem? (i := 19) rfl))) (Cond.privateMethod_at (mvP hZ (hw _ (List.mem_of_getElem? (i := 47) rfl)) (args := #[]))) (mvT hZ (hw _ (List.mem_of_getElem? (i := 46) rfl))) (by decide)) (Cond.privateMethod_at (mvP hZ (hw _ (List.mem_of_getElem? (i := 47) rfl)) (args := #[]))) (mvT hZ (hw _ (List.mem_of_getElem? (i := 48) rfl))) (by decide) (backOf (W := 0) (rm9 l Z a0 hw [] x0 idv usv ls3 aI aU aS kI kU kS (LI.set ((0 : Int32)).toNatClampNeg (LI.getD (ls3).toNatClampNeg 0)) (LU.set ((0 : Int32)).toNatClampNeg (LU.getD (ls3).toNatClampNeg 0)) (LS.set ((LI.getD (ls3).toNatClampNeg 0)).toNatClampNeg (0 : Int32)) mm T70.heap n0 Z77 f72 f73 f74 f70_0 f70_1 f70_2 (own_i16 _ 4 (by decide) (own_Bb 4 hB3 (by decide))) hidv.1 ⟨by rw [List.length_set]; exact hP.1, by rw [List.length_set]; exact hP.2.1, own_l16 _ 4 (by decide) (own_Bb 4 hB3 (by decide)), by rw [List.length_set]; exact hidv.2⟩ g_i g_u g_s ne_iu ne_is ne_us ne_xi ne_xu ne_xs) hZ (hw _ (List.mem_of_getElem? (i := 48) rfl)) (hw _ (List.mem_of_getElem? (i := 3) rfl)) (by decide) (by decide)) (g := (mkF m 131 #[.val (.ref x0), .val (.int ls3), .val (.int idv), .val (.long usv), .second, .val (.int ls3), .val (.int (4 : Int32)), .val (.int (4 : Int32))] [(.int ls3), (.long usv), (.int idv), (.ref x0)])) rfl (by rw [hml]; rfl) (Steps.refl _) (a := x0) (by rw [e80]; exact q84) q84' (argsL := [(.int idv), (.long usv), (.int ls3)]) (rest := []) (lenOf pd_0 rfl) rfl (by show 2 * 0 + _ ≤ _; exact Nat.le_of_eq rfl) (hb hby d12_131) (fun _ _ => ⟨rfl, e80, (by decide : 0 + 0 ≤ _), (by decide : 0 + 0 ≤ _)⟩)
    dsimp only [Pt.U, Pt.locs, Pt.cells, Pt.slots] at X84 l84 y84 z84 sr84 hQ84
    subst l84 y84 z84
    obtain ⟨rfl, N84q, K84c, f84_0, f84_1, f84_2⟩ := hQ84
    have N84 := Fr.app N70 N84q
    obtain ⟨LL84, X84, N84⟩ := own_hide X84 N84
    have f85 : Exa Z T84.heap x0 "com/example/folioseek/folioseek/UseOrder" := f71.keep K84c
    have f86 : Fld Z T84.heap x0 "com/example/folioseek/folioseek/UseOrder" "ids" "[I" (.ref aI) := f72.keep K84c (ninS ne_xi (ninS ne_xu (ninS ne_xs nin0)))
    have f87 : Fld Z T84.heap x0 "com/example/folioseek/folioseek/UseOrder" "uses" "[J" (.ref aU) := f73.keep K84c (ninS ne_xi (ninS ne_xu (ninS ne_xs nin0)))
    have f88 : Fld Z T84.heap x0 "com/example/folioseek/folioseek/UseOrder" "slots" "[I" (.ref aS) := f74.keep K84c (ninS ne_xi (ninS ne_xu (ninS ne_xs nin0)))
    have f89 : Fld Z T84.heap x0 "com/example/folioseek/folioseek/UseOrder" "size" "I" (.int (4 : Int32)) := f75.keep K84c (ninS ne_xi (ninS ne_xu (ninS ne_xs nin0)))
    have K90 : Keep h0 T84.heap [aI, aU, aS] := K76.trans K84c (allS (Or.inl (List.mem_of_getElem? (i := 0) rfl)) (allS (Or.inl (List.mem_of_getElem? (i := 1) rfl)) (allS (Or.inl (List.mem_of_getElem? (i := 2) rfl)) all0)))
    have Z91 : n0 ≤ T84.heap.size := Nat.le_trans Z77 K84c.1
    have st92 : Steps p.tables e below sE (T84.setTop (mkF m 134 #[.val (.ref x0), .val (.int ls3), .val (.int idv), .val (.long usv), .second, .val (.int ls3), .val (.int (4 : Int32)), .val (.int (4 : Int32))] [])) := st83.trans (sr84)
    obtain ⟨fs, hr, hrun, hended, hW, hsame⟩ := X84.leave (v := none) (fun _ => rfl) hlk
    refine ⟨_, _, (own_ent hsE st92).trans ?_, hrun, hended, _, _, rfl, ?_, ⟨_, rfl⟩, hW, hsame.mono (by decide) (by decide)⟩
    · exact X84.returnOut hx Bd.returns (hb hby d12_134) hr
    · show Qdn4 Z x0 aI aU aS kI kU kS LI LU LS mm val pres h0 n0 _ T84.heap _
      exact ⟨rfl, N84, K90, ⟨_, _, _, f84_0, f84_1, f84_2, by rw [e_idv, e_usv]; exact own_downP hP ls3 ⟨hB3.1, hB3.2.1⟩, by rw [e_usv]; exact own_dnB hP.2.1 (by decide) ls3 hB3 (by rw [← e_usv]; exact hc60)⟩⟩
  · have st93 : Steps p.tables e below sE (T56.setTop (mkF m 131 #[.val (.ref x0), .val (.int (0 : Int32)), .val (.int idv), .val (.long usv), .second, .val (.int ls3), .val (.int (4 : Int32)), .val (.int (4 : Int32))] [(.int (0 : Int32)), (.long usv), (.int idv), (.ref x0)])) := st59.trans (by
        show Steps _ _ _ (T56.setTop (mkF m 96 #[.val (.ref x0), .val (.int (0 : Int32)), .val (.int idv), .val (.long usv), .second, .val (.int ls3), .val (.int (4 : Int32)), .val (.int (4 : Int32))] [(.int (lcmpW usv (LU.getD (ls3).toNatClampNeg 0)))])) _
        refine XS.ifNo X56.here hx rfl (hb hby d12_96) rfl ((if0 _ _).trans (flt (fun q => hc60 ((lw_gt _ _).mp q))).2.2.1) ?_
        show Steps _ _ _ (T56.setTop (mkF m 99 #[.val (.ref x0), .val (.int (0 : Int32)), .val (.int idv), .val (.long usv), .second, .val (.int ls3), .val (.int (4 : Int32)), .val (.int (4 : Int32))] [])) _
        refine XS.goto X56.here hx rfl (pc0 := 99) (pc' := 127) rfl (hb hby d12_99) (by decide) (by decide) ?_
        show Steps _ _ _ (T56.setTop (mkF m 127 #[.val (.ref x0), .val (.int (0 : Int32)), .val (.int idv), .val (.long usv), .second, .val (.int ls3), .val (.int (4 : Int32)), .val (.int (4 : Int32))] [])) _
        refine XS.aloadN X56.here hx rfl (hb hby d12_127) rfl rfl ?_
        show Steps _ _ _ (T56.setTop (mkF m 128 #[.val (.ref x0), .val (.int (0 : Int32)), .val (.int idv), .val (.long usv), .second, .val (.int ls3), .val (.int (4 : Int32)), .val (.int (4 : Int32))] [(.ref x0)])) _
        refine XS.iloadN X56.here hx rfl (hb hby d12_128) rfl ?_
        show Steps _ _ _ (T56.setTop (mkF m 129 #[.val (.ref x0), .val (.int (0 : Int32)), .val (.int idv), .val (.long usv), .second, .val (.int ls3), .val (.int (4 : Int32)), .val (.int (4 : Int32))] [(.int idv), (.ref x0)])) _
        refine XS.lloadN X56.here hx rfl (hb hby d12_129) rfl ?_
        show Steps _ _ _ (T56.setTop (mkF m 130 #[.val (.ref x0), .val (.int (0 : Int32)), .val (.int idv), .val (.long usv), .second, .val (.int ls3), .val (.int (4 : Int32)), .val (.int (4 : Int32))] [(.long usv), (.int idv), (.ref x0)])) _
        refine XS.iloadN X56.here hx rfl (hb hby d12_130) rfl ?_
        exact Steps.refl _)
    obtain ⟨cq94, q94, q94'⟩ := E_x.cell
    obtain ⟨_, _, ⟨T94, L94, k94, n94⟩, -, X94, ⟨Lc94, hQ94, l94, y94, z94⟩, sr94⟩ := X56.privateBack hx (y := (⟨"com/example/folioseek/folioseek/UseOrder", "place", "(IJI)V"⟩ : MethodName)) hown (mvT hZ (hw _ (List.mem_of_getElem? (i := 45) rfl))) (mvT hZ (hw _ (List.mem_of_getElem? (i := 46) rfl))) (own_selp (z := (⟨"com/example/folioseek/folioseek/UseOrder", "add", "(IJ)V"⟩ : MethodName)) rfl (notFace_of_selects (args := #[]) (mvT hZ (hw _ (List.mem_of_getElem? (i := 20) rfl)))) (args' := #[]) (mvT hZ (hw _ (List.mem_of_getElem? (i := 19) rfl))) (Cond.privateMethod_at (mvP hZ (hw _ (List.mem_of_getElem? (i := 47) rfl)) (args := #[]))) (mvT hZ (hw _ (List.mem_of_getElem? (i := 46) rfl))) (by decide)) (Cond.privateMethod_at (mvP hZ (hw _ (List.mem_of_getElem? (i := 47) rfl)) (args := #[]))) (mvT hZ (hw _ (List.mem_of_getElem? (i := 48) rfl))) (by decide) (backOf (W := 0) (rm9 l Z a0 hw [] x0 idv usv (0 : Int32) aI aU aS kI kU kS LI LU LS mm h0 n0 Z0 F_i F_u F_s A_i A_u A_s (by decide) hidv.1 ⟨hP.1, hP.2.1, by decide, hidv.2⟩ g_i g_u g_s ne_iu ne_is ne_us ne_xi ne_xu ne_xs) hZ (hw _ (List.mem_of_getElem? (i := 48) rfl)) (hw _ (List.mem_of_getElem? (i := 3) rfl)) (by decide) (by decide)) (g := (mkF m 131 #[.val (.ref x0), .val (.int (0 : Int32)), .val (.int idv), .val (.long usv), .second, .val (.int ls3), .val (.int (4 : Int32)), .val (.int (4 : Int32))] [(.int (0 : Int32)), (.long usv), (.int idv), (.ref x0)])) rfl (by rw [hml]; rfl) (Steps.refl _) (a := x0) (by rw [e56]; exact q94) q94' (argsL := [(.int idv), (.long usv), (.int (0 : Int32))]) (rest := []) (lenOf pd_0 rfl) rfl (by show 2 * 0 + _ ≤ _; exact Nat.le_of_eq rfl) (hb hby d12_131) (fun _ _ => ⟨rfl, e56, (by decide : 0 + 0 ≤ _), (by decide : 0 + 0 ≤ _)⟩)
    dsimp only [Pt.U, Pt.locs, Pt.cells, Pt.slots] at X94 l94 y94 z94 sr94 hQ94
    subst l94 y94 z94
    obtain ⟨rfl, N94q, K94c, f94_0, f94_1, f94_2⟩ := hQ94
    have N94 := Fr.app N51 N94q
    obtain ⟨LL94, X94, N94⟩ := own_hide X94 N94
    have f95 : Exa Z T94.heap x0 "com/example/folioseek/folioseek/UseOrder" := E_x.keep K94c
    have f96 : Fld Z T94.heap x0 "com/example/folioseek/folioseek/UseOrder" "ids" "[I" (.ref aI) := F_i.keep K94c (ninS ne_xi (ninS ne_xu (ninS ne_xs nin0)))
    have f97 : Fld Z T94.heap x0 "com/example/folioseek/folioseek/UseOrder" "uses" "[J" (.ref aU) := F_u.keep K94c (ninS ne_xi (ninS ne_xu (ninS ne_xs nin0)))
    have f98 : Fld Z T94.heap x0 "com/example/folioseek/folioseek/UseOrder" "slots" "[I" (.ref aS) := F_s.keep K94c (ninS ne_xi (ninS ne_xu (ninS ne_xs nin0)))
    have f99 : Fld Z T94.heap x0 "com/example/folioseek/folioseek/UseOrder" "size" "I" (.int (4 : Int32)) := F_z.keep K94c (ninS ne_xi (ninS ne_xu (ninS ne_xs nin0)))
    have K100 : Keep h0 T94.heap [aI, aU, aS] := K0.trans K94c (allS (Or.inl (List.mem_of_getElem? (i := 0) rfl)) (allS (Or.inl (List.mem_of_getElem? (i := 1) rfl)) (allS (Or.inl (List.mem_of_getElem? (i := 2) rfl)) all0)))
    have Z101 : n0 ≤ T94.heap.size := Nat.le_trans Z0 K94c.1
    have st102 : Steps p.tables e below sE (T94.setTop (mkF m 134 #[.val (.ref x0), .val (.int (0 : Int32)), .val (.int idv), .val (.long usv), .second, .val (.int ls3), .val (.int (4 : Int32)), .val (.int (4 : Int32))] [])) := st93.trans (sr94)
    obtain ⟨fs, hr, hrun, hended, hW, hsame⟩ := X94.leave (v := none) (fun _ => rfl) hlk
    refine ⟨_, _, (own_ent hsE st102).trans ?_, hrun, hended, _, _, rfl, ?_, ⟨_, rfl⟩, hW, hsame.mono (by decide) (by decide)⟩
    · exact X94.returnOut hx Bd.returns (hb hby d12_134) hr
    · show Qdn4 Z x0 aI aU aS kI kU kS LI LU LS mm val pres h0 n0 _ T94.heap _
      exact ⟨rfl, N94, K100, ⟨LI, LU, LS, by rw [← (own_stayP hP (0 : Int32) (by decide)).1, ← e_idv]; exact f94_0, by rw [← (own_stayP hP (0 : Int32) (by decide)).2.1, ← e_usv]; exact f94_1, by rw [← (own_stayP hP (0 : Int32) (by decide)).2.2, ← e_idv]; exact f94_2, hP, own_dnC ls3 hB3 (by rw [← e_usv]; exact hc60)⟩⟩
def Qdn5 (Z : State) (x0 : Addr) (aI : Addr) (aU : Addr) (aS : Addr) (kI : ClassId) (kU : ClassId) (kS : ClassId) (LI : List Int32) (LU : List Int64) (LS : List Int32) (mm : Int32) (val : Nat → Int64) (pres : Nat → Prop) (h0 : Heap) (n0 : Nat) (vE : Option Value) (hE : Heap) (LE : List Loc) : Prop := vE = none ∧ Fr n0 LE ∧ Keep h0 hE [aI, aU, aS] ∧ (∃ (LI' : List Int32) (LU' : List Int64) (LS' : List Int32), Arv Z hE aI kI .int (16 : Int32) (List.map Value.int LI') (.int (0 : Int32)) ∧ Arv Z hE aU kU .long (16 : Int32) (List.map Value.long LU') (.long (0 : Int64)) ∧ Arv Z hE aS kS .int mm (List.map Value.int LS') (.int (0 : Int32)) ∧ own_P 5 mm.toNatClampNeg LI' LU' LS' val pres ∧ own_H 5 LU')
set_option maxRecDepth 65536 in
set_option maxHeartbeats 40000000 in
theorem rmdn5 (l : Launch) (Z : State) (a0 : Array Value) (hw : ∀ d ∈ tables_1, d.before a0 Z = true) (ws : List Jvm.Cond) (x0 : Addr) (aI : Addr) (aU : Addr) (aS : Addr) (kI : ClassId) (kU : ClassId) (kS : ClassId) (LI : List Int32) (LU : List Int64) (LS : List Int32) (mm : Int32) (val : Nat → Int64) (pres : Nat → Prop) (h0 : Heap) (n0 : Nat) (Z0 : n0 ≤ h0.size) (E_x : Exa Z h0 x0 "com/example/folioseek/folioseek/UseOrder") (F_i : Fld Z h0 x0 "com/example/folioseek/folioseek/UseOrder" "ids" "[I" (.ref aI)) (F_u : Fld Z h0 x0 "com/example/folioseek/folioseek/UseOrder" "uses" "[J" (.ref aU)) (F_s : Fld Z h0 x0 "com/example/folioseek/folioseek/UseOrder" "slots" "[I" (.ref aS)) (F_z : Fld Z h0 x0 "com/example/folioseek/folioseek/UseOrder" "size" "I" (.int (5 : Int32))) (A_i : Arv Z h0 aI kI .int (16 : Int32) (List.map Value.int LI) (.int (0 : Int32))) (A_u : Arv Z h0 aU kU .long (16 : Int32) (List.map Value.long LU) (.long (0 : Int64))) (A_s : Arv Z h0 aS kS .int mm (List.map Value.int LS) (.int (0 : Int32))) (hP : own_P 5 mm.toNatClampNeg LI LU LS val pres) (g_i : n0 ≤ aI) (g_u : n0 ≤ aU) (g_s : n0 ≤ aS) (ne_iu : aI ≠ aU) (ne_is : aI ≠ aS) (ne_us : aU ≠ aS) (ne_xi : x0 ≠ aI) (ne_xu : x0 ≠ aU) (ne_xs : x0 ≠ aS) :
    MetFree l (⟨"com/example/folioseek/folioseek/UseOrder", "siftDown", "(I)V"⟩ : MethodName) (head1 (Jvm.Cond.code (⟨"com/example/folioseek/folioseek/UseOrder", "siftDown", "(I)V"⟩ : MethodName) prog_24_method_9_code 8 none :: ws) ({ frames := 1, cells := 0, slots := 0, locals := 16 } : Room)) (fun a U => a = #[(.ref x0), (.int (0 : Int32))] ∧ Z.Warmed39 U.vm ∧ U.heap = h0) (fun _ _ _ _ _ => True) (fun _ U o U' => ∃ vE LE, o = .returned vE ∧ Qdn5 Z x0 aI aU aS kI kU kS LI LU LS mm val pres h0 n0 vE U'.heap LE ∧ FrameEnd U o U' LE ({ frames := 1, cells := 0, slots := 0, locals := 16 } : Room).cells ({ frames := 1, cells := 0, slots := 0, locals := 16 } : Room).slots) := by
  refine MetFree.of_bodySF (plainFor_of_name pn_1) hisR ?_
  intro p e s m args below meth c s₁ Bd hml0 hP hK
  obtain ⟨rfl, hZ, hh⟩ := hP
  have hx := Bd.exec
  have hby := Bd.bytes
  have hml : c.maxLocals = 8 := hml0
  have hown : s.vm.findClass "com/example/folioseek/folioseek/UseOrder" = some m.cls := findClass_of_methodNamed Bd.named
  have hnm := (name_of_methodNamed Bd.named Bd.method).1
  have hlk : meth.locks = false := BodyLoose.notSynchronized Bd
  have X0 : Stand p l e ({ frames := 1, cells := 0, slots := 0, locals := 16 } : Room) s m #[(.ref x0), (.int (0 : Int32))] below meth c s₁ [] 0 0 := Stand.of_body Bd
  have e0 : s₁.heap = h0 := by rw [← hh, Bd.state]; rfl
  have N0 := Fr.nil n0
  obtain ⟨sE, hsE⟩ : ∃ z, z = (s₁.setTop (entryFrame m #[(.ref x0), (.int (0 : Int32))] 8)) := ⟨_, rfl⟩
  have st0 : Steps p.tables e below sE (s₁.setTop (mkF m 0 #[.val (.ref x0), .val (.int (0 : Int32)), .unset, .unset, .unset, .unset, .unset, .unset] [])) := by rw [hsE]; exact castTop (ef_dn4 m x0) (Steps.refl _)
  have K0 : Keep h0 h0 [aI, aU, aS] := Keep.refl _ _
  have st1 : Steps p.tables e below sE (s₁.setTop (mkF m 1 #[.val (.ref x0), .val (.int (0 : Int32)), .unset, .unset, .unset, .unset, .unset, .unset] [(.ref x0)])) := st0.trans (by
      show Steps _ _ _ (s₁.setTop (mkF m 0 #[.val (.ref x0), .val (.int (0 : Int32)), .unset, .unset, .unset, .unset, .unset, .unset] [])) _
      refine XS.aloadN X0.here hx rfl (hb hby d12_0) rfl rfl ?_
      exact Steps.refl _)
  obtain ⟨T2, X2, e2, sr2⟩ := getF X0 hx hZ hown (host := "") (Or.inl (hw _ (List.mem_of_getElem? (i := 11) rfl))) Via.refl e0 F_i (g := (mkF m 1 #[.val (.ref x0), .val (.int (0 : Int32)), .unset, .unset, .unset, .unset, .unset, .unset] [(.ref x0)])) rfl rfl (hb hby d12_1)
  have st3 : Steps p.tables e below sE (T2.setTop (mkF m 4 #[.val (.ref x0), .val (.int (0 : Int32)), .unset, .unset, .unset, .unset, .unset, .unset] [(.ref aI)])) := st1.trans (sr2 _ (Steps.refl _))
  obtain ⟨cl4, Ar4, q4, S4, N4, H4, G4⟩ := id A_i
  have hin4 : ¬ ((0 : Int32) < 0 ∨ cl4.slots.size ≤ ((0 : Int32)).toNatClampNeg) := inb_of S4 ⟨by decide, by decide⟩
  have hat4 : cl4.slots[((0 : Int32)).toNatClampNeg]? = some (.int (LI.getD ((0 : Int32)).toNatClampNeg 0)) := H4.at hin4 (own_getI LI _)
  have st5 : Steps p.tables e below sE (T2.setTop (mkF m 6 #[.val (.ref x0), .val (.int (0 : Int32)), .unset, .unset, .unset, .unset, .unset, .unset] [(.int (LI.getD ((0 : Int32)).toNatClampNeg 0))])) := st3.trans (by
      show Steps _ _ _ (T2.setTop (mkF m 4 #[.val (.ref x0), .val (.int (0 : Int32)), .unset, .unset, .unset, .unset, .unset, .unset] [(.ref aI)])) _
      refine XS.iloadN X2.here hx rfl (hb hby d12_4) rfl ?_
      show Steps _ _ _ (T2.setTop (mkF m 5 #[.val (.ref x0), .val (.int (0 : Int32)), .unset, .unset, .unset, .unset, .unset, .unset] [(.int (0 : Int32)), (.ref aI)])) _
      refine X2.iaload hx (j := (0 : Int32)) (v := (.int (LI.getD ((0 : Int32)).toNatClampNeg 0))) (by rw [e2]; exact Ar4.1) (State.isArrayOf_alike hZ.alike Ar4.2.1) Ar4.2.2 hin4 hat4 (g := (mkF m 5 #[.val (.ref x0), .val (.int (0 : Int32)), .unset, .unset, .unset, .unset, .unset, .unset] [(.int (0 : Int32)), (.ref aI)])) rfl rfl (hb hby d12_5) _ ?_
      exact Steps.refl _)
  obtain ⟨idv, e_idv⟩ : ∃ z, z = (LI.getD ((0 : Int32)).toNatClampNeg 0) := ⟨_, rfl⟩
  rw [← e_idv] at st5
  have hidv := own_idb hP 0 (by decide)
  rw [show LI.getD 0 0 = idv from e_idv.symm] at hidv
  have hB1 := own_b1 LU
  have st6 : Steps p.tables e below sE (T2.setTop (mkF m 8 #[.val (.ref x0), .val (.int (0 : Int32)), .val (.int idv), .unset, .unset, .unset, .unset, .unset] [(.ref x0)])) := st5.trans (by
      show Steps _ _ _ (T2.setTop (mkF m 6 #[.val (.ref x0), .val (.int (0 : Int32)), .unset, .unset, .unset, .unset, .unset, .unset] [(.int idv)])) _
      refine XS.istoreN X2.here hx rfl (hb hby d12_6) rfl (l' := #[.val (.ref x0), .val (.int (0 : Int32)), .val (.int idv), .unset, .unset, .unset, .unset, .unset]) rfl ?_
      show Steps _ _ _ (T2.setTop (mkF m 7 #[.val (.ref x0), .val (.int (0 : Int32)), .val (.int idv), .unset, .unset, .unset, .unset, .unset] [])) _
      refine XS.aloadN X2.here hx rfl (hb hby d12_7) rfl rfl ?_
      exact Steps.refl _)
  obtain ⟨T7, X7, e7, sr7⟩ := getF X2 hx hZ hown (host := "") (Or.inl (hw _ (List.mem_of_getElem? (i := 13) rfl))) Via.refl e2 F_u (g := (mkF m 8 #[.val (.ref x0), .val (.int (0 : Int32)), .val (.int idv), .unset, .unset, .unset, .unset, .unset] [(.ref x0)])) rfl rfl (hb hby d12_8)
  have st8 : Steps p.tables e below sE (T7.setTop (mkF m 11 #[.val (.ref x0), .val (.int (0 : Int32)), .val (.int idv), .unset, .unset, .unset, .unset, .unset] [(.ref aU)])) := st6.trans (sr7 _ (Steps.refl _))
  obtain ⟨cl9, Ar9, q9, S9, N9, H9, G9⟩ := id A_u
  have hin9 : ¬ ((0 : Int32) < 0 ∨ cl9.slots.size ≤ ((0 : Int32)).toNatClampNeg) := inb_of S9 ⟨by decide, by decide⟩
  have hat9 : cl9.slots[((0 : Int32)).toNatClampNeg]? = some (.long (LU.getD ((0 : Int32)).toNatClampNeg 0)) := H9.at hin9 (own_getJ LU _)
  have st10 : Steps p.tables e below sE (T7.setTop (mkF m 13 #[.val (.ref x0), .val (.int (0 : Int32)), .val (.int idv), .unset, .unset, .unset, .unset, .unset] [(.long (LU.getD ((0 : Int32)).toNatClampNeg 0))])) := st8.trans (by
      show Steps _ _ _ (T7.setTop (mkF m 11 #[.val (.ref x0), .val (.int (0 : Int32)), .val (.int idv), .unset, .unset, .unset, .unset, .unset] [(.ref aU)])) _
      refine XS.iloadN X7.here hx rfl (hb hby d12_11) rfl ?_
      show Steps _ _ _ (T7.setTop (mkF m 12 #[.val (.ref x0), .val (.int (0 : Int32)), .val (.int idv), .unset, .unset, .unset, .unset, .unset] [(.int (0 : Int32)), (.ref aU)])) _
      refine X7.laload hx (j := (0 : Int32)) (v := (.long (LU.getD ((0 : Int32)).toNatClampNeg 0))) (by rw [e7]; exact Ar9.1) (State.isArrayOf_alike hZ.alike Ar9.2.1) Ar9.2.2 hin9 hat9 (g := (mkF m 12 #[.val (.ref x0), .val (.int (0 : Int32)), .val (.int idv), .unset, .unset, .unset, .unset, .unset] [(.int (0 : Int32)), (.ref aU)])) rfl rfl (hb hby d12_12) _ ?_
      exact Steps.refl _)
  obtain ⟨usv, e_usv⟩ : ∃ z, z = (LU.getD ((0 : Int32)).toNatClampNeg 0) := ⟨_, rfl⟩
  rw [← e_usv] at st10
  have st11 : Steps p.tables e below sE (T7.setTop (mkF m 20 #[.val (.ref x0), .val (.int (0 : Int32)), .val (.int idv), .val (.long usv), .second, .unset, .unset, .unset] [(.ref x0), (.int (1 : Int32))])) := st10.trans (by
      show Steps _ _ _ (T7.setTop (mkF m 13 #[.val (.ref x0), .val (.int (0 : Int32)), .val (.int idv), .unset, .unset, .unset, .unset, .unset] [(.long usv)])) _
      refine XS.lstoreN X7.here hx rfl (hb hby d12_13) rfl (l' := #[.val (.ref x0), .val (.int (0 : Int32)), .val (.int idv), .val (.long usv), .second, .unset, .unset, .unset]) rfl ?_
      show Steps _ _ _ (T7.setTop (mkF m 14 #[.val (.ref x0), .val (.int (0 : Int32)), .val (.int idv), .val (.long usv), .second, .unset, .unset, .unset] [])) _
      refine XS.iconst X7.here hx rfl (hb hby d12_14) ?_
      show Steps _ _ _ (T7.setTop (mkF m 15 #[.val (.ref x0), .val (.int (0 : Int32)), .val (.int idv), .val (.long usv), .second, .unset, .unset, .unset] [(.int (4 : Int32))])) _
      refine XS.iloadN X7.here hx rfl (hb hby d12_15) rfl ?_
      show Steps _ _ _ (T7.setTop (mkF m 16 #[.val (.ref x0), .val (.int (0 : Int32)), .val (.int idv), .val (.long usv), .second, .unset, .unset, .unset] [(.int (0 : Int32)), (.int (4 : Int32))])) _
      refine XS.imul X7.here hx rfl (hb hby d12_16) rfl ?_
      show Steps _ _ _ (T7.setTop (mkF m 17 #[.val (.ref x0), .val (.int (0 : Int32)), .val (.int idv), .val (.long usv), .second, .unset, .unset, .unset] [(.int (0 : Int32))])) _
      refine XS.iconst X7.here hx rfl (hb hby d12_17) ?_
      show Steps _ _ _ (T7.setTop (mkF m 18 #[.val (.ref x0), .val (.int (0 : Int32)), .val (.int idv), .val (.long usv), .second, .unset, .unset, .unset] [(.int (1 : Int32)), (.int (0 : Int32))])) _
      refine XS.iadd X7.here hx rfl (hb hby d12_18) rfl ?_
      show Steps _ _ _ (T7.setTop (mkF m 19 #[.val (.ref x0), .val (.int (0 : Int32)), .val (.int idv), .val (.long usv), .second, .unset, .unset, .unset] [(.int (1 : Int32))])) _
      refine XS.aloadN X7.here hx rfl (hb hby d12_19) rfl rfl ?_
      exact Steps.refl _)
  obtain ⟨T12, X12, e12, sr12⟩ := getF X7 hx hZ hown (host := "") (Or.inl (hw _ (List.mem_of_getElem? (i := 22) rfl))) Via.refl e7 F_z (g := (mkF m 20 #[.val (.ref x0), .val (.int (0 : Int32)), .val (.int idv), .val (.long usv), .second, .unset, .unset, .unset] [(.ref x0), (.int (1 : Int32))])) rfl rfl (hb hby d12_20)
  have st13 : Steps p.tables e below sE (T12.setTop (mkF m 23 #[.val (.ref x0), .val (.int (0 : Int32)), .val (.int idv), .val (.long usv), .second, .unset, .unset, .unset] [(.int (5 : Int32)), (.int (1 : Int32))])) := st11.trans (sr12 _ (Steps.refl _))
  have hf14 : (1 : Int32) < (5 : Int32) := by decide
  have st15 : Steps p.tables e below sE (T12.setTop (mkF m 38 #[.val (.ref x0), .val (.int (0 : Int32)), .val (.int idv), .val (.long usv), .second, .val (.int (1 : Int32)), .unset, .unset] [(.ref x0), (.int (5 : Int32))])) := st13.trans (by
      show Steps _ _ _ (T12.setTop (mkF m 23 #[.val (.ref x0), .val (.int (0 : Int32)), .val (.int idv), .val (.long usv), .second, .unset, .unset, .unset] [(.int (5 : Int32)), (.int (1 : Int32))])) _
      refine XS.icmpNo X12.here hx rfl (hb hby d12_23) rfl (tlt hf14).2.1 ?_
      show Steps _ _ _ (T12.setTop (mkF m 26 #[.val (.ref x0), .val (.int (0 : Int32)), .val (.int idv), .val (.long usv), .second, .unset, .unset, .unset] [])) _
      refine XS.iconst X12.here hx rfl (hb hby d12_26) ?_
      show Steps _ _ _ (T12.setTop (mkF m 27 #[.val (.ref x0), .val (.int (0 : Int32)), .val (.int idv), .val (.long usv), .second, .unset, .unset, .unset] [(.int (4 : Int32))])) _
      refine XS.iloadN X12.here hx rfl (hb hby d12_27) rfl ?_
      show Steps _ _ _ (T12.setTop (mkF m 28 #[.val (.ref x0), .val (.int (0 : Int32)), .val (.int idv), .val (.long usv), .second, .unset, .unset, .unset] [(.int (0 : Int32)), (.int (4 : Int32))])) _
      refine XS.imul X12.here hx rfl (hb hby d12_28) rfl ?_
      show Steps _ _ _ (T12.setTop (mkF m 29 #[.val (.ref x0), .val (.int (0 : Int32)), .val (.int idv), .val (.long usv), .second, .unset, .unset, .unset] [(.int (0 : Int32))])) _
      refine XS.iconst X12.here hx rfl (hb hby d12_29) ?_
      show Steps _ _ _ (T12.setTop (mkF m 30 #[.val (.ref x0), .val (.int (0 : Int32)), .val (.int idv), .val (.long usv), .second, .unset, .unset, .unset] [(.int (1 : Int32)), (.int (0 : Int32))])) _
      refine XS.iadd X12.here hx rfl (hb hby d12_30) rfl ?_
      show Steps _ _ _ (T12.setTop (mkF m 31 #[.val (.ref x0), .val (.int (0 : Int32)), .val (.int idv), .val (.long usv), .second, .unset, .unset, .unset] [(.int (1 : Int32))])) _
      refine XS.istore X12.here hx rfl (hb hby d12_31) rfl (l' := #[.val (.ref x0), .val (.int (0 : Int32)), .val (.int idv), .val (.long usv), .second, .val (.int (1 : Int32)), .unset, .unset]) rfl ?_
      show Steps _ _ _ (T12.setTop (mkF m 33 #[.val (.ref x0), .val (.int (0 : Int32)), .val (.int idv), .val (.long usv), .second, .val (.int (1 : Int32)), .unset, .unset] [])) _
      refine XS.iload X12.here hx rfl (hb hby d12_33) rfl ?_
      show Steps _ _ _ (T12.setTop (mkF m 35 #[.val (.ref x0), .val (.int (0 : Int32)), .val (.int idv), .val (.long usv), .second, .val (.int (1 : Int32)), .unset, .unset] [(.int (1 : Int32))])) _
      refine XS.iconst X12.here hx rfl (hb hby d12_35) ?_
      show Steps _ _ _ (T12.setTop (mkF m 36 #[.val (.ref x0), .val (.int (0 : Int32)), .val (.int idv), .val (.long usv), .second, .val (.int (1 : Int32)), .unset, .unset] [(.int (4 : Int32)), (.int (1 : Int32))])) _
      refine XS.iadd X12.here hx rfl (hb hby d12_36) rfl ?_
      show Steps _ _ _ (T12.setTop (mkF m 37 #[.val (.ref x0), .val (.int (0 : Int32)), .val (.int idv), .val (.long usv), .second, .val (.int (1 : Int32)), .unset, .unset] [(.int (5 : Int32))])) _
      refine XS.aloadN X12.here hx rfl (hb hby d12_37) rfl rfl ?_
      exact Steps.refl _)
  obtain ⟨T16, X16, e16, sr16⟩ := getF X12 hx hZ hown (host := "") (Or.inl (hw _ (List.mem_of_getElem? (i := 22) rfl))) Via.refl e12 F_z (g := (mkF m 38 #[.val (.ref x0), .val (.int (0 : Int32)), .val (.int idv), .val (.long usv), .second, .val (.int (1 : Int32)), .unset, .unset] [(.ref x0), (.int (5 : Int32))])) rfl rfl (hb hby d12_38)
  have st17 : Steps p.tables e below sE (T16.setTop (mkF m 41 #[.val (.ref x0), .val (.int (0 : Int32)), .val (.int idv), .val (.long usv), .second, .val (.int (1 : Int32)), .unset, .unset] [(.int (5 : Int32)), (.int (5 : Int32))])) := st15.trans (sr16 _ (Steps.refl _))
  obtain ⟨_, _, ⟨T18, L18, k18, n18⟩, -, X18, ⟨Lc18, hQ18, l18, y18, z18⟩, sr18⟩ := Jvm.LawKit.callS X16 hx (y := (⟨"java/lang/Math", "min", "(II)I"⟩ : MethodName)) hown (mvT hZ (hw _ (List.mem_of_getElem? (i := 62) rfl))) (mvT hZ (hw _ (List.mem_of_getElem? (i := 33) rfl))) (mvT hZ (hw _ (List.mem_of_getElem? (i := 26) rfl))) (mvT hZ (hw _ (List.mem_of_getElem? (i := 34) rfl))) (by decide) (backOf (W := 0) (rm6 l Z a0 hw [] (5 : Int32) (5 : Int32)  h0 n0 Z0 ) hZ (hw _ (List.mem_of_getElem? (i := 34) rfl)) (hw _ (List.mem_of_getElem? (i := 26) rfl)) (by decide) (by decide)) (g := (mkF m 41 #[.val (.ref x0), .val (.int (0 : Int32)), .val (.int idv), .val (.long usv), .second, .val (.int (1 : Int32)), .unset, .unset] [(.int (5 : Int32)), (.int (5 : Int32))])) rfl (by rw [hml]; rfl) (argsL := [(.int (5 : Int32)), (.int (5 : Int32))]) (rest := []) (lenOf pd_1 rfl) rfl (by show 2 * 0 + _ ≤ _; exact Nat.le_of_eq rfl) (hb hby d12_41) (fun _ _ => ⟨rfl, e16, (by decide : 0 + 0 ≤ _), (by decide : 0 + 0 ≤ _)⟩)
  dsimp only [Pt.U, Pt.locs, Pt.cells, Pt.slots] at X18 l18 y18 z18 sr18 hQ18
  subst l18 y18 z18
  obtain ⟨rfl, N18q, hh18⟩ := hQ18
  have N18 := Fr.app N0 N18q
  obtain ⟨LL18, X18, N18⟩ := own_hide X18 N18
  have st19 : Steps p.tables e below sE (T18.setTop (mkF m 44 #[.val (.ref x0), .val (.int (0 : Int32)), .val (.int idv), .val (.long usv), .second, .val (.int (1 : Int32)), .unset, .unset] [(.int (F6 (5 : Int32) (5 : Int32)))])) := st17.trans (sr18 _ (Steps.refl _))
  have hmn : (F6 (5 : Int32) (5 : Int32)) = (5 : Int32) := by decide
  rw [hmn] at st19
  have st20 : Steps p.tables e below sE (T18.setTop (mkF m 52 #[.val (.ref x0), .val (.int (0 : Int32)), .val (.int idv), .val (.long usv), .second, .val (.int (1 : Int32)), .val (.int (5 : Int32)), .val (.int (2 : Int32))] [])) := st19.trans (by
      show Steps _ _ _ (T18.setTop (mkF m 44 #[.val (.ref x0), .val (.int (0 : Int32)), .val (.int idv), .val (.long usv), .second, .val (.int (1 : Int32)), .unset, .unset] [(.int (5 : Int32))])) _
      refine XS.istore X18.here hx rfl (hb hby d12_44) rfl (l' := #[.val (.ref x0), .val (.int (0 : Int32)), .val (.int idv), .val (.long usv), .second, .val (.int (1 : Int32)), .val (.int (5 : Int32)), .unset]) rfl ?_
      show Steps _ _ _ (T18.setTop (mkF m 46 #[.val (.ref x0), .val (.int (0 : Int32)), .val (.int idv), .val (.long usv), .second, .val (.int (1 : Int32)), .val (.int (5 : Int32)), .unset] [])) _
      refine XS.iload X18.here hx rfl (hb hby d12_46) rfl ?_
      show Steps _ _ _ (T18.setTop (mkF m 48 #[.val (.ref x0), .val (.int (0 : Int32)), .val (.int idv), .val (.long usv), .second, .val (.int (1 : Int32)), .val (.int (5 : Int32)), .unset] [(.int (1 : Int32))])) _
      refine XS.iconst X18.here hx rfl (hb hby d12_48) ?_
      show Steps _ _ _ (T18.setTop (mkF m 49 #[.val (.ref x0), .val (.int (0 : Int32)), .val (.int idv), .val (.long usv), .second, .val (.int (1 : Int32)), .val (.int (5 : Int32)), .unset] [(.int (1 : Int32)), (.int (1 : Int32))])) _
      refine XS.iadd X18.here hx rfl (hb hby d12_49) rfl ?_
      show Steps _ _ _ (T18.setTop (mkF m 50 #[.val (.ref x0), .val (.int (0 : Int32)), .val (.int idv), .val (.long usv), .second, .val (.int (1 : Int32)), .val (.int (5 : Int32)), .unset] [(.int (2 : Int32))])) _
      refine XS.istore X18.here hx rfl (hb hby d12_50) rfl (l' := #[.val (.ref x0), .val (.int (0 : Int32)), .val (.int idv), .val (.long usv), .second, .val (.int (1 : Int32)), .val (.int (5 : Int32)), .val (.int (2 : Int32))]) rfl ?_
      exact Steps.refl _)
  have st21 : Steps p.tables e below sE (T18.setTop (mkF m 56 #[.val (.ref x0), .val (.int (0 : Int32)), .val (.int idv), .val (.long usv), .second, .val (.int (1 : Int32)), .val (.int (5 : Int32)), .val (.int (2 : Int32))] [(.int (5 : Int32)), (.int (2 : Int32))])) := st20.trans (by
      show Steps _ _ _ (T18.setTop (mkF m 52 #[.val (.ref x0), .val (.int (0 : Int32)), .val (.int idv), .val (.long usv), .second, .val (.int (1 : Int32)), .val (.int (5 : Int32)), .val (.int (2 : Int32))] [])) _
      refine XS.iload X18.here hx rfl (hb hby d12_52) rfl ?_
      show Steps _ _ _ (T18.setTop (mkF m 54 #[.val (.ref x0), .val (.int (0 : Int32)), .val (.int idv), .val (.long usv), .second, .val (.int (1 : Int32)), .val (.int (5 : Int32)), .val (.int (2 : Int32))] [(.int (2 : Int32))])) _
      refine XS.iload X18.here hx rfl (hb hby d12_54) rfl ?_
      exact Steps.refl _)
  have hf22 : (2 : Int32) < (5 : Int32) := by decide
  have st23 : Steps p.tables e below sE (T18.setTop (mkF m 60 #[.val (.ref x0), .val (.int (0 : Int32)), .val (.int idv), .val (.long usv), .second, .val (.int (1 : Int32)), .val (.int (5 : Int32)), .val (.int (2 : Int32))] [(.ref x0)])) := st21.trans (by
      show Steps _ _ _ (T18.setTop (mkF m 56 #[.val (.ref x0), .val (.int (0 : Int32)), .val (.int idv), .val (.long usv), .second, .val (.int (1 : Int32)), .val (.int (5 : Int32)), .val (.int (2 : Int32))] [(.int (5 : Int32)), (.int (2 : Int32))])) _
      refine XS.icmpNo X18.here hx rfl (hb hby d12_56) rfl (tlt hf22).2.1 ?_
      show Steps _ _ _ (T18.setTop (mkF m 59 #[.val (.ref x0), .val (.int (0 : Int32)), .val (.int idv), .val (.long usv), .second, .val (.int (1 : Int32)), .val (.int (5 : Int32)), .val (.int (2 : Int32))] [])) _
      refine XS.aloadN X18.here hx rfl (hb hby d12_59) rfl rfl ?_
      exact Steps.refl _)
  obtain ⟨T24, X24, e24, sr24⟩ := getF X18 hx hZ hown (host := "") (Or.inl (hw _ (List.mem_of_getElem? (i := 13) rfl))) Via.refl hh18 F_u (g := (mkF m 60 #[.val (.ref x0), .val (.int (0 : Int32)), .val (.int idv), .val (.long usv), .second, .val (.int (1 : Int32)), .val (.int (5 : Int32)), .val (.int (2 : Int32))] [(.ref x0)])) rfl rfl (hb hby d12_60)
  have st25 : Steps p.tables e below sE (T24.setTop (mkF m 63 #[.val (.ref x0), .val (.int (0 : Int32)), .val (.int idv), .val (.long usv), .second, .val (.int (1 : Int32)), .val (.int (5 : Int32)), .val (.int (2 : Int32))] [(.ref aU)])) := st23.trans (sr24 _ (Steps.refl _))
  obtain ⟨cl26, Ar26, q26, S26, N26, H26, G26⟩ := id A_u
  have hin26 : ¬ ((2 : Int32) < 0 ∨ cl26.slots.size ≤ ((2 : Int32)).toNatClampNeg) := inb_of S26 ⟨by decide, by decide⟩
  have hat26 : cl26.slots[((2 : Int32)).toNatClampNeg]? = some (.long (LU.getD ((2 : Int32)).toNatClampNeg 0)) := H26.at hin26 (own_getJ LU _)
  have st27 : Steps p.tables e below sE (T24.setTop (mkF m 67 #[.val (.ref x0), .val (.int (0 : Int32)), .val (.int idv), .val (.long usv), .second, .val (.int (1 : Int32)), .val (.int (5 : Int32)), .val (.int (2 : Int32))] [(.ref x0), (.long (LU.getD ((2 : Int32)).toNatClampNeg 0))])) := st25.trans (by
      show Steps _ _ _ (T24.setTop (mkF m 63 #[.val (.ref x0), .val (.int (0 : Int32)), .val (.int idv), .val (.long usv), .second, .val (.int (1 : Int32)), .val (.int (5 : Int32)), .val (.int (2 : Int32))] [(.ref aU)])) _
      refine XS.iload X24.here hx rfl (hb hby d12_63) rfl ?_
      show Steps _ _ _ (T24.setTop (mkF m 65 #[.val (.ref x0), .val (.int (0 : Int32)), .val (.int idv), .val (.long usv), .second, .val (.int (1 : Int32)), .val (.int (5 : Int32)), .val (.int (2 : Int32))] [(.int (2 : Int32)), (.ref aU)])) _
      refine X24.laload hx (j := (2 : Int32)) (v := (.long (LU.getD ((2 : Int32)).toNatClampNeg 0))) (by rw [e24]; exact Ar26.1) (State.isArrayOf_alike hZ.alike Ar26.2.1) Ar26.2.2 hin26 hat26 (g := (mkF m 65 #[.val (.ref x0), .val (.int (0 : Int32)), .val (.int idv), .val (.long usv), .second, .val (.int (1 : Int32)), .val (.int (5 : Int32)), .val (.int (2 : Int32))] [(.int (2 : Int32)), (.ref aU)])) rfl rfl (hb hby d12_65) _ ?_
      show Steps _ _ _ (T24.setTop (mkF m 66 #[.val (.ref x0), .val (.int (0 : Int32)), .val (.int idv), .val (.long usv), .second, .val (.int (1 : Int32)), .val (.int (5 : Int32)), .val (.int (2 : Int32))] [(.long (LU.getD ((2 : Int32)).toNatClampNeg 0))])) _
      refine XS.aloadN X24.here hx rfl (hb hby d12_66) rfl rfl ?_
      exact Steps.refl _)
  obtain ⟨T28, X28, e28, sr28⟩ := getF X24 hx hZ hown (host := "") (Or.inl (hw _ (List.mem_of_getElem? (i := 13) rfl))) Via.refl e24 F_u (g := (mkF m 67 #[.val (.ref x0), .val (.int (0 : Int32)), .val (.int idv), .val (.long usv), .second, .val (.int (1 : Int32)), .val (.int (5 : Int32)), .val (.int (2 : Int32))] [(.ref x0), (.long (LU.getD ((2 : Int32)).toNatClampNeg 0))])) rfl rfl (hb hby d12_67)
  have st29 : Steps p.tables e below sE (T28.setTop (mkF m 70 #[.val (.ref x0), .val (.int (0 : Int32)), .val (.int idv), .val (.long usv), .second, .val (.int (1 : Int32)), .val (.int (5 : Int32)), .val (.int (2 : Int32))] [(.ref aU), (.long (LU.getD ((2 : Int32)).toNatClampNeg 0))])) := st27.trans (sr28 _ (Steps.refl _))
  obtain ⟨cl30, Ar30, q30, S30, N30, H30, G30⟩ := id A_u
  have hin30 : ¬ ((1 : Int32) < 0 ∨ cl30.slots.size ≤ ((1 : Int32)).toNatClampNeg) := inb_of S30 ⟨by decide, by decide⟩
  have hat30 : cl30.slots[((1 : Int32)).toNatClampNeg]? = some (.long (LU.getD ((1 : Int32)).toNatClampNeg 0)) := H30.at hin30 (own_getJ LU _)
  have st31 : Steps p.tables e below sE (T28.setTop (mkF m 74 #[.val (.ref x0), .val (.int (0 : Int32)), .val (.int idv), .val (.long usv), .second, .val (.int (1 : Int32)), .val (.int (5 : Int32)), .val (.int (2 : Int32))] [(.int (lcmpW (LU.getD ((2 : Int32)).toNatClampNeg 0) (LU.getD ((1 : Int32)).toNatClampNeg 0)))])) := st29.trans (by
      show Steps _ _ _ (T28.setTop (mkF m 70 #[.val (.ref x0), .val (.int (0 : Int32)), .val (.int idv), .val (.long usv), .second, .val (.int (1 : Int32)), .val (.int (5 : Int32)), .val (.int (2 : Int32))] [(.ref aU), (.long (LU.getD ((2 : Int32)).toNatClampNeg 0))])) _
      refine XS.iload X28.here hx rfl (hb hby d12_70) rfl ?_
      show Steps _ _ _ (T28.setTop (mkF m 72 #[.val (.ref x0), .val (.int (0 : Int32)), .val (.int idv), .val (.long usv), .second, .val (.int (1 : Int32)), .val (.int (5 : Int32)), .val (.int (2 : Int32))] [(.int (1 : Int32)), (.ref aU), (.long (LU.getD ((2 : Int32)).toNatClampNeg 0))])) _
      refine X28.laload hx (j := (1 : Int32)) (v := (.long (LU.getD ((1 : Int32)).toNatClampNeg 0))) (by rw [e28]; exact Ar30.1) (State.isArrayOf_alike hZ.alike Ar30.2.1) Ar30.2.2 hin30 hat30 (g := (mkF m 72 #[.val (.ref x0), .val (.int (0 : Int32)), .val (.int idv), .val (.long usv), .second, .val (.int (1 : Int32)), .val (.int (5 : Int32)), .val (.int (2 : Int32))] [(.int (1 : Int32)), (.ref aU), (.long (LU.getD ((2 : Int32)).toNatClampNeg 0))])) rfl rfl (hb hby d12_72) _ ?_
      show Steps _ _ _ (T28.setTop (mkF m 73 #[.val (.ref x0), .val (.int (0 : Int32)), .val (.int idv), .val (.long usv), .second, .val (.int (1 : Int32)), .val (.int (5 : Int32)), .val (.int (2 : Int32))] [(.long (LU.getD ((1 : Int32)).toNatClampNeg 0)), (.long (LU.getD ((2 : Int32)).toNatClampNeg 0))])) _
      refine XS.lcmp X28.here hx rfl (hb hby d12_73) rfl ?_
      exact Steps.refl _)
  obtain ⟨T35, L35, ls2, X35, N35, e35, e_ls2, st35⟩ : ∃ (T' : State) (L' : List Loc) (ls2 : Int32), Stand p l e ({ frames := 1, cells := 0, slots := 0, locals := 16 } : Room) s m #[(.ref x0), (.int (0 : Int32))] below meth c T' L' 0 0 ∧ Fr n0 L' ∧ T'.heap = h0 ∧ ls2 = (if (LU.getD ((2 : Int32)).toNatClampNeg 0) < (LU.getD ((1 : Int32)).toNatClampNeg 0) then (2 : Int32) else (1 : Int32)) ∧ Steps p.tables e below sE (T'.setTop (mkF m 81 #[.val (.ref x0), .val (.int (0 : Int32)), .val (.int idv), .val (.long usv), .second, .val (.int ls2), .val (.int (5 : Int32)), .val (.int (2 : Int32))] [])) := by
    by_cases hc32 : (LU.getD ((2 : Int32)).toNatClampNeg 0) < (LU.getD ((1 : Int32)).toNatClampNeg 0)
    · have st33 : Steps p.tables e below sE (T28.setTop (mkF m 81 #[.val (.ref x0), .val (.int (0 : Int32)), .val (.int idv), .val (.long usv), .second, .val (.int (2 : Int32)), .val (.int (5 : Int32)), .val (.int (2 : Int32))] [])) := st31.trans (by
          show Steps _ _ _ (T28.setTop (mkF m 74 #[.val (.ref x0), .val (.int (0 : Int32)), .val (.int idv), .val (.long usv), .second, .val (.int (1 : Int32)), .val (.int (5 : Int32)), .val (.int (2 : Int32))] [(.int (lcmpW (LU.getD ((2 : Int32)).toNatClampNeg 0) (LU.getD ((1 : Int32)).toNatClampNeg 0)))])) _
          refine XS.ifNo X28.here hx rfl (hb hby d12_74) rfl ((if0 _ _).trans (tlt ((lw_lt _ _).mpr hc32)).2.1) ?_
          show Steps _ _ _ (T28.setTop (mkF m 77 #[.val (.ref x0), .val (.int (0 : Int32)), .val (.int idv), .val (.long usv), .second, .val (.int (1 : Int32)), .val (.int (5 : Int32)), .val (.int (2 : Int32))] [])) _
          refine XS.iload X28.here hx rfl (hb hby d12_77) rfl ?_
          show Steps _ _ _ (T28.setTop (mkF m 79 #[.val (.ref x0), .val (.int (0 : Int32)), .val (.int idv), .val (.long usv), .second, .val (.int (1 : Int32)), .val (.int (5 : Int32)), .val (.int (2 : Int32))] [(.int (2 : Int32))])) _
          refine XS.istore X28.here hx rfl (hb hby d12_79) rfl (l' := #[.val (.ref x0), .val (.int (0 : Int32)), .val (.int idv), .val (.long usv), .second, .val (.int (2 : Int32)), .val (.int (5 : Int32)), .val (.int (2 : Int32))]) rfl ?_
          exact Steps.refl _)
      exact ⟨T28, _, _, X28, N18, e28, (by rw [if_pos hc32]), st33⟩
    · have st34 : Steps p.tables e below sE (T28.setTop (mkF m 81 #[.val (.ref x0), .val (.int (0 : Int32)), .val (.int idv), .val (.long usv), .second, .val (.int (1 : Int32)), .val (.int (5 : Int32)), .val (.int (2 : Int32))] [])) := st31.trans (by
          show Steps _ _ _ (T28.setTop (mkF m 74 #[.val (.ref x0), .val (.int (0 : Int32)), .val (.int idv), .val (.long usv), .second, .val (.int (1 : Int32)), .val (.int (5 : Int32)), .val (.int (2 : Int32))] [(.int (lcmpW (LU.getD ((2 : Int32)).toNatClampNeg 0) (LU.getD ((1 : Int32)).toNatClampNeg 0)))])) _
          refine XS.ifYes X28.here hx rfl (pc0 := 74) (pc' := 81) rfl (hb hby d12_74) rfl ((if0 _ _).trans (flt (fun q => hc32 ((lw_lt _ _).mp q))).2.1) (by decide) (by decide) ?_
          exact Steps.refl _)
      exact ⟨T28, _, _, X28, N18, e28, (by rw [if_neg hc32]), st34⟩
  have st36 : Steps p.tables e below sE (T35.setTop (mkF m 52 #[.val (.ref x0), .val (.int (0 : Int32)), .val (.int idv), .val (.long usv), .second, .val (.int ls2), .val (.int (5 : Int32)), .val (.int (3 : Int32))] [])) := st35.trans (by
      show Steps _ _ _ (T35.setTop (mkF m 81 #[.val (.ref x0), .val (.int (0 : Int32)), .val (.int idv), .val (.long usv), .second, .val (.int ls2), .val (.int (5 : Int32)), .val (.int (2 : Int32))] [])) _
      refine XS.iinc X35.here hx rfl (hb hby d12_81) rfl (l' := #[.val (.ref x0), .val (.int (0 : Int32)), .val (.int idv), .val (.long usv), .second, .val (.int ls2), .val (.int (5 : Int32)), .val (.int (3 : Int32))]) rfl ?_
      show Steps _ _ _ (T35.setTop (mkF m 84 #[.val (.ref x0), .val (.int (0 : Int32)), .val (.int idv), .val (.long usv), .second, .val (.int ls2), .val (.int (5 : Int32)), .val (.int (3 : Int32))] [])) _
      refine XS.goto X35.here hx rfl (pc0 := 84) (pc' := 52) rfl (hb hby d12_84) (by decide) (by decide) ?_
      exact Steps.refl _)
  have hB2 := own_bs 2 (by decide) hB1 e_ls2
  have st37 : Steps p.tables e below sE (T35.setTop (mkF m 56 #[.val (.ref x0), .val (.int (0 : Int32)), .val (.int idv), .val (.long usv), .second, .val (.int ls2), .val (.int (5 : Int32)), .val (.int (3 : Int32))] [(.int (5 : Int32)), (.int (3 : Int32))])) := st36.trans (by
      show Steps _ _ _ (T35.setTop (mkF m 52 #[.val (.ref x0), .val (.int (0 : Int32)), .val (.int idv), .val (.long usv), .second, .val (.int ls2), .val (.int (5 : Int32)), .val (.int (3 : Int32))] [])) _
      refine XS.iload X35.here hx rfl (hb hby d12_52) rfl ?_
      show Steps _ _ _ (T35.setTop (mkF m 54 #[.val (.ref x0), .val (.int (0 : Int32)), .val (.int idv), .val (.long usv), .second, .val (.int ls2), .val (.int (5 : Int32)), .val (.int (3 : Int32))] [(.int (3 : Int32))])) _
      refine XS.iload X35.here hx rfl (hb hby d12_54) rfl ?_
      exact Steps.refl _)
  have hf38 : (3 : Int32) < (5 : Int32) := by decide
  have st39 : Steps p.tables e below sE (T35.setTop (mkF m 60 #[.val (.ref x0), .val (.int (0 : Int32)), .val (.int idv), .val (.long usv), .second, .val (.int ls2), .val (.int (5 : Int32)), .val (.int (3 : Int32))] [(.ref x0)])) := st37.trans (by
      show Steps _ _ _ (T35.setTop (mkF m 56 #[.val (.ref x0), .val (.int (0 : Int32)), .val (.int idv), .val (.long usv), .second, .val (.int ls2), .val (.int (5 : Int32)), .val (.int (3 : Int32))] [(.int (5 : Int32)), (.int (3 : Int32))])) _
      refine XS.icmpNo X35.here hx rfl (hb hby d12_56) rfl (tlt hf38).2.1 ?_
      show Steps _ _ _ (T35.setTop (mkF m 59 #[.val (.ref x0), .val (.int (0 : Int32)), .val (.int idv), .val (.long usv), .second, .val (.int ls2), .val (.int (5 : Int32)), .val (.int (3 : Int32))] [])) _
      refine XS.aloadN X35.here hx rfl (hb hby d12_59) rfl rfl ?_
      exact Steps.refl _)
  obtain ⟨T40, X40, e40, sr40⟩ := getF X35 hx hZ hown (host := "") (Or.inl (hw _ (List.mem_of_getElem? (i := 13) rfl))) Via.refl e35 F_u (g := (mkF m 60 #[.val (.ref x0), .val (.int (0 : Int32)), .val (.int idv), .val (.long usv), .second, .val (.int ls2), .val (.int (5 : Int32)), .val (.int (3 : Int32))] [(.ref x0)])) rfl rfl (hb hby d12_60)
  have st41 : Steps p.tables e below sE (T40.setTop (mkF m 63 #[.val (.ref x0), .val (.int (0 : Int32)), .val (.int idv), .val (.long usv), .second, .val (.int ls2), .val (.int (5 : Int32)), .val (.int (3 : Int32))] [(.ref aU)])) := st39.trans (sr40 _ (Steps.refl _))
  obtain ⟨cl42, Ar42, q42, S42, N42, H42, G42⟩ := id A_u
  have hin42 : ¬ ((3 : Int32) < 0 ∨ cl42.slots.size ≤ ((3 : Int32)).toNatClampNeg) := inb_of S42 ⟨by decide, by decide⟩
  have hat42 : cl42.slots[((3 : Int32)).toNatClampNeg]? = some (.long (LU.getD ((3 : Int32)).toNatClampNeg 0)) := H42.at hin42 (own_getJ LU _)
  have st43 : Steps p.tables e below sE (T40.setTop (mkF m 67 #[.val (.ref x0), .val (.int (0 : Int32)), .val (.int idv), .val (.long usv), .second, .val (.int ls2), .val (.int (5 : Int32)), .val (.int (3 : Int32))] [(.ref x0), (.long (LU.getD ((3 : Int32)).toNatClampNeg 0))])) := st41.trans (by
      show Steps _ _ _ (T40.setTop (mkF m 63 #[.val (.ref x0), .val (.int (0 : Int32)), .val (.int idv), .val (.long usv), .second, .val (.int ls2), .val (.int (5 : Int32)), .val (.int (3 : Int32))] [(.ref aU)])) _
      refine XS.iload X40.here hx rfl (hb hby d12_63) rfl ?_
      show Steps _ _ _ (T40.setTop (mkF m 65 #[.val (.ref x0), .val (.int (0 : Int32)), .val (.int idv), .val (.long usv), .second, .val (.int ls2), .val (.int (5 : Int32)), .val (.int (3 : Int32))] [(.int (3 : Int32)), (.ref aU)])) _
      refine X40.laload hx (j := (3 : Int32)) (v := (.long (LU.getD ((3 : Int32)).toNatClampNeg 0))) (by rw [e40]; exact Ar42.1) (State.isArrayOf_alike hZ.alike Ar42.2.1) Ar42.2.2 hin42 hat42 (g := (mkF m 65 #[.val (.ref x0), .val (.int (0 : Int32)), .val (.int idv), .val (.long usv), .second, .val (.int ls2), .val (.int (5 : Int32)), .val (.int (3 : Int32))] [(.int (3 : Int32)), (.ref aU)])) rfl rfl (hb hby d12_65) _ ?_
      show Steps _ _ _ (T40.setTop (mkF m 66 #[.val (.ref x0), .val (.int (0 : Int32)), .val (.int idv), .val (.long usv), .second, .val (.int ls2), .val (.int (5 : Int32)), .val (.int (3 : Int32))] [(.long (LU.getD ((3 : Int32)).toNatClampNeg 0))])) _
      refine XS.aloadN X40.here hx rfl (hb hby d12_66) rfl rfl ?_
      exact Steps.refl _)
  obtain ⟨T44, X44, e44, sr44⟩ := getF X40 hx hZ hown (host := "") (Or.inl (hw _ (List.mem_of_getElem? (i := 13) rfl))) Via.refl e40 F_u (g := (mkF m 67 #[.val (.ref x0), .val (.int (0 : Int32)), .val (.int idv), .val (.long usv), .second, .val (.int ls2), .val (.int (5 : Int32)), .val (.int (3 : Int32))] [(.ref x0), (.long (LU.getD ((3 : Int32)).toNatClampNeg 0))])) rfl rfl (hb hby d12_67)
  have st45 : Steps p.tables e below sE (T44.setTop (mkF m 70 #[.val (.ref x0), .val (.int (0 : Int32)), .val (.int idv), .val (.long usv), .second, .val (.int ls2), .val (.int (5 : Int32)), .val (.int (3 : Int32))] [(.ref aU), (.long (LU.getD ((3 : Int32)).toNatClampNeg 0))])) := st43.trans (sr44 _ (Steps.refl _))
  obtain ⟨cl46, Ar46, q46, S46, N46, H46, G46⟩ := id A_u
  have hin46 : ¬ (ls2 < 0 ∨ cl46.slots.size ≤ (ls2).toNatClampNeg) := inb_of S46 (own_i16 _ 5 (by decide) (own_Bb 5 hB2 (by decide)))
  have hat46 : cl46.slots[(ls2).toNatClampNeg]? = some (.long (LU.getD (ls2).toNatClampNeg 0)) := H46.at hin46 (own_getJ LU _)
  have st47 : Steps p.tables e below sE (T44.setTop (mkF m 74 #[.val (.ref x0), .val (.int (0 : Int32)), .val (.int idv), .val (.long usv), .second, .val (.int ls2), .val (.int (5 : Int32)), .val (.int (3 : Int32))] [(.int (lcmpW (LU.getD ((3 : Int32)).toNatClampNeg 0) (LU.getD (ls2).toNatClampNeg 0)))])) := st45.trans (by
      show Steps _ _ _ (T44.setTop (mkF m 70 #[.val (.ref x0), .val (.int (0 : Int32)), .val (.int idv), .val (.long usv), .second, .val (.int ls2), .val (.int (5 : Int32)), .val (.int (3 : Int32))] [(.ref aU), (.long (LU.getD ((3 : Int32)).toNatClampNeg 0))])) _
      refine XS.iload X44.here hx rfl (hb hby d12_70) rfl ?_
      show Steps _ _ _ (T44.setTop (mkF m 72 #[.val (.ref x0), .val (.int (0 : Int32)), .val (.int idv), .val (.long usv), .second, .val (.int ls2), .val (.int (5 : Int32)), .val (.int (3 : Int32))] [(.int ls2), (.ref aU), (.long (LU.getD ((3 : Int32)).toNatClampNeg 0))])) _
      refine X44.laload hx (j := ls2) (v := (.long (LU.getD (ls2).toNatClampNeg 0))) (by rw [e44]; exact Ar46.1) (State.isArrayOf_alike hZ.alike Ar46.2.1) Ar46.2.2 hin46 hat46 (g := (mkF m 72 #[.val (.ref x0), .val (.int (0 : Int32)), .val (.int idv), .val (.long usv), .second, .val (.int ls2), .val (.int (5 : Int32)), .val (.int (3 : Int32))] [(.int ls2), (.ref aU), (.long (LU.getD ((3 : Int32)).toNatClampNeg 0))])) rfl rfl (hb hby d12_72) _ ?_
      show Steps _ _ _ (T44.setTop (mkF m 73 #[.val (.ref x0), .val (.int (0 : Int32)), .val (.int idv), .val (.long usv), .second, .val (.int ls2), .val (.int (5 : Int32)), .val (.int (3 : Int32))] [(.long (LU.getD (ls2).toNatClampNeg 0)), (.long (LU.getD ((3 : Int32)).toNatClampNeg 0))])) _
      refine XS.lcmp X44.here hx rfl (hb hby d12_73) rfl ?_
      exact Steps.refl _)
  obtain ⟨T51, L51, ls3, X51, N51, e51, e_ls3, st51⟩ : ∃ (T' : State) (L' : List Loc) (ls3 : Int32), Stand p l e ({ frames := 1, cells := 0, slots := 0, locals := 16 } : Room) s m #[(.ref x0), (.int (0 : Int32))] below meth c T' L' 0 0 ∧ Fr n0 L' ∧ T'.heap = h0 ∧ ls3 = (if (LU.getD ((3 : Int32)).toNatClampNeg 0) < (LU.getD (ls2).toNatClampNeg 0) then (3 : Int32) else ls2) ∧ Steps p.tables e below sE (T'.setTop (mkF m 81 #[.val (.ref x0), .val (.int (0 : Int32)), .val (.int idv), .val (.long usv), .second, .val (.int ls3), .val (.int (5 : Int32)), .val (.int (3 : Int32))] [])) := by
    by_cases hc48 : (LU.getD ((3 : Int32)).toNatClampNeg 0) < (LU.getD (ls2).toNatClampNeg 0)
    · have st49 : Steps p.tables e below sE (T44.setTop (mkF m 81 #[.val (.ref x0), .val (.int (0 : Int32)), .val (.int idv), .val (.long usv), .second, .val (.int (3 : Int32)), .val (.int (5 : Int32)), .val (.int (3 : Int32))] [])) := st47.trans (by
          show Steps _ _ _ (T44.setTop (mkF m 74 #[.val (.ref x0), .val (.int (0 : Int32)), .val (.int idv), .val (.long usv), .second, .val (.int ls2), .val (.int (5 : Int32)), .val (.int (3 : Int32))] [(.int (lcmpW (LU.getD ((3 : Int32)).toNatClampNeg 0) (LU.getD (ls2).toNatClampNeg 0)))])) _
          refine XS.ifNo X44.here hx rfl (hb hby d12_74) rfl ((if0 _ _).trans (tlt ((lw_lt _ _).mpr hc48)).2.1) ?_
          show Steps _ _ _ (T44.setTop (mkF m 77 #[.val (.ref x0), .val (.int (0 : Int32)), .val (.int idv), .val (.long usv), .second, .val (.int ls2), .val (.int (5 : Int32)), .val (.int (3 : Int32))] [])) _
          refine XS.iload X44.here hx rfl (hb hby d12_77) rfl ?_
          show Steps _ _ _ (T44.setTop (mkF m 79 #[.val (.ref x0), .val (.int (0 : Int32)), .val (.int idv), .val (.long usv), .second, .val (.int ls2), .val (.int (5 : Int32)), .val (.int (3 : Int32))] [(.int (3 : Int32))])) _
          refine XS.istore X44.here hx rfl (hb hby d12_79) rfl (l' := #[.val (.ref x0), .val (.int (0 : Int32)), .val (.int idv), .val (.long usv), .second, .val (.int (3 : Int32)), .val (.int (5 : Int32)), .val (.int (3 : Int32))]) rfl ?_
          exact Steps.refl _)
      exact ⟨T44, _, _, X44, N35, e44, (by rw [if_pos hc48]), st49⟩
    · have st50 : Steps p.tables e below sE (T44.setTop (mkF m 81 #[.val (.ref x0), .val (.int (0 : Int32)), .val (.int idv), .val (.long usv), .second, .val (.int ls2), .val (.int (5 : Int32)), .val (.int (3 : Int32))] [])) := st47.trans (by
          show Steps _ _ _ (T44.setTop (mkF m 74 #[.val (.ref x0), .val (.int (0 : Int32)), .val (.int idv), .val (.long usv), .second, .val (.int ls2), .val (.int (5 : Int32)), .val (.int (3 : Int32))] [(.int (lcmpW (LU.getD ((3 : Int32)).toNatClampNeg 0) (LU.getD (ls2).toNatClampNeg 0)))])) _
          refine XS.ifYes X44.here hx rfl (pc0 := 74) (pc' := 81) rfl (hb hby d12_74) rfl ((if0 _ _).trans (flt (fun q => hc48 ((lw_lt _ _).mp q))).2.1) (by decide) (by decide) ?_
          exact Steps.refl _)
      exact ⟨T44, _, _, X44, N35, e44, (by rw [if_neg hc48]), st50⟩
  have st52 : Steps p.tables e below sE (T51.setTop (mkF m 52 #[.val (.ref x0), .val (.int (0 : Int32)), .val (.int idv), .val (.long usv), .second, .val (.int ls3), .val (.int (5 : Int32)), .val (.int (4 : Int32))] [])) := st51.trans (by
      show Steps _ _ _ (T51.setTop (mkF m 81 #[.val (.ref x0), .val (.int (0 : Int32)), .val (.int idv), .val (.long usv), .second, .val (.int ls3), .val (.int (5 : Int32)), .val (.int (3 : Int32))] [])) _
      refine XS.iinc X51.here hx rfl (hb hby d12_81) rfl (l' := #[.val (.ref x0), .val (.int (0 : Int32)), .val (.int idv), .val (.long usv), .second, .val (.int ls3), .val (.int (5 : Int32)), .val (.int (4 : Int32))]) rfl ?_
      show Steps _ _ _ (T51.setTop (mkF m 84 #[.val (.ref x0), .val (.int (0 : Int32)), .val (.int idv), .val (.long usv), .second, .val (.int ls3), .val (.int (5 : Int32)), .val (.int (4 : Int32))] [])) _
      refine XS.goto X51.here hx rfl (pc0 := 84) (pc' := 52) rfl (hb hby d12_84) (by decide) (by decide) ?_
      exact Steps.refl _)
  have hB3 := own_bs 3 (by decide) hB2 e_ls3
  have st53 : Steps p.tables e below sE (T51.setTop (mkF m 56 #[.val (.ref x0), .val (.int (0 : Int32)), .val (.int idv), .val (.long usv), .second, .val (.int ls3), .val (.int (5 : Int32)), .val (.int (4 : Int32))] [(.int (5 : Int32)), (.int (4 : Int32))])) := st52.trans (by
      show Steps _ _ _ (T51.setTop (mkF m 52 #[.val (.ref x0), .val (.int (0 : Int32)), .val (.int idv), .val (.long usv), .second, .val (.int ls3), .val (.int (5 : Int32)), .val (.int (4 : Int32))] [])) _
      refine XS.iload X51.here hx rfl (hb hby d12_52) rfl ?_
      show Steps _ _ _ (T51.setTop (mkF m 54 #[.val (.ref x0), .val (.int (0 : Int32)), .val (.int idv), .val (.long usv), .second, .val (.int ls3), .val (.int (5 : Int32)), .val (.int (4 : Int32))] [(.int (4 : Int32))])) _
      refine XS.iload X51.here hx rfl (hb hby d12_54) rfl ?_
      exact Steps.refl _)
  have hf54 : (4 : Int32) < (5 : Int32) := by decide
  have st55 : Steps p.tables e below sE (T51.setTop (mkF m 60 #[.val (.ref x0), .val (.int (0 : Int32)), .val (.int idv), .val (.long usv), .second, .val (.int ls3), .val (.int (5 : Int32)), .val (.int (4 : Int32))] [(.ref x0)])) := st53.trans (by
      show Steps _ _ _ (T51.setTop (mkF m 56 #[.val (.ref x0), .val (.int (0 : Int32)), .val (.int idv), .val (.long usv), .second, .val (.int ls3), .val (.int (5 : Int32)), .val (.int (4 : Int32))] [(.int (5 : Int32)), (.int (4 : Int32))])) _
      refine XS.icmpNo X51.here hx rfl (hb hby d12_56) rfl (tlt hf54).2.1 ?_
      show Steps _ _ _ (T51.setTop (mkF m 59 #[.val (.ref x0), .val (.int (0 : Int32)), .val (.int idv), .val (.long usv), .second, .val (.int ls3), .val (.int (5 : Int32)), .val (.int (4 : Int32))] [])) _
      refine XS.aloadN X51.here hx rfl (hb hby d12_59) rfl rfl ?_
      exact Steps.refl _)
  obtain ⟨T56, X56, e56, sr56⟩ := getF X51 hx hZ hown (host := "") (Or.inl (hw _ (List.mem_of_getElem? (i := 13) rfl))) Via.refl e51 F_u (g := (mkF m 60 #[.val (.ref x0), .val (.int (0 : Int32)), .val (.int idv), .val (.long usv), .second, .val (.int ls3), .val (.int (5 : Int32)), .val (.int (4 : Int32))] [(.ref x0)])) rfl rfl (hb hby d12_60)
  have st57 : Steps p.tables e below sE (T56.setTop (mkF m 63 #[.val (.ref x0), .val (.int (0 : Int32)), .val (.int idv), .val (.long usv), .second, .val (.int ls3), .val (.int (5 : Int32)), .val (.int (4 : Int32))] [(.ref aU)])) := st55.trans (sr56 _ (Steps.refl _))
  obtain ⟨cl58, Ar58, q58, S58, N58, H58, G58⟩ := id A_u
  have hin58 : ¬ ((4 : Int32) < 0 ∨ cl58.slots.size ≤ ((4 : Int32)).toNatClampNeg) := inb_of S58 ⟨by decide, by decide⟩
  have hat58 : cl58.slots[((4 : Int32)).toNatClampNeg]? = some (.long (LU.getD ((4 : Int32)).toNatClampNeg 0)) := H58.at hin58 (own_getJ LU _)
  have st59 : Steps p.tables e below sE (T56.setTop (mkF m 67 #[.val (.ref x0), .val (.int (0 : Int32)), .val (.int idv), .val (.long usv), .second, .val (.int ls3), .val (.int (5 : Int32)), .val (.int (4 : Int32))] [(.ref x0), (.long (LU.getD ((4 : Int32)).toNatClampNeg 0))])) := st57.trans (by
      show Steps _ _ _ (T56.setTop (mkF m 63 #[.val (.ref x0), .val (.int (0 : Int32)), .val (.int idv), .val (.long usv), .second, .val (.int ls3), .val (.int (5 : Int32)), .val (.int (4 : Int32))] [(.ref aU)])) _
      refine XS.iload X56.here hx rfl (hb hby d12_63) rfl ?_
      show Steps _ _ _ (T56.setTop (mkF m 65 #[.val (.ref x0), .val (.int (0 : Int32)), .val (.int idv), .val (.long usv), .second, .val (.int ls3), .val (.int (5 : Int32)), .val (.int (4 : Int32))] [(.int (4 : Int32)), (.ref aU)])) _
      refine X56.laload hx (j := (4 : Int32)) (v := (.long (LU.getD ((4 : Int32)).toNatClampNeg 0))) (by rw [e56]; exact Ar58.1) (State.isArrayOf_alike hZ.alike Ar58.2.1) Ar58.2.2 hin58 hat58 (g := (mkF m 65 #[.val (.ref x0), .val (.int (0 : Int32)), .val (.int idv), .val (.long usv), .second, .val (.int ls3), .val (.int (5 : Int32)), .val (.int (4 : Int32))] [(.int (4 : Int32)), (.ref aU)])) rfl rfl (hb hby d12_65) _ ?_
      show Steps _ _ _ (T56.setTop (mkF m 66 #[.val (.ref x0), .val (.int (0 : Int32)), .val (.int idv), .val (.long usv), .second, .val (.int ls3), .val (.int (5 : Int32)), .val (.int (4 : Int32))] [(.long (LU.getD ((4 : Int32)).toNatClampNeg 0))])) _
      refine XS.aloadN X56.here hx rfl (hb hby d12_66) rfl rfl ?_
      exact Steps.refl _)
  obtain ⟨T60, X60, e60, sr60⟩ := getF X56 hx hZ hown (host := "") (Or.inl (hw _ (List.mem_of_getElem? (i := 13) rfl))) Via.refl e56 F_u (g := (mkF m 67 #[.val (.ref x0), .val (.int (0 : Int32)), .val (.int idv), .val (.long usv), .second, .val (.int ls3), .val (.int (5 : Int32)), .val (.int (4 : Int32))] [(.ref x0), (.long (LU.getD ((4 : Int32)).toNatClampNeg 0))])) rfl rfl (hb hby d12_67)
  have st61 : Steps p.tables e below sE (T60.setTop (mkF m 70 #[.val (.ref x0), .val (.int (0 : Int32)), .val (.int idv), .val (.long usv), .second, .val (.int ls3), .val (.int (5 : Int32)), .val (.int (4 : Int32))] [(.ref aU), (.long (LU.getD ((4 : Int32)).toNatClampNeg 0))])) := st59.trans (sr60 _ (Steps.refl _))
  obtain ⟨cl62, Ar62, q62, S62, N62, H62, G62⟩ := id A_u
  have hin62 : ¬ (ls3 < 0 ∨ cl62.slots.size ≤ (ls3).toNatClampNeg) := inb_of S62 (own_i16 _ 5 (by decide) (own_Bb 5 hB3 (by decide)))
  have hat62 : cl62.slots[(ls3).toNatClampNeg]? = some (.long (LU.getD (ls3).toNatClampNeg 0)) := H62.at hin62 (own_getJ LU _)
  have st63 : Steps p.tables e below sE (T60.setTop (mkF m 74 #[.val (.ref x0), .val (.int (0 : Int32)), .val (.int idv), .val (.long usv), .second, .val (.int ls3), .val (.int (5 : Int32)), .val (.int (4 : Int32))] [(.int (lcmpW (LU.getD ((4 : Int32)).toNatClampNeg 0) (LU.getD (ls3).toNatClampNeg 0)))])) := st61.trans (by
      show Steps _ _ _ (T60.setTop (mkF m 70 #[.val (.ref x0), .val (.int (0 : Int32)), .val (.int idv), .val (.long usv), .second, .val (.int ls3), .val (.int (5 : Int32)), .val (.int (4 : Int32))] [(.ref aU), (.long (LU.getD ((4 : Int32)).toNatClampNeg 0))])) _
      refine XS.iload X60.here hx rfl (hb hby d12_70) rfl ?_
      show Steps _ _ _ (T60.setTop (mkF m 72 #[.val (.ref x0), .val (.int (0 : Int32)), .val (.int idv), .val (.long usv), .second, .val (.int ls3), .val (.int (5 : Int32)), .val (.int (4 : Int32))] [(.int ls3), (.ref aU), (.long (LU.getD ((4 : Int32)).toNatClampNeg 0))])) _
      refine X60.laload hx (j := ls3) (v := (.long (LU.getD (ls3).toNatClampNeg 0))) (by rw [e60]; exact Ar62.1) (State.isArrayOf_alike hZ.alike Ar62.2.1) Ar62.2.2 hin62 hat62 (g := (mkF m 72 #[.val (.ref x0), .val (.int (0 : Int32)), .val (.int idv), .val (.long usv), .second, .val (.int ls3), .val (.int (5 : Int32)), .val (.int (4 : Int32))] [(.int ls3), (.ref aU), (.long (LU.getD ((4 : Int32)).toNatClampNeg 0))])) rfl rfl (hb hby d12_72) _ ?_
      show Steps _ _ _ (T60.setTop (mkF m 73 #[.val (.ref x0), .val (.int (0 : Int32)), .val (.int idv), .val (.long usv), .second, .val (.int ls3), .val (.int (5 : Int32)), .val (.int (4 : Int32))] [(.long (LU.getD (ls3).toNatClampNeg 0)), (.long (LU.getD ((4 : Int32)).toNatClampNeg 0))])) _
      refine XS.lcmp X60.here hx rfl (hb hby d12_73) rfl ?_
      exact Steps.refl _)
  obtain ⟨T67, L67, ls4, X67, N67, e67, e_ls4, st67⟩ : ∃ (T' : State) (L' : List Loc) (ls4 : Int32), Stand p l e ({ frames := 1, cells := 0, slots := 0, locals := 16 } : Room) s m #[(.ref x0), (.int (0 : Int32))] below meth c T' L' 0 0 ∧ Fr n0 L' ∧ T'.heap = h0 ∧ ls4 = (if (LU.getD ((4 : Int32)).toNatClampNeg 0) < (LU.getD (ls3).toNatClampNeg 0) then (4 : Int32) else ls3) ∧ Steps p.tables e below sE (T'.setTop (mkF m 81 #[.val (.ref x0), .val (.int (0 : Int32)), .val (.int idv), .val (.long usv), .second, .val (.int ls4), .val (.int (5 : Int32)), .val (.int (4 : Int32))] [])) := by
    by_cases hc64 : (LU.getD ((4 : Int32)).toNatClampNeg 0) < (LU.getD (ls3).toNatClampNeg 0)
    · have st65 : Steps p.tables e below sE (T60.setTop (mkF m 81 #[.val (.ref x0), .val (.int (0 : Int32)), .val (.int idv), .val (.long usv), .second, .val (.int (4 : Int32)), .val (.int (5 : Int32)), .val (.int (4 : Int32))] [])) := st63.trans (by
          show Steps _ _ _ (T60.setTop (mkF m 74 #[.val (.ref x0), .val (.int (0 : Int32)), .val (.int idv), .val (.long usv), .second, .val (.int ls3), .val (.int (5 : Int32)), .val (.int (4 : Int32))] [(.int (lcmpW (LU.getD ((4 : Int32)).toNatClampNeg 0) (LU.getD (ls3).toNatClampNeg 0)))])) _
          refine XS.ifNo X60.here hx rfl (hb hby d12_74) rfl ((if0 _ _).trans (tlt ((lw_lt _ _).mpr hc64)).2.1) ?_
          show Steps _ _ _ (T60.setTop (mkF m 77 #[.val (.ref x0), .val (.int (0 : Int32)), .val (.int idv), .val (.long usv), .second, .val (.int ls3), .val (.int (5 : Int32)), .val (.int (4 : Int32))] [])) _
          refine XS.iload X60.here hx rfl (hb hby d12_77) rfl ?_
          show Steps _ _ _ (T60.setTop (mkF m 79 #[.val (.ref x0), .val (.int (0 : Int32)), .val (.int idv), .val (.long usv), .second, .val (.int ls3), .val (.int (5 : Int32)), .val (.int (4 : Int32))] [(.int (4 : Int32))])) _
          refine XS.istore X60.here hx rfl (hb hby d12_79) rfl (l' := #[.val (.ref x0), .val (.int (0 : Int32)), .val (.int idv), .val (.long usv), .second, .val (.int (4 : Int32)), .val (.int (5 : Int32)), .val (.int (4 : Int32))]) rfl ?_
          exact Steps.refl _)
      exact ⟨T60, _, _, X60, N51, e60, (by rw [if_pos hc64]), st65⟩
    · have st66 : Steps p.tables e below sE (T60.setTop (mkF m 81 #[.val (.ref x0), .val (.int (0 : Int32)), .val (.int idv), .val (.long usv), .second, .val (.int ls3), .val (.int (5 : Int32)), .val (.int (4 : Int32))] [])) := st63.trans (by
          show Steps _ _ _ (T60.setTop (mkF m 74 #[.val (.ref x0), .val (.int (0 : Int32)), .val (.int idv), .val (.long usv), .second, .val (.int ls3), .val (.int (5 : Int32)), .val (.int (4 : Int32))] [(.int (lcmpW (LU.getD ((4 : Int32)).toNatClampNeg 0) (LU.getD (ls3).toNatClampNeg 0)))])) _
          refine XS.ifYes X60.here hx rfl (pc0 := 74) (pc' := 81) rfl (hb hby d12_74) rfl ((if0 _ _).trans (flt (fun q => hc64 ((lw_lt _ _).mp q))).2.1) (by decide) (by decide) ?_
          exact Steps.refl _)
      exact ⟨T60, _, _, X60, N51, e60, (by rw [if_neg hc64]), st66⟩
  have st68 : Steps p.tables e below sE (T67.setTop (mkF m 52 #[.val (.ref x0), .val (.int (0 : Int32)), .val (.int idv), .val (.long usv), .second, .val (.int ls4), .val (.int (5 : Int32)), .val (.int (5 : Int32))] [])) := st67.trans (by
      show Steps _ _ _ (T67.setTop (mkF m 81 #[.val (.ref x0), .val (.int (0 : Int32)), .val (.int idv), .val (.long usv), .second, .val (.int ls4), .val (.int (5 : Int32)), .val (.int (4 : Int32))] [])) _
      refine XS.iinc X67.here hx rfl (hb hby d12_81) rfl (l' := #[.val (.ref x0), .val (.int (0 : Int32)), .val (.int idv), .val (.long usv), .second, .val (.int ls4), .val (.int (5 : Int32)), .val (.int (5 : Int32))]) rfl ?_
      show Steps _ _ _ (T67.setTop (mkF m 84 #[.val (.ref x0), .val (.int (0 : Int32)), .val (.int idv), .val (.long usv), .second, .val (.int ls4), .val (.int (5 : Int32)), .val (.int (5 : Int32))] [])) _
      refine XS.goto X67.here hx rfl (pc0 := 84) (pc' := 52) rfl (hb hby d12_84) (by decide) (by decide) ?_
      exact Steps.refl _)
  have hB4 := own_bs 4 (by decide) hB3 e_ls4
  have st69 : Steps p.tables e below sE (T67.setTop (mkF m 56 #[.val (.ref x0), .val (.int (0 : Int32)), .val (.int idv), .val (.long usv), .second, .val (.int ls4), .val (.int (5 : Int32)), .val (.int (5 : Int32))] [(.int (5 : Int32)), (.int (5 : Int32))])) := st68.trans (by
      show Steps _ _ _ (T67.setTop (mkF m 52 #[.val (.ref x0), .val (.int (0 : Int32)), .val (.int idv), .val (.long usv), .second, .val (.int ls4), .val (.int (5 : Int32)), .val (.int (5 : Int32))] [])) _
      refine XS.iload X67.here hx rfl (hb hby d12_52) rfl ?_
      show Steps _ _ _ (T67.setTop (mkF m 54 #[.val (.ref x0), .val (.int (0 : Int32)), .val (.int idv), .val (.long usv), .second, .val (.int ls4), .val (.int (5 : Int32)), .val (.int (5 : Int32))] [(.int (5 : Int32))])) _
      refine XS.iload X67.here hx rfl (hb hby d12_54) rfl ?_
      exact Steps.refl _)
  have hf70 : ¬ ((5 : Int32) < (5 : Int32)) := by decide
  have st71 : Steps p.tables e below sE (T67.setTop (mkF m 89 #[.val (.ref x0), .val (.int (0 : Int32)), .val (.int idv), .val (.long usv), .second, .val (.int ls4), .val (.int (5 : Int32)), .val (.int (5 : Int32))] [(.ref x0), (.long usv)])) := st69.trans (by
      show Steps _ _ _ (T67.setTop (mkF m 56 #[.val (.ref x0), .val (.int (0 : Int32)), .val (.int idv), .val (.long usv), .second, .val (.int ls4), .val (.int (5 : Int32)), .val (.int (5 : Int32))] [(.int (5 : Int32)), (.int (5 : Int32))])) _
      refine XS.icmpYes X67.here hx rfl (pc0 := 56) (pc' := 87) rfl (hb hby d12_56) rfl (flt hf70).2.1 (by decide) (by decide) ?_
      show Steps _ _ _ (T67.setTop (mkF m 87 #[.val (.ref x0), .val (.int (0 : Int32)), .val (.int idv), .val (.long usv), .second, .val (.int ls4), .val (.int (5 : Int32)), .val (.int (5 : Int32))] [])) _
      refine XS.lloadN X67.here hx rfl (hb hby d12_87) rfl ?_
      show Steps _ _ _ (T67.setTop (mkF m 88 #[.val (.ref x0), .val (.int (0 : Int32)), .val (.int idv), .val (.long usv), .second, .val (.int ls4), .val (.int (5 : Int32)), .val (.int (5 : Int32))] [(.long usv)])) _
      refine XS.aloadN X67.here hx rfl (hb hby d12_88) rfl rfl ?_
      exact Steps.refl _)
  obtain ⟨T72, X72, e72, sr72⟩ := getF X67 hx hZ hown (host := "") (Or.inl (hw _ (List.mem_of_getElem? (i := 13) rfl))) Via.refl e67 F_u (g := (mkF m 89 #[.val (.ref x0), .val (.int (0 : Int32)), .val (.int idv), .val (.long usv), .second, .val (.int ls4), .val (.int (5 : Int32)), .val (.int (5 : Int32))] [(.ref x0), (.long usv)])) rfl rfl (hb hby d12_89)
  have st73 : Steps p.tables e below sE (T72.setTop (mkF m 92 #[.val (.ref x0), .val (.int (0 : Int32)), .val (.int idv), .val (.long usv), .second, .val (.int ls4), .val (.int (5 : Int32)), .val (.int (5 : Int32))] [(.ref aU), (.long usv)])) := st71.trans (sr72 _ (Steps.refl _))
  obtain ⟨cl74, Ar74, q74, S74, N74, H74, G74⟩ := id A_u
  have hin74 : ¬ (ls4 < 0 ∨ cl74.slots.size ≤ (ls4).toNatClampNeg) := inb_of S74 (own_i16 _ 5 (by decide) (own_Bb 5 hB4 (by decide)))
  have hat74 : cl74.slots[(ls4).toNatClampNeg]? = some (.long (LU.getD (ls4).toNatClampNeg 0)) := H74.at hin74 (own_getJ LU _)
  have st75 : Steps p.tables e below sE (T72.setTop (mkF m 96 #[.val (.ref x0), .val (.int (0 : Int32)), .val (.int idv), .val (.long usv), .second, .val (.int ls4), .val (.int (5 : Int32)), .val (.int (5 : Int32))] [(.int (lcmpW usv (LU.getD (ls4).toNatClampNeg 0)))])) := st73.trans (by
      show Steps _ _ _ (T72.setTop (mkF m 92 #[.val (.ref x0), .val (.int (0 : Int32)), .val (.int idv), .val (.long usv), .second, .val (.int ls4), .val (.int (5 : Int32)), .val (.int (5 : Int32))] [(.ref aU), (.long usv)])) _
      refine XS.iload X72.here hx rfl (hb hby d12_92) rfl ?_
      show Steps _ _ _ (T72.setTop (mkF m 94 #[.val (.ref x0), .val (.int (0 : Int32)), .val (.int idv), .val (.long usv), .second, .val (.int ls4), .val (.int (5 : Int32)), .val (.int (5 : Int32))] [(.int ls4), (.ref aU), (.long usv)])) _
      refine X72.laload hx (j := ls4) (v := (.long (LU.getD (ls4).toNatClampNeg 0))) (by rw [e72]; exact Ar74.1) (State.isArrayOf_alike hZ.alike Ar74.2.1) Ar74.2.2 hin74 hat74 (g := (mkF m 94 #[.val (.ref x0), .val (.int (0 : Int32)), .val (.int idv), .val (.long usv), .second, .val (.int ls4), .val (.int (5 : Int32)), .val (.int (5 : Int32))] [(.int ls4), (.ref aU), (.long usv)])) rfl rfl (hb hby d12_94) _ ?_
      show Steps _ _ _ (T72.setTop (mkF m 95 #[.val (.ref x0), .val (.int (0 : Int32)), .val (.int idv), .val (.long usv), .second, .val (.int ls4), .val (.int (5 : Int32)), .val (.int (5 : Int32))] [(.long (LU.getD (ls4).toNatClampNeg 0)), (.long usv)])) _
      refine XS.lcmp X72.here hx rfl (hb hby d12_95) rfl ?_
      exact Steps.refl _)
  by_cases hc76 : (LU.getD (ls4).toNatClampNeg 0) < usv
  · have st77 : Steps p.tables e below sE (T72.setTop (mkF m 104 #[.val (.ref x0), .val (.int (0 : Int32)), .val (.int idv), .val (.long usv), .second, .val (.int ls4), .val (.int (5 : Int32)), .val (.int (5 : Int32))] [(.ref x0), (.ref x0)])) := st75.trans (by
        show Steps _ _ _ (T72.setTop (mkF m 96 #[.val (.ref x0), .val (.int (0 : Int32)), .val (.int idv), .val (.long usv), .second, .val (.int ls4), .val (.int (5 : Int32)), .val (.int (5 : Int32))] [(.int (lcmpW usv (LU.getD (ls4).toNatClampNeg 0)))])) _
        refine XS.ifYes X72.here hx rfl (pc0 := 96) (pc' := 102) rfl (hb hby d12_96) rfl ((if0 _ _).trans (tlt ((lw_gt _ _).mpr hc76)).2.2.1) (by decide) (by decide) ?_
        show Steps _ _ _ (T72.setTop (mkF m 102 #[.val (.ref x0), .val (.int (0 : Int32)), .val (.int idv), .val (.long usv), .second, .val (.int ls4), .val (.int (5 : Int32)), .val (.int (5 : Int32))] [])) _
        refine XS.aloadN X72.here hx rfl (hb hby d12_102) rfl rfl ?_
        show Steps _ _ _ (T72.setTop (mkF m 103 #[.val (.ref x0), .val (.int (0 : Int32)), .val (.int idv), .val (.long usv), .second, .val (.int ls4), .val (.int (5 : Int32)), .val (.int (5 : Int32))] [(.ref x0)])) _
        refine XS.aloadN X72.here hx rfl (hb hby d12_103) rfl rfl ?_
        exact Steps.refl _)
    obtain ⟨T78, X78, e78, sr78⟩ := getF X72 hx hZ hown (host := "") (Or.inl (hw _ (List.mem_of_getElem? (i := 11) rfl))) Via.refl e72 F_i (g := (mkF m 104 #[.val (.ref x0), .val (.int (0 : Int32)), .val (.int idv), .val (.long usv), .second, .val (.int ls4), .val (.int (5 : Int32)), .val (.int (5 : Int32))] [(.ref x0), (.ref x0)])) rfl rfl (hb hby d12_104)
    have st79 : Steps p.tables e below sE (T78.setTop (mkF m 107 #[.val (.ref x0), .val (.int (0 : Int32)), .val (.int idv), .val (.long usv), .second, .val (.int ls4), .val (.int (5 : Int32)), .val (.int (5 : Int32))] [(.ref aI), (.ref x0)])) := st77.trans (sr78 _ (Steps.refl _))
    obtain ⟨cl80, Ar80, q80, S80, N80, H80, G80⟩ := id A_i
    have hin80 : ¬ (ls4 < 0 ∨ cl80.slots.size ≤ (ls4).toNatClampNeg) := inb_of S80 (own_i16 _ 5 (by decide) (own_Bb 5 hB4 (by decide)))
    have hat80 : cl80.slots[(ls4).toNatClampNeg]? = some (.int (LI.getD (ls4).toNatClampNeg 0)) := H80.at hin80 (own_getI LI _)
    have st81 : Steps p.tables e below sE (T78.setTop (mkF m 111 #[.val (.ref x0), .val (.int (0 : Int32)), .val (.int idv), .val (.long usv), .second, .val (.int ls4), .val (.int (5 : Int32)), .val (.int (5 : Int32))] [(.ref x0), (.int (LI.getD (ls4).toNatClampNeg 0)), (.ref x0)])) := st79.trans (by
        show Steps _ _ _ (T78.setTop (mkF m 107 #[.val (.ref x0), .val (.int (0 : Int32)), .val (.int idv), .val (.long usv), .second, .val (.int ls4), .val (.int (5 : Int32)), .val (.int (5 : Int32))] [(.ref aI), (.ref x0)])) _
        refine XS.iload X78.here hx rfl (hb hby d12_107) rfl ?_
        show Steps _ _ _ (T78.setTop (mkF m 109 #[.val (.ref x0), .val (.int (0 : Int32)), .val (.int idv), .val (.long usv), .second, .val (.int ls4), .val (.int (5 : Int32)), .val (.int (5 : Int32))] [(.int ls4), (.ref aI), (.ref x0)])) _
        refine X78.iaload hx (j := ls4) (v := (.int (LI.getD (ls4).toNatClampNeg 0))) (by rw [e78]; exact Ar80.1) (State.isArrayOf_alike hZ.alike Ar80.2.1) Ar80.2.2 hin80 hat80 (g := (mkF m 109 #[.val (.ref x0), .val (.int (0 : Int32)), .val (.int idv), .val (.long usv), .second, .val (.int ls4), .val (.int (5 : Int32)), .val (.int (5 : Int32))] [(.int ls4), (.ref aI), (.ref x0)])) rfl rfl (hb hby d12_109) _ ?_
        show Steps _ _ _ (T78.setTop (mkF m 110 #[.val (.ref x0), .val (.int (0 : Int32)), .val (.int idv), .val (.long usv), .second, .val (.int ls4), .val (.int (5 : Int32)), .val (.int (5 : Int32))] [(.int (LI.getD (ls4).toNatClampNeg 0)), (.ref x0)])) _
        refine XS.aloadN X78.here hx rfl (hb hby d12_110) rfl rfl ?_
        exact Steps.refl _)
    obtain ⟨T82, X82, e82, sr82⟩ := getF X78 hx hZ hown (host := "") (Or.inl (hw _ (List.mem_of_getElem? (i := 13) rfl))) Via.refl e78 F_u (g := (mkF m 111 #[.val (.ref x0), .val (.int (0 : Int32)), .val (.int idv), .val (.long usv), .second, .val (.int ls4), .val (.int (5 : Int32)), .val (.int (5 : Int32))] [(.ref x0), (.int (LI.getD (ls4).toNatClampNeg 0)), (.ref x0)])) rfl rfl (hb hby d12_111)
    have st83 : Steps p.tables e below sE (T82.setTop (mkF m 114 #[.val (.ref x0), .val (.int (0 : Int32)), .val (.int idv), .val (.long usv), .second, .val (.int ls4), .val (.int (5 : Int32)), .val (.int (5 : Int32))] [(.ref aU), (.int (LI.getD (ls4).toNatClampNeg 0)), (.ref x0)])) := st81.trans (sr82 _ (Steps.refl _))
    obtain ⟨cl84, Ar84, q84, S84, N84, H84, G84⟩ := id A_u
    have hin84 : ¬ (ls4 < 0 ∨ cl84.slots.size ≤ (ls4).toNatClampNeg) := inb_of S84 (own_i16 _ 5 (by decide) (own_Bb 5 hB4 (by decide)))
    have hat84 : cl84.slots[(ls4).toNatClampNeg]? = some (.long (LU.getD (ls4).toNatClampNeg 0)) := H84.at hin84 (own_getJ LU _)
    have st85 : Steps p.tables e below sE (T82.setTop (mkF m 118 #[.val (.ref x0), .val (.int (0 : Int32)), .val (.int idv), .val (.long usv), .second, .val (.int ls4), .val (.int (5 : Int32)), .val (.int (5 : Int32))] [(.int (0 : Int32)), (.long (LU.getD (ls4).toNatClampNeg 0)), (.int (LI.getD (ls4).toNatClampNeg 0)), (.ref x0)])) := st83.trans (by
        show Steps _ _ _ (T82.setTop (mkF m 114 #[.val (.ref x0), .val (.int (0 : Int32)), .val (.int idv), .val (.long usv), .second, .val (.int ls4), .val (.int (5 : Int32)), .val (.int (5 : Int32))] [(.ref aU), (.int (LI.getD (ls4).toNatClampNeg 0)), (.ref x0)])) _
        refine XS.iload X82.here hx rfl (hb hby d12_114) rfl ?_
        show Steps _ _ _ (T82.setTop (mkF m 116 #[.val (.ref x0), .val (.int (0 : Int32)), .val (.int idv), .val (.long usv), .second, .val (.int ls4), .val (.int (5 : Int32)), .val (.int (5 : Int32))] [(.int ls4), (.ref aU), (.int (LI.getD (ls4).toNatClampNeg 0)), (.ref x0)])) _
        refine X82.laload hx (j := ls4) (v := (.long (LU.getD (ls4).toNatClampNeg 0))) (by rw [e82]; exact Ar84.1) (State.isArrayOf_alike hZ.alike Ar84.2.1) Ar84.2.2 hin84 hat84 (g := (mkF m 116 #[.val (.ref x0), .val (.int (0 : Int32)), .val (.int idv), .val (.long usv), .second, .val (.int ls4), .val (.int (5 : Int32)), .val (.int (5 : Int32))] [(.int ls4), (.ref aU), (.int (LI.getD (ls4).toNatClampNeg 0)), (.ref x0)])) rfl rfl (hb hby d12_116) _ ?_
        show Steps _ _ _ (T82.setTop (mkF m 117 #[.val (.ref x0), .val (.int (0 : Int32)), .val (.int idv), .val (.long usv), .second, .val (.int ls4), .val (.int (5 : Int32)), .val (.int (5 : Int32))] [(.long (LU.getD (ls4).toNatClampNeg 0)), (.int (LI.getD (ls4).toNatClampNeg 0)), (.ref x0)])) _
        refine XS.iloadN X82.here hx rfl (hb hby d12_117) rfl ?_
        exact Steps.refl _)
    have hidc := own_idb hP ls4.toNatClampNeg (own_nb ls4 5 (own_Bb 5 hB4 (by decide)))
    obtain ⟨cq86, q86, q86'⟩ := E_x.cell
    obtain ⟨_, _, ⟨T86, L86, k86, n86⟩, -, X86, ⟨Lc86, hQ86, l86, y86, z86⟩, sr86⟩ := X82.privateBack hx (y := (⟨"com/example/folioseek/folioseek/UseOrder", "place", "(IJI)V"⟩ : MethodName)) hown (mvT hZ (hw _ (List.mem_of_getElem? (i := 45) rfl))) (mvT hZ (hw _ (List.mem_of_getElem? (i := 46) rfl))) (own_selp (z := (⟨"com/example/folioseek/folioseek/UseOrder", "add", "(IJ)V"⟩ : MethodName)) rfl (notFace_of_selects (args := #[]) (mvT hZ (hw _ (List.mem_of_getElem? (i := 20) rfl)))) (args' := #[]) (mvT hZ (hw _ (List.mem_of_getElem? (i := 19) rfl))) (Cond.privateMethod_at (mvP hZ (hw _ (List.mem_of_getElem? (i := 47) rfl)) (args := #[]))) (mvT hZ (hw _ (List.mem_of_getElem? (i := 46) rfl))) (by decide)) (Cond.privateMethod_at (mvP hZ (hw _ (List.mem_of_getElem? (i := 47) rfl)) (args := #[]))) (mvT hZ (hw _ (List.mem_of_getElem? (i := 48) rfl))) (by decide) (backOf (W := 0) (rm9 l Z a0 hw [] x0 (LI.getD (ls4).toNatClampNeg 0) (LU.getD (ls4).toNatClampNeg 0) (0 : Int32) aI aU aS kI kU kS LI LU LS mm h0 n0 Z0 F_i F_u F_s A_i A_u A_s (by decide) hidc.1 ⟨hP.1, hP.2.1, by decide, hidc.2⟩ g_i g_u g_s ne_iu ne_is ne_us ne_xi ne_xu ne_xs) hZ (hw _ (List.mem_of_getElem? (i := 48) rfl)) (hw _ (List.mem_of_getElem? (i := 3) rfl)) (by decide) (by decide)) (g := (mkF m 118 #[.val (.ref x0), .val (.int (0 : Int32)), .val (.int idv), .val (.long usv), .second, .val (.int ls4), .val (.int (5 : Int32)), .val (.int (5 : Int32))] [(.int (0 : Int32)), (.long (LU.getD (ls4).toNatClampNeg 0)), (.int (LI.getD (ls4).toNatClampNeg 0)), (.ref x0)])) rfl (by rw [hml]; rfl) (Steps.refl _) (a := x0) (by rw [e82]; exact q86) q86' (argsL := [(.int (LI.getD (ls4).toNatClampNeg 0)), (.long (LU.getD (ls4).toNatClampNeg 0)), (.int (0 : Int32))]) (rest := []) (lenOf pd_0 rfl) rfl (by show 2 * 0 + _ ≤ _; exact Nat.le_of_eq rfl) (hb hby d12_118) (fun _ _ => ⟨rfl, e82, (by decide : 0 + 0 ≤ _), (by decide : 0 + 0 ≤ _)⟩)
    dsimp only [Pt.U, Pt.locs, Pt.cells, Pt.slots] at X86 l86 y86 z86 sr86 hQ86
    subst l86 y86 z86
    obtain ⟨rfl, N86q, K86c, f86_0, f86_1, f86_2⟩ := hQ86
    have N86 := Fr.app N67 N86q
    obtain ⟨LL86, X86, N86⟩ := own_hide X86 N86
    have f87 : Exa Z T86.heap x0 "com/example/folioseek/folioseek/UseOrder" := E_x.keep K86c
    have f88 : Fld Z T86.heap x0 "com/example/folioseek/folioseek/UseOrder" "ids" "[I" (.ref aI) := F_i.keep K86c (ninS ne_xi (ninS ne_xu (ninS ne_xs nin0)))
    have f89 : Fld Z T86.heap x0 "com/example/folioseek/folioseek/UseOrder" "uses" "[J" (.ref aU) := F_u.keep K86c (ninS ne_xi (ninS ne_xu (ninS ne_xs nin0)))
    have f90 : Fld Z T86.heap x0 "com/example/folioseek/folioseek/UseOrder" "slots" "[I" (.ref aS) := F_s.keep K86c (ninS ne_xi (ninS ne_xu (ninS ne_xs nin0)))
    have f91 : Fld Z T86.heap x0 "com/example/folioseek/folioseek/UseOrder" "size" "I" (.int (5 : Int32)) := F_z.keep K86c (ninS ne_xi (ninS ne_xu (ninS ne_xs nin0)))
    have K92 : Keep h0 T86.heap [aI, aU, aS] := K0.trans K86c (allS (Or.inl (List.mem_of_getElem? (i := 0) rfl)) (allS (Or.inl (List.mem_of_getElem? (i := 1) rfl)) (allS (Or.inl (List.mem_of_getElem? (i := 2) rfl)) all0)))
    have Z93 : n0 ≤ T86.heap.size := Nat.le_trans Z0 K86c.1
    have st94 : Steps p.tables e below sE (T86.setTop (mkF m 121 #[.val (.ref x0), .val (.int (0 : Int32)), .val (.int idv), .val (.long usv), .second, .val (.int ls4), .val (.int (5 : Int32)), .val (.int (5 : Int32))] [])) := st85.trans (sr86)
    have st95 : Steps p.tables e below sE (T86.setTop (mkF m 20 #[.val (.ref x0), .val (.int ls4), .val (.int idv), .val (.long usv), .second, .val (.int ls4), .val (.int (5 : Int32)), .val (.int (5 : Int32))] [(.ref x0), (.int (((4 : Int32) * ls4) + (1 : Int32)))])) := st94.trans (by
        show Steps _ _ _ (T86.setTop (mkF m 121 #[.val (.ref x0), .val (.int (0 : Int32)), .val (.int idv), .val (.long usv), .second, .val (.int ls4), .val (.int (5 : Int32)), .val (.int (5 : Int32))] [])) _
        refine XS.iload X86.here hx rfl (hb hby d12_121) rfl ?_
        show Steps _ _ _ (T86.setTop (mkF m 123 #[.val (.ref x0), .val (.int (0 : Int32)), .val (.int idv), .val (.long usv), .second, .val (.int ls4), .val (.int (5 : Int32)), .val (.int (5 : Int32))] [(.int ls4)])) _
        refine XS.istoreN X86.here hx rfl (hb hby d12_123) rfl (l' := #[.val (.ref x0), .val (.int ls4), .val (.int idv), .val (.long usv), .second, .val (.int ls4), .val (.int (5 : Int32)), .val (.int (5 : Int32))]) rfl ?_
        show Steps _ _ _ (T86.setTop (mkF m 124 #[.val (.ref x0), .val (.int ls4), .val (.int idv), .val (.long usv), .second, .val (.int ls4), .val (.int (5 : Int32)), .val (.int (5 : Int32))] [])) _
        refine XS.goto X86.here hx rfl (pc0 := 124) (pc' := 14) rfl (hb hby d12_124) (by decide) (by decide) ?_
        show Steps _ _ _ (T86.setTop (mkF m 14 #[.val (.ref x0), .val (.int ls4), .val (.int idv), .val (.long usv), .second, .val (.int ls4), .val (.int (5 : Int32)), .val (.int (5 : Int32))] [])) _
        refine XS.iconst X86.here hx rfl (hb hby d12_14) ?_
        show Steps _ _ _ (T86.setTop (mkF m 15 #[.val (.ref x0), .val (.int ls4), .val (.int idv), .val (.long usv), .second, .val (.int ls4), .val (.int (5 : Int32)), .val (.int (5 : Int32))] [(.int (4 : Int32))])) _
        refine XS.iloadN X86.here hx rfl (hb hby d12_15) rfl ?_
        show Steps _ _ _ (T86.setTop (mkF m 16 #[.val (.ref x0), .val (.int ls4), .val (.int idv), .val (.long usv), .second, .val (.int ls4), .val (.int (5 : Int32)), .val (.int (5 : Int32))] [(.int ls4), (.int (4 : Int32))])) _
        refine XS.imul X86.here hx rfl (hb hby d12_16) rfl ?_
        show Steps _ _ _ (T86.setTop (mkF m 17 #[.val (.ref x0), .val (.int ls4), .val (.int idv), .val (.long usv), .second, .val (.int ls4), .val (.int (5 : Int32)), .val (.int (5 : Int32))] [(.int ((4 : Int32) * ls4))])) _
        refine XS.iconst X86.here hx rfl (hb hby d12_17) ?_
        show Steps _ _ _ (T86.setTop (mkF m 18 #[.val (.ref x0), .val (.int ls4), .val (.int idv), .val (.long usv), .second, .val (.int ls4), .val (.int (5 : Int32)), .val (.int (5 : Int32))] [(.int (1 : Int32)), (.int ((4 : Int32) * ls4))])) _
        refine XS.iadd X86.here hx rfl (hb hby d12_18) rfl ?_
        show Steps _ _ _ (T86.setTop (mkF m 19 #[.val (.ref x0), .val (.int ls4), .val (.int idv), .val (.long usv), .second, .val (.int ls4), .val (.int (5 : Int32)), .val (.int (5 : Int32))] [(.int (((4 : Int32) * ls4) + (1 : Int32)))])) _
        refine XS.aloadN X86.here hx rfl (hb hby d12_19) rfl rfl ?_
        exact Steps.refl _)
    obtain ⟨T96, X96, e96, sr96⟩ := getF X86 hx hZ hown (host := "") (Or.inl (hw _ (List.mem_of_getElem? (i := 22) rfl))) Via.refl rfl f91 (g := (mkF m 20 #[.val (.ref x0), .val (.int ls4), .val (.int idv), .val (.long usv), .second, .val (.int ls4), .val (.int (5 : Int32)), .val (.int (5 : Int32))] [(.ref x0), (.int (((4 : Int32) * ls4) + (1 : Int32)))])) rfl rfl (hb hby d12_20)
    have st97 : Steps p.tables e below sE (T96.setTop (mkF m 23 #[.val (.ref x0), .val (.int ls4), .val (.int idv), .val (.long usv), .second, .val (.int ls4), .val (.int (5 : Int32)), .val (.int (5 : Int32))] [(.int (5 : Int32)), (.int (((4 : Int32) * ls4) + (1 : Int32)))])) := st95.trans (sr96 _ (Steps.refl _))
    have hf98 : ¬ ((((4 : Int32) * ls4) + (1 : Int32)) < (5 : Int32)) := own_far ls4 5 (by decide) ⟨hB4.1, hB4.2.1⟩
    have st99 : Steps p.tables e below sE (T96.setTop (mkF m 131 #[.val (.ref x0), .val (.int ls4), .val (.int idv), .val (.long usv), .second, .val (.int ls4), .val (.int (5 : Int32)), .val (.int (5 : Int32))] [(.int ls4), (.long usv), (.int idv), (.ref x0)])) := st97.trans (by
        show Steps _ _ _ (T96.setTop (mkF m 23 #[.val (.ref x0), .val (.int ls4), .val (.int idv), .val (.long usv), .second, .val (.int ls4), .val (.int (5 : Int32)), .val (.int (5 : Int32))] [(.int (5 : Int32)), (.int (((4 : Int32) * ls4) + (1 : Int32)))])) _
        refine XS.icmpYes X96.here hx rfl (pc0 := 23) (pc' := 127) rfl (hb hby d12_23) rfl (flt hf98).2.1 (by decide) (by decide) ?_
        show Steps _ _ _ (T96.setTop (mkF m 127 #[.val (.ref x0), .val (.int ls4), .val (.int idv), .val (.long usv), .second, .val (.int ls4), .val (.int (5 : Int32)), .val (.int (5 : Int32))] [])) _
        refine XS.aloadN X96.here hx rfl (hb hby d12_127) rfl rfl ?_
        show Steps _ _ _ (T96.setTop (mkF m 128 #[.val (.ref x0), .val (.int ls4), .val (.int idv), .val (.long usv), .second, .val (.int ls4), .val (.int (5 : Int32)), .val (.int (5 : Int32))] [(.ref x0)])) _
        refine XS.iloadN X96.here hx rfl (hb hby d12_128) rfl ?_
        show Steps _ _ _ (T96.setTop (mkF m 129 #[.val (.ref x0), .val (.int ls4), .val (.int idv), .val (.long usv), .second, .val (.int ls4), .val (.int (5 : Int32)), .val (.int (5 : Int32))] [(.int idv), (.ref x0)])) _
        refine XS.lloadN X96.here hx rfl (hb hby d12_129) rfl ?_
        show Steps _ _ _ (T96.setTop (mkF m 130 #[.val (.ref x0), .val (.int ls4), .val (.int idv), .val (.long usv), .second, .val (.int ls4), .val (.int (5 : Int32)), .val (.int (5 : Int32))] [(.long usv), (.int idv), (.ref x0)])) _
        refine XS.iloadN X96.here hx rfl (hb hby d12_130) rfl ?_
        exact Steps.refl _)
    obtain ⟨cq100, q100, q100'⟩ := f87.cell
    obtain ⟨_, _, ⟨T100, L100, k100, n100⟩, -, X100, ⟨Lc100, hQ100, l100, y100, z100⟩, sr100⟩ := X96.privateBack hx (y := (⟨"com/example/folioseek/folioseek/UseOrder", "place", "(IJI)V"⟩ : MethodName)) hown (mvT hZ (hw _ (List.mem_of_getElem? (i := 45) rfl))) (mvT hZ (hw _ (List.mem_of_getElem? (i := 46) rfl))) (own_selp (z := (⟨"com/example/folioseek/folioseek/UseOrder", "add", "(IJ)V"⟩ : MethodName)) rfl (notFace_of_selects (args := #[]) (mvT hZ (hw _ (List.mem_of_getElem? (i := 20) rfl)))) (args' := #[]) (mvT hZ (hw _ (List.mem_of_getElem? (i := 19) rfl))) (Cond.privateMethod_at (mvP hZ (hw _ (List.mem_of_getElem? (i := 47) rfl)) (args := #[]))) (mvT hZ (hw _ (List.mem_of_getElem? (i := 46) rfl))) (by decide)) (Cond.privateMethod_at (mvP hZ (hw _ (List.mem_of_getElem? (i := 47) rfl)) (args := #[]))) (mvT hZ (hw _ (List.mem_of_getElem? (i := 48) rfl))) (by decide) (backOf (W := 0) (rm9 l Z a0 hw [] x0 idv usv ls4 aI aU aS kI kU kS (LI.set ((0 : Int32)).toNatClampNeg (LI.getD (ls4).toNatClampNeg 0)) (LU.set ((0 : Int32)).toNatClampNeg (LU.getD (ls4).toNatClampNeg 0)) (LS.set ((LI.getD (ls4).toNatClampNeg 0)).toNatClampNeg (0 : Int32)) mm T86.heap n0 Z93 f88 f89 f90 f86_0 f86_1 f86_2 (own_i16 _ 5 (by decide) (own_Bb 5 hB4 (by decide))) hidv.1 ⟨by rw [List.length_set]; exact hP.1, by rw [List.length_set]; exact hP.2.1, own_l16 _ 5 (by decide) (own_Bb 5 hB4 (by decide)), by rw [List.length_set]; exact hidv.2⟩ g_i g_u g_s ne_iu ne_is ne_us ne_xi ne_xu ne_xs) hZ (hw _ (List.mem_of_getElem? (i := 48) rfl)) (hw _ (List.mem_of_getElem? (i := 3) rfl)) (by decide) (by decide)) (g := (mkF m 131 #[.val (.ref x0), .val (.int ls4), .val (.int idv), .val (.long usv), .second, .val (.int ls4), .val (.int (5 : Int32)), .val (.int (5 : Int32))] [(.int ls4), (.long usv), (.int idv), (.ref x0)])) rfl (by rw [hml]; rfl) (Steps.refl _) (a := x0) (by rw [e96]; exact q100) q100' (argsL := [(.int idv), (.long usv), (.int ls4)]) (rest := []) (lenOf pd_0 rfl) rfl (by show 2 * 0 + _ ≤ _; exact Nat.le_of_eq rfl) (hb hby d12_131) (fun _ _ => ⟨rfl, e96, (by decide : 0 + 0 ≤ _), (by decide : 0 + 0 ≤ _)⟩)
    dsimp only [Pt.U, Pt.locs, Pt.cells, Pt.slots] at X100 l100 y100 z100 sr100 hQ100
    subst l100 y100 z100
    obtain ⟨rfl, N100q, K100c, f100_0, f100_1, f100_2⟩ := hQ100
    have N100 := Fr.app N86 N100q
    obtain ⟨LL100, X100, N100⟩ := own_hide X100 N100
    have f101 : Exa Z T100.heap x0 "com/example/folioseek/folioseek/UseOrder" := f87.keep K100c
    have f102 : Fld Z T100.heap x0 "com/example/folioseek/folioseek/UseOrder" "ids" "[I" (.ref aI) := f88.keep K100c (ninS ne_xi (ninS ne_xu (ninS ne_xs nin0)))
    have f103 : Fld Z T100.heap x0 "com/example/folioseek/folioseek/UseOrder" "uses" "[J" (.ref aU) := f89.keep K100c (ninS ne_xi (ninS ne_xu (ninS ne_xs nin0)))
    have f104 : Fld Z T100.heap x0 "com/example/folioseek/folioseek/UseOrder" "slots" "[I" (.ref aS) := f90.keep K100c (ninS ne_xi (ninS ne_xu (ninS ne_xs nin0)))
    have f105 : Fld Z T100.heap x0 "com/example/folioseek/folioseek/UseOrder" "size" "I" (.int (5 : Int32)) := f91.keep K100c (ninS ne_xi (ninS ne_xu (ninS ne_xs nin0)))
    have K106 : Keep h0 T100.heap [aI, aU, aS] := K92.trans K100c (allS (Or.inl (List.mem_of_getElem? (i := 0) rfl)) (allS (Or.inl (List.mem_of_getElem? (i := 1) rfl)) (allS (Or.inl (List.mem_of_getElem? (i := 2) rfl)) all0)))
    have Z107 : n0 ≤ T100.heap.size := Nat.le_trans Z93 K100c.1
    have st108 : Steps p.tables e below sE (T100.setTop (mkF m 134 #[.val (.ref x0), .val (.int ls4), .val (.int idv), .val (.long usv), .second, .val (.int ls4), .val (.int (5 : Int32)), .val (.int (5 : Int32))] [])) := st99.trans (sr100)
    obtain ⟨fs, hr, hrun, hended, hW, hsame⟩ := X100.leave (v := none) (fun _ => rfl) hlk
    refine ⟨_, _, (own_ent hsE st108).trans ?_, hrun, hended, _, _, rfl, ?_, ⟨_, rfl⟩, hW, hsame.mono (by decide) (by decide)⟩
    · exact X100.returnOut hx Bd.returns (hb hby d12_134) hr
    · show Qdn5 Z x0 aI aU aS kI kU kS LI LU LS mm val pres h0 n0 _ T100.heap _
      exact ⟨rfl, N100, K106, ⟨_, _, _, f100_0, f100_1, f100_2, by rw [e_idv, e_usv]; exact own_downP hP ls4 ⟨hB4.1, hB4.2.1⟩, by rw [e_usv]; exact own_dnB hP.2.1 (by decide) ls4 hB4 (by rw [← e_usv]; exact hc76)⟩⟩
  · have st109 : Steps p.tables e below sE (T72.setTop (mkF m 131 #[.val (.ref x0), .val (.int (0 : Int32)), .val (.int idv), .val (.long usv), .second, .val (.int ls4), .val (.int (5 : Int32)), .val (.int (5 : Int32))] [(.int (0 : Int32)), (.long usv), (.int idv), (.ref x0)])) := st75.trans (by
        show Steps _ _ _ (T72.setTop (mkF m 96 #[.val (.ref x0), .val (.int (0 : Int32)), .val (.int idv), .val (.long usv), .second, .val (.int ls4), .val (.int (5 : Int32)), .val (.int (5 : Int32))] [(.int (lcmpW usv (LU.getD (ls4).toNatClampNeg 0)))])) _
        refine XS.ifNo X72.here hx rfl (hb hby d12_96) rfl ((if0 _ _).trans (flt (fun q => hc76 ((lw_gt _ _).mp q))).2.2.1) ?_
        show Steps _ _ _ (T72.setTop (mkF m 99 #[.val (.ref x0), .val (.int (0 : Int32)), .val (.int idv), .val (.long usv), .second, .val (.int ls4), .val (.int (5 : Int32)), .val (.int (5 : Int32))] [])) _
        refine XS.goto X72.here hx rfl (pc0 := 99) (pc' := 127) rfl (hb hby d12_99) (by decide) (by decide) ?_
        show Steps _ _ _ (T72.setTop (mkF m 127 #[.val (.ref x0), .val (.int (0 : Int32)), .val (.int idv), .val (.long usv), .second, .val (.int ls4), .val (.int (5 : Int32)), .val (.int (5 : Int32))] [])) _
        refine XS.aloadN X72.here hx rfl (hb hby d12_127) rfl rfl ?_
        show Steps _ _ _ (T72.setTop (mkF m 128 #[.val (.ref x0), .val (.int (0 : Int32)), .val (.int idv), .val (.long usv), .second, .val (.int ls4), .val (.int (5 : Int32)), .val (.int (5 : Int32))] [(.ref x0)])) _
        refine XS.iloadN X72.here hx rfl (hb hby d12_128) rfl ?_
        show Steps _ _ _ (T72.setTop (mkF m 129 #[.val (.ref x0), .val (.int (0 : Int32)), .val (.int idv), .val (.long usv), .second, .val (.int ls4), .val (.int (5 : Int32)), .val (.int (5 : Int32))] [(.int idv), (.ref x0)])) _
        refine XS.lloadN X72.here hx rfl (hb hby d12_129) rfl ?_
        show Steps _ _ _ (T72.setTop (mkF m 130 #[.val (.ref x0), .val (.int (0 : Int32)), .val (.int idv), .val (.long usv), .second, .val (.int ls4), .val (.int (5 : Int32)), .val (.int (5 : Int32))] [(.long usv), (.int idv), (.ref x0)])) _
        refine XS.iloadN X72.here hx rfl (hb hby d12_130) rfl ?_
        exact Steps.refl _)
    obtain ⟨cq110, q110, q110'⟩ := E_x.cell
    obtain ⟨_, _, ⟨T110, L110, k110, n110⟩, -, X110, ⟨Lc110, hQ110, l110, y110, z110⟩, sr110⟩ := X72.privateBack hx (y := (⟨"com/example/folioseek/folioseek/UseOrder", "place", "(IJI)V"⟩ : MethodName)) hown (mvT hZ (hw _ (List.mem_of_getElem? (i := 45) rfl))) (mvT hZ (hw _ (List.mem_of_getElem? (i := 46) rfl))) (own_selp (z := (⟨"com/example/folioseek/folioseek/UseOrder", "add", "(IJ)V"⟩ : MethodName)) rfl (notFace_of_selects (args := #[]) (mvT hZ (hw _ (List.mem_of_getElem? (i := 20) rfl)))) (args' := #[]) (mvT hZ (hw _ (List.mem_of_getElem? (i := 19) rfl))) (Cond.privateMethod_at (mvP hZ (hw _ (List.mem_of_getElem? (i := 47) rfl)) (args := #[]))) (mvT hZ (hw _ (List.mem_of_getElem? (i := 46) rfl))) (by decide)) (Cond.privateMethod_at (mvP hZ (hw _ (List.mem_of_getElem? (i := 47) rfl)) (args := #[]))) (mvT hZ (hw _ (List.mem_of_getElem? (i := 48) rfl))) (by decide) (backOf (W := 0) (rm9 l Z a0 hw [] x0 idv usv (0 : Int32) aI aU aS kI kU kS LI LU LS mm h0 n0 Z0 F_i F_u F_s A_i A_u A_s (by decide) hidv.1 ⟨hP.1, hP.2.1, by decide, hidv.2⟩ g_i g_u g_s ne_iu ne_is ne_us ne_xi ne_xu ne_xs) hZ (hw _ (List.mem_of_getElem? (i := 48) rfl)) (hw _ (List.mem_of_getElem? (i := 3) rfl)) (by decide) (by decide)) (g := (mkF m 131 #[.val (.ref x0), .val (.int (0 : Int32)), .val (.int idv), .val (.long usv), .second, .val (.int ls4), .val (.int (5 : Int32)), .val (.int (5 : Int32))] [(.int (0 : Int32)), (.long usv), (.int idv), (.ref x0)])) rfl (by rw [hml]; rfl) (Steps.refl _) (a := x0) (by rw [e72]; exact q110) q110' (argsL := [(.int idv), (.long usv), (.int (0 : Int32))]) (rest := []) (lenOf pd_0 rfl) rfl (by show 2 * 0 + _ ≤ _; exact Nat.le_of_eq rfl) (hb hby d12_131) (fun _ _ => ⟨rfl, e72, (by decide : 0 + 0 ≤ _), (by decide : 0 + 0 ≤ _)⟩)
    dsimp only [Pt.U, Pt.locs, Pt.cells, Pt.slots] at X110 l110 y110 z110 sr110 hQ110
    subst l110 y110 z110
    obtain ⟨rfl, N110q, K110c, f110_0, f110_1, f110_2⟩ := hQ110
    have N110 := Fr.app N67 N110q
    obtain ⟨LL110, X110, N110⟩ := own_hide X110 N110
    have f111 : Exa Z T110.heap x0 "com/example/folioseek/folioseek/UseOrder" := E_x.keep K110c
    have f112 : Fld Z T110.heap x0 "com/example/folioseek/folioseek/UseOrder" "ids" "[I" (.ref aI) := F_i.keep K110c (ninS ne_xi (ninS ne_xu (ninS ne_xs nin0)))
    have f113 : Fld Z T110.heap x0 "com/example/folioseek/folioseek/UseOrder" "uses" "[J" (.ref aU) := F_u.keep K110c (ninS ne_xi (ninS ne_xu (ninS ne_xs nin0)))
    have f114 : Fld Z T110.heap x0 "com/example/folioseek/folioseek/UseOrder" "slots" "[I" (.ref aS) := F_s.keep K110c (ninS ne_xi (ninS ne_xu (ninS ne_xs nin0)))
    have f115 : Fld Z T110.heap x0 "com/example/folioseek/folioseek/UseOrder" "size" "I" (.int (5 : Int32)) := F_z.keep K110c (ninS ne_xi (ninS ne_xu (ninS ne_xs nin0)))
    have K116 : Keep h0 T110.heap [aI, aU, aS] := K0.trans K110c (allS (Or.inl (List.mem_of_getElem? (i := 0) rfl)) (allS (Or.inl (List.mem_of_getElem? (i := 1) rfl)) (allS (Or.inl (List.mem_of_getElem? (i := 2) rfl)) all0)))
    have Z117 : n0 ≤ T110.heap.size := Nat.le_trans Z0 K110c.1
    have st118 : Steps p.tables e below sE (T110.setTop (mkF m 134 #[.val (.ref x0), .val (.int (0 : Int32)), .val (.int idv), .val (.long usv), .second, .val (.int ls4), .val (.int (5 : Int32)), .val (.int (5 : Int32))] [])) := st109.trans (sr110)
    obtain ⟨fs, hr, hrun, hended, hW, hsame⟩ := X110.leave (v := none) (fun _ => rfl) hlk
    refine ⟨_, _, (own_ent hsE st118).trans ?_, hrun, hended, _, _, rfl, ?_, ⟨_, rfl⟩, hW, hsame.mono (by decide) (by decide)⟩
    · exact X110.returnOut hx Bd.returns (hb hby d12_134) hr
    · show Qdn5 Z x0 aI aU aS kI kU kS LI LU LS mm val pres h0 n0 _ T110.heap _
      exact ⟨rfl, N110, K116, ⟨LI, LU, LS, by rw [← (own_stayP hP (0 : Int32) (by decide)).1, ← e_idv]; exact f110_0, by rw [← (own_stayP hP (0 : Int32) (by decide)).2.1, ← e_usv]; exact f110_1, by rw [← (own_stayP hP (0 : Int32) (by decide)).2.2, ← e_idv]; exact f110_2, hP, own_dnC ls4 hB4 (by rw [← e_usv]; exact hc76)⟩⟩
theorem d15_0 : decode prog_24_method_3_code 0 = .ok (.aload_n 0, 1) := by decide +kernel
theorem d15_1 : decode prog_24_method_3_code 1 = .ok (.getfield 7, 3) := by decide +kernel
theorem d15_4 : decode prog_24_method_3_code 4 = .ok (.iconst 0, 1) := by decide +kernel
theorem d15_5 : decode prog_24_method_3_code 5 = .ok (.iaload, 1) := by decide +kernel
theorem d15_6 : decode prog_24_method_3_code 6 = .ok (.ireturn, 1) := by decide +kernel
theorem ef_15 (m : MethodId) (x0 : Addr)  : entryFrame m #[(.ref x0)] 1 = mkF m 0 #[.val (.ref x0)] [] := by first | (simp [entryFrame, mkF, argsToLocals, Value.category]; done) | rfl
def Q15 (Z : State) (x0 : Addr) (aI : Addr) (kI : ClassId) (LI : List Int32) (h0 : Heap) (n0 : Nat) (vE : Option Value) (hE : Heap) (LE : List Loc) : Prop := vE = some (.int (LI.getD ((0 : Int32)).toNatClampNeg 0)) ∧ Fr n0 LE ∧ hE = h0
set_option maxRecDepth 65536 in
set_option maxHeartbeats 40000000 in
theorem rm15 (l : Launch) (Z : State) (a0 : Array Value) (hw : ∀ d ∈ tables_1, d.before a0 Z = true) (ws : List Jvm.Cond) (x0 : Addr) (aI : Addr) (kI : ClassId) (LI : List Int32) (h0 : Heap) (n0 : Nat) (Z0 : n0 ≤ h0.size) (F_i : Fld Z h0 x0 "com/example/folioseek/folioseek/UseOrder" "ids" "[I" (.ref aI)) (A_i : Arv Z h0 aI kI .int (16 : Int32) (List.map Value.int LI) (.int (0 : Int32))) :
    MetFree l (⟨"com/example/folioseek/folioseek/UseOrder", "first", "()I"⟩ : MethodName) (head1 (Jvm.Cond.code (⟨"com/example/folioseek/folioseek/UseOrder", "first", "()I"⟩ : MethodName) prog_24_method_3_code 1 (some .int) :: ws) ({ frames := 0, cells := 0, slots := 0, locals := 0 } : Room)) (fun a U => a = #[(.ref x0)] ∧ Z.Warmed39 U.vm ∧ U.heap = h0) (fun _ _ _ _ _ => True) (fun _ U o U' => ∃ vE LE, o = .returned vE ∧ Q15 Z x0 aI kI LI h0 n0 vE U'.heap LE ∧ FrameEnd U o U' LE ({ frames := 0, cells := 0, slots := 0, locals := 0 } : Room).cells ({ frames := 0, cells := 0, slots := 0, locals := 0 } : Room).slots) := by
  refine MetFree.of_bodySF (plainFor_of_name pn_1) hisR ?_
  intro p e s m args below meth c s₁ Bd hml0 hP hK
  obtain ⟨rfl, hZ, hh⟩ := hP
  have hx := Bd.exec
  have hby := Bd.bytes
  have hml : c.maxLocals = 1 := hml0
  have hown : s.vm.findClass "com/example/folioseek/folioseek/UseOrder" = some m.cls := findClass_of_methodNamed Bd.named
  have hnm := (name_of_methodNamed Bd.named Bd.method).1
  have hlk : meth.locks = false := BodyLoose.notSynchronized Bd
  have X0 : Stand p l e ({ frames := 0, cells := 0, slots := 0, locals := 0 } : Room) s m #[(.ref x0)] below meth c s₁ [] 0 0 := Stand.of_body Bd
  have e0 : s₁.heap = h0 := by rw [← hh, Bd.state]; rfl
  have N0 := Fr.nil n0
  obtain ⟨sE, hsE⟩ : ∃ z, z = (s₁.setTop (entryFrame m #[(.ref x0)] 1)) := ⟨_, rfl⟩
  have st0 : Steps p.tables e below sE (s₁.setTop (mkF m 0 #[.val (.ref x0)] [])) := by rw [hsE]; exact castTop (ef_15 m x0) (Steps.refl _)
  have st1 : Steps p.tables e below sE (s₁.setTop (mkF m 1 #[.val (.ref x0)] [(.ref x0)])) := st0.trans (by
      show Steps _ _ _ (s₁.setTop (mkF m 0 #[.val (.ref x0)] [])) _
      refine XS.aloadN X0.here hx rfl (hb hby d15_0) rfl rfl ?_
      exact Steps.refl _)
  obtain ⟨T2, X2, e2, sr2⟩ := getF X0 hx hZ hown (host := "") (Or.inl (hw _ (List.mem_of_getElem? (i := 11) rfl))) Via.refl e0 F_i (g := (mkF m 1 #[.val (.ref x0)] [(.ref x0)])) rfl rfl (hb hby d15_1)
  have st3 : Steps p.tables e below sE (T2.setTop (mkF m 4 #[.val (.ref x0)] [(.ref aI)])) := st1.trans (sr2 _ (Steps.refl _))
  obtain ⟨cl4, Ar4, q4, S4, N4, H4, G4⟩ := id A_i
  have hin4 : ¬ ((0 : Int32) < 0 ∨ cl4.slots.size ≤ ((0 : Int32)).toNatClampNeg) := inb_of S4 ⟨by decide, by decide⟩
  have hat4 : cl4.slots[((0 : Int32)).toNatClampNeg]? = some (.int (LI.getD ((0 : Int32)).toNatClampNeg 0)) := H4.at hin4 (own_getI LI _)
  have st5 : Steps p.tables e below sE (T2.setTop (mkF m 6 #[.val (.ref x0)] [(.int (LI.getD ((0 : Int32)).toNatClampNeg 0))])) := st3.trans (by
      show Steps _ _ _ (T2.setTop (mkF m 4 #[.val (.ref x0)] [(.ref aI)])) _
      refine XS.iconst X2.here hx rfl (hb hby d15_4) ?_
      show Steps _ _ _ (T2.setTop (mkF m 5 #[.val (.ref x0)] [(.int (0 : Int32)), (.ref aI)])) _
      refine X2.iaload hx (j := (0 : Int32)) (v := (.int (LI.getD ((0 : Int32)).toNatClampNeg 0))) (by rw [e2]; exact Ar4.1) (State.isArrayOf_alike hZ.alike Ar4.2.1) Ar4.2.2 hin4 hat4 (g := (mkF m 5 #[.val (.ref x0)] [(.int (0 : Int32)), (.ref aI)])) rfl rfl (hb hby d15_5) _ ?_
      exact Steps.refl _)
  obtain ⟨fs, hr, hrun, hended, hW, hsame⟩ := X2.leave (v := some (.int (LI.getD ((0 : Int32)).toNatClampNeg 0))) (fun h => by rw [Bd.returns] at h; cases h) hlk
  refine ⟨_, _, (own_ent hsE st5).trans ?_, hrun, hended, _, _, rfl, ?_, ⟨_, rfl⟩, hW, hsame.mono (by decide) (by decide)⟩
  · exact retI X2 hx Bd.returns (hb hby d15_6) hr
  · show Q15 Z x0 aI kI LI h0 n0 _ T2.heap _
    rw [e2]
    exact ⟨rfl, N0, rfl⟩
theorem d16_0 : decode prog_24_method_4_code 0 = .ok (.aload_n 0, 1) := by decide +kernel
theorem d16_1 : decode prog_24_method_4_code 1 = .ok (.getfield 13, 3) := by decide +kernel
theorem d16_4 : decode prog_24_method_4_code 4 = .ok (.iconst 0, 1) := by decide +kernel
theorem d16_5 : decode prog_24_method_4_code 5 = .ok (.laload, 1) := by decide +kernel
theorem d16_6 : decode prog_24_method_4_code 6 = .ok (.lreturn, 1) := by decide +kernel
theorem ef_16 (m : MethodId) (x0 : Addr)  : entryFrame m #[(.ref x0)] 1 = mkF m 0 #[.val (.ref x0)] [] := by first | (simp [entryFrame, mkF, argsToLocals, Value.category]; done) | rfl
def Q16 (Z : State) (x0 : Addr) (aU : Addr) (kU : ClassId) (LU : List Int64) (h0 : Heap) (n0 : Nat) (vE : Option Value) (hE : Heap) (LE : List Loc) : Prop := vE = some (.long (LU.getD ((0 : Int32)).toNatClampNeg 0)) ∧ Fr n0 LE ∧ hE = h0
set_option maxRecDepth 65536 in
set_option maxHeartbeats 40000000 in
theorem rm16 (l : Launch) (Z : State) (a0 : Array Value) (hw : ∀ d ∈ tables_1, d.before a0 Z = true) (ws : List Jvm.Cond) (x0 : Addr) (aU : Addr) (kU : ClassId) (LU : List Int64) (h0 : Heap) (n0 : Nat) (Z0 : n0 ≤ h0.size) (F_u : Fld Z h0 x0 "com/example/folioseek/folioseek/UseOrder" "uses" "[J" (.ref aU)) (A_u : Arv Z h0 aU kU .long (16 : Int32) (List.map Value.long LU) (.long (0 : Int64))) :
    MetFree l (⟨"com/example/folioseek/folioseek/UseOrder", "firstUse", "()J"⟩ : MethodName) (head1 (Jvm.Cond.code (⟨"com/example/folioseek/folioseek/UseOrder", "firstUse", "()J"⟩ : MethodName) prog_24_method_4_code 1 (some .long) :: ws) ({ frames := 0, cells := 0, slots := 0, locals := 0 } : Room)) (fun a U => a = #[(.ref x0)] ∧ Z.Warmed39 U.vm ∧ U.heap = h0) (fun _ _ _ _ _ => True) (fun _ U o U' => ∃ vE LE, o = .returned vE ∧ Q16 Z x0 aU kU LU h0 n0 vE U'.heap LE ∧ FrameEnd U o U' LE ({ frames := 0, cells := 0, slots := 0, locals := 0 } : Room).cells ({ frames := 0, cells := 0, slots := 0, locals := 0 } : Room).slots) := by
  refine MetFree.of_bodySF (plainFor_of_name pn_1) hisR ?_
  intro p e s m args below meth c s₁ Bd hml0 hP hK
  obtain ⟨rfl, hZ, hh⟩ := hP
  have hx := Bd.exec
  have hby := Bd.bytes
  have hml : c.maxLocals = 1 := hml0
  have hown : s.vm.findClass "com/example/folioseek/folioseek/UseOrder" = some m.cls := findClass_of_methodNamed Bd.named
  have hnm := (name_of_methodNamed Bd.named Bd.method).1
  have hlk : meth.locks = false := BodyLoose.notSynchronized Bd
  have X0 : Stand p l e ({ frames := 0, cells := 0, slots := 0, locals := 0 } : Room) s m #[(.ref x0)] below meth c s₁ [] 0 0 := Stand.of_body Bd
  have e0 : s₁.heap = h0 := by rw [← hh, Bd.state]; rfl
  have N0 := Fr.nil n0
  obtain ⟨sE, hsE⟩ : ∃ z, z = (s₁.setTop (entryFrame m #[(.ref x0)] 1)) := ⟨_, rfl⟩
  have st0 : Steps p.tables e below sE (s₁.setTop (mkF m 0 #[.val (.ref x0)] [])) := by rw [hsE]; exact castTop (ef_16 m x0) (Steps.refl _)
  have st1 : Steps p.tables e below sE (s₁.setTop (mkF m 1 #[.val (.ref x0)] [(.ref x0)])) := st0.trans (by
      show Steps _ _ _ (s₁.setTop (mkF m 0 #[.val (.ref x0)] [])) _
      refine XS.aloadN X0.here hx rfl (hb hby d16_0) rfl rfl ?_
      exact Steps.refl _)
  obtain ⟨T2, X2, e2, sr2⟩ := getF X0 hx hZ hown (host := "") (Or.inl (hw _ (List.mem_of_getElem? (i := 13) rfl))) Via.refl e0 F_u (g := (mkF m 1 #[.val (.ref x0)] [(.ref x0)])) rfl rfl (hb hby d16_1)
  have st3 : Steps p.tables e below sE (T2.setTop (mkF m 4 #[.val (.ref x0)] [(.ref aU)])) := st1.trans (sr2 _ (Steps.refl _))
  obtain ⟨cl4, Ar4, q4, S4, N4, H4, G4⟩ := id A_u
  have hin4 : ¬ ((0 : Int32) < 0 ∨ cl4.slots.size ≤ ((0 : Int32)).toNatClampNeg) := inb_of S4 ⟨by decide, by decide⟩
  have hat4 : cl4.slots[((0 : Int32)).toNatClampNeg]? = some (.long (LU.getD ((0 : Int32)).toNatClampNeg 0)) := H4.at hin4 (own_getJ LU _)
  have st5 : Steps p.tables e below sE (T2.setTop (mkF m 6 #[.val (.ref x0)] [(.long (LU.getD ((0 : Int32)).toNatClampNeg 0))])) := st3.trans (by
      show Steps _ _ _ (T2.setTop (mkF m 4 #[.val (.ref x0)] [(.ref aU)])) _
      refine XS.iconst X2.here hx rfl (hb hby d16_4) ?_
      show Steps _ _ _ (T2.setTop (mkF m 5 #[.val (.ref x0)] [(.int (0 : Int32)), (.ref aU)])) _
      refine X2.laload hx (j := (0 : Int32)) (v := (.long (LU.getD ((0 : Int32)).toNatClampNeg 0))) (by rw [e2]; exact Ar4.1) (State.isArrayOf_alike hZ.alike Ar4.2.1) Ar4.2.2 hin4 hat4 (g := (mkF m 5 #[.val (.ref x0)] [(.int (0 : Int32)), (.ref aU)])) rfl rfl (hb hby d16_5) _ ?_
      exact Steps.refl _)
  obtain ⟨fs, hr, hrun, hended, hW, hsame⟩ := X2.leave (v := some (.long (LU.getD ((0 : Int32)).toNatClampNeg 0))) (fun h => by rw [Bd.returns] at h; cases h) hlk
  refine ⟨_, _, (own_ent hsE st5).trans ?_, hrun, hended, _, _, rfl, ?_, ⟨_, rfl⟩, hW, hsame.mono (by decide) (by decide)⟩
  · exact retOut X2 hx (t := .long) Bd.returns rfl (Or.inr (Or.inl ⟨rfl, rfl, _, rfl⟩)) (hb hby d16_6) hr
  · show Q16 Z x0 aU kU LU h0 n0 _ T2.heap _
    rw [e2]
    exact ⟨rfl, N0, rfl⟩
theorem own_cp0 (L : List Int32) (h : L.length = 0) : (List.take ((0 : Int32)).toNatClampNeg ([(.int (0 : Int32))] : List Value) ++ (List.range ((0 : Int32)).toNatClampNeg).map (fun i => (List.map Value.int L).getD (((0 : Int32)).toNatClampNeg + i) (.int (0 : Int32))) ++ List.drop (((0 : Int32)).toNatClampNeg + ((0 : Int32)).toNatClampNeg) [(.int (0 : Int32))]) = List.map Value.int (L ++ List.replicate 1 (0 : Int32)) := by
  match L, h with
  | [], _ => rfl
theorem d5_0 : decode jdk_65_method_123_code 0 = .ok (.iload_n 1, 1) := by decide +kernel
theorem d5_1 : decode jdk_65_method_123_code 1 = .ok (.aload_n 0, 1) := by decide +kernel
theorem d5_2 : decode jdk_65_method_123_code 2 = .ok (.arraylength, 1) := by decide +kernel
theorem d5_3 : decode jdk_65_method_123_code 3 = .ok (.if_icmp .ne 11, 3) := by decide +kernel
theorem d5_14 : decode jdk_65_method_123_code 14 = .ok (.iload_n 1, 1) := by decide +kernel
theorem d5_15 : decode jdk_65_method_123_code 15 = .ok (.newarray .int, 2) := by decide +kernel
theorem d5_17 : decode jdk_65_method_123_code 17 = .ok (.astore_n 2, 1) := by decide +kernel
theorem d5_18 : decode jdk_65_method_123_code 18 = .ok (.aload_n 0, 1) := by decide +kernel
theorem d5_19 : decode jdk_65_method_123_code 19 = .ok (.iconst 0, 1) := by decide +kernel
theorem d5_20 : decode jdk_65_method_123_code 20 = .ok (.aload_n 2, 1) := by decide +kernel
theorem d5_21 : decode jdk_65_method_123_code 21 = .ok (.iconst 0, 1) := by decide +kernel
theorem d5_22 : decode jdk_65_method_123_code 22 = .ok (.aload_n 0, 1) := by decide +kernel
theorem d5_23 : decode jdk_65_method_123_code 23 = .ok (.arraylength, 1) := by decide +kernel
theorem d5_24 : decode jdk_65_method_123_code 24 = .ok (.iload_n 1, 1) := by decide +kernel
theorem d5_25 : decode jdk_65_method_123_code 25 = .ok (.invokestatic 304, 3) := by decide +kernel
theorem d5_28 : decode jdk_65_method_123_code 28 = .ok (.invokestatic 150, 3) := by decide +kernel
theorem d5_31 : decode jdk_65_method_123_code 31 = .ok (.aload_n 2, 1) := by decide +kernel
theorem d5_32 : decode jdk_65_method_123_code 32 = .ok (.areturn, 1) := by decide +kernel
theorem ef_cp0 (m : MethodId) (x0 : Addr)  : entryFrame m #[(.ref x0), (.int (1 : Int32))] 3 = mkF m 0 #[.val (.ref x0), .val (.int (1 : Int32)), .unset] [] := by first | (simp [entryFrame, mkF, argsToLocals, Value.category]; done) | rfl
def Qcp0 (Z : State) (x0 : Addr) (kS : ClassId) (LS : List Int32) (h0 : Heap) (n0 : Nat) (vE : Option Value) (hE : Heap) (LE : List Loc) : Prop := vE = some (.ref h0.size) ∧ Fr n0 LE ∧ Keep h0 hE [] ∧ (∃ kN : ClassId, Arv Z hE h0.size kN .int (1 : Int32) (List.map Value.int (LS ++ List.replicate 1 (0 : Int32))) (.int (0 : Int32)))
set_option maxRecDepth 65536 in
set_option maxHeartbeats 40000000 in
theorem rmcp0 (l : Launch) (Z : State) (a0 : Array Value) (hw : ∀ d ∈ tables_1, d.before a0 Z = true) (ws : List Jvm.Cond) (x0 : Addr) (kS : ClassId) (LS : List Int32) (h0 : Heap) (n0 : Nat) (Z0 : n0 ≤ h0.size) (A_s : Arv Z h0 x0 kS .int (0 : Int32) (List.map Value.int LS) (.int (0 : Int32))) (hLl : LS.length = 0) :
    MetFree l (⟨"java/util/Arrays", "copyOf", "([II)[I"⟩ : MethodName) (head1 (Jvm.Cond.code (⟨"java/util/Arrays", "copyOf", "([II)[I"⟩ : MethodName) jdk_65_method_123_code 3 (some (.array .int)) :: ws) ({ frames := 1, cells := 1, slots := 1, locals := 18 } : Room)) (fun a U => a = #[(.ref x0), (.int (1 : Int32))] ∧ Z.Warmed39 U.vm ∧ U.heap = h0) (fun _ _ _ _ _ => True) (fun _ U o U' => ∃ vE LE, o = .returned vE ∧ Qcp0 Z x0 kS LS h0 n0 vE U'.heap LE ∧ FrameEnd U o U' LE ({ frames := 1, cells := 1, slots := 1, locals := 18 } : Room).cells ({ frames := 1, cells := 1, slots := 1, locals := 18 } : Room).slots) := by
  refine MetFree.of_bodySF (plainFor_of_name pn_0) hisR ?_
  intro p e s m args below meth c s₁ Bd hml0 hP hK
  obtain ⟨rfl, hZ, hh⟩ := hP
  have hx := Bd.exec
  have hby := Bd.bytes
  have hml : c.maxLocals = 3 := hml0
  have hown : s.vm.findClass "java/util/Arrays" = some m.cls := findClass_of_methodNamed Bd.named
  have hnm := (name_of_methodNamed Bd.named Bd.method).1
  have hlk : meth.locks = false := BodyLoose.notSynchronized Bd
  have X0 : Stand p l e ({ frames := 1, cells := 1, slots := 1, locals := 18 } : Room) s m #[(.ref x0), (.int (1 : Int32))] below meth c s₁ [] 0 0 := Stand.of_body Bd
  have e0 : s₁.heap = h0 := by rw [← hh, Bd.state]; rfl
  have N0 := Fr.nil n0
  obtain ⟨sE, hsE⟩ : ∃ z, z = (s₁.setTop (entryFrame m #[(.ref x0), (.int (1 : Int32))] 3)) := ⟨_, rfl⟩
  have st0 : Steps p.tables e below sE (s₁.setTop (mkF m 0 #[.val (.ref x0), .val (.int (1 : Int32)), .unset] [])) := by rw [hsE]; exact castTop (ef_cp0 m x0) (Steps.refl _)
  have K0 : Keep h0 h0 [] := Keep.refl _ _
  obtain ⟨cl1, Ar1, -, S1, N1, -, -⟩ := id A_s
  have st2 : Steps p.tables e below sE (s₁.setTop (mkF m 3 #[.val (.ref x0), .val (.int (1 : Int32)), .unset] [(.int (0 : Int32)), (.int (1 : Int32))])) := st0.trans (by
      show Steps _ _ _ (s₁.setTop (mkF m 0 #[.val (.ref x0), .val (.int (1 : Int32)), .unset] [])) _
      refine XS.iloadN X0.here hx rfl (hb hby d5_0) rfl ?_
      show Steps _ _ _ (s₁.setTop (mkF m 1 #[.val (.ref x0), .val (.int (1 : Int32)), .unset] [(.int (1 : Int32))])) _
      refine XS.aloadN X0.here hx rfl (hb hby d5_1) rfl rfl ?_
      show Steps _ _ _ (s₁.setTop (mkF m 2 #[.val (.ref x0), .val (.int (1 : Int32)), .unset] [(.ref x0), (.int (1 : Int32))])) _
      refine X0.arraylength hx (by rw [e0]; exact Ar1.1) (State.isArrayOf_alike hZ.alike Ar1.2.1) (g := (mkF m 2 #[.val (.ref x0), .val (.int (1 : Int32)), .unset] [(.ref x0), (.int (1 : Int32))])) rfl rfl (hb hby d5_2) _ ?_
      rw [len_of S1 N1]
      exact Steps.refl _)
  have hf3 : ¬ ((1 : Int32) = (0 : Int32)) := by decide
  have st4 : Steps p.tables e below sE (s₁.setTop (mkF m 15 #[.val (.ref x0), .val (.int (1 : Int32)), .unset] [(.int (1 : Int32))])) := st2.trans (by
      show Steps _ _ _ (s₁.setTop (mkF m 3 #[.val (.ref x0), .val (.int (1 : Int32)), .unset] [(.int (0 : Int32)), (.int (1 : Int32))])) _
      refine XS.icmpYes X0.here hx rfl (pc0 := 3) (pc' := 14) rfl (hb hby d5_3) rfl (feq hf3).2 (by decide) (by decide) ?_
      show Steps _ _ _ (s₁.setTop (mkF m 14 #[.val (.ref x0), .val (.int (1 : Int32)), .unset] [])) _
      refine XS.iloadN X0.here hx rfl (hb hby d5_14) rfl ?_
      exact Steps.refl _)
  obtain ⟨T5, h5, k5, X5, e5, E5, A5, sr5⟩ := newP X0 hx hZ (hw _ (List.mem_of_getElem? (i := 10) rfl)) e0 (g := (mkF m 15 #[.val (.ref x0), .val (.int (1 : Int32)), .unset] [(.int (1 : Int32))])) rfl (hb hby d5_15) rfl (by decide) (cap := 1) (by decide) (by decide) (by decide) (by decide)
  obtain ⟨b5, g5⟩ : ∃ z, z = h0.size := ⟨_, rfl⟩
  rw [← g5] at A5 sr5
  have g_b5 : n0 ≤ b5 := Nat.le_trans Z0 (Nat.le_of_eq g5.symm)
  have sz_b5 : h0.size ≤ b5 := Nat.le_trans K0.1 (Nat.le_of_eq g5.symm)
  have ne_x0_b5 : x0 ≠ b5 := Nat.ne_of_lt (Nat.lt_of_lt_of_le A_s.lt (Nat.le_of_eq g5.symm))
  have f6 : Arv Z h5 x0 kS .int (0 : Int32) (List.map Value.int LS) (.int (0 : Int32)) := A_s.ext E5
  have K7 : Keep h0 h5 [] := K0.ext E5
  have f8 : Arv Z h5 b5 k5 .int (1 : Int32) [(.int (0 : Int32))] (.int (0 : Int32)) := (Arv.new A5 (by decide)).pad (pad_rep [] (.int (0 : Int32)) 1)
  have Z5 : n0 ≤ h5.size := Nat.le_trans Z0 E5.1
  have st9 : Steps p.tables e below sE (T5.setTop (mkF m 17 #[.val (.ref x0), .val (.int (1 : Int32)), .unset] [(.ref b5)])) := st4.trans (sr5 _ (Steps.refl _))
  obtain ⟨cl10, Ar10, -, S10, N10, -, -⟩ := id f6
  have st11 : Steps p.tables e below sE (T5.setTop (mkF m 25 #[.val (.ref x0), .val (.int (1 : Int32)), .val (.ref b5)] [(.int (1 : Int32)), (.int (0 : Int32)), (.int (0 : Int32)), (.ref b5), (.int (0 : Int32)), (.ref x0)])) := st9.trans (by
      show Steps _ _ _ (T5.setTop (mkF m 17 #[.val (.ref x0), .val (.int (1 : Int32)), .unset] [(.ref b5)])) _
      refine XS.astoreN X5.here hx rfl (hb hby d5_17) rfl rfl (l' := #[.val (.ref x0), .val (.int (1 : Int32)), .val (.ref b5)]) rfl ?_
      show Steps _ _ _ (T5.setTop (mkF m 18 #[.val (.ref x0), .val (.int (1 : Int32)), .val (.ref b5)] [])) _
      refine XS.aloadN X5.here hx rfl (hb hby d5_18) rfl rfl ?_
      show Steps _ _ _ (T5.setTop (mkF m 19 #[.val (.ref x0), .val (.int (1 : Int32)), .val (.ref b5)] [(.ref x0)])) _
      refine XS.iconst X5.here hx rfl (hb hby d5_19) ?_
      show Steps _ _ _ (T5.setTop (mkF m 20 #[.val (.ref x0), .val (.int (1 : Int32)), .val (.ref b5)] [(.int (0 : Int32)), (.ref x0)])) _
      refine XS.aloadN X5.here hx rfl (hb hby d5_20) rfl rfl ?_
      show Steps _ _ _ (T5.setTop (mkF m 21 #[.val (.ref x0), .val (.int (1 : Int32)), .val (.ref b5)] [(.ref b5), (.int (0 : Int32)), (.ref x0)])) _
      refine XS.iconst X5.here hx rfl (hb hby d5_21) ?_
      show Steps _ _ _ (T5.setTop (mkF m 22 #[.val (.ref x0), .val (.int (1 : Int32)), .val (.ref b5)] [(.int (0 : Int32)), (.ref b5), (.int (0 : Int32)), (.ref x0)])) _
      refine XS.aloadN X5.here hx rfl (hb hby d5_22) rfl rfl ?_
      show Steps _ _ _ (T5.setTop (mkF m 23 #[.val (.ref x0), .val (.int (1 : Int32)), .val (.ref b5)] [(.ref x0), (.int (0 : Int32)), (.ref b5), (.int (0 : Int32)), (.ref x0)])) _
      refine X5.arraylength hx (by rw [e5]; exact Ar10.1) (State.isArrayOf_alike hZ.alike Ar10.2.1) (g := (mkF m 23 #[.val (.ref x0), .val (.int (1 : Int32)), .val (.ref b5)] [(.ref x0), (.int (0 : Int32)), (.ref b5), (.int (0 : Int32)), (.ref x0)])) rfl rfl (hb hby d5_23) _ ?_
      rw [len_of S10 N10]
      show Steps _ _ _ (T5.setTop (mkF m 24 #[.val (.ref x0), .val (.int (1 : Int32)), .val (.ref b5)] [(.int (0 : Int32)), (.int (0 : Int32)), (.ref b5), (.int (0 : Int32)), (.ref x0)])) _
      refine XS.iloadN X5.here hx rfl (hb hby d5_24) rfl ?_
      exact Steps.refl _)
  obtain ⟨_, _, ⟨T12, L12, k12, n12⟩, -, X12, ⟨Lc12, hQ12, l12, y12, z12⟩, sr12⟩ := Jvm.LawKit.callS X5 hx (y := (⟨"java/lang/Math", "min", "(II)I"⟩ : MethodName)) hown (mvT hZ (hw _ (List.mem_of_getElem? (i := 32) rfl))) (mvT hZ (hw _ (List.mem_of_getElem? (i := 33) rfl))) (mvT hZ (hw _ (List.mem_of_getElem? (i := 26) rfl))) (mvT hZ (hw _ (List.mem_of_getElem? (i := 34) rfl))) (by decide) (backOf (W := 4) (rm6 l Z a0 hw [] (0 : Int32) (1 : Int32)  h5 n0 Z5 ) hZ (hw _ (List.mem_of_getElem? (i := 34) rfl)) (hw _ (List.mem_of_getElem? (i := 26) rfl)) (by decide) (by decide)) (g := (mkF m 25 #[.val (.ref x0), .val (.int (1 : Int32)), .val (.ref b5)] [(.int (1 : Int32)), (.int (0 : Int32)), (.int (0 : Int32)), (.ref b5), (.int (0 : Int32)), (.ref x0)])) rfl (by rw [hml]; rfl) (argsL := [(.int (0 : Int32)), (.int (1 : Int32))]) (rest := [(.int (0 : Int32)), (.ref b5), (.int (0 : Int32)), (.ref x0)]) (lenOf pd_1 rfl) rfl (by show 2 * 0 + _ ≤ _; exact Nat.le_of_eq rfl) (hb hby d5_25) (fun _ _ => ⟨rfl, e5, (by decide : 1 + 0 ≤ _), (by decide : 1 + 0 ≤ _)⟩)
  dsimp only [Pt.U, Pt.locs, Pt.cells, Pt.slots] at X12 l12 y12 z12 sr12 hQ12
  subst l12 y12 z12
  obtain ⟨rfl, N12q, hh12⟩ := hQ12
  have N12 := Fr.app N0 N12q
  obtain ⟨LL12, X12, N12⟩ := own_hide X12 N12
  have st13 : Steps p.tables e below sE (T12.setTop (mkF m 28 #[.val (.ref x0), .val (.int (1 : Int32)), .val (.ref b5)] [(.int (F6 (0 : Int32) (1 : Int32))), (.int (0 : Int32)), (.ref b5), (.int (0 : Int32)), (.ref x0)])) := st11.trans (sr12 _ (Steps.refl _))
  have hmn : (F6 (0 : Int32) (1 : Int32)) = (0 : Int32) := by decide
  rw [hmn] at st13
  obtain ⟨T14, h14, LL14, X14, e14, N14, K14, V14, sr14⟩ := cpA X12 hx hZ hown (hw _ (List.mem_of_getElem? (i := 35) rfl)) (hw _ (List.mem_of_getElem? (i := 38) rfl)) (hw _ (List.mem_of_getElem? (i := 36) rfl)) (hw _ (List.mem_of_getElem? (i := 37) rfl)) hh12 f6 f8 (Or.inl ⟨rfl, rfl⟩) (by decide) (by decide) (by decide) (by decide) (by decide) rfl (by decide) N12 g_b5 (g := (mkF m 28 #[.val (.ref x0), .val (.int (1 : Int32)), .val (.ref b5)] [(.int (0 : Int32)), (.int (0 : Int32)), (.ref b5), (.int (0 : Int32)), (.ref x0)])) rfl (by rw [hml]; rfl) rfl (hb hby d5_28) (by decide) (W := 0) (by show 2 * 0 + _ ≤ _; exact Nat.le_of_eq rfl) (by decide)
  have f15 : Arv Z h14 x0 kS .int (0 : Int32) (List.map Value.int LS) (.int (0 : Int32)) := f6.keep K14 (ninS ne_x0_b5 nin0)
  have K16 : Keep h0 h14 [] := K7.trans K14 (allS (Or.inr sz_b5) all0)
  have Z17 : n0 ≤ h14.size := Nat.le_trans Z5 K14.1
  have f18 : Arv Z h14 b5 k5 .int (1 : Int32) (List.map Value.int (LS ++ List.replicate 1 (0 : Int32))) (.int (0 : Int32)) := (by have q := V14; rw [own_cp0 LS hLl] at q; exact q)
  have st19 : Steps p.tables e below sE (T14.setTop (mkF m 31 #[.val (.ref x0), .val (.int (1 : Int32)), .val (.ref b5)] [])) := st13.trans (sr14 _ (Steps.refl _))
  have st20 : Steps p.tables e below sE (T14.setTop (mkF m 32 #[.val (.ref x0), .val (.int (1 : Int32)), .val (.ref b5)] [(.ref b5)])) := st19.trans (by
      show Steps _ _ _ (T14.setTop (mkF m 31 #[.val (.ref x0), .val (.int (1 : Int32)), .val (.ref b5)] [])) _
      refine XS.aloadN X14.here hx rfl (hb hby d5_31) rfl rfl ?_
      exact Steps.refl _)
  obtain ⟨fs, hr, hrun, hended, hW, hsame⟩ := X14.leave (v := some (.ref b5)) (fun h => by rw [Bd.returns] at h; cases h) hlk
  refine ⟨_, _, (own_ent hsE st20).trans ?_, hrun, hended, _, _, rfl, ?_, ⟨_, rfl⟩, hW, hsame.mono (by decide) (by decide)⟩
  · exact retOut X14 hx (t := (.array .int)) Bd.returns rfl (Or.inr (Or.inr (Or.inr (Or.inr ⟨rfl, rfl, rfl⟩)))) (hb hby d5_32) hr
  · show Qcp0 Z x0 kS LS h0 n0 _ T14.heap _
    rw [e14]
    exact ⟨by rw [g5], N14, K16, ⟨k5, by rw [← g5]; exact f18⟩⟩
theorem pd_2 : parseMethodDescriptor "(III)V" = some ⟨[.int, .int, .int], none⟩ := by decide +kernel
theorem d7_0 : decode jdk_65_method_104_code 0 = .ok (.aload_n 0, 1) := by decide +kernel
theorem d7_1 : decode jdk_65_method_104_code 1 = .ok (.arraylength, 1) := by decide +kernel
theorem d7_2 : decode jdk_65_method_104_code 2 = .ok (.iload_n 1, 1) := by decide +kernel
theorem d7_3 : decode jdk_65_method_104_code 3 = .ok (.iload_n 2, 1) := by decide +kernel
theorem d7_4 : decode jdk_65_method_104_code 4 = .ok (.invokestatic 13, 3) := by decide +kernel
theorem d7_7 : decode jdk_65_method_104_code 7 = .ok (.iload_n 1, 1) := by decide +kernel
theorem d7_8 : decode jdk_65_method_104_code 8 = .ok (.istore 4, 2) := by decide +kernel
theorem d7_10 : decode jdk_65_method_104_code 10 = .ok (.iload 4, 2) := by decide +kernel
theorem d7_12 : decode jdk_65_method_104_code 12 = .ok (.iload_n 2, 1) := by decide +kernel
theorem d7_13 : decode jdk_65_method_104_code 13 = .ok (.if_icmp .ge 14, 3) := by decide +kernel
theorem d7_16 : decode jdk_65_method_104_code 16 = .ok (.aload_n 0, 1) := by decide +kernel
theorem d7_17 : decode jdk_65_method_104_code 17 = .ok (.iload 4, 2) := by decide +kernel
theorem d7_19 : decode jdk_65_method_104_code 19 = .ok (.iload_n 3, 1) := by decide +kernel
theorem d7_20 : decode jdk_65_method_104_code 20 = .ok (.iastore, 1) := by decide +kernel
theorem d7_21 : decode jdk_65_method_104_code 21 = .ok (.iinc 4 1, 3) := by decide +kernel
theorem d7_24 : decode jdk_65_method_104_code 24 = .ok (.goto (-14), 3) := by decide +kernel
theorem d7_27 : decode jdk_65_method_104_code 27 = .ok (.return_, 1) := by decide +kernel
theorem ef_fl0 (m : MethodId) (x0 : Addr)  : entryFrame m #[(.ref x0), (.int (0 : Int32)), (.int (1 : Int32)), (.int (-1 : Int32))] 5 = mkF m 0 #[.val (.ref x0), .val (.int (0 : Int32)), .val (.int (1 : Int32)), .val (.int (-1 : Int32)), .unset] [] := by first | (simp [entryFrame, mkF, argsToLocals, Value.category]; done) | rfl
def Qfl0 (Z : State) (x0 : Addr) (kS : ClassId) (LS : List Int32) (h0 : Heap) (n0 : Nat) (vE : Option Value) (hE : Heap) (LE : List Loc) : Prop := vE = none ∧ Fr n0 LE ∧ Keep h0 hE [x0] ∧ Arv Z hE x0 kS .int (1 : Int32) (List.map Value.int (LS.set ((0 : Int32)).toNatClampNeg (-1 : Int32))) (.int (0 : Int32))
set_option maxRecDepth 65536 in
set_option maxHeartbeats 40000000 in
theorem rmfl0 (l : Launch) (Z : State) (a0 : Array Value) (hw : ∀ d ∈ tables_1, d.before a0 Z = true) (ws : List Jvm.Cond) (x0 : Addr) (kS : ClassId) (LS : List Int32) (h0 : Heap) (n0 : Nat) (Z0 : n0 ≤ h0.size) (A_s : Arv Z h0 x0 kS .int (1 : Int32) (List.map Value.int LS) (.int (0 : Int32))) (hLl : LS.length = 1) (g_x : n0 ≤ x0) :
    MetFree l (⟨"java/util/Arrays", "fill", "([IIII)V"⟩ : MethodName) (head1 (Jvm.Cond.code (⟨"java/util/Arrays", "fill", "([IIII)V"⟩ : MethodName) jdk_65_method_104_code 5 none :: ws) ({ frames := 1, cells := 0, slots := 0, locals := 14 } : Room)) (fun a U => a = #[(.ref x0), (.int (0 : Int32)), (.int (1 : Int32)), (.int (-1 : Int32))] ∧ Z.Warmed39 U.vm ∧ U.heap = h0) (fun _ _ _ _ _ => True) (fun _ U o U' => ∃ vE LE, o = .returned vE ∧ Qfl0 Z x0 kS LS h0 n0 vE U'.heap LE ∧ FrameEnd U o U' LE ({ frames := 1, cells := 0, slots := 0, locals := 14 } : Room).cells ({ frames := 1, cells := 0, slots := 0, locals := 14 } : Room).slots) := by
  refine MetFree.of_bodySF (plainFor_of_name pn_0) hisR ?_
  intro p e s m args below meth c s₁ Bd hml0 hP hK
  obtain ⟨rfl, hZ, hh⟩ := hP
  have hx := Bd.exec
  have hby := Bd.bytes
  have hml : c.maxLocals = 5 := hml0
  have hown : s.vm.findClass "java/util/Arrays" = some m.cls := findClass_of_methodNamed Bd.named
  have hnm := (name_of_methodNamed Bd.named Bd.method).1
  have hlk : meth.locks = false := BodyLoose.notSynchronized Bd
  have X0 : Stand p l e ({ frames := 1, cells := 0, slots := 0, locals := 14 } : Room) s m #[(.ref x0), (.int (0 : Int32)), (.int (1 : Int32)), (.int (-1 : Int32))] below meth c s₁ [] 0 0 := Stand.of_body Bd
  have e0 : s₁.heap = h0 := by rw [← hh, Bd.state]; rfl
  have N0 := Fr.nil n0
  obtain ⟨sE, hsE⟩ : ∃ z, z = (s₁.setTop (entryFrame m #[(.ref x0), (.int (0 : Int32)), (.int (1 : Int32)), (.int (-1 : Int32))] 5)) := ⟨_, rfl⟩
  have st0 : Steps p.tables e below sE (s₁.setTop (mkF m 0 #[.val (.ref x0), .val (.int (0 : Int32)), .val (.int (1 : Int32)), .val (.int (-1 : Int32)), .unset] [])) := by rw [hsE]; exact castTop (ef_fl0 m x0) (Steps.refl _)
  have K0 : Keep h0 h0 [x0] := Keep.refl _ _
  obtain ⟨cl1, Ar1, -, S1, N1, -, -⟩ := id A_s
  have st2 : Steps p.tables e below sE (s₁.setTop (mkF m 4 #[.val (.ref x0), .val (.int (0 : Int32)), .val (.int (1 : Int32)), .val (.int (-1 : Int32)), .unset] [(.int (1 : Int32)), (.int (0 : Int32)), (.int (1 : Int32))])) := st0.trans (by
      show Steps _ _ _ (s₁.setTop (mkF m 0 #[.val (.ref x0), .val (.int (0 : Int32)), .val (.int (1 : Int32)), .val (.int (-1 : Int32)), .unset] [])) _
      refine XS.aloadN X0.here hx rfl (hb hby d7_0) rfl rfl ?_
      show Steps _ _ _ (s₁.setTop (mkF m 1 #[.val (.ref x0), .val (.int (0 : Int32)), .val (.int (1 : Int32)), .val (.int (-1 : Int32)), .unset] [(.ref x0)])) _
      refine X0.arraylength hx (by rw [e0]; exact Ar1.1) (State.isArrayOf_alike hZ.alike Ar1.2.1) (g := (mkF m 1 #[.val (.ref x0), .val (.int (0 : Int32)), .val (.int (1 : Int32)), .val (.int (-1 : Int32)), .unset] [(.ref x0)])) rfl rfl (hb hby d7_1) _ ?_
      rw [len_of S1 N1]
      show Steps _ _ _ (s₁.setTop (mkF m 2 #[.val (.ref x0), .val (.int (0 : Int32)), .val (.int (1 : Int32)), .val (.int (-1 : Int32)), .unset] [(.int (1 : Int32))])) _
      refine XS.iloadN X0.here hx rfl (hb hby d7_2) rfl ?_
      show Steps _ _ _ (s₁.setTop (mkF m 3 #[.val (.ref x0), .val (.int (0 : Int32)), .val (.int (1 : Int32)), .val (.int (-1 : Int32)), .unset] [(.int (0 : Int32)), (.int (1 : Int32))])) _
      refine XS.iloadN X0.here hx rfl (hb hby d7_3) rfl ?_
      exact Steps.refl _)
  obtain ⟨_, _, ⟨T3, L3, k3, n3⟩, -, X3, ⟨Lc3, hQ3, l3, y3, z3⟩, sr3⟩ := Jvm.LawKit.callS X0 hx (y := (⟨"java/util/Arrays", "rangeCheck", "(III)V"⟩ : MethodName)) hown (mvT hZ (hw _ (List.mem_of_getElem? (i := 42) rfl))) (mvT hZ (hw _ (List.mem_of_getElem? (i := 43) rfl))) (mvT hZ (hw _ (List.mem_of_getElem? (i := 30) rfl))) (mvT hZ (hw _ (List.mem_of_getElem? (i := 44) rfl))) (by decide) (backOf (W := 0) (rm8 l Z a0 hw [] (1 : Int32) (0 : Int32) (1 : Int32)  h0 n0 Z0 (by decide) (by decide) (by decide)) hZ (hw _ (List.mem_of_getElem? (i := 44) rfl)) (hw _ (List.mem_of_getElem? (i := 30) rfl)) (by decide) (by decide)) (g := (mkF m 4 #[.val (.ref x0), .val (.int (0 : Int32)), .val (.int (1 : Int32)), .val (.int (-1 : Int32)), .unset] [(.int (1 : Int32)), (.int (0 : Int32)), (.int (1 : Int32))])) rfl (by rw [hml]; rfl) (argsL := [(.int (1 : Int32)), (.int (0 : Int32)), (.int (1 : Int32))]) (rest := []) (lenOf pd_2 rfl) rfl (by show 2 * 0 + _ ≤ _; exact Nat.le_of_eq rfl) (hb hby d7_4) (fun _ _ => ⟨rfl, e0, (by decide : 0 + 0 ≤ _), (by decide : 0 + 0 ≤ _)⟩)
  dsimp only [Pt.U, Pt.locs, Pt.cells, Pt.slots] at X3 l3 y3 z3 sr3 hQ3
  subst l3 y3 z3
  obtain ⟨rfl, N3q, hh3⟩ := hQ3
  have N3 := Fr.app N0 N3q
  obtain ⟨LL3, X3, N3⟩ := own_hide X3 N3
  have st4 : Steps p.tables e below sE (T3.setTop (mkF m 7 #[.val (.ref x0), .val (.int (0 : Int32)), .val (.int (1 : Int32)), .val (.int (-1 : Int32)), .unset] [])) := st2.trans (sr3 _ (Steps.refl _))
  have st5 : Steps p.tables e below sE (T3.setTop (mkF m 13 #[.val (.ref x0), .val (.int (0 : Int32)), .val (.int (1 : Int32)), .val (.int (-1 : Int32)), .val (.int (0 : Int32))] [(.int (1 : Int32)), (.int (0 : Int32))])) := st4.trans (by
      show Steps _ _ _ (T3.setTop (mkF m 7 #[.val (.ref x0), .val (.int (0 : Int32)), .val (.int (1 : Int32)), .val (.int (-1 : Int32)), .unset] [])) _
      refine XS.iloadN X3.here hx rfl (hb hby d7_7) rfl ?_
      show Steps _ _ _ (T3.setTop (mkF m 8 #[.val (.ref x0), .val (.int (0 : Int32)), .val (.int (1 : Int32)), .val (.int (-1 : Int32)), .unset] [(.int (0 : Int32))])) _
      refine XS.istore X3.here hx rfl (hb hby d7_8) rfl (l' := #[.val (.ref x0), .val (.int (0 : Int32)), .val (.int (1 : Int32)), .val (.int (-1 : Int32)), .val (.int (0 : Int32))]) rfl ?_
      show Steps _ _ _ (T3.setTop (mkF m 10 #[.val (.ref x0), .val (.int (0 : Int32)), .val (.int (1 : Int32)), .val (.int (-1 : Int32)), .val (.int (0 : Int32))] [])) _
      refine XS.iload X3.here hx rfl (hb hby d7_10) rfl ?_
      show Steps _ _ _ (T3.setTop (mkF m 12 #[.val (.ref x0), .val (.int (0 : Int32)), .val (.int (1 : Int32)), .val (.int (-1 : Int32)), .val (.int (0 : Int32))] [(.int (0 : Int32))])) _
      refine XS.iloadN X3.here hx rfl (hb hby d7_12) rfl ?_
      exact Steps.refl _)
  have hf6 : (0 : Int32) < (1 : Int32) := by decide
  have st7 : Steps p.tables e below sE (T3.setTop (mkF m 20 #[.val (.ref x0), .val (.int (0 : Int32)), .val (.int (1 : Int32)), .val (.int (-1 : Int32)), .val (.int (0 : Int32))] [(.int (-1 : Int32)), (.int (0 : Int32)), (.ref x0)])) := st5.trans (by
      show Steps _ _ _ (T3.setTop (mkF m 13 #[.val (.ref x0), .val (.int (0 : Int32)), .val (.int (1 : Int32)), .val (.int (-1 : Int32)), .val (.int (0 : Int32))] [(.int (1 : Int32)), (.int (0 : Int32))])) _
      refine XS.icmpNo X3.here hx rfl (hb hby d7_13) rfl (tlt hf6).2.1 ?_
      show Steps _ _ _ (T3.setTop (mkF m 16 #[.val (.ref x0), .val (.int (0 : Int32)), .val (.int (1 : Int32)), .val (.int (-1 : Int32)), .val (.int (0 : Int32))] [])) _
      refine XS.aloadN X3.here hx rfl (hb hby d7_16) rfl rfl ?_
      show Steps _ _ _ (T3.setTop (mkF m 17 #[.val (.ref x0), .val (.int (0 : Int32)), .val (.int (1 : Int32)), .val (.int (-1 : Int32)), .val (.int (0 : Int32))] [(.ref x0)])) _
      refine XS.iload X3.here hx rfl (hb hby d7_17) rfl ?_
      show Steps _ _ _ (T3.setTop (mkF m 19 #[.val (.ref x0), .val (.int (0 : Int32)), .val (.int (1 : Int32)), .val (.int (-1 : Int32)), .val (.int (0 : Int32))] [(.int (0 : Int32)), (.ref x0)])) _
      refine XS.iloadN X3.here hx rfl (hb hby d7_19) rfl ?_
      exact Steps.refl _)
  obtain ⟨cl8, Ar8, q8, S8, N8, H8, G8⟩ := id A_s
  have hin8 : ¬ ((0 : Int32) < 0 ∨ cl8.slots.size ≤ ((0 : Int32)).toNatClampNeg) := inb_of S8 ⟨by decide, by decide⟩
  obtain ⟨T9, h9, X9, e9, W9, sr9⟩ := stI X3 hx hZ hh3 Ar8 (j := (0 : Int32)) hin8 (g := (mkF m 20 #[.val (.ref x0), .val (.int (0 : Int32)), .val (.int (1 : Int32)), .val (.int (-1 : Int32)), .val (.int (0 : Int32))] [(.int (-1 : Int32)), (.int (0 : Int32)), (.ref x0)])) rfl rfl (hb hby d7_20)
  have f10 : Arv Z h9 x0 kS .int (1 : Int32) (List.map Value.int (LS.set ((0 : Int32)).toNatClampNeg (-1 : Int32))) (.int (0 : Int32)) := (by have q := Arv.set Ar8 q8 S8 N8 H8 G8 rfl W9 _ rfl (by simp only [List.length_map, List.length_set, hLl]; decide); rw [own_setI] at q; exact q)
  have K11 : Keep h0 h9 [x0] := K0.wr W9 (Or.inl (List.mem_of_getElem? (i := 0) rfl))
  have Z9 : n0 ≤ h9.size := Nat.le_trans Z0 (Keep.of_wr W9).1
  have N9 := Fr.snoc X9 N3 g_x
  obtain ⟨LL9, X9, N9⟩ := own_hide X9 N9
  have st12 : Steps p.tables e below sE (T9.setTop (mkF m 21 #[.val (.ref x0), .val (.int (0 : Int32)), .val (.int (1 : Int32)), .val (.int (-1 : Int32)), .val (.int (0 : Int32))] [])) := st7.trans (sr9 _ (Steps.refl _))
  have st13 : Steps p.tables e below sE (T9.setTop (mkF m 13 #[.val (.ref x0), .val (.int (0 : Int32)), .val (.int (1 : Int32)), .val (.int (-1 : Int32)), .val (.int (1 : Int32))] [(.int (1 : Int32)), (.int (1 : Int32))])) := st12.trans (by
      show Steps _ _ _ (T9.setTop (mkF m 21 #[.val (.ref x0), .val (.int (0 : Int32)), .val (.int (1 : Int32)), .val (.int (-1 : Int32)), .val (.int (0 : Int32))] [])) _
      refine XS.iinc X9.here hx rfl (hb hby d7_21) rfl (l' := #[.val (.ref x0), .val (.int (0 : Int32)), .val (.int (1 : Int32)), .val (.int (-1 : Int32)), .val (.int (1 : Int32))]) rfl ?_
      show Steps _ _ _ (T9.setTop (mkF m 24 #[.val (.ref x0), .val (.int (0 : Int32)), .val (.int (1 : Int32)), .val (.int (-1 : Int32)), .val (.int (1 : Int32))] [])) _
      refine XS.goto X9.here hx rfl (pc0 := 24) (pc' := 10) rfl (hb hby d7_24) (by decide) (by decide) ?_
      show Steps _ _ _ (T9.setTop (mkF m 10 #[.val (.ref x0), .val (.int (0 : Int32)), .val (.int (1 : Int32)), .val (.int (-1 : Int32)), .val (.int (1 : Int32))] [])) _
      refine XS.iload X9.here hx rfl (hb hby d7_10) rfl ?_
      show Steps _ _ _ (T9.setTop (mkF m 12 #[.val (.ref x0), .val (.int (0 : Int32)), .val (.int (1 : Int32)), .val (.int (-1 : Int32)), .val (.int (1 : Int32))] [(.int (1 : Int32))])) _
      refine XS.iloadN X9.here hx rfl (hb hby d7_12) rfl ?_
      exact Steps.refl _)
  have hf14 : ¬ ((1 : Int32) < (1 : Int32)) := by decide
  have st15 : Steps p.tables e below sE (T9.setTop (mkF m 27 #[.val (.ref x0), .val (.int (0 : Int32)), .val (.int (1 : Int32)), .val (.int (-1 : Int32)), .val (.int (1 : Int32))] [])) := st13.trans (by
      show Steps _ _ _ (T9.setTop (mkF m 13 #[.val (.ref x0), .val (.int (0 : Int32)), .val (.int (1 : Int32)), .val (.int (-1 : Int32)), .val (.int (1 : Int32))] [(.int (1 : Int32)), (.int (1 : Int32))])) _
      refine XS.icmpYes X9.here hx rfl (pc0 := 13) (pc' := 27) rfl (hb hby d7_13) rfl (flt hf14).2.1 (by decide) (by decide) ?_
      exact Steps.refl _)
  obtain ⟨fs, hr, hrun, hended, hW, hsame⟩ := X9.leave (v := none) (fun _ => rfl) hlk
  refine ⟨_, _, (own_ent hsE st15).trans ?_, hrun, hended, _, _, rfl, ?_, ⟨_, rfl⟩, hW, hsame.mono (by decide) (by decide)⟩
  · exact X9.returnOut hx Bd.returns (hb hby d7_27) hr
  · show Qfl0 Z x0 kS LS h0 n0 _ T9.heap _
    rw [e9]
    exact ⟨rfl, N9, K11, f10⟩
theorem own_cp1 (L : List Int32) (h : L.length = 1) : (List.take ((0 : Int32)).toNatClampNeg ([(.int (0 : Int32)), (.int (0 : Int32))] : List Value) ++ (List.range ((1 : Int32)).toNatClampNeg).map (fun i => (List.map Value.int L).getD (((0 : Int32)).toNatClampNeg + i) (.int (0 : Int32))) ++ List.drop (((0 : Int32)).toNatClampNeg + ((1 : Int32)).toNatClampNeg) [(.int (0 : Int32)), (.int (0 : Int32))]) = List.map Value.int (L ++ List.replicate 1 (0 : Int32)) := by
  match L, h with
  | [a0], _ => rfl
theorem ef_cp1 (m : MethodId) (x0 : Addr)  : entryFrame m #[(.ref x0), (.int (2 : Int32))] 3 = mkF m 0 #[.val (.ref x0), .val (.int (2 : Int32)), .unset] [] := by first | (simp [entryFrame, mkF, argsToLocals, Value.category]; done) | rfl
def Qcp1 (Z : State) (x0 : Addr) (kS : ClassId) (LS : List Int32) (h0 : Heap) (n0 : Nat) (vE : Option Value) (hE : Heap) (LE : List Loc) : Prop := vE = some (.ref h0.size) ∧ Fr n0 LE ∧ Keep h0 hE [] ∧ (∃ kN : ClassId, Arv Z hE h0.size kN .int (2 : Int32) (List.map Value.int (LS ++ List.replicate 1 (0 : Int32))) (.int (0 : Int32)))
set_option maxRecDepth 65536 in
set_option maxHeartbeats 40000000 in
theorem rmcp1 (l : Launch) (Z : State) (a0 : Array Value) (hw : ∀ d ∈ tables_1, d.before a0 Z = true) (ws : List Jvm.Cond) (x0 : Addr) (kS : ClassId) (LS : List Int32) (h0 : Heap) (n0 : Nat) (Z0 : n0 ≤ h0.size) (A_s : Arv Z h0 x0 kS .int (1 : Int32) (List.map Value.int LS) (.int (0 : Int32))) (hLl : LS.length = 1) :
    MetFree l (⟨"java/util/Arrays", "copyOf", "([II)[I"⟩ : MethodName) (head1 (Jvm.Cond.code (⟨"java/util/Arrays", "copyOf", "([II)[I"⟩ : MethodName) jdk_65_method_123_code 3 (some (.array .int)) :: ws) ({ frames := 1, cells := 1, slots := 2, locals := 18 } : Room)) (fun a U => a = #[(.ref x0), (.int (2 : Int32))] ∧ Z.Warmed39 U.vm ∧ U.heap = h0) (fun _ _ _ _ _ => True) (fun _ U o U' => ∃ vE LE, o = .returned vE ∧ Qcp1 Z x0 kS LS h0 n0 vE U'.heap LE ∧ FrameEnd U o U' LE ({ frames := 1, cells := 1, slots := 2, locals := 18 } : Room).cells ({ frames := 1, cells := 1, slots := 2, locals := 18 } : Room).slots) := by
  refine MetFree.of_bodySF (plainFor_of_name pn_0) hisR ?_
  intro p e s m args below meth c s₁ Bd hml0 hP hK
  obtain ⟨rfl, hZ, hh⟩ := hP
  have hx := Bd.exec
  have hby := Bd.bytes
  have hml : c.maxLocals = 3 := hml0
  have hown : s.vm.findClass "java/util/Arrays" = some m.cls := findClass_of_methodNamed Bd.named
  have hnm := (name_of_methodNamed Bd.named Bd.method).1
  have hlk : meth.locks = false := BodyLoose.notSynchronized Bd
  have X0 : Stand p l e ({ frames := 1, cells := 1, slots := 2, locals := 18 } : Room) s m #[(.ref x0), (.int (2 : Int32))] below meth c s₁ [] 0 0 := Stand.of_body Bd
  have e0 : s₁.heap = h0 := by rw [← hh, Bd.state]; rfl
  have N0 := Fr.nil n0
  obtain ⟨sE, hsE⟩ : ∃ z, z = (s₁.setTop (entryFrame m #[(.ref x0), (.int (2 : Int32))] 3)) := ⟨_, rfl⟩
  have st0 : Steps p.tables e below sE (s₁.setTop (mkF m 0 #[.val (.ref x0), .val (.int (2 : Int32)), .unset] [])) := by rw [hsE]; exact castTop (ef_cp1 m x0) (Steps.refl _)
  have K0 : Keep h0 h0 [] := Keep.refl _ _
  obtain ⟨cl1, Ar1, -, S1, N1, -, -⟩ := id A_s
  have st2 : Steps p.tables e below sE (s₁.setTop (mkF m 3 #[.val (.ref x0), .val (.int (2 : Int32)), .unset] [(.int (1 : Int32)), (.int (2 : Int32))])) := st0.trans (by
      show Steps _ _ _ (s₁.setTop (mkF m 0 #[.val (.ref x0), .val (.int (2 : Int32)), .unset] [])) _
      refine XS.iloadN X0.here hx rfl (hb hby d5_0) rfl ?_
      show Steps _ _ _ (s₁.setTop (mkF m 1 #[.val (.ref x0), .val (.int (2 : Int32)), .unset] [(.int (2 : Int32))])) _
      refine XS.aloadN X0.here hx rfl (hb hby d5_1) rfl rfl ?_
      show Steps _ _ _ (s₁.setTop (mkF m 2 #[.val (.ref x0), .val (.int (2 : Int32)), .unset] [(.ref x0), (.int (2 : Int32))])) _
      refine X0.arraylength hx (by rw [e0]; exact Ar1.1) (State.isArrayOf_alike hZ.alike Ar1.2.1) (g := (mkF m 2 #[.val (.ref x0), .val (.int (2 : Int32)), .unset] [(.ref x0), (.int (2 : Int32))])) rfl rfl (hb hby d5_2) _ ?_
      rw [len_of S1 N1]
      exact Steps.refl _)
  have hf3 : ¬ ((2 : Int32) = (1 : Int32)) := by decide
  have st4 : Steps p.tables e below sE (s₁.setTop (mkF m 15 #[.val (.ref x0), .val (.int (2 : Int32)), .unset] [(.int (2 : Int32))])) := st2.trans (by
      show Steps _ _ _ (s₁.setTop (mkF m 3 #[.val (.ref x0), .val (.int (2 : Int32)), .unset] [(.int (1 : Int32)), (.int (2 : Int32))])) _
      refine XS.icmpYes X0.here hx rfl (pc0 := 3) (pc' := 14) rfl (hb hby d5_3) rfl (feq hf3).2 (by decide) (by decide) ?_
      show Steps _ _ _ (s₁.setTop (mkF m 14 #[.val (.ref x0), .val (.int (2 : Int32)), .unset] [])) _
      refine XS.iloadN X0.here hx rfl (hb hby d5_14) rfl ?_
      exact Steps.refl _)
  obtain ⟨T5, h5, k5, X5, e5, E5, A5, sr5⟩ := newP X0 hx hZ (hw _ (List.mem_of_getElem? (i := 10) rfl)) e0 (g := (mkF m 15 #[.val (.ref x0), .val (.int (2 : Int32)), .unset] [(.int (2 : Int32))])) rfl (hb hby d5_15) rfl (by decide) (cap := 2) (by decide) (by decide) (by decide) (by decide)
  obtain ⟨b5, g5⟩ : ∃ z, z = h0.size := ⟨_, rfl⟩
  rw [← g5] at A5 sr5
  have g_b5 : n0 ≤ b5 := Nat.le_trans Z0 (Nat.le_of_eq g5.symm)
  have sz_b5 : h0.size ≤ b5 := Nat.le_trans K0.1 (Nat.le_of_eq g5.symm)
  have ne_x0_b5 : x0 ≠ b5 := Nat.ne_of_lt (Nat.lt_of_lt_of_le A_s.lt (Nat.le_of_eq g5.symm))
  have f6 : Arv Z h5 x0 kS .int (1 : Int32) (List.map Value.int LS) (.int (0 : Int32)) := A_s.ext E5
  have K7 : Keep h0 h5 [] := K0.ext E5
  have f8 : Arv Z h5 b5 k5 .int (2 : Int32) [(.int (0 : Int32)), (.int (0 : Int32))] (.int (0 : Int32)) := (Arv.new A5 (by decide)).pad (pad_rep [] (.int (0 : Int32)) 2)
  have Z5 : n0 ≤ h5.size := Nat.le_trans Z0 E5.1
  have st9 : Steps p.tables e below sE (T5.setTop (mkF m 17 #[.val (.ref x0), .val (.int (2 : Int32)), .unset] [(.ref b5)])) := st4.trans (sr5 _ (Steps.refl _))
  obtain ⟨cl10, Ar10, -, S10, N10, -, -⟩ := id f6
  have st11 : Steps p.tables e below sE (T5.setTop (mkF m 25 #[.val (.ref x0), .val (.int (2 : Int32)), .val (.ref b5)] [(.int (2 : Int32)), (.int (1 : Int32)), (.int (0 : Int32)), (.ref b5), (.int (0 : Int32)), (.ref x0)])) := st9.trans (by
      show Steps _ _ _ (T5.setTop (mkF m 17 #[.val (.ref x0), .val (.int (2 : Int32)), .unset] [(.ref b5)])) _
      refine XS.astoreN X5.here hx rfl (hb hby d5_17) rfl rfl (l' := #[.val (.ref x0), .val (.int (2 : Int32)), .val (.ref b5)]) rfl ?_
      show Steps _ _ _ (T5.setTop (mkF m 18 #[.val (.ref x0), .val (.int (2 : Int32)), .val (.ref b5)] [])) _
      refine XS.aloadN X5.here hx rfl (hb hby d5_18) rfl rfl ?_
      show Steps _ _ _ (T5.setTop (mkF m 19 #[.val (.ref x0), .val (.int (2 : Int32)), .val (.ref b5)] [(.ref x0)])) _
      refine XS.iconst X5.here hx rfl (hb hby d5_19) ?_
      show Steps _ _ _ (T5.setTop (mkF m 20 #[.val (.ref x0), .val (.int (2 : Int32)), .val (.ref b5)] [(.int (0 : Int32)), (.ref x0)])) _
      refine XS.aloadN X5.here hx rfl (hb hby d5_20) rfl rfl ?_
      show Steps _ _ _ (T5.setTop (mkF m 21 #[.val (.ref x0), .val (.int (2 : Int32)), .val (.ref b5)] [(.ref b5), (.int (0 : Int32)), (.ref x0)])) _
      refine XS.iconst X5.here hx rfl (hb hby d5_21) ?_
      show Steps _ _ _ (T5.setTop (mkF m 22 #[.val (.ref x0), .val (.int (2 : Int32)), .val (.ref b5)] [(.int (0 : Int32)), (.ref b5), (.int (0 : Int32)), (.ref x0)])) _
      refine XS.aloadN X5.here hx rfl (hb hby d5_22) rfl rfl ?_
      show Steps _ _ _ (T5.setTop (mkF m 23 #[.val (.ref x0), .val (.int (2 : Int32)), .val (.ref b5)] [(.ref x0), (.int (0 : Int32)), (.ref b5), (.int (0 : Int32)), (.ref x0)])) _
      refine X5.arraylength hx (by rw [e5]; exact Ar10.1) (State.isArrayOf_alike hZ.alike Ar10.2.1) (g := (mkF m 23 #[.val (.ref x0), .val (.int (2 : Int32)), .val (.ref b5)] [(.ref x0), (.int (0 : Int32)), (.ref b5), (.int (0 : Int32)), (.ref x0)])) rfl rfl (hb hby d5_23) _ ?_
      rw [len_of S10 N10]
      show Steps _ _ _ (T5.setTop (mkF m 24 #[.val (.ref x0), .val (.int (2 : Int32)), .val (.ref b5)] [(.int (1 : Int32)), (.int (0 : Int32)), (.ref b5), (.int (0 : Int32)), (.ref x0)])) _
      refine XS.iloadN X5.here hx rfl (hb hby d5_24) rfl ?_
      exact Steps.refl _)
  obtain ⟨_, _, ⟨T12, L12, k12, n12⟩, -, X12, ⟨Lc12, hQ12, l12, y12, z12⟩, sr12⟩ := Jvm.LawKit.callS X5 hx (y := (⟨"java/lang/Math", "min", "(II)I"⟩ : MethodName)) hown (mvT hZ (hw _ (List.mem_of_getElem? (i := 32) rfl))) (mvT hZ (hw _ (List.mem_of_getElem? (i := 33) rfl))) (mvT hZ (hw _ (List.mem_of_getElem? (i := 26) rfl))) (mvT hZ (hw _ (List.mem_of_getElem? (i := 34) rfl))) (by decide) (backOf (W := 4) (rm6 l Z a0 hw [] (1 : Int32) (2 : Int32)  h5 n0 Z5 ) hZ (hw _ (List.mem_of_getElem? (i := 34) rfl)) (hw _ (List.mem_of_getElem? (i := 26) rfl)) (by decide) (by decide)) (g := (mkF m 25 #[.val (.ref x0), .val (.int (2 : Int32)), .val (.ref b5)] [(.int (2 : Int32)), (.int (1 : Int32)), (.int (0 : Int32)), (.ref b5), (.int (0 : Int32)), (.ref x0)])) rfl (by rw [hml]; rfl) (argsL := [(.int (1 : Int32)), (.int (2 : Int32))]) (rest := [(.int (0 : Int32)), (.ref b5), (.int (0 : Int32)), (.ref x0)]) (lenOf pd_1 rfl) rfl (by show 2 * 0 + _ ≤ _; exact Nat.le_of_eq rfl) (hb hby d5_25) (fun _ _ => ⟨rfl, e5, (by decide : 1 + 0 ≤ _), (by decide : 2 + 0 ≤ _)⟩)
  dsimp only [Pt.U, Pt.locs, Pt.cells, Pt.slots] at X12 l12 y12 z12 sr12 hQ12
  subst l12 y12 z12
  obtain ⟨rfl, N12q, hh12⟩ := hQ12
  have N12 := Fr.app N0 N12q
  obtain ⟨LL12, X12, N12⟩ := own_hide X12 N12
  have st13 : Steps p.tables e below sE (T12.setTop (mkF m 28 #[.val (.ref x0), .val (.int (2 : Int32)), .val (.ref b5)] [(.int (F6 (1 : Int32) (2 : Int32))), (.int (0 : Int32)), (.ref b5), (.int (0 : Int32)), (.ref x0)])) := st11.trans (sr12 _ (Steps.refl _))
  have hmn : (F6 (1 : Int32) (2 : Int32)) = (1 : Int32) := by decide
  rw [hmn] at st13
  obtain ⟨T14, h14, LL14, X14, e14, N14, K14, V14, sr14⟩ := cpA X12 hx hZ hown (hw _ (List.mem_of_getElem? (i := 35) rfl)) (hw _ (List.mem_of_getElem? (i := 38) rfl)) (hw _ (List.mem_of_getElem? (i := 36) rfl)) (hw _ (List.mem_of_getElem? (i := 37) rfl)) hh12 f6 f8 (Or.inl ⟨rfl, rfl⟩) (by decide) (by decide) (by decide) (by decide) (by decide) rfl (by decide) N12 g_b5 (g := (mkF m 28 #[.val (.ref x0), .val (.int (2 : Int32)), .val (.ref b5)] [(.int (1 : Int32)), (.int (0 : Int32)), (.ref b5), (.int (0 : Int32)), (.ref x0)])) rfl (by rw [hml]; rfl) rfl (hb hby d5_28) (by decide) (W := 0) (by show 2 * 0 + _ ≤ _; exact Nat.le_of_eq rfl) (by decide)
  have f15 : Arv Z h14 x0 kS .int (1 : Int32) (List.map Value.int LS) (.int (0 : Int32)) := f6.keep K14 (ninS ne_x0_b5 nin0)
  have K16 : Keep h0 h14 [] := K7.trans K14 (allS (Or.inr sz_b5) all0)
  have Z17 : n0 ≤ h14.size := Nat.le_trans Z5 K14.1
  have f18 : Arv Z h14 b5 k5 .int (2 : Int32) (List.map Value.int (LS ++ List.replicate 1 (0 : Int32))) (.int (0 : Int32)) := (by have q := V14; rw [own_cp1 LS hLl] at q; exact q)
  have st19 : Steps p.tables e below sE (T14.setTop (mkF m 31 #[.val (.ref x0), .val (.int (2 : Int32)), .val (.ref b5)] [])) := st13.trans (sr14 _ (Steps.refl _))
  have st20 : Steps p.tables e below sE (T14.setTop (mkF m 32 #[.val (.ref x0), .val (.int (2 : Int32)), .val (.ref b5)] [(.ref b5)])) := st19.trans (by
      show Steps _ _ _ (T14.setTop (mkF m 31 #[.val (.ref x0), .val (.int (2 : Int32)), .val (.ref b5)] [])) _
      refine XS.aloadN X14.here hx rfl (hb hby d5_31) rfl rfl ?_
      exact Steps.refl _)
  obtain ⟨fs, hr, hrun, hended, hW, hsame⟩ := X14.leave (v := some (.ref b5)) (fun h => by rw [Bd.returns] at h; cases h) hlk
  refine ⟨_, _, (own_ent hsE st20).trans ?_, hrun, hended, _, _, rfl, ?_, ⟨_, rfl⟩, hW, hsame.mono (by decide) (by decide)⟩
  · exact retOut X14 hx (t := (.array .int)) Bd.returns rfl (Or.inr (Or.inr (Or.inr (Or.inr ⟨rfl, rfl, rfl⟩)))) (hb hby d5_32) hr
  · show Qcp1 Z x0 kS LS h0 n0 _ T14.heap _
    rw [e14]
    exact ⟨by rw [g5], N14, K16, ⟨k5, by rw [← g5]; exact f18⟩⟩
theorem ef_fl1 (m : MethodId) (x0 : Addr)  : entryFrame m #[(.ref x0), (.int (1 : Int32)), (.int (2 : Int32)), (.int (-1 : Int32))] 5 = mkF m 0 #[.val (.ref x0), .val (.int (1 : Int32)), .val (.int (2 : Int32)), .val (.int (-1 : Int32)), .unset] [] := by first | (simp [entryFrame, mkF, argsToLocals, Value.category]; done) | rfl
def Qfl1 (Z : State) (x0 : Addr) (kS : ClassId) (LS : List Int32) (h0 : Heap) (n0 : Nat) (vE : Option Value) (hE : Heap) (LE : List Loc) : Prop := vE = none ∧ Fr n0 LE ∧ Keep h0 hE [x0] ∧ Arv Z hE x0 kS .int (2 : Int32) (List.map Value.int (LS.set ((1 : Int32)).toNatClampNeg (-1 : Int32))) (.int (0 : Int32))
set_option maxRecDepth 65536 in
set_option maxHeartbeats 40000000 in
theorem rmfl1 (l : Launch) (Z : State) (a0 : Array Value) (hw : ∀ d ∈ tables_1, d.before a0 Z = true) (ws : List Jvm.Cond) (x0 : Addr) (kS : ClassId) (LS : List Int32) (h0 : Heap) (n0 : Nat) (Z0 : n0 ≤ h0.size) (A_s : Arv Z h0 x0 kS .int (2 : Int32) (List.map Value.int LS) (.int (0 : Int32))) (hLl : LS.length = 2) (g_x : n0 ≤ x0) :
    MetFree l (⟨"java/util/Arrays", "fill", "([IIII)V"⟩ : MethodName) (head1 (Jvm.Cond.code (⟨"java/util/Arrays", "fill", "([IIII)V"⟩ : MethodName) jdk_65_method_104_code 5 none :: ws) ({ frames := 1, cells := 0, slots := 0, locals := 14 } : Room)) (fun a U => a = #[(.ref x0), (.int (1 : Int32)), (.int (2 : Int32)), (.int (-1 : Int32))] ∧ Z.Warmed39 U.vm ∧ U.heap = h0) (fun _ _ _ _ _ => True) (fun _ U o U' => ∃ vE LE, o = .returned vE ∧ Qfl1 Z x0 kS LS h0 n0 vE U'.heap LE ∧ FrameEnd U o U' LE ({ frames := 1, cells := 0, slots := 0, locals := 14 } : Room).cells ({ frames := 1, cells := 0, slots := 0, locals := 14 } : Room).slots) := by
  refine MetFree.of_bodySF (plainFor_of_name pn_0) hisR ?_
  intro p e s m args below meth c s₁ Bd hml0 hP hK
  obtain ⟨rfl, hZ, hh⟩ := hP
  have hx := Bd.exec
  have hby := Bd.bytes
  have hml : c.maxLocals = 5 := hml0
  have hown : s.vm.findClass "java/util/Arrays" = some m.cls := findClass_of_methodNamed Bd.named
  have hnm := (name_of_methodNamed Bd.named Bd.method).1
  have hlk : meth.locks = false := BodyLoose.notSynchronized Bd
  have X0 : Stand p l e ({ frames := 1, cells := 0, slots := 0, locals := 14 } : Room) s m #[(.ref x0), (.int (1 : Int32)), (.int (2 : Int32)), (.int (-1 : Int32))] below meth c s₁ [] 0 0 := Stand.of_body Bd
  have e0 : s₁.heap = h0 := by rw [← hh, Bd.state]; rfl
  have N0 := Fr.nil n0
  obtain ⟨sE, hsE⟩ : ∃ z, z = (s₁.setTop (entryFrame m #[(.ref x0), (.int (1 : Int32)), (.int (2 : Int32)), (.int (-1 : Int32))] 5)) := ⟨_, rfl⟩
  have st0 : Steps p.tables e below sE (s₁.setTop (mkF m 0 #[.val (.ref x0), .val (.int (1 : Int32)), .val (.int (2 : Int32)), .val (.int (-1 : Int32)), .unset] [])) := by rw [hsE]; exact castTop (ef_fl1 m x0) (Steps.refl _)
  have K0 : Keep h0 h0 [x0] := Keep.refl _ _
  obtain ⟨cl1, Ar1, -, S1, N1, -, -⟩ := id A_s
  have st2 : Steps p.tables e below sE (s₁.setTop (mkF m 4 #[.val (.ref x0), .val (.int (1 : Int32)), .val (.int (2 : Int32)), .val (.int (-1 : Int32)), .unset] [(.int (2 : Int32)), (.int (1 : Int32)), (.int (2 : Int32))])) := st0.trans (by
      show Steps _ _ _ (s₁.setTop (mkF m 0 #[.val (.ref x0), .val (.int (1 : Int32)), .val (.int (2 : Int32)), .val (.int (-1 : Int32)), .unset] [])) _
      refine XS.aloadN X0.here hx rfl (hb hby d7_0) rfl rfl ?_
      show Steps _ _ _ (s₁.setTop (mkF m 1 #[.val (.ref x0), .val (.int (1 : Int32)), .val (.int (2 : Int32)), .val (.int (-1 : Int32)), .unset] [(.ref x0)])) _
      refine X0.arraylength hx (by rw [e0]; exact Ar1.1) (State.isArrayOf_alike hZ.alike Ar1.2.1) (g := (mkF m 1 #[.val (.ref x0), .val (.int (1 : Int32)), .val (.int (2 : Int32)), .val (.int (-1 : Int32)), .unset] [(.ref x0)])) rfl rfl (hb hby d7_1) _ ?_
      rw [len_of S1 N1]
      show Steps _ _ _ (s₁.setTop (mkF m 2 #[.val (.ref x0), .val (.int (1 : Int32)), .val (.int (2 : Int32)), .val (.int (-1 : Int32)), .unset] [(.int (2 : Int32))])) _
      refine XS.iloadN X0.here hx rfl (hb hby d7_2) rfl ?_
      show Steps _ _ _ (s₁.setTop (mkF m 3 #[.val (.ref x0), .val (.int (1 : Int32)), .val (.int (2 : Int32)), .val (.int (-1 : Int32)), .unset] [(.int (1 : Int32)), (.int (2 : Int32))])) _
      refine XS.iloadN X0.here hx rfl (hb hby d7_3) rfl ?_
      exact Steps.refl _)
  obtain ⟨_, _, ⟨T3, L3, k3, n3⟩, -, X3, ⟨Lc3, hQ3, l3, y3, z3⟩, sr3⟩ := Jvm.LawKit.callS X0 hx (y := (⟨"java/util/Arrays", "rangeCheck", "(III)V"⟩ : MethodName)) hown (mvT hZ (hw _ (List.mem_of_getElem? (i := 42) rfl))) (mvT hZ (hw _ (List.mem_of_getElem? (i := 43) rfl))) (mvT hZ (hw _ (List.mem_of_getElem? (i := 30) rfl))) (mvT hZ (hw _ (List.mem_of_getElem? (i := 44) rfl))) (by decide) (backOf (W := 0) (rm8 l Z a0 hw [] (2 : Int32) (1 : Int32) (2 : Int32)  h0 n0 Z0 (by decide) (by decide) (by decide)) hZ (hw _ (List.mem_of_getElem? (i := 44) rfl)) (hw _ (List.mem_of_getElem? (i := 30) rfl)) (by decide) (by decide)) (g := (mkF m 4 #[.val (.ref x0), .val (.int (1 : Int32)), .val (.int (2 : Int32)), .val (.int (-1 : Int32)), .unset] [(.int (2 : Int32)), (.int (1 : Int32)), (.int (2 : Int32))])) rfl (by rw [hml]; rfl) (argsL := [(.int (2 : Int32)), (.int (1 : Int32)), (.int (2 : Int32))]) (rest := []) (lenOf pd_2 rfl) rfl (by show 2 * 0 + _ ≤ _; exact Nat.le_of_eq rfl) (hb hby d7_4) (fun _ _ => ⟨rfl, e0, (by decide : 0 + 0 ≤ _), (by decide : 0 + 0 ≤ _)⟩)
  dsimp only [Pt.U, Pt.locs, Pt.cells, Pt.slots] at X3 l3 y3 z3 sr3 hQ3
  subst l3 y3 z3
  obtain ⟨rfl, N3q, hh3⟩ := hQ3
  have N3 := Fr.app N0 N3q
  obtain ⟨LL3, X3, N3⟩ := own_hide X3 N3
  have st4 : Steps p.tables e below sE (T3.setTop (mkF m 7 #[.val (.ref x0), .val (.int (1 : Int32)), .val (.int (2 : Int32)), .val (.int (-1 : Int32)), .unset] [])) := st2.trans (sr3 _ (Steps.refl _))
  have st5 : Steps p.tables e below sE (T3.setTop (mkF m 13 #[.val (.ref x0), .val (.int (1 : Int32)), .val (.int (2 : Int32)), .val (.int (-1 : Int32)), .val (.int (1 : Int32))] [(.int (2 : Int32)), (.int (1 : Int32))])) := st4.trans (by
      show Steps _ _ _ (T3.setTop (mkF m 7 #[.val (.ref x0), .val (.int (1 : Int32)), .val (.int (2 : Int32)), .val (.int (-1 : Int32)), .unset] [])) _
      refine XS.iloadN X3.here hx rfl (hb hby d7_7) rfl ?_
      show Steps _ _ _ (T3.setTop (mkF m 8 #[.val (.ref x0), .val (.int (1 : Int32)), .val (.int (2 : Int32)), .val (.int (-1 : Int32)), .unset] [(.int (1 : Int32))])) _
      refine XS.istore X3.here hx rfl (hb hby d7_8) rfl (l' := #[.val (.ref x0), .val (.int (1 : Int32)), .val (.int (2 : Int32)), .val (.int (-1 : Int32)), .val (.int (1 : Int32))]) rfl ?_
      show Steps _ _ _ (T3.setTop (mkF m 10 #[.val (.ref x0), .val (.int (1 : Int32)), .val (.int (2 : Int32)), .val (.int (-1 : Int32)), .val (.int (1 : Int32))] [])) _
      refine XS.iload X3.here hx rfl (hb hby d7_10) rfl ?_
      show Steps _ _ _ (T3.setTop (mkF m 12 #[.val (.ref x0), .val (.int (1 : Int32)), .val (.int (2 : Int32)), .val (.int (-1 : Int32)), .val (.int (1 : Int32))] [(.int (1 : Int32))])) _
      refine XS.iloadN X3.here hx rfl (hb hby d7_12) rfl ?_
      exact Steps.refl _)
  have hf6 : (1 : Int32) < (2 : Int32) := by decide
  have st7 : Steps p.tables e below sE (T3.setTop (mkF m 20 #[.val (.ref x0), .val (.int (1 : Int32)), .val (.int (2 : Int32)), .val (.int (-1 : Int32)), .val (.int (1 : Int32))] [(.int (-1 : Int32)), (.int (1 : Int32)), (.ref x0)])) := st5.trans (by
      show Steps _ _ _ (T3.setTop (mkF m 13 #[.val (.ref x0), .val (.int (1 : Int32)), .val (.int (2 : Int32)), .val (.int (-1 : Int32)), .val (.int (1 : Int32))] [(.int (2 : Int32)), (.int (1 : Int32))])) _
      refine XS.icmpNo X3.here hx rfl (hb hby d7_13) rfl (tlt hf6).2.1 ?_
      show Steps _ _ _ (T3.setTop (mkF m 16 #[.val (.ref x0), .val (.int (1 : Int32)), .val (.int (2 : Int32)), .val (.int (-1 : Int32)), .val (.int (1 : Int32))] [])) _
      refine XS.aloadN X3.here hx rfl (hb hby d7_16) rfl rfl ?_
      show Steps _ _ _ (T3.setTop (mkF m 17 #[.val (.ref x0), .val (.int (1 : Int32)), .val (.int (2 : Int32)), .val (.int (-1 : Int32)), .val (.int (1 : Int32))] [(.ref x0)])) _
      refine XS.iload X3.here hx rfl (hb hby d7_17) rfl ?_
      show Steps _ _ _ (T3.setTop (mkF m 19 #[.val (.ref x0), .val (.int (1 : Int32)), .val (.int (2 : Int32)), .val (.int (-1 : Int32)), .val (.int (1 : Int32))] [(.int (1 : Int32)), (.ref x0)])) _
      refine XS.iloadN X3.here hx rfl (hb hby d7_19) rfl ?_
      exact Steps.refl _)
  obtain ⟨cl8, Ar8, q8, S8, N8, H8, G8⟩ := id A_s
  have hin8 : ¬ ((1 : Int32) < 0 ∨ cl8.slots.size ≤ ((1 : Int32)).toNatClampNeg) := inb_of S8 ⟨by decide, by decide⟩
  obtain ⟨T9, h9, X9, e9, W9, sr9⟩ := stI X3 hx hZ hh3 Ar8 (j := (1 : Int32)) hin8 (g := (mkF m 20 #[.val (.ref x0), .val (.int (1 : Int32)), .val (.int (2 : Int32)), .val (.int (-1 : Int32)), .val (.int (1 : Int32))] [(.int (-1 : Int32)), (.int (1 : Int32)), (.ref x0)])) rfl rfl (hb hby d7_20)
  have f10 : Arv Z h9 x0 kS .int (2 : Int32) (List.map Value.int (LS.set ((1 : Int32)).toNatClampNeg (-1 : Int32))) (.int (0 : Int32)) := (by have q := Arv.set Ar8 q8 S8 N8 H8 G8 rfl W9 _ rfl (by simp only [List.length_map, List.length_set, hLl]; decide); rw [own_setI] at q; exact q)
  have K11 : Keep h0 h9 [x0] := K0.wr W9 (Or.inl (List.mem_of_getElem? (i := 0) rfl))
  have Z9 : n0 ≤ h9.size := Nat.le_trans Z0 (Keep.of_wr W9).1
  have N9 := Fr.snoc X9 N3 g_x
  obtain ⟨LL9, X9, N9⟩ := own_hide X9 N9
  have st12 : Steps p.tables e below sE (T9.setTop (mkF m 21 #[.val (.ref x0), .val (.int (1 : Int32)), .val (.int (2 : Int32)), .val (.int (-1 : Int32)), .val (.int (1 : Int32))] [])) := st7.trans (sr9 _ (Steps.refl _))
  have st13 : Steps p.tables e below sE (T9.setTop (mkF m 13 #[.val (.ref x0), .val (.int (1 : Int32)), .val (.int (2 : Int32)), .val (.int (-1 : Int32)), .val (.int (2 : Int32))] [(.int (2 : Int32)), (.int (2 : Int32))])) := st12.trans (by
      show Steps _ _ _ (T9.setTop (mkF m 21 #[.val (.ref x0), .val (.int (1 : Int32)), .val (.int (2 : Int32)), .val (.int (-1 : Int32)), .val (.int (1 : Int32))] [])) _
      refine XS.iinc X9.here hx rfl (hb hby d7_21) rfl (l' := #[.val (.ref x0), .val (.int (1 : Int32)), .val (.int (2 : Int32)), .val (.int (-1 : Int32)), .val (.int (2 : Int32))]) rfl ?_
      show Steps _ _ _ (T9.setTop (mkF m 24 #[.val (.ref x0), .val (.int (1 : Int32)), .val (.int (2 : Int32)), .val (.int (-1 : Int32)), .val (.int (2 : Int32))] [])) _
      refine XS.goto X9.here hx rfl (pc0 := 24) (pc' := 10) rfl (hb hby d7_24) (by decide) (by decide) ?_
      show Steps _ _ _ (T9.setTop (mkF m 10 #[.val (.ref x0), .val (.int (1 : Int32)), .val (.int (2 : Int32)), .val (.int (-1 : Int32)), .val (.int (2 : Int32))] [])) _
      refine XS.iload X9.here hx rfl (hb hby d7_10) rfl ?_
      show Steps _ _ _ (T9.setTop (mkF m 12 #[.val (.ref x0), .val (.int (1 : Int32)), .val (.int (2 : Int32)), .val (.int (-1 : Int32)), .val (.int (2 : Int32))] [(.int (2 : Int32))])) _
      refine XS.iloadN X9.here hx rfl (hb hby d7_12) rfl ?_
      exact Steps.refl _)
  have hf14 : ¬ ((2 : Int32) < (2 : Int32)) := by decide
  have st15 : Steps p.tables e below sE (T9.setTop (mkF m 27 #[.val (.ref x0), .val (.int (1 : Int32)), .val (.int (2 : Int32)), .val (.int (-1 : Int32)), .val (.int (2 : Int32))] [])) := st13.trans (by
      show Steps _ _ _ (T9.setTop (mkF m 13 #[.val (.ref x0), .val (.int (1 : Int32)), .val (.int (2 : Int32)), .val (.int (-1 : Int32)), .val (.int (2 : Int32))] [(.int (2 : Int32)), (.int (2 : Int32))])) _
      refine XS.icmpYes X9.here hx rfl (pc0 := 13) (pc' := 27) rfl (hb hby d7_13) rfl (flt hf14).2.1 (by decide) (by decide) ?_
      exact Steps.refl _)
  obtain ⟨fs, hr, hrun, hended, hW, hsame⟩ := X9.leave (v := none) (fun _ => rfl) hlk
  refine ⟨_, _, (own_ent hsE st15).trans ?_, hrun, hended, _, _, rfl, ?_, ⟨_, rfl⟩, hW, hsame.mono (by decide) (by decide)⟩
  · exact X9.returnOut hx Bd.returns (hb hby d7_27) hr
  · show Qfl1 Z x0 kS LS h0 n0 _ T9.heap _
    rw [e9]
    exact ⟨rfl, N9, K11, f10⟩
theorem own_cp2 (L : List Int32) (h : L.length = 2) : (List.take ((0 : Int32)).toNatClampNeg ([(.int (0 : Int32)), (.int (0 : Int32)), (.int (0 : Int32)), (.int (0 : Int32))] : List Value) ++ (List.range ((2 : Int32)).toNatClampNeg).map (fun i => (List.map Value.int L).getD (((0 : Int32)).toNatClampNeg + i) (.int (0 : Int32))) ++ List.drop (((0 : Int32)).toNatClampNeg + ((2 : Int32)).toNatClampNeg) [(.int (0 : Int32)), (.int (0 : Int32)), (.int (0 : Int32)), (.int (0 : Int32))]) = List.map Value.int (L ++ List.replicate 2 (0 : Int32)) := by
  match L, h with
  | [a0, a1], _ => rfl
theorem ef_cp2 (m : MethodId) (x0 : Addr)  : entryFrame m #[(.ref x0), (.int (4 : Int32))] 3 = mkF m 0 #[.val (.ref x0), .val (.int (4 : Int32)), .unset] [] := by first | (simp [entryFrame, mkF, argsToLocals, Value.category]; done) | rfl
def Qcp2 (Z : State) (x0 : Addr) (kS : ClassId) (LS : List Int32) (h0 : Heap) (n0 : Nat) (vE : Option Value) (hE : Heap) (LE : List Loc) : Prop := vE = some (.ref h0.size) ∧ Fr n0 LE ∧ Keep h0 hE [] ∧ (∃ kN : ClassId, Arv Z hE h0.size kN .int (4 : Int32) (List.map Value.int (LS ++ List.replicate 2 (0 : Int32))) (.int (0 : Int32)))
set_option maxRecDepth 65536 in
set_option maxHeartbeats 40000000 in
theorem rmcp2 (l : Launch) (Z : State) (a0 : Array Value) (hw : ∀ d ∈ tables_1, d.before a0 Z = true) (ws : List Jvm.Cond) (x0 : Addr) (kS : ClassId) (LS : List Int32) (h0 : Heap) (n0 : Nat) (Z0 : n0 ≤ h0.size) (A_s : Arv Z h0 x0 kS .int (2 : Int32) (List.map Value.int LS) (.int (0 : Int32))) (hLl : LS.length = 2) :
    MetFree l (⟨"java/util/Arrays", "copyOf", "([II)[I"⟩ : MethodName) (head1 (Jvm.Cond.code (⟨"java/util/Arrays", "copyOf", "([II)[I"⟩ : MethodName) jdk_65_method_123_code 3 (some (.array .int)) :: ws) ({ frames := 1, cells := 1, slots := 4, locals := 18 } : Room)) (fun a U => a = #[(.ref x0), (.int (4 : Int32))] ∧ Z.Warmed39 U.vm ∧ U.heap = h0) (fun _ _ _ _ _ => True) (fun _ U o U' => ∃ vE LE, o = .returned vE ∧ Qcp2 Z x0 kS LS h0 n0 vE U'.heap LE ∧ FrameEnd U o U' LE ({ frames := 1, cells := 1, slots := 4, locals := 18 } : Room).cells ({ frames := 1, cells := 1, slots := 4, locals := 18 } : Room).slots) := by
  refine MetFree.of_bodySF (plainFor_of_name pn_0) hisR ?_
  intro p e s m args below meth c s₁ Bd hml0 hP hK
  obtain ⟨rfl, hZ, hh⟩ := hP
  have hx := Bd.exec
  have hby := Bd.bytes
  have hml : c.maxLocals = 3 := hml0
  have hown : s.vm.findClass "java/util/Arrays" = some m.cls := findClass_of_methodNamed Bd.named
  have hnm := (name_of_methodNamed Bd.named Bd.method).1
  have hlk : meth.locks = false := BodyLoose.notSynchronized Bd
  have X0 : Stand p l e ({ frames := 1, cells := 1, slots := 4, locals := 18 } : Room) s m #[(.ref x0), (.int (4 : Int32))] below meth c s₁ [] 0 0 := Stand.of_body Bd
  have e0 : s₁.heap = h0 := by rw [← hh, Bd.state]; rfl
  have N0 := Fr.nil n0
  obtain ⟨sE, hsE⟩ : ∃ z, z = (s₁.setTop (entryFrame m #[(.ref x0), (.int (4 : Int32))] 3)) := ⟨_, rfl⟩
  have st0 : Steps p.tables e below sE (s₁.setTop (mkF m 0 #[.val (.ref x0), .val (.int (4 : Int32)), .unset] [])) := by rw [hsE]; exact castTop (ef_cp2 m x0) (Steps.refl _)
  have K0 : Keep h0 h0 [] := Keep.refl _ _
  obtain ⟨cl1, Ar1, -, S1, N1, -, -⟩ := id A_s
  have st2 : Steps p.tables e below sE (s₁.setTop (mkF m 3 #[.val (.ref x0), .val (.int (4 : Int32)), .unset] [(.int (2 : Int32)), (.int (4 : Int32))])) := st0.trans (by
      show Steps _ _ _ (s₁.setTop (mkF m 0 #[.val (.ref x0), .val (.int (4 : Int32)), .unset] [])) _
      refine XS.iloadN X0.here hx rfl (hb hby d5_0) rfl ?_
      show Steps _ _ _ (s₁.setTop (mkF m 1 #[.val (.ref x0), .val (.int (4 : Int32)), .unset] [(.int (4 : Int32))])) _
      refine XS.aloadN X0.here hx rfl (hb hby d5_1) rfl rfl ?_
      show Steps _ _ _ (s₁.setTop (mkF m 2 #[.val (.ref x0), .val (.int (4 : Int32)), .unset] [(.ref x0), (.int (4 : Int32))])) _
      refine X0.arraylength hx (by rw [e0]; exact Ar1.1) (State.isArrayOf_alike hZ.alike Ar1.2.1) (g := (mkF m 2 #[.val (.ref x0), .val (.int (4 : Int32)), .unset] [(.ref x0), (.int (4 : Int32))])) rfl rfl (hb hby d5_2) _ ?_
      rw [len_of S1 N1]
      exact Steps.refl _)
  have hf3 : ¬ ((4 : Int32) = (2 : Int32)) := by decide
  have st4 : Steps p.tables e below sE (s₁.setTop (mkF m 15 #[.val (.ref x0), .val (.int (4 : Int32)), .unset] [(.int (4 : Int32))])) := st2.trans (by
      show Steps _ _ _ (s₁.setTop (mkF m 3 #[.val (.ref x0), .val (.int (4 : Int32)), .unset] [(.int (2 : Int32)), (.int (4 : Int32))])) _
      refine XS.icmpYes X0.here hx rfl (pc0 := 3) (pc' := 14) rfl (hb hby d5_3) rfl (feq hf3).2 (by decide) (by decide) ?_
      show Steps _ _ _ (s₁.setTop (mkF m 14 #[.val (.ref x0), .val (.int (4 : Int32)), .unset] [])) _
      refine XS.iloadN X0.here hx rfl (hb hby d5_14) rfl ?_
      exact Steps.refl _)
  obtain ⟨T5, h5, k5, X5, e5, E5, A5, sr5⟩ := newP X0 hx hZ (hw _ (List.mem_of_getElem? (i := 10) rfl)) e0 (g := (mkF m 15 #[.val (.ref x0), .val (.int (4 : Int32)), .unset] [(.int (4 : Int32))])) rfl (hb hby d5_15) rfl (by decide) (cap := 4) (by decide) (by decide) (by decide) (by decide)
  obtain ⟨b5, g5⟩ : ∃ z, z = h0.size := ⟨_, rfl⟩
  rw [← g5] at A5 sr5
  have g_b5 : n0 ≤ b5 := Nat.le_trans Z0 (Nat.le_of_eq g5.symm)
  have sz_b5 : h0.size ≤ b5 := Nat.le_trans K0.1 (Nat.le_of_eq g5.symm)
  have ne_x0_b5 : x0 ≠ b5 := Nat.ne_of_lt (Nat.lt_of_lt_of_le A_s.lt (Nat.le_of_eq g5.symm))
  have f6 : Arv Z h5 x0 kS .int (2 : Int32) (List.map Value.int LS) (.int (0 : Int32)) := A_s.ext E5
  have K7 : Keep h0 h5 [] := K0.ext E5
  have f8 : Arv Z h5 b5 k5 .int (4 : Int32) [(.int (0 : Int32)), (.int (0 : Int32)), (.int (0 : Int32)), (.int (0 : Int32))] (.int (0 : Int32)) := (Arv.new A5 (by decide)).pad (pad_rep [] (.int (0 : Int32)) 4)
  have Z5 : n0 ≤ h5.size := Nat.le_trans Z0 E5.1
  have st9 : Steps p.tables e below sE (T5.setTop (mkF m 17 #[.val (.ref x0), .val (.int (4 : Int32)), .unset] [(.ref b5)])) := st4.trans (sr5 _ (Steps.refl _))
  obtain ⟨cl10, Ar10, -, S10, N10, -, -⟩ := id f6
  have st11 : Steps p.tables e below sE (T5.setTop (mkF m 25 #[.val (.ref x0), .val (.int (4 : Int32)), .val (.ref b5)] [(.int (4 : Int32)), (.int (2 : Int32)), (.int (0 : Int32)), (.ref b5), (.int (0 : Int32)), (.ref x0)])) := st9.trans (by
      show Steps _ _ _ (T5.setTop (mkF m 17 #[.val (.ref x0), .val (.int (4 : Int32)), .unset] [(.ref b5)])) _
      refine XS.astoreN X5.here hx rfl (hb hby d5_17) rfl rfl (l' := #[.val (.ref x0), .val (.int (4 : Int32)), .val (.ref b5)]) rfl ?_
      show Steps _ _ _ (T5.setTop (mkF m 18 #[.val (.ref x0), .val (.int (4 : Int32)), .val (.ref b5)] [])) _
      refine XS.aloadN X5.here hx rfl (hb hby d5_18) rfl rfl ?_
      show Steps _ _ _ (T5.setTop (mkF m 19 #[.val (.ref x0), .val (.int (4 : Int32)), .val (.ref b5)] [(.ref x0)])) _
      refine XS.iconst X5.here hx rfl (hb hby d5_19) ?_
      show Steps _ _ _ (T5.setTop (mkF m 20 #[.val (.ref x0), .val (.int (4 : Int32)), .val (.ref b5)] [(.int (0 : Int32)), (.ref x0)])) _
      refine XS.aloadN X5.here hx rfl (hb hby d5_20) rfl rfl ?_
      show Steps _ _ _ (T5.setTop (mkF m 21 #[.val (.ref x0), .val (.int (4 : Int32)), .val (.ref b5)] [(.ref b5), (.int (0 : Int32)), (.ref x0)])) _
      refine XS.iconst X5.here hx rfl (hb hby d5_21) ?_
      show Steps _ _ _ (T5.setTop (mkF m 22 #[.val (.ref x0), .val (.int (4 : Int32)), .val (.ref b5)] [(.int (0 : Int32)), (.ref b5), (.int (0 : Int32)), (.ref x0)])) _
      refine XS.aloadN X5.here hx rfl (hb hby d5_22) rfl rfl ?_
      show Steps _ _ _ (T5.setTop (mkF m 23 #[.val (.ref x0), .val (.int (4 : Int32)), .val (.ref b5)] [(.ref x0), (.int (0 : Int32)), (.ref b5), (.int (0 : Int32)), (.ref x0)])) _
      refine X5.arraylength hx (by rw [e5]; exact Ar10.1) (State.isArrayOf_alike hZ.alike Ar10.2.1) (g := (mkF m 23 #[.val (.ref x0), .val (.int (4 : Int32)), .val (.ref b5)] [(.ref x0), (.int (0 : Int32)), (.ref b5), (.int (0 : Int32)), (.ref x0)])) rfl rfl (hb hby d5_23) _ ?_
      rw [len_of S10 N10]
      show Steps _ _ _ (T5.setTop (mkF m 24 #[.val (.ref x0), .val (.int (4 : Int32)), .val (.ref b5)] [(.int (2 : Int32)), (.int (0 : Int32)), (.ref b5), (.int (0 : Int32)), (.ref x0)])) _
      refine XS.iloadN X5.here hx rfl (hb hby d5_24) rfl ?_
      exact Steps.refl _)
  obtain ⟨_, _, ⟨T12, L12, k12, n12⟩, -, X12, ⟨Lc12, hQ12, l12, y12, z12⟩, sr12⟩ := Jvm.LawKit.callS X5 hx (y := (⟨"java/lang/Math", "min", "(II)I"⟩ : MethodName)) hown (mvT hZ (hw _ (List.mem_of_getElem? (i := 32) rfl))) (mvT hZ (hw _ (List.mem_of_getElem? (i := 33) rfl))) (mvT hZ (hw _ (List.mem_of_getElem? (i := 26) rfl))) (mvT hZ (hw _ (List.mem_of_getElem? (i := 34) rfl))) (by decide) (backOf (W := 4) (rm6 l Z a0 hw [] (2 : Int32) (4 : Int32)  h5 n0 Z5 ) hZ (hw _ (List.mem_of_getElem? (i := 34) rfl)) (hw _ (List.mem_of_getElem? (i := 26) rfl)) (by decide) (by decide)) (g := (mkF m 25 #[.val (.ref x0), .val (.int (4 : Int32)), .val (.ref b5)] [(.int (4 : Int32)), (.int (2 : Int32)), (.int (0 : Int32)), (.ref b5), (.int (0 : Int32)), (.ref x0)])) rfl (by rw [hml]; rfl) (argsL := [(.int (2 : Int32)), (.int (4 : Int32))]) (rest := [(.int (0 : Int32)), (.ref b5), (.int (0 : Int32)), (.ref x0)]) (lenOf pd_1 rfl) rfl (by show 2 * 0 + _ ≤ _; exact Nat.le_of_eq rfl) (hb hby d5_25) (fun _ _ => ⟨rfl, e5, (by decide : 1 + 0 ≤ _), (by decide : 4 + 0 ≤ _)⟩)
  dsimp only [Pt.U, Pt.locs, Pt.cells, Pt.slots] at X12 l12 y12 z12 sr12 hQ12
  subst l12 y12 z12
  obtain ⟨rfl, N12q, hh12⟩ := hQ12
  have N12 := Fr.app N0 N12q
  obtain ⟨LL12, X12, N12⟩ := own_hide X12 N12
  have st13 : Steps p.tables e below sE (T12.setTop (mkF m 28 #[.val (.ref x0), .val (.int (4 : Int32)), .val (.ref b5)] [(.int (F6 (2 : Int32) (4 : Int32))), (.int (0 : Int32)), (.ref b5), (.int (0 : Int32)), (.ref x0)])) := st11.trans (sr12 _ (Steps.refl _))
  have hmn : (F6 (2 : Int32) (4 : Int32)) = (2 : Int32) := by decide
  rw [hmn] at st13
  obtain ⟨T14, h14, LL14, X14, e14, N14, K14, V14, sr14⟩ := cpA X12 hx hZ hown (hw _ (List.mem_of_getElem? (i := 35) rfl)) (hw _ (List.mem_of_getElem? (i := 38) rfl)) (hw _ (List.mem_of_getElem? (i := 36) rfl)) (hw _ (List.mem_of_getElem? (i := 37) rfl)) hh12 f6 f8 (Or.inl ⟨rfl, rfl⟩) (by decide) (by decide) (by decide) (by decide) (by decide) rfl (by decide) N12 g_b5 (g := (mkF m 28 #[.val (.ref x0), .val (.int (4 : Int32)), .val (.ref b5)] [(.int (2 : Int32)), (.int (0 : Int32)), (.ref b5), (.int (0 : Int32)), (.ref x0)])) rfl (by rw [hml]; rfl) rfl (hb hby d5_28) (by decide) (W := 0) (by show 2 * 0 + _ ≤ _; exact Nat.le_of_eq rfl) (by decide)
  have f15 : Arv Z h14 x0 kS .int (2 : Int32) (List.map Value.int LS) (.int (0 : Int32)) := f6.keep K14 (ninS ne_x0_b5 nin0)
  have K16 : Keep h0 h14 [] := K7.trans K14 (allS (Or.inr sz_b5) all0)
  have Z17 : n0 ≤ h14.size := Nat.le_trans Z5 K14.1
  have f18 : Arv Z h14 b5 k5 .int (4 : Int32) (List.map Value.int (LS ++ List.replicate 2 (0 : Int32))) (.int (0 : Int32)) := (by have q := V14; rw [own_cp2 LS hLl] at q; exact q)
  have st19 : Steps p.tables e below sE (T14.setTop (mkF m 31 #[.val (.ref x0), .val (.int (4 : Int32)), .val (.ref b5)] [])) := st13.trans (sr14 _ (Steps.refl _))
  have st20 : Steps p.tables e below sE (T14.setTop (mkF m 32 #[.val (.ref x0), .val (.int (4 : Int32)), .val (.ref b5)] [(.ref b5)])) := st19.trans (by
      show Steps _ _ _ (T14.setTop (mkF m 31 #[.val (.ref x0), .val (.int (4 : Int32)), .val (.ref b5)] [])) _
      refine XS.aloadN X14.here hx rfl (hb hby d5_31) rfl rfl ?_
      exact Steps.refl _)
  obtain ⟨fs, hr, hrun, hended, hW, hsame⟩ := X14.leave (v := some (.ref b5)) (fun h => by rw [Bd.returns] at h; cases h) hlk
  refine ⟨_, _, (own_ent hsE st20).trans ?_, hrun, hended, _, _, rfl, ?_, ⟨_, rfl⟩, hW, hsame.mono (by decide) (by decide)⟩
  · exact retOut X14 hx (t := (.array .int)) Bd.returns rfl (Or.inr (Or.inr (Or.inr (Or.inr ⟨rfl, rfl, rfl⟩)))) (hb hby d5_32) hr
  · show Qcp2 Z x0 kS LS h0 n0 _ T14.heap _
    rw [e14]
    exact ⟨by rw [g5], N14, K16, ⟨k5, by rw [← g5]; exact f18⟩⟩
theorem ef_fl2 (m : MethodId) (x0 : Addr)  : entryFrame m #[(.ref x0), (.int (2 : Int32)), (.int (4 : Int32)), (.int (-1 : Int32))] 5 = mkF m 0 #[.val (.ref x0), .val (.int (2 : Int32)), .val (.int (4 : Int32)), .val (.int (-1 : Int32)), .unset] [] := by first | (simp [entryFrame, mkF, argsToLocals, Value.category]; done) | rfl
def Qfl2 (Z : State) (x0 : Addr) (kS : ClassId) (LS : List Int32) (h0 : Heap) (n0 : Nat) (vE : Option Value) (hE : Heap) (LE : List Loc) : Prop := vE = none ∧ Fr n0 LE ∧ Keep h0 hE [x0] ∧ Arv Z hE x0 kS .int (4 : Int32) (List.map Value.int ((LS.set ((2 : Int32)).toNatClampNeg (-1 : Int32)).set ((3 : Int32)).toNatClampNeg (-1 : Int32))) (.int (0 : Int32))
set_option maxRecDepth 65536 in
set_option maxHeartbeats 40000000 in
theorem rmfl2 (l : Launch) (Z : State) (a0 : Array Value) (hw : ∀ d ∈ tables_1, d.before a0 Z = true) (ws : List Jvm.Cond) (x0 : Addr) (kS : ClassId) (LS : List Int32) (h0 : Heap) (n0 : Nat) (Z0 : n0 ≤ h0.size) (A_s : Arv Z h0 x0 kS .int (4 : Int32) (List.map Value.int LS) (.int (0 : Int32))) (hLl : LS.length = 4) (g_x : n0 ≤ x0) :
    MetFree l (⟨"java/util/Arrays", "fill", "([IIII)V"⟩ : MethodName) (head1 (Jvm.Cond.code (⟨"java/util/Arrays", "fill", "([IIII)V"⟩ : MethodName) jdk_65_method_104_code 5 none :: ws) ({ frames := 1, cells := 0, slots := 0, locals := 14 } : Room)) (fun a U => a = #[(.ref x0), (.int (2 : Int32)), (.int (4 : Int32)), (.int (-1 : Int32))] ∧ Z.Warmed39 U.vm ∧ U.heap = h0) (fun _ _ _ _ _ => True) (fun _ U o U' => ∃ vE LE, o = .returned vE ∧ Qfl2 Z x0 kS LS h0 n0 vE U'.heap LE ∧ FrameEnd U o U' LE ({ frames := 1, cells := 0, slots := 0, locals := 14 } : Room).cells ({ frames := 1, cells := 0, slots := 0, locals := 14 } : Room).slots) := by
  refine MetFree.of_bodySF (plainFor_of_name pn_0) hisR ?_
  intro p e s m args below meth c s₁ Bd hml0 hP hK
  obtain ⟨rfl, hZ, hh⟩ := hP
  have hx := Bd.exec
  have hby := Bd.bytes
  have hml : c.maxLocals = 5 := hml0
  have hown : s.vm.findClass "java/util/Arrays" = some m.cls := findClass_of_methodNamed Bd.named
  have hnm := (name_of_methodNamed Bd.named Bd.method).1
  have hlk : meth.locks = false := BodyLoose.notSynchronized Bd
  have X0 : Stand p l e ({ frames := 1, cells := 0, slots := 0, locals := 14 } : Room) s m #[(.ref x0), (.int (2 : Int32)), (.int (4 : Int32)), (.int (-1 : Int32))] below meth c s₁ [] 0 0 := Stand.of_body Bd
  have e0 : s₁.heap = h0 := by rw [← hh, Bd.state]; rfl
  have N0 := Fr.nil n0
  obtain ⟨sE, hsE⟩ : ∃ z, z = (s₁.setTop (entryFrame m #[(.ref x0), (.int (2 : Int32)), (.int (4 : Int32)), (.int (-1 : Int32))] 5)) := ⟨_, rfl⟩
  have st0 : Steps p.tables e below sE (s₁.setTop (mkF m 0 #[.val (.ref x0), .val (.int (2 : Int32)), .val (.int (4 : Int32)), .val (.int (-1 : Int32)), .unset] [])) := by rw [hsE]; exact castTop (ef_fl2 m x0) (Steps.refl _)
  have K0 : Keep h0 h0 [x0] := Keep.refl _ _
  obtain ⟨cl1, Ar1, -, S1, N1, -, -⟩ := id A_s
  have st2 : Steps p.tables e below sE (s₁.setTop (mkF m 4 #[.val (.ref x0), .val (.int (2 : Int32)), .val (.int (4 : Int32)), .val (.int (-1 : Int32)), .unset] [(.int (4 : Int32)), (.int (2 : Int32)), (.int (4 : Int32))])) := st0.trans (by
      show Steps _ _ _ (s₁.setTop (mkF m 0 #[.val (.ref x0), .val (.int (2 : Int32)), .val (.int (4 : Int32)), .val (.int (-1 : Int32)), .unset] [])) _
      refine XS.aloadN X0.here hx rfl (hb hby d7_0) rfl rfl ?_
      show Steps _ _ _ (s₁.setTop (mkF m 1 #[.val (.ref x0), .val (.int (2 : Int32)), .val (.int (4 : Int32)), .val (.int (-1 : Int32)), .unset] [(.ref x0)])) _
      refine X0.arraylength hx (by rw [e0]; exact Ar1.1) (State.isArrayOf_alike hZ.alike Ar1.2.1) (g := (mkF m 1 #[.val (.ref x0), .val (.int (2 : Int32)), .val (.int (4 : Int32)), .val (.int (-1 : Int32)), .unset] [(.ref x0)])) rfl rfl (hb hby d7_1) _ ?_
      rw [len_of S1 N1]
      show Steps _ _ _ (s₁.setTop (mkF m 2 #[.val (.ref x0), .val (.int (2 : Int32)), .val (.int (4 : Int32)), .val (.int (-1 : Int32)), .unset] [(.int (4 : Int32))])) _
      refine XS.iloadN X0.here hx rfl (hb hby d7_2) rfl ?_
      show Steps _ _ _ (s₁.setTop (mkF m 3 #[.val (.ref x0), .val (.int (2 : Int32)), .val (.int (4 : Int32)), .val (.int (-1 : Int32)), .unset] [(.int (2 : Int32)), (.int (4 : Int32))])) _
      refine XS.iloadN X0.here hx rfl (hb hby d7_3) rfl ?_
      exact Steps.refl _)
  obtain ⟨_, _, ⟨T3, L3, k3, n3⟩, -, X3, ⟨Lc3, hQ3, l3, y3, z3⟩, sr3⟩ := Jvm.LawKit.callS X0 hx (y := (⟨"java/util/Arrays", "rangeCheck", "(III)V"⟩ : MethodName)) hown (mvT hZ (hw _ (List.mem_of_getElem? (i := 42) rfl))) (mvT hZ (hw _ (List.mem_of_getElem? (i := 43) rfl))) (mvT hZ (hw _ (List.mem_of_getElem? (i := 30) rfl))) (mvT hZ (hw _ (List.mem_of_getElem? (i := 44) rfl))) (by decide) (backOf (W := 0) (rm8 l Z a0 hw [] (4 : Int32) (2 : Int32) (4 : Int32)  h0 n0 Z0 (by decide) (by decide) (by decide)) hZ (hw _ (List.mem_of_getElem? (i := 44) rfl)) (hw _ (List.mem_of_getElem? (i := 30) rfl)) (by decide) (by decide)) (g := (mkF m 4 #[.val (.ref x0), .val (.int (2 : Int32)), .val (.int (4 : Int32)), .val (.int (-1 : Int32)), .unset] [(.int (4 : Int32)), (.int (2 : Int32)), (.int (4 : Int32))])) rfl (by rw [hml]; rfl) (argsL := [(.int (4 : Int32)), (.int (2 : Int32)), (.int (4 : Int32))]) (rest := []) (lenOf pd_2 rfl) rfl (by show 2 * 0 + _ ≤ _; exact Nat.le_of_eq rfl) (hb hby d7_4) (fun _ _ => ⟨rfl, e0, (by decide : 0 + 0 ≤ _), (by decide : 0 + 0 ≤ _)⟩)
  dsimp only [Pt.U, Pt.locs, Pt.cells, Pt.slots] at X3 l3 y3 z3 sr3 hQ3
  subst l3 y3 z3
  obtain ⟨rfl, N3q, hh3⟩ := hQ3
  have N3 := Fr.app N0 N3q
  obtain ⟨LL3, X3, N3⟩ := own_hide X3 N3
  have st4 : Steps p.tables e below sE (T3.setTop (mkF m 7 #[.val (.ref x0), .val (.int (2 : Int32)), .val (.int (4 : Int32)), .val (.int (-1 : Int32)), .unset] [])) := st2.trans (sr3 _ (Steps.refl _))
  have st5 : Steps p.tables e below sE (T3.setTop (mkF m 13 #[.val (.ref x0), .val (.int (2 : Int32)), .val (.int (4 : Int32)), .val (.int (-1 : Int32)), .val (.int (2 : Int32))] [(.int (4 : Int32)), (.int (2 : Int32))])) := st4.trans (by
      show Steps _ _ _ (T3.setTop (mkF m 7 #[.val (.ref x0), .val (.int (2 : Int32)), .val (.int (4 : Int32)), .val (.int (-1 : Int32)), .unset] [])) _
      refine XS.iloadN X3.here hx rfl (hb hby d7_7) rfl ?_
      show Steps _ _ _ (T3.setTop (mkF m 8 #[.val (.ref x0), .val (.int (2 : Int32)), .val (.int (4 : Int32)), .val (.int (-1 : Int32)), .unset] [(.int (2 : Int32))])) _
      refine XS.istore X3.here hx rfl (hb hby d7_8) rfl (l' := #[.val (.ref x0), .val (.int (2 : Int32)), .val (.int (4 : Int32)), .val (.int (-1 : Int32)), .val (.int (2 : Int32))]) rfl ?_
      show Steps _ _ _ (T3.setTop (mkF m 10 #[.val (.ref x0), .val (.int (2 : Int32)), .val (.int (4 : Int32)), .val (.int (-1 : Int32)), .val (.int (2 : Int32))] [])) _
      refine XS.iload X3.here hx rfl (hb hby d7_10) rfl ?_
      show Steps _ _ _ (T3.setTop (mkF m 12 #[.val (.ref x0), .val (.int (2 : Int32)), .val (.int (4 : Int32)), .val (.int (-1 : Int32)), .val (.int (2 : Int32))] [(.int (2 : Int32))])) _
      refine XS.iloadN X3.here hx rfl (hb hby d7_12) rfl ?_
      exact Steps.refl _)
  have hf6 : (2 : Int32) < (4 : Int32) := by decide
  have st7 : Steps p.tables e below sE (T3.setTop (mkF m 20 #[.val (.ref x0), .val (.int (2 : Int32)), .val (.int (4 : Int32)), .val (.int (-1 : Int32)), .val (.int (2 : Int32))] [(.int (-1 : Int32)), (.int (2 : Int32)), (.ref x0)])) := st5.trans (by
      show Steps _ _ _ (T3.setTop (mkF m 13 #[.val (.ref x0), .val (.int (2 : Int32)), .val (.int (4 : Int32)), .val (.int (-1 : Int32)), .val (.int (2 : Int32))] [(.int (4 : Int32)), (.int (2 : Int32))])) _
      refine XS.icmpNo X3.here hx rfl (hb hby d7_13) rfl (tlt hf6).2.1 ?_
      show Steps _ _ _ (T3.setTop (mkF m 16 #[.val (.ref x0), .val (.int (2 : Int32)), .val (.int (4 : Int32)), .val (.int (-1 : Int32)), .val (.int (2 : Int32))] [])) _
      refine XS.aloadN X3.here hx rfl (hb hby d7_16) rfl rfl ?_
      show Steps _ _ _ (T3.setTop (mkF m 17 #[.val (.ref x0), .val (.int (2 : Int32)), .val (.int (4 : Int32)), .val (.int (-1 : Int32)), .val (.int (2 : Int32))] [(.ref x0)])) _
      refine XS.iload X3.here hx rfl (hb hby d7_17) rfl ?_
      show Steps _ _ _ (T3.setTop (mkF m 19 #[.val (.ref x0), .val (.int (2 : Int32)), .val (.int (4 : Int32)), .val (.int (-1 : Int32)), .val (.int (2 : Int32))] [(.int (2 : Int32)), (.ref x0)])) _
      refine XS.iloadN X3.here hx rfl (hb hby d7_19) rfl ?_
      exact Steps.refl _)
  obtain ⟨cl8, Ar8, q8, S8, N8, H8, G8⟩ := id A_s
  have hin8 : ¬ ((2 : Int32) < 0 ∨ cl8.slots.size ≤ ((2 : Int32)).toNatClampNeg) := inb_of S8 ⟨by decide, by decide⟩
  obtain ⟨T9, h9, X9, e9, W9, sr9⟩ := stI X3 hx hZ hh3 Ar8 (j := (2 : Int32)) hin8 (g := (mkF m 20 #[.val (.ref x0), .val (.int (2 : Int32)), .val (.int (4 : Int32)), .val (.int (-1 : Int32)), .val (.int (2 : Int32))] [(.int (-1 : Int32)), (.int (2 : Int32)), (.ref x0)])) rfl rfl (hb hby d7_20)
  have f10 : Arv Z h9 x0 kS .int (4 : Int32) (List.map Value.int (LS.set ((2 : Int32)).toNatClampNeg (-1 : Int32))) (.int (0 : Int32)) := (by have q := Arv.set Ar8 q8 S8 N8 H8 G8 rfl W9 _ rfl (by simp only [List.length_map, List.length_set, hLl]; decide); rw [own_setI] at q; exact q)
  have K11 : Keep h0 h9 [x0] := K0.wr W9 (Or.inl (List.mem_of_getElem? (i := 0) rfl))
  have Z9 : n0 ≤ h9.size := Nat.le_trans Z0 (Keep.of_wr W9).1
  have N9 := Fr.snoc X9 N3 g_x
  obtain ⟨LL9, X9, N9⟩ := own_hide X9 N9
  have st12 : Steps p.tables e below sE (T9.setTop (mkF m 21 #[.val (.ref x0), .val (.int (2 : Int32)), .val (.int (4 : Int32)), .val (.int (-1 : Int32)), .val (.int (2 : Int32))] [])) := st7.trans (sr9 _ (Steps.refl _))
  have st13 : Steps p.tables e below sE (T9.setTop (mkF m 13 #[.val (.ref x0), .val (.int (2 : Int32)), .val (.int (4 : Int32)), .val (.int (-1 : Int32)), .val (.int (3 : Int32))] [(.int (4 : Int32)), (.int (3 : Int32))])) := st12.trans (by
      show Steps _ _ _ (T9.setTop (mkF m 21 #[.val (.ref x0), .val (.int (2 : Int32)), .val (.int (4 : Int32)), .val (.int (-1 : Int32)), .val (.int (2 : Int32))] [])) _
      refine XS.iinc X9.here hx rfl (hb hby d7_21) rfl (l' := #[.val (.ref x0), .val (.int (2 : Int32)), .val (.int (4 : Int32)), .val (.int (-1 : Int32)), .val (.int (3 : Int32))]) rfl ?_
      show Steps _ _ _ (T9.setTop (mkF m 24 #[.val (.ref x0), .val (.int (2 : Int32)), .val (.int (4 : Int32)), .val (.int (-1 : Int32)), .val (.int (3 : Int32))] [])) _
      refine XS.goto X9.here hx rfl (pc0 := 24) (pc' := 10) rfl (hb hby d7_24) (by decide) (by decide) ?_
      show Steps _ _ _ (T9.setTop (mkF m 10 #[.val (.ref x0), .val (.int (2 : Int32)), .val (.int (4 : Int32)), .val (.int (-1 : Int32)), .val (.int (3 : Int32))] [])) _
      refine XS.iload X9.here hx rfl (hb hby d7_10) rfl ?_
      show Steps _ _ _ (T9.setTop (mkF m 12 #[.val (.ref x0), .val (.int (2 : Int32)), .val (.int (4 : Int32)), .val (.int (-1 : Int32)), .val (.int (3 : Int32))] [(.int (3 : Int32))])) _
      refine XS.iloadN X9.here hx rfl (hb hby d7_12) rfl ?_
      exact Steps.refl _)
  have hf14 : (3 : Int32) < (4 : Int32) := by decide
  have st15 : Steps p.tables e below sE (T9.setTop (mkF m 20 #[.val (.ref x0), .val (.int (2 : Int32)), .val (.int (4 : Int32)), .val (.int (-1 : Int32)), .val (.int (3 : Int32))] [(.int (-1 : Int32)), (.int (3 : Int32)), (.ref x0)])) := st13.trans (by
      show Steps _ _ _ (T9.setTop (mkF m 13 #[.val (.ref x0), .val (.int (2 : Int32)), .val (.int (4 : Int32)), .val (.int (-1 : Int32)), .val (.int (3 : Int32))] [(.int (4 : Int32)), (.int (3 : Int32))])) _
      refine XS.icmpNo X9.here hx rfl (hb hby d7_13) rfl (tlt hf14).2.1 ?_
      show Steps _ _ _ (T9.setTop (mkF m 16 #[.val (.ref x0), .val (.int (2 : Int32)), .val (.int (4 : Int32)), .val (.int (-1 : Int32)), .val (.int (3 : Int32))] [])) _
      refine XS.aloadN X9.here hx rfl (hb hby d7_16) rfl rfl ?_
      show Steps _ _ _ (T9.setTop (mkF m 17 #[.val (.ref x0), .val (.int (2 : Int32)), .val (.int (4 : Int32)), .val (.int (-1 : Int32)), .val (.int (3 : Int32))] [(.ref x0)])) _
      refine XS.iload X9.here hx rfl (hb hby d7_17) rfl ?_
      show Steps _ _ _ (T9.setTop (mkF m 19 #[.val (.ref x0), .val (.int (2 : Int32)), .val (.int (4 : Int32)), .val (.int (-1 : Int32)), .val (.int (3 : Int32))] [(.int (3 : Int32)), (.ref x0)])) _
      refine XS.iloadN X9.here hx rfl (hb hby d7_19) rfl ?_
      exact Steps.refl _)
  obtain ⟨cl16, Ar16, q16, S16, N16, H16, G16⟩ := id f10
  have hin16 : ¬ ((3 : Int32) < 0 ∨ cl16.slots.size ≤ ((3 : Int32)).toNatClampNeg) := inb_of S16 ⟨by decide, by decide⟩
  obtain ⟨T17, h17, X17, e17, W17, sr17⟩ := stI X9 hx hZ e9 Ar16 (j := (3 : Int32)) hin16 (g := (mkF m 20 #[.val (.ref x0), .val (.int (2 : Int32)), .val (.int (4 : Int32)), .val (.int (-1 : Int32)), .val (.int (3 : Int32))] [(.int (-1 : Int32)), (.int (3 : Int32)), (.ref x0)])) rfl rfl (hb hby d7_20)
  have f18 : Arv Z h17 x0 kS .int (4 : Int32) (List.map Value.int ((LS.set ((2 : Int32)).toNatClampNeg (-1 : Int32)).set ((3 : Int32)).toNatClampNeg (-1 : Int32))) (.int (0 : Int32)) := (by have q := Arv.set Ar16 q16 S16 N16 H16 G16 rfl W17 _ rfl (by simp only [List.length_map, List.length_set, hLl]; decide); rw [own_setI] at q; exact q)
  have K19 : Keep h0 h17 [x0] := K11.wr W17 (Or.inl (List.mem_of_getElem? (i := 0) rfl))
  have Z17 : n0 ≤ h17.size := Nat.le_trans Z9 (Keep.of_wr W17).1
  have N17 := Fr.snoc X17 N9 g_x
  obtain ⟨LL17, X17, N17⟩ := own_hide X17 N17
  have st20 : Steps p.tables e below sE (T17.setTop (mkF m 21 #[.val (.ref x0), .val (.int (2 : Int32)), .val (.int (4 : Int32)), .val (.int (-1 : Int32)), .val (.int (3 : Int32))] [])) := st15.trans (sr17 _ (Steps.refl _))
  have st21 : Steps p.tables e below sE (T17.setTop (mkF m 13 #[.val (.ref x0), .val (.int (2 : Int32)), .val (.int (4 : Int32)), .val (.int (-1 : Int32)), .val (.int (4 : Int32))] [(.int (4 : Int32)), (.int (4 : Int32))])) := st20.trans (by
      show Steps _ _ _ (T17.setTop (mkF m 21 #[.val (.ref x0), .val (.int (2 : Int32)), .val (.int (4 : Int32)), .val (.int (-1 : Int32)), .val (.int (3 : Int32))] [])) _
      refine XS.iinc X17.here hx rfl (hb hby d7_21) rfl (l' := #[.val (.ref x0), .val (.int (2 : Int32)), .val (.int (4 : Int32)), .val (.int (-1 : Int32)), .val (.int (4 : Int32))]) rfl ?_
      show Steps _ _ _ (T17.setTop (mkF m 24 #[.val (.ref x0), .val (.int (2 : Int32)), .val (.int (4 : Int32)), .val (.int (-1 : Int32)), .val (.int (4 : Int32))] [])) _
      refine XS.goto X17.here hx rfl (pc0 := 24) (pc' := 10) rfl (hb hby d7_24) (by decide) (by decide) ?_
      show Steps _ _ _ (T17.setTop (mkF m 10 #[.val (.ref x0), .val (.int (2 : Int32)), .val (.int (4 : Int32)), .val (.int (-1 : Int32)), .val (.int (4 : Int32))] [])) _
      refine XS.iload X17.here hx rfl (hb hby d7_10) rfl ?_
      show Steps _ _ _ (T17.setTop (mkF m 12 #[.val (.ref x0), .val (.int (2 : Int32)), .val (.int (4 : Int32)), .val (.int (-1 : Int32)), .val (.int (4 : Int32))] [(.int (4 : Int32))])) _
      refine XS.iloadN X17.here hx rfl (hb hby d7_12) rfl ?_
      exact Steps.refl _)
  have hf22 : ¬ ((4 : Int32) < (4 : Int32)) := by decide
  have st23 : Steps p.tables e below sE (T17.setTop (mkF m 27 #[.val (.ref x0), .val (.int (2 : Int32)), .val (.int (4 : Int32)), .val (.int (-1 : Int32)), .val (.int (4 : Int32))] [])) := st21.trans (by
      show Steps _ _ _ (T17.setTop (mkF m 13 #[.val (.ref x0), .val (.int (2 : Int32)), .val (.int (4 : Int32)), .val (.int (-1 : Int32)), .val (.int (4 : Int32))] [(.int (4 : Int32)), (.int (4 : Int32))])) _
      refine XS.icmpYes X17.here hx rfl (pc0 := 13) (pc' := 27) rfl (hb hby d7_13) rfl (flt hf22).2.1 (by decide) (by decide) ?_
      exact Steps.refl _)
  obtain ⟨fs, hr, hrun, hended, hW, hsame⟩ := X17.leave (v := none) (fun _ => rfl) hlk
  refine ⟨_, _, (own_ent hsE st23).trans ?_, hrun, hended, _, _, rfl, ?_, ⟨_, rfl⟩, hW, hsame.mono (by decide) (by decide)⟩
  · exact X17.returnOut hx Bd.returns (hb hby d7_27) hr
  · show Qfl2 Z x0 kS LS h0 n0 _ T17.heap _
    rw [e17]
    exact ⟨rfl, N17, K19, f18⟩
theorem own_cp4 (L : List Int32) (h : L.length = 4) : (List.take ((0 : Int32)).toNatClampNeg ([(.int (0 : Int32)), (.int (0 : Int32)), (.int (0 : Int32)), (.int (0 : Int32)), (.int (0 : Int32)), (.int (0 : Int32)), (.int (0 : Int32)), (.int (0 : Int32))] : List Value) ++ (List.range ((4 : Int32)).toNatClampNeg).map (fun i => (List.map Value.int L).getD (((0 : Int32)).toNatClampNeg + i) (.int (0 : Int32))) ++ List.drop (((0 : Int32)).toNatClampNeg + ((4 : Int32)).toNatClampNeg) [(.int (0 : Int32)), (.int (0 : Int32)), (.int (0 : Int32)), (.int (0 : Int32)), (.int (0 : Int32)), (.int (0 : Int32)), (.int (0 : Int32)), (.int (0 : Int32))]) = List.map Value.int (L ++ List.replicate 4 (0 : Int32)) := by
  match L, h with
  | [a0, a1, a2, a3], _ => rfl
theorem ef_cp4 (m : MethodId) (x0 : Addr)  : entryFrame m #[(.ref x0), (.int (8 : Int32))] 3 = mkF m 0 #[.val (.ref x0), .val (.int (8 : Int32)), .unset] [] := by first | (simp [entryFrame, mkF, argsToLocals, Value.category]; done) | rfl
def Qcp4 (Z : State) (x0 : Addr) (kS : ClassId) (LS : List Int32) (h0 : Heap) (n0 : Nat) (vE : Option Value) (hE : Heap) (LE : List Loc) : Prop := vE = some (.ref h0.size) ∧ Fr n0 LE ∧ Keep h0 hE [] ∧ (∃ kN : ClassId, Arv Z hE h0.size kN .int (8 : Int32) (List.map Value.int (LS ++ List.replicate 4 (0 : Int32))) (.int (0 : Int32)))
set_option maxRecDepth 65536 in
set_option maxHeartbeats 40000000 in
theorem rmcp4 (l : Launch) (Z : State) (a0 : Array Value) (hw : ∀ d ∈ tables_1, d.before a0 Z = true) (ws : List Jvm.Cond) (x0 : Addr) (kS : ClassId) (LS : List Int32) (h0 : Heap) (n0 : Nat) (Z0 : n0 ≤ h0.size) (A_s : Arv Z h0 x0 kS .int (4 : Int32) (List.map Value.int LS) (.int (0 : Int32))) (hLl : LS.length = 4) :
    MetFree l (⟨"java/util/Arrays", "copyOf", "([II)[I"⟩ : MethodName) (head1 (Jvm.Cond.code (⟨"java/util/Arrays", "copyOf", "([II)[I"⟩ : MethodName) jdk_65_method_123_code 3 (some (.array .int)) :: ws) ({ frames := 1, cells := 1, slots := 8, locals := 18 } : Room)) (fun a U => a = #[(.ref x0), (.int (8 : Int32))] ∧ Z.Warmed39 U.vm ∧ U.heap = h0) (fun _ _ _ _ _ => True) (fun _ U o U' => ∃ vE LE, o = .returned vE ∧ Qcp4 Z x0 kS LS h0 n0 vE U'.heap LE ∧ FrameEnd U o U' LE ({ frames := 1, cells := 1, slots := 8, locals := 18 } : Room).cells ({ frames := 1, cells := 1, slots := 8, locals := 18 } : Room).slots) := by
  refine MetFree.of_bodySF (plainFor_of_name pn_0) hisR ?_
  intro p e s m args below meth c s₁ Bd hml0 hP hK
  obtain ⟨rfl, hZ, hh⟩ := hP
  have hx := Bd.exec
  have hby := Bd.bytes
  have hml : c.maxLocals = 3 := hml0
  have hown : s.vm.findClass "java/util/Arrays" = some m.cls := findClass_of_methodNamed Bd.named
  have hnm := (name_of_methodNamed Bd.named Bd.method).1
  have hlk : meth.locks = false := BodyLoose.notSynchronized Bd
  have X0 : Stand p l e ({ frames := 1, cells := 1, slots := 8, locals := 18 } : Room) s m #[(.ref x0), (.int (8 : Int32))] below meth c s₁ [] 0 0 := Stand.of_body Bd
  have e0 : s₁.heap = h0 := by rw [← hh, Bd.state]; rfl
  have N0 := Fr.nil n0
  obtain ⟨sE, hsE⟩ : ∃ z, z = (s₁.setTop (entryFrame m #[(.ref x0), (.int (8 : Int32))] 3)) := ⟨_, rfl⟩
  have st0 : Steps p.tables e below sE (s₁.setTop (mkF m 0 #[.val (.ref x0), .val (.int (8 : Int32)), .unset] [])) := by rw [hsE]; exact castTop (ef_cp4 m x0) (Steps.refl _)
  have K0 : Keep h0 h0 [] := Keep.refl _ _
  obtain ⟨cl1, Ar1, -, S1, N1, -, -⟩ := id A_s
  have st2 : Steps p.tables e below sE (s₁.setTop (mkF m 3 #[.val (.ref x0), .val (.int (8 : Int32)), .unset] [(.int (4 : Int32)), (.int (8 : Int32))])) := st0.trans (by
      show Steps _ _ _ (s₁.setTop (mkF m 0 #[.val (.ref x0), .val (.int (8 : Int32)), .unset] [])) _
      refine XS.iloadN X0.here hx rfl (hb hby d5_0) rfl ?_
      show Steps _ _ _ (s₁.setTop (mkF m 1 #[.val (.ref x0), .val (.int (8 : Int32)), .unset] [(.int (8 : Int32))])) _
      refine XS.aloadN X0.here hx rfl (hb hby d5_1) rfl rfl ?_
      show Steps _ _ _ (s₁.setTop (mkF m 2 #[.val (.ref x0), .val (.int (8 : Int32)), .unset] [(.ref x0), (.int (8 : Int32))])) _
      refine X0.arraylength hx (by rw [e0]; exact Ar1.1) (State.isArrayOf_alike hZ.alike Ar1.2.1) (g := (mkF m 2 #[.val (.ref x0), .val (.int (8 : Int32)), .unset] [(.ref x0), (.int (8 : Int32))])) rfl rfl (hb hby d5_2) _ ?_
      rw [len_of S1 N1]
      exact Steps.refl _)
  have hf3 : ¬ ((8 : Int32) = (4 : Int32)) := by decide
  have st4 : Steps p.tables e below sE (s₁.setTop (mkF m 15 #[.val (.ref x0), .val (.int (8 : Int32)), .unset] [(.int (8 : Int32))])) := st2.trans (by
      show Steps _ _ _ (s₁.setTop (mkF m 3 #[.val (.ref x0), .val (.int (8 : Int32)), .unset] [(.int (4 : Int32)), (.int (8 : Int32))])) _
      refine XS.icmpYes X0.here hx rfl (pc0 := 3) (pc' := 14) rfl (hb hby d5_3) rfl (feq hf3).2 (by decide) (by decide) ?_
      show Steps _ _ _ (s₁.setTop (mkF m 14 #[.val (.ref x0), .val (.int (8 : Int32)), .unset] [])) _
      refine XS.iloadN X0.here hx rfl (hb hby d5_14) rfl ?_
      exact Steps.refl _)
  obtain ⟨T5, h5, k5, X5, e5, E5, A5, sr5⟩ := newP X0 hx hZ (hw _ (List.mem_of_getElem? (i := 10) rfl)) e0 (g := (mkF m 15 #[.val (.ref x0), .val (.int (8 : Int32)), .unset] [(.int (8 : Int32))])) rfl (hb hby d5_15) rfl (by decide) (cap := 8) (by decide) (by decide) (by decide) (by decide)
  obtain ⟨b5, g5⟩ : ∃ z, z = h0.size := ⟨_, rfl⟩
  rw [← g5] at A5 sr5
  have g_b5 : n0 ≤ b5 := Nat.le_trans Z0 (Nat.le_of_eq g5.symm)
  have sz_b5 : h0.size ≤ b5 := Nat.le_trans K0.1 (Nat.le_of_eq g5.symm)
  have ne_x0_b5 : x0 ≠ b5 := Nat.ne_of_lt (Nat.lt_of_lt_of_le A_s.lt (Nat.le_of_eq g5.symm))
  have f6 : Arv Z h5 x0 kS .int (4 : Int32) (List.map Value.int LS) (.int (0 : Int32)) := A_s.ext E5
  have K7 : Keep h0 h5 [] := K0.ext E5
  have f8 : Arv Z h5 b5 k5 .int (8 : Int32) [(.int (0 : Int32)), (.int (0 : Int32)), (.int (0 : Int32)), (.int (0 : Int32)), (.int (0 : Int32)), (.int (0 : Int32)), (.int (0 : Int32)), (.int (0 : Int32))] (.int (0 : Int32)) := (Arv.new A5 (by decide)).pad (pad_rep [] (.int (0 : Int32)) 8)
  have Z5 : n0 ≤ h5.size := Nat.le_trans Z0 E5.1
  have st9 : Steps p.tables e below sE (T5.setTop (mkF m 17 #[.val (.ref x0), .val (.int (8 : Int32)), .unset] [(.ref b5)])) := st4.trans (sr5 _ (Steps.refl _))
  obtain ⟨cl10, Ar10, -, S10, N10, -, -⟩ := id f6
  have st11 : Steps p.tables e below sE (T5.setTop (mkF m 25 #[.val (.ref x0), .val (.int (8 : Int32)), .val (.ref b5)] [(.int (8 : Int32)), (.int (4 : Int32)), (.int (0 : Int32)), (.ref b5), (.int (0 : Int32)), (.ref x0)])) := st9.trans (by
      show Steps _ _ _ (T5.setTop (mkF m 17 #[.val (.ref x0), .val (.int (8 : Int32)), .unset] [(.ref b5)])) _
      refine XS.astoreN X5.here hx rfl (hb hby d5_17) rfl rfl (l' := #[.val (.ref x0), .val (.int (8 : Int32)), .val (.ref b5)]) rfl ?_
      show Steps _ _ _ (T5.setTop (mkF m 18 #[.val (.ref x0), .val (.int (8 : Int32)), .val (.ref b5)] [])) _
      refine XS.aloadN X5.here hx rfl (hb hby d5_18) rfl rfl ?_
      show Steps _ _ _ (T5.setTop (mkF m 19 #[.val (.ref x0), .val (.int (8 : Int32)), .val (.ref b5)] [(.ref x0)])) _
      refine XS.iconst X5.here hx rfl (hb hby d5_19) ?_
      show Steps _ _ _ (T5.setTop (mkF m 20 #[.val (.ref x0), .val (.int (8 : Int32)), .val (.ref b5)] [(.int (0 : Int32)), (.ref x0)])) _
      refine XS.aloadN X5.here hx rfl (hb hby d5_20) rfl rfl ?_
      show Steps _ _ _ (T5.setTop (mkF m 21 #[.val (.ref x0), .val (.int (8 : Int32)), .val (.ref b5)] [(.ref b5), (.int (0 : Int32)), (.ref x0)])) _
      refine XS.iconst X5.here hx rfl (hb hby d5_21) ?_
      show Steps _ _ _ (T5.setTop (mkF m 22 #[.val (.ref x0), .val (.int (8 : Int32)), .val (.ref b5)] [(.int (0 : Int32)), (.ref b5), (.int (0 : Int32)), (.ref x0)])) _
      refine XS.aloadN X5.here hx rfl (hb hby d5_22) rfl rfl ?_
      show Steps _ _ _ (T5.setTop (mkF m 23 #[.val (.ref x0), .val (.int (8 : Int32)), .val (.ref b5)] [(.ref x0), (.int (0 : Int32)), (.ref b5), (.int (0 : Int32)), (.ref x0)])) _
      refine X5.arraylength hx (by rw [e5]; exact Ar10.1) (State.isArrayOf_alike hZ.alike Ar10.2.1) (g := (mkF m 23 #[.val (.ref x0), .val (.int (8 : Int32)), .val (.ref b5)] [(.ref x0), (.int (0 : Int32)), (.ref b5), (.int (0 : Int32)), (.ref x0)])) rfl rfl (hb hby d5_23) _ ?_
      rw [len_of S10 N10]
      show Steps _ _ _ (T5.setTop (mkF m 24 #[.val (.ref x0), .val (.int (8 : Int32)), .val (.ref b5)] [(.int (4 : Int32)), (.int (0 : Int32)), (.ref b5), (.int (0 : Int32)), (.ref x0)])) _
      refine XS.iloadN X5.here hx rfl (hb hby d5_24) rfl ?_
      exact Steps.refl _)
  obtain ⟨_, _, ⟨T12, L12, k12, n12⟩, -, X12, ⟨Lc12, hQ12, l12, y12, z12⟩, sr12⟩ := Jvm.LawKit.callS X5 hx (y := (⟨"java/lang/Math", "min", "(II)I"⟩ : MethodName)) hown (mvT hZ (hw _ (List.mem_of_getElem? (i := 32) rfl))) (mvT hZ (hw _ (List.mem_of_getElem? (i := 33) rfl))) (mvT hZ (hw _ (List.mem_of_getElem? (i := 26) rfl))) (mvT hZ (hw _ (List.mem_of_getElem? (i := 34) rfl))) (by decide) (backOf (W := 4) (rm6 l Z a0 hw [] (4 : Int32) (8 : Int32)  h5 n0 Z5 ) hZ (hw _ (List.mem_of_getElem? (i := 34) rfl)) (hw _ (List.mem_of_getElem? (i := 26) rfl)) (by decide) (by decide)) (g := (mkF m 25 #[.val (.ref x0), .val (.int (8 : Int32)), .val (.ref b5)] [(.int (8 : Int32)), (.int (4 : Int32)), (.int (0 : Int32)), (.ref b5), (.int (0 : Int32)), (.ref x0)])) rfl (by rw [hml]; rfl) (argsL := [(.int (4 : Int32)), (.int (8 : Int32))]) (rest := [(.int (0 : Int32)), (.ref b5), (.int (0 : Int32)), (.ref x0)]) (lenOf pd_1 rfl) rfl (by show 2 * 0 + _ ≤ _; exact Nat.le_of_eq rfl) (hb hby d5_25) (fun _ _ => ⟨rfl, e5, (by decide : 1 + 0 ≤ _), (by decide : 8 + 0 ≤ _)⟩)
  dsimp only [Pt.U, Pt.locs, Pt.cells, Pt.slots] at X12 l12 y12 z12 sr12 hQ12
  subst l12 y12 z12
  obtain ⟨rfl, N12q, hh12⟩ := hQ12
  have N12 := Fr.app N0 N12q
  obtain ⟨LL12, X12, N12⟩ := own_hide X12 N12
  have st13 : Steps p.tables e below sE (T12.setTop (mkF m 28 #[.val (.ref x0), .val (.int (8 : Int32)), .val (.ref b5)] [(.int (F6 (4 : Int32) (8 : Int32))), (.int (0 : Int32)), (.ref b5), (.int (0 : Int32)), (.ref x0)])) := st11.trans (sr12 _ (Steps.refl _))
  have hmn : (F6 (4 : Int32) (8 : Int32)) = (4 : Int32) := by decide
  rw [hmn] at st13
  obtain ⟨T14, h14, LL14, X14, e14, N14, K14, V14, sr14⟩ := cpA X12 hx hZ hown (hw _ (List.mem_of_getElem? (i := 35) rfl)) (hw _ (List.mem_of_getElem? (i := 38) rfl)) (hw _ (List.mem_of_getElem? (i := 36) rfl)) (hw _ (List.mem_of_getElem? (i := 37) rfl)) hh12 f6 f8 (Or.inl ⟨rfl, rfl⟩) (by decide) (by decide) (by decide) (by decide) (by decide) rfl (by decide) N12 g_b5 (g := (mkF m 28 #[.val (.ref x0), .val (.int (8 : Int32)), .val (.ref b5)] [(.int (4 : Int32)), (.int (0 : Int32)), (.ref b5), (.int (0 : Int32)), (.ref x0)])) rfl (by rw [hml]; rfl) rfl (hb hby d5_28) (by decide) (W := 0) (by show 2 * 0 + _ ≤ _; exact Nat.le_of_eq rfl) (by decide)
  have f15 : Arv Z h14 x0 kS .int (4 : Int32) (List.map Value.int LS) (.int (0 : Int32)) := f6.keep K14 (ninS ne_x0_b5 nin0)
  have K16 : Keep h0 h14 [] := K7.trans K14 (allS (Or.inr sz_b5) all0)
  have Z17 : n0 ≤ h14.size := Nat.le_trans Z5 K14.1
  have f18 : Arv Z h14 b5 k5 .int (8 : Int32) (List.map Value.int (LS ++ List.replicate 4 (0 : Int32))) (.int (0 : Int32)) := (by have q := V14; rw [own_cp4 LS hLl] at q; exact q)
  have st19 : Steps p.tables e below sE (T14.setTop (mkF m 31 #[.val (.ref x0), .val (.int (8 : Int32)), .val (.ref b5)] [])) := st13.trans (sr14 _ (Steps.refl _))
  have st20 : Steps p.tables e below sE (T14.setTop (mkF m 32 #[.val (.ref x0), .val (.int (8 : Int32)), .val (.ref b5)] [(.ref b5)])) := st19.trans (by
      show Steps _ _ _ (T14.setTop (mkF m 31 #[.val (.ref x0), .val (.int (8 : Int32)), .val (.ref b5)] [])) _
      refine XS.aloadN X14.here hx rfl (hb hby d5_31) rfl rfl ?_
      exact Steps.refl _)
  obtain ⟨fs, hr, hrun, hended, hW, hsame⟩ := X14.leave (v := some (.ref b5)) (fun h => by rw [Bd.returns] at h; cases h) hlk
  refine ⟨_, _, (own_ent hsE st20).trans ?_, hrun, hended, _, _, rfl, ?_, ⟨_, rfl⟩, hW, hsame.mono (by decide) (by decide)⟩
  · exact retOut X14 hx (t := (.array .int)) Bd.returns rfl (Or.inr (Or.inr (Or.inr (Or.inr ⟨rfl, rfl, rfl⟩)))) (hb hby d5_32) hr
  · show Qcp4 Z x0 kS LS h0 n0 _ T14.heap _
    rw [e14]
    exact ⟨by rw [g5], N14, K16, ⟨k5, by rw [← g5]; exact f18⟩⟩
theorem ef_fl4 (m : MethodId) (x0 : Addr)  : entryFrame m #[(.ref x0), (.int (4 : Int32)), (.int (8 : Int32)), (.int (-1 : Int32))] 5 = mkF m 0 #[.val (.ref x0), .val (.int (4 : Int32)), .val (.int (8 : Int32)), .val (.int (-1 : Int32)), .unset] [] := by first | (simp [entryFrame, mkF, argsToLocals, Value.category]; done) | rfl
def Qfl4 (Z : State) (x0 : Addr) (kS : ClassId) (LS : List Int32) (h0 : Heap) (n0 : Nat) (vE : Option Value) (hE : Heap) (LE : List Loc) : Prop := vE = none ∧ Fr n0 LE ∧ Keep h0 hE [x0] ∧ Arv Z hE x0 kS .int (8 : Int32) (List.map Value.int ((((LS.set ((4 : Int32)).toNatClampNeg (-1 : Int32)).set ((5 : Int32)).toNatClampNeg (-1 : Int32)).set ((6 : Int32)).toNatClampNeg (-1 : Int32)).set ((7 : Int32)).toNatClampNeg (-1 : Int32))) (.int (0 : Int32))
set_option maxRecDepth 65536 in
set_option maxHeartbeats 40000000 in
theorem rmfl4 (l : Launch) (Z : State) (a0 : Array Value) (hw : ∀ d ∈ tables_1, d.before a0 Z = true) (ws : List Jvm.Cond) (x0 : Addr) (kS : ClassId) (LS : List Int32) (h0 : Heap) (n0 : Nat) (Z0 : n0 ≤ h0.size) (A_s : Arv Z h0 x0 kS .int (8 : Int32) (List.map Value.int LS) (.int (0 : Int32))) (hLl : LS.length = 8) (g_x : n0 ≤ x0) :
    MetFree l (⟨"java/util/Arrays", "fill", "([IIII)V"⟩ : MethodName) (head1 (Jvm.Cond.code (⟨"java/util/Arrays", "fill", "([IIII)V"⟩ : MethodName) jdk_65_method_104_code 5 none :: ws) ({ frames := 1, cells := 0, slots := 0, locals := 14 } : Room)) (fun a U => a = #[(.ref x0), (.int (4 : Int32)), (.int (8 : Int32)), (.int (-1 : Int32))] ∧ Z.Warmed39 U.vm ∧ U.heap = h0) (fun _ _ _ _ _ => True) (fun _ U o U' => ∃ vE LE, o = .returned vE ∧ Qfl4 Z x0 kS LS h0 n0 vE U'.heap LE ∧ FrameEnd U o U' LE ({ frames := 1, cells := 0, slots := 0, locals := 14 } : Room).cells ({ frames := 1, cells := 0, slots := 0, locals := 14 } : Room).slots) := by
  refine MetFree.of_bodySF (plainFor_of_name pn_0) hisR ?_
  intro p e s m args below meth c s₁ Bd hml0 hP hK
  obtain ⟨rfl, hZ, hh⟩ := hP
  have hx := Bd.exec
  have hby := Bd.bytes
  have hml : c.maxLocals = 5 := hml0
  have hown : s.vm.findClass "java/util/Arrays" = some m.cls := findClass_of_methodNamed Bd.named
  have hnm := (name_of_methodNamed Bd.named Bd.method).1
  have hlk : meth.locks = false := BodyLoose.notSynchronized Bd
  have X0 : Stand p l e ({ frames := 1, cells := 0, slots := 0, locals := 14 } : Room) s m #[(.ref x0), (.int (4 : Int32)), (.int (8 : Int32)), (.int (-1 : Int32))] below meth c s₁ [] 0 0 := Stand.of_body Bd
  have e0 : s₁.heap = h0 := by rw [← hh, Bd.state]; rfl
  have N0 := Fr.nil n0
  obtain ⟨sE, hsE⟩ : ∃ z, z = (s₁.setTop (entryFrame m #[(.ref x0), (.int (4 : Int32)), (.int (8 : Int32)), (.int (-1 : Int32))] 5)) := ⟨_, rfl⟩
  have st0 : Steps p.tables e below sE (s₁.setTop (mkF m 0 #[.val (.ref x0), .val (.int (4 : Int32)), .val (.int (8 : Int32)), .val (.int (-1 : Int32)), .unset] [])) := by rw [hsE]; exact castTop (ef_fl4 m x0) (Steps.refl _)
  have K0 : Keep h0 h0 [x0] := Keep.refl _ _
  obtain ⟨cl1, Ar1, -, S1, N1, -, -⟩ := id A_s
  have st2 : Steps p.tables e below sE (s₁.setTop (mkF m 4 #[.val (.ref x0), .val (.int (4 : Int32)), .val (.int (8 : Int32)), .val (.int (-1 : Int32)), .unset] [(.int (8 : Int32)), (.int (4 : Int32)), (.int (8 : Int32))])) := st0.trans (by
      show Steps _ _ _ (s₁.setTop (mkF m 0 #[.val (.ref x0), .val (.int (4 : Int32)), .val (.int (8 : Int32)), .val (.int (-1 : Int32)), .unset] [])) _
      refine XS.aloadN X0.here hx rfl (hb hby d7_0) rfl rfl ?_
      show Steps _ _ _ (s₁.setTop (mkF m 1 #[.val (.ref x0), .val (.int (4 : Int32)), .val (.int (8 : Int32)), .val (.int (-1 : Int32)), .unset] [(.ref x0)])) _
      refine X0.arraylength hx (by rw [e0]; exact Ar1.1) (State.isArrayOf_alike hZ.alike Ar1.2.1) (g := (mkF m 1 #[.val (.ref x0), .val (.int (4 : Int32)), .val (.int (8 : Int32)), .val (.int (-1 : Int32)), .unset] [(.ref x0)])) rfl rfl (hb hby d7_1) _ ?_
      rw [len_of S1 N1]
      show Steps _ _ _ (s₁.setTop (mkF m 2 #[.val (.ref x0), .val (.int (4 : Int32)), .val (.int (8 : Int32)), .val (.int (-1 : Int32)), .unset] [(.int (8 : Int32))])) _
      refine XS.iloadN X0.here hx rfl (hb hby d7_2) rfl ?_
      show Steps _ _ _ (s₁.setTop (mkF m 3 #[.val (.ref x0), .val (.int (4 : Int32)), .val (.int (8 : Int32)), .val (.int (-1 : Int32)), .unset] [(.int (4 : Int32)), (.int (8 : Int32))])) _
      refine XS.iloadN X0.here hx rfl (hb hby d7_3) rfl ?_
      exact Steps.refl _)
  obtain ⟨_, _, ⟨T3, L3, k3, n3⟩, -, X3, ⟨Lc3, hQ3, l3, y3, z3⟩, sr3⟩ := Jvm.LawKit.callS X0 hx (y := (⟨"java/util/Arrays", "rangeCheck", "(III)V"⟩ : MethodName)) hown (mvT hZ (hw _ (List.mem_of_getElem? (i := 42) rfl))) (mvT hZ (hw _ (List.mem_of_getElem? (i := 43) rfl))) (mvT hZ (hw _ (List.mem_of_getElem? (i := 30) rfl))) (mvT hZ (hw _ (List.mem_of_getElem? (i := 44) rfl))) (by decide) (backOf (W := 0) (rm8 l Z a0 hw [] (8 : Int32) (4 : Int32) (8 : Int32)  h0 n0 Z0 (by decide) (by decide) (by decide)) hZ (hw _ (List.mem_of_getElem? (i := 44) rfl)) (hw _ (List.mem_of_getElem? (i := 30) rfl)) (by decide) (by decide)) (g := (mkF m 4 #[.val (.ref x0), .val (.int (4 : Int32)), .val (.int (8 : Int32)), .val (.int (-1 : Int32)), .unset] [(.int (8 : Int32)), (.int (4 : Int32)), (.int (8 : Int32))])) rfl (by rw [hml]; rfl) (argsL := [(.int (8 : Int32)), (.int (4 : Int32)), (.int (8 : Int32))]) (rest := []) (lenOf pd_2 rfl) rfl (by show 2 * 0 + _ ≤ _; exact Nat.le_of_eq rfl) (hb hby d7_4) (fun _ _ => ⟨rfl, e0, (by decide : 0 + 0 ≤ _), (by decide : 0 + 0 ≤ _)⟩)
  dsimp only [Pt.U, Pt.locs, Pt.cells, Pt.slots] at X3 l3 y3 z3 sr3 hQ3
  subst l3 y3 z3
  obtain ⟨rfl, N3q, hh3⟩ := hQ3
  have N3 := Fr.app N0 N3q
  obtain ⟨LL3, X3, N3⟩ := own_hide X3 N3
  have st4 : Steps p.tables e below sE (T3.setTop (mkF m 7 #[.val (.ref x0), .val (.int (4 : Int32)), .val (.int (8 : Int32)), .val (.int (-1 : Int32)), .unset] [])) := st2.trans (sr3 _ (Steps.refl _))
  have st5 : Steps p.tables e below sE (T3.setTop (mkF m 13 #[.val (.ref x0), .val (.int (4 : Int32)), .val (.int (8 : Int32)), .val (.int (-1 : Int32)), .val (.int (4 : Int32))] [(.int (8 : Int32)), (.int (4 : Int32))])) := st4.trans (by
      show Steps _ _ _ (T3.setTop (mkF m 7 #[.val (.ref x0), .val (.int (4 : Int32)), .val (.int (8 : Int32)), .val (.int (-1 : Int32)), .unset] [])) _
      refine XS.iloadN X3.here hx rfl (hb hby d7_7) rfl ?_
      show Steps _ _ _ (T3.setTop (mkF m 8 #[.val (.ref x0), .val (.int (4 : Int32)), .val (.int (8 : Int32)), .val (.int (-1 : Int32)), .unset] [(.int (4 : Int32))])) _
      refine XS.istore X3.here hx rfl (hb hby d7_8) rfl (l' := #[.val (.ref x0), .val (.int (4 : Int32)), .val (.int (8 : Int32)), .val (.int (-1 : Int32)), .val (.int (4 : Int32))]) rfl ?_
      show Steps _ _ _ (T3.setTop (mkF m 10 #[.val (.ref x0), .val (.int (4 : Int32)), .val (.int (8 : Int32)), .val (.int (-1 : Int32)), .val (.int (4 : Int32))] [])) _
      refine XS.iload X3.here hx rfl (hb hby d7_10) rfl ?_
      show Steps _ _ _ (T3.setTop (mkF m 12 #[.val (.ref x0), .val (.int (4 : Int32)), .val (.int (8 : Int32)), .val (.int (-1 : Int32)), .val (.int (4 : Int32))] [(.int (4 : Int32))])) _
      refine XS.iloadN X3.here hx rfl (hb hby d7_12) rfl ?_
      exact Steps.refl _)
  have hf6 : (4 : Int32) < (8 : Int32) := by decide
  have st7 : Steps p.tables e below sE (T3.setTop (mkF m 20 #[.val (.ref x0), .val (.int (4 : Int32)), .val (.int (8 : Int32)), .val (.int (-1 : Int32)), .val (.int (4 : Int32))] [(.int (-1 : Int32)), (.int (4 : Int32)), (.ref x0)])) := st5.trans (by
      show Steps _ _ _ (T3.setTop (mkF m 13 #[.val (.ref x0), .val (.int (4 : Int32)), .val (.int (8 : Int32)), .val (.int (-1 : Int32)), .val (.int (4 : Int32))] [(.int (8 : Int32)), (.int (4 : Int32))])) _
      refine XS.icmpNo X3.here hx rfl (hb hby d7_13) rfl (tlt hf6).2.1 ?_
      show Steps _ _ _ (T3.setTop (mkF m 16 #[.val (.ref x0), .val (.int (4 : Int32)), .val (.int (8 : Int32)), .val (.int (-1 : Int32)), .val (.int (4 : Int32))] [])) _
      refine XS.aloadN X3.here hx rfl (hb hby d7_16) rfl rfl ?_
      show Steps _ _ _ (T3.setTop (mkF m 17 #[.val (.ref x0), .val (.int (4 : Int32)), .val (.int (8 : Int32)), .val (.int (-1 : Int32)), .val (.int (4 : Int32))] [(.ref x0)])) _
      refine XS.iload X3.here hx rfl (hb hby d7_17) rfl ?_
      show Steps _ _ _ (T3.setTop (mkF m 19 #[.val (.ref x0), .val (.int (4 : Int32)), .val (.int (8 : Int32)), .val (.int (-1 : Int32)), .val (.int (4 : Int32))] [(.int (4 : Int32)), (.ref x0)])) _
      refine XS.iloadN X3.here hx rfl (hb hby d7_19) rfl ?_
      exact Steps.refl _)
  obtain ⟨cl8, Ar8, q8, S8, N8, H8, G8⟩ := id A_s
  have hin8 : ¬ ((4 : Int32) < 0 ∨ cl8.slots.size ≤ ((4 : Int32)).toNatClampNeg) := inb_of S8 ⟨by decide, by decide⟩
  obtain ⟨T9, h9, X9, e9, W9, sr9⟩ := stI X3 hx hZ hh3 Ar8 (j := (4 : Int32)) hin8 (g := (mkF m 20 #[.val (.ref x0), .val (.int (4 : Int32)), .val (.int (8 : Int32)), .val (.int (-1 : Int32)), .val (.int (4 : Int32))] [(.int (-1 : Int32)), (.int (4 : Int32)), (.ref x0)])) rfl rfl (hb hby d7_20)
  have f10 : Arv Z h9 x0 kS .int (8 : Int32) (List.map Value.int (LS.set ((4 : Int32)).toNatClampNeg (-1 : Int32))) (.int (0 : Int32)) := (by have q := Arv.set Ar8 q8 S8 N8 H8 G8 rfl W9 _ rfl (by simp only [List.length_map, List.length_set, hLl]; decide); rw [own_setI] at q; exact q)
  have K11 : Keep h0 h9 [x0] := K0.wr W9 (Or.inl (List.mem_of_getElem? (i := 0) rfl))
  have Z9 : n0 ≤ h9.size := Nat.le_trans Z0 (Keep.of_wr W9).1
  have N9 := Fr.snoc X9 N3 g_x
  obtain ⟨LL9, X9, N9⟩ := own_hide X9 N9
  have st12 : Steps p.tables e below sE (T9.setTop (mkF m 21 #[.val (.ref x0), .val (.int (4 : Int32)), .val (.int (8 : Int32)), .val (.int (-1 : Int32)), .val (.int (4 : Int32))] [])) := st7.trans (sr9 _ (Steps.refl _))
  have st13 : Steps p.tables e below sE (T9.setTop (mkF m 13 #[.val (.ref x0), .val (.int (4 : Int32)), .val (.int (8 : Int32)), .val (.int (-1 : Int32)), .val (.int (5 : Int32))] [(.int (8 : Int32)), (.int (5 : Int32))])) := st12.trans (by
      show Steps _ _ _ (T9.setTop (mkF m 21 #[.val (.ref x0), .val (.int (4 : Int32)), .val (.int (8 : Int32)), .val (.int (-1 : Int32)), .val (.int (4 : Int32))] [])) _
      refine XS.iinc X9.here hx rfl (hb hby d7_21) rfl (l' := #[.val (.ref x0), .val (.int (4 : Int32)), .val (.int (8 : Int32)), .val (.int (-1 : Int32)), .val (.int (5 : Int32))]) rfl ?_
      show Steps _ _ _ (T9.setTop (mkF m 24 #[.val (.ref x0), .val (.int (4 : Int32)), .val (.int (8 : Int32)), .val (.int (-1 : Int32)), .val (.int (5 : Int32))] [])) _
      refine XS.goto X9.here hx rfl (pc0 := 24) (pc' := 10) rfl (hb hby d7_24) (by decide) (by decide) ?_
      show Steps _ _ _ (T9.setTop (mkF m 10 #[.val (.ref x0), .val (.int (4 : Int32)), .val (.int (8 : Int32)), .val (.int (-1 : Int32)), .val (.int (5 : Int32))] [])) _
      refine XS.iload X9.here hx rfl (hb hby d7_10) rfl ?_
      show Steps _ _ _ (T9.setTop (mkF m 12 #[.val (.ref x0), .val (.int (4 : Int32)), .val (.int (8 : Int32)), .val (.int (-1 : Int32)), .val (.int (5 : Int32))] [(.int (5 : Int32))])) _
      refine XS.iloadN X9.here hx rfl (hb hby d7_12) rfl ?_
      exact Steps.refl _)
  have hf14 : (5 : Int32) < (8 : Int32) := by decide
  have st15 : Steps p.tables e below sE (T9.setTop (mkF m 20 #[.val (.ref x0), .val (.int (4 : Int32)), .val (.int (8 : Int32)), .val (.int (-1 : Int32)), .val (.int (5 : Int32))] [(.int (-1 : Int32)), (.int (5 : Int32)), (.ref x0)])) := st13.trans (by
      show Steps _ _ _ (T9.setTop (mkF m 13 #[.val (.ref x0), .val (.int (4 : Int32)), .val (.int (8 : Int32)), .val (.int (-1 : Int32)), .val (.int (5 : Int32))] [(.int (8 : Int32)), (.int (5 : Int32))])) _
      refine XS.icmpNo X9.here hx rfl (hb hby d7_13) rfl (tlt hf14).2.1 ?_
      show Steps _ _ _ (T9.setTop (mkF m 16 #[.val (.ref x0), .val (.int (4 : Int32)), .val (.int (8 : Int32)), .val (.int (-1 : Int32)), .val (.int (5 : Int32))] [])) _
      refine XS.aloadN X9.here hx rfl (hb hby d7_16) rfl rfl ?_
      show Steps _ _ _ (T9.setTop (mkF m 17 #[.val (.ref x0), .val (.int (4 : Int32)), .val (.int (8 : Int32)), .val (.int (-1 : Int32)), .val (.int (5 : Int32))] [(.ref x0)])) _
      refine XS.iload X9.here hx rfl (hb hby d7_17) rfl ?_
      show Steps _ _ _ (T9.setTop (mkF m 19 #[.val (.ref x0), .val (.int (4 : Int32)), .val (.int (8 : Int32)), .val (.int (-1 : Int32)), .val (.int (5 : Int32))] [(.int (5 : Int32)), (.ref x0)])) _
      refine XS.iloadN X9.here hx rfl (hb hby d7_19) rfl ?_
      exact Steps.refl _)
  obtain ⟨cl16, Ar16, q16, S16, N16, H16, G16⟩ := id f10
  have hin16 : ¬ ((5 : Int32) < 0 ∨ cl16.slots.size ≤ ((5 : Int32)).toNatClampNeg) := inb_of S16 ⟨by decide, by decide⟩
  obtain ⟨T17, h17, X17, e17, W17, sr17⟩ := stI X9 hx hZ e9 Ar16 (j := (5 : Int32)) hin16 (g := (mkF m 20 #[.val (.ref x0), .val (.int (4 : Int32)), .val (.int (8 : Int32)), .val (.int (-1 : Int32)), .val (.int (5 : Int32))] [(.int (-1 : Int32)), (.int (5 : Int32)), (.ref x0)])) rfl rfl (hb hby d7_20)
  have f18 : Arv Z h17 x0 kS .int (8 : Int32) (List.map Value.int ((LS.set ((4 : Int32)).toNatClampNeg (-1 : Int32)).set ((5 : Int32)).toNatClampNeg (-1 : Int32))) (.int (0 : Int32)) := (by have q := Arv.set Ar16 q16 S16 N16 H16 G16 rfl W17 _ rfl (by simp only [List.length_map, List.length_set, hLl]; decide); rw [own_setI] at q; exact q)
  have K19 : Keep h0 h17 [x0] := K11.wr W17 (Or.inl (List.mem_of_getElem? (i := 0) rfl))
  have Z17 : n0 ≤ h17.size := Nat.le_trans Z9 (Keep.of_wr W17).1
  have N17 := Fr.snoc X17 N9 g_x
  obtain ⟨LL17, X17, N17⟩ := own_hide X17 N17
  have st20 : Steps p.tables e below sE (T17.setTop (mkF m 21 #[.val (.ref x0), .val (.int (4 : Int32)), .val (.int (8 : Int32)), .val (.int (-1 : Int32)), .val (.int (5 : Int32))] [])) := st15.trans (sr17 _ (Steps.refl _))
  have st21 : Steps p.tables e below sE (T17.setTop (mkF m 13 #[.val (.ref x0), .val (.int (4 : Int32)), .val (.int (8 : Int32)), .val (.int (-1 : Int32)), .val (.int (6 : Int32))] [(.int (8 : Int32)), (.int (6 : Int32))])) := st20.trans (by
      show Steps _ _ _ (T17.setTop (mkF m 21 #[.val (.ref x0), .val (.int (4 : Int32)), .val (.int (8 : Int32)), .val (.int (-1 : Int32)), .val (.int (5 : Int32))] [])) _
      refine XS.iinc X17.here hx rfl (hb hby d7_21) rfl (l' := #[.val (.ref x0), .val (.int (4 : Int32)), .val (.int (8 : Int32)), .val (.int (-1 : Int32)), .val (.int (6 : Int32))]) rfl ?_
      show Steps _ _ _ (T17.setTop (mkF m 24 #[.val (.ref x0), .val (.int (4 : Int32)), .val (.int (8 : Int32)), .val (.int (-1 : Int32)), .val (.int (6 : Int32))] [])) _
      refine XS.goto X17.here hx rfl (pc0 := 24) (pc' := 10) rfl (hb hby d7_24) (by decide) (by decide) ?_
      show Steps _ _ _ (T17.setTop (mkF m 10 #[.val (.ref x0), .val (.int (4 : Int32)), .val (.int (8 : Int32)), .val (.int (-1 : Int32)), .val (.int (6 : Int32))] [])) _
      refine XS.iload X17.here hx rfl (hb hby d7_10) rfl ?_
      show Steps _ _ _ (T17.setTop (mkF m 12 #[.val (.ref x0), .val (.int (4 : Int32)), .val (.int (8 : Int32)), .val (.int (-1 : Int32)), .val (.int (6 : Int32))] [(.int (6 : Int32))])) _
      refine XS.iloadN X17.here hx rfl (hb hby d7_12) rfl ?_
      exact Steps.refl _)
  have hf22 : (6 : Int32) < (8 : Int32) := by decide
  have st23 : Steps p.tables e below sE (T17.setTop (mkF m 20 #[.val (.ref x0), .val (.int (4 : Int32)), .val (.int (8 : Int32)), .val (.int (-1 : Int32)), .val (.int (6 : Int32))] [(.int (-1 : Int32)), (.int (6 : Int32)), (.ref x0)])) := st21.trans (by
      show Steps _ _ _ (T17.setTop (mkF m 13 #[.val (.ref x0), .val (.int (4 : Int32)), .val (.int (8 : Int32)), .val (.int (-1 : Int32)), .val (.int (6 : Int32))] [(.int (8 : Int32)), (.int (6 : Int32))])) _
      refine XS.icmpNo X17.here hx rfl (hb hby d7_13) rfl (tlt hf22).2.1 ?_
      show Steps _ _ _ (T17.setTop (mkF m 16 #[.val (.ref x0), .val (.int (4 : Int32)), .val (.int (8 : Int32)), .val (.int (-1 : Int32)), .val (.int (6 : Int32))] [])) _
      refine XS.aloadN X17.here hx rfl (hb hby d7_16) rfl rfl ?_
      show Steps _ _ _ (T17.setTop (mkF m 17 #[.val (.ref x0), .val (.int (4 : Int32)), .val (.int (8 : Int32)), .val (.int (-1 : Int32)), .val (.int (6 : Int32))] [(.ref x0)])) _
      refine XS.iload X17.here hx rfl (hb hby d7_17) rfl ?_
      show Steps _ _ _ (T17.setTop (mkF m 19 #[.val (.ref x0), .val (.int (4 : Int32)), .val (.int (8 : Int32)), .val (.int (-1 : Int32)), .val (.int (6 : Int32))] [(.int (6 : Int32)), (.ref x0)])) _
      refine XS.iloadN X17.here hx rfl (hb hby d7_19) rfl ?_
      exact Steps.refl _)
  obtain ⟨cl24, Ar24, q24, S24, N24, H24, G24⟩ := id f18
  have hin24 : ¬ ((6 : Int32) < 0 ∨ cl24.slots.size ≤ ((6 : Int32)).toNatClampNeg) := inb_of S24 ⟨by decide, by decide⟩
  obtain ⟨T25, h25, X25, e25, W25, sr25⟩ := stI X17 hx hZ e17 Ar24 (j := (6 : Int32)) hin24 (g := (mkF m 20 #[.val (.ref x0), .val (.int (4 : Int32)), .val (.int (8 : Int32)), .val (.int (-1 : Int32)), .val (.int (6 : Int32))] [(.int (-1 : Int32)), (.int (6 : Int32)), (.ref x0)])) rfl rfl (hb hby d7_20)
  have f26 : Arv Z h25 x0 kS .int (8 : Int32) (List.map Value.int (((LS.set ((4 : Int32)).toNatClampNeg (-1 : Int32)).set ((5 : Int32)).toNatClampNeg (-1 : Int32)).set ((6 : Int32)).toNatClampNeg (-1 : Int32))) (.int (0 : Int32)) := (by have q := Arv.set Ar24 q24 S24 N24 H24 G24 rfl W25 _ rfl (by simp only [List.length_map, List.length_set, hLl]; decide); rw [own_setI] at q; exact q)
  have K27 : Keep h0 h25 [x0] := K19.wr W25 (Or.inl (List.mem_of_getElem? (i := 0) rfl))
  have Z25 : n0 ≤ h25.size := Nat.le_trans Z17 (Keep.of_wr W25).1
  have N25 := Fr.snoc X25 N17 g_x
  obtain ⟨LL25, X25, N25⟩ := own_hide X25 N25
  have st28 : Steps p.tables e below sE (T25.setTop (mkF m 21 #[.val (.ref x0), .val (.int (4 : Int32)), .val (.int (8 : Int32)), .val (.int (-1 : Int32)), .val (.int (6 : Int32))] [])) := st23.trans (sr25 _ (Steps.refl _))
  have st29 : Steps p.tables e below sE (T25.setTop (mkF m 13 #[.val (.ref x0), .val (.int (4 : Int32)), .val (.int (8 : Int32)), .val (.int (-1 : Int32)), .val (.int (7 : Int32))] [(.int (8 : Int32)), (.int (7 : Int32))])) := st28.trans (by
      show Steps _ _ _ (T25.setTop (mkF m 21 #[.val (.ref x0), .val (.int (4 : Int32)), .val (.int (8 : Int32)), .val (.int (-1 : Int32)), .val (.int (6 : Int32))] [])) _
      refine XS.iinc X25.here hx rfl (hb hby d7_21) rfl (l' := #[.val (.ref x0), .val (.int (4 : Int32)), .val (.int (8 : Int32)), .val (.int (-1 : Int32)), .val (.int (7 : Int32))]) rfl ?_
      show Steps _ _ _ (T25.setTop (mkF m 24 #[.val (.ref x0), .val (.int (4 : Int32)), .val (.int (8 : Int32)), .val (.int (-1 : Int32)), .val (.int (7 : Int32))] [])) _
      refine XS.goto X25.here hx rfl (pc0 := 24) (pc' := 10) rfl (hb hby d7_24) (by decide) (by decide) ?_
      show Steps _ _ _ (T25.setTop (mkF m 10 #[.val (.ref x0), .val (.int (4 : Int32)), .val (.int (8 : Int32)), .val (.int (-1 : Int32)), .val (.int (7 : Int32))] [])) _
      refine XS.iload X25.here hx rfl (hb hby d7_10) rfl ?_
      show Steps _ _ _ (T25.setTop (mkF m 12 #[.val (.ref x0), .val (.int (4 : Int32)), .val (.int (8 : Int32)), .val (.int (-1 : Int32)), .val (.int (7 : Int32))] [(.int (7 : Int32))])) _
      refine XS.iloadN X25.here hx rfl (hb hby d7_12) rfl ?_
      exact Steps.refl _)
  have hf30 : (7 : Int32) < (8 : Int32) := by decide
  have st31 : Steps p.tables e below sE (T25.setTop (mkF m 20 #[.val (.ref x0), .val (.int (4 : Int32)), .val (.int (8 : Int32)), .val (.int (-1 : Int32)), .val (.int (7 : Int32))] [(.int (-1 : Int32)), (.int (7 : Int32)), (.ref x0)])) := st29.trans (by
      show Steps _ _ _ (T25.setTop (mkF m 13 #[.val (.ref x0), .val (.int (4 : Int32)), .val (.int (8 : Int32)), .val (.int (-1 : Int32)), .val (.int (7 : Int32))] [(.int (8 : Int32)), (.int (7 : Int32))])) _
      refine XS.icmpNo X25.here hx rfl (hb hby d7_13) rfl (tlt hf30).2.1 ?_
      show Steps _ _ _ (T25.setTop (mkF m 16 #[.val (.ref x0), .val (.int (4 : Int32)), .val (.int (8 : Int32)), .val (.int (-1 : Int32)), .val (.int (7 : Int32))] [])) _
      refine XS.aloadN X25.here hx rfl (hb hby d7_16) rfl rfl ?_
      show Steps _ _ _ (T25.setTop (mkF m 17 #[.val (.ref x0), .val (.int (4 : Int32)), .val (.int (8 : Int32)), .val (.int (-1 : Int32)), .val (.int (7 : Int32))] [(.ref x0)])) _
      refine XS.iload X25.here hx rfl (hb hby d7_17) rfl ?_
      show Steps _ _ _ (T25.setTop (mkF m 19 #[.val (.ref x0), .val (.int (4 : Int32)), .val (.int (8 : Int32)), .val (.int (-1 : Int32)), .val (.int (7 : Int32))] [(.int (7 : Int32)), (.ref x0)])) _
      refine XS.iloadN X25.here hx rfl (hb hby d7_19) rfl ?_
      exact Steps.refl _)
  obtain ⟨cl32, Ar32, q32, S32, N32, H32, G32⟩ := id f26
  have hin32 : ¬ ((7 : Int32) < 0 ∨ cl32.slots.size ≤ ((7 : Int32)).toNatClampNeg) := inb_of S32 ⟨by decide, by decide⟩
  obtain ⟨T33, h33, X33, e33, W33, sr33⟩ := stI X25 hx hZ e25 Ar32 (j := (7 : Int32)) hin32 (g := (mkF m 20 #[.val (.ref x0), .val (.int (4 : Int32)), .val (.int (8 : Int32)), .val (.int (-1 : Int32)), .val (.int (7 : Int32))] [(.int (-1 : Int32)), (.int (7 : Int32)), (.ref x0)])) rfl rfl (hb hby d7_20)
  have f34 : Arv Z h33 x0 kS .int (8 : Int32) (List.map Value.int ((((LS.set ((4 : Int32)).toNatClampNeg (-1 : Int32)).set ((5 : Int32)).toNatClampNeg (-1 : Int32)).set ((6 : Int32)).toNatClampNeg (-1 : Int32)).set ((7 : Int32)).toNatClampNeg (-1 : Int32))) (.int (0 : Int32)) := (by have q := Arv.set Ar32 q32 S32 N32 H32 G32 rfl W33 _ rfl (by simp only [List.length_map, List.length_set, hLl]; decide); rw [own_setI] at q; exact q)
  have K35 : Keep h0 h33 [x0] := K27.wr W33 (Or.inl (List.mem_of_getElem? (i := 0) rfl))
  have Z33 : n0 ≤ h33.size := Nat.le_trans Z25 (Keep.of_wr W33).1
  have N33 := Fr.snoc X33 N25 g_x
  obtain ⟨LL33, X33, N33⟩ := own_hide X33 N33
  have st36 : Steps p.tables e below sE (T33.setTop (mkF m 21 #[.val (.ref x0), .val (.int (4 : Int32)), .val (.int (8 : Int32)), .val (.int (-1 : Int32)), .val (.int (7 : Int32))] [])) := st31.trans (sr33 _ (Steps.refl _))
  have st37 : Steps p.tables e below sE (T33.setTop (mkF m 13 #[.val (.ref x0), .val (.int (4 : Int32)), .val (.int (8 : Int32)), .val (.int (-1 : Int32)), .val (.int (8 : Int32))] [(.int (8 : Int32)), (.int (8 : Int32))])) := st36.trans (by
      show Steps _ _ _ (T33.setTop (mkF m 21 #[.val (.ref x0), .val (.int (4 : Int32)), .val (.int (8 : Int32)), .val (.int (-1 : Int32)), .val (.int (7 : Int32))] [])) _
      refine XS.iinc X33.here hx rfl (hb hby d7_21) rfl (l' := #[.val (.ref x0), .val (.int (4 : Int32)), .val (.int (8 : Int32)), .val (.int (-1 : Int32)), .val (.int (8 : Int32))]) rfl ?_
      show Steps _ _ _ (T33.setTop (mkF m 24 #[.val (.ref x0), .val (.int (4 : Int32)), .val (.int (8 : Int32)), .val (.int (-1 : Int32)), .val (.int (8 : Int32))] [])) _
      refine XS.goto X33.here hx rfl (pc0 := 24) (pc' := 10) rfl (hb hby d7_24) (by decide) (by decide) ?_
      show Steps _ _ _ (T33.setTop (mkF m 10 #[.val (.ref x0), .val (.int (4 : Int32)), .val (.int (8 : Int32)), .val (.int (-1 : Int32)), .val (.int (8 : Int32))] [])) _
      refine XS.iload X33.here hx rfl (hb hby d7_10) rfl ?_
      show Steps _ _ _ (T33.setTop (mkF m 12 #[.val (.ref x0), .val (.int (4 : Int32)), .val (.int (8 : Int32)), .val (.int (-1 : Int32)), .val (.int (8 : Int32))] [(.int (8 : Int32))])) _
      refine XS.iloadN X33.here hx rfl (hb hby d7_12) rfl ?_
      exact Steps.refl _)
  have hf38 : ¬ ((8 : Int32) < (8 : Int32)) := by decide
  have st39 : Steps p.tables e below sE (T33.setTop (mkF m 27 #[.val (.ref x0), .val (.int (4 : Int32)), .val (.int (8 : Int32)), .val (.int (-1 : Int32)), .val (.int (8 : Int32))] [])) := st37.trans (by
      show Steps _ _ _ (T33.setTop (mkF m 13 #[.val (.ref x0), .val (.int (4 : Int32)), .val (.int (8 : Int32)), .val (.int (-1 : Int32)), .val (.int (8 : Int32))] [(.int (8 : Int32)), (.int (8 : Int32))])) _
      refine XS.icmpYes X33.here hx rfl (pc0 := 13) (pc' := 27) rfl (hb hby d7_13) rfl (flt hf38).2.1 (by decide) (by decide) ?_
      exact Steps.refl _)
  obtain ⟨fs, hr, hrun, hended, hW, hsame⟩ := X33.leave (v := none) (fun _ => rfl) hlk
  refine ⟨_, _, (own_ent hsE st39).trans ?_, hrun, hended, _, _, rfl, ?_, ⟨_, rfl⟩, hW, hsame.mono (by decide) (by decide)⟩
  · exact X33.returnOut hx Bd.returns (hb hby d7_27) hr
  · show Qfl4 Z x0 kS LS h0 n0 _ T33.heap _
    rw [e33]
    exact ⟨rfl, N33, K35, f34⟩
def own_I0 : List Int32 := [0, 0, 0, 0, 0, 0, 0, 0, 0, 0, 0, 0, 0, 0, 0, 0]
def own_U0 : List Int64 := [0, 0, 0, 0, 0, 0, 0, 0, 0, 0, 0, 0, 0, 0, 0, 0]
theorem own_P0 (val : Nat → Int64) : own_P 0 0 own_I0 own_U0 [] val (fun i => i < 0) :=
  ⟨by decide, by decide, rfl, by decide, by decide, fun j hj => absurd hj (by omega), fun id hid => absurd hid (by omega)⟩
theorem own_H0 (U : List Int64) : own_H 0 U := fun j hj => absurd hj (by omega)
theorem own_gg (L : List Int32) (d i : Nat) (h : i < L.length) : (L ++ List.replicate d (0 : Int32)).getD i 0 = L.getD i 0 := by
  simp only [List.getD_eq_getElem?_getD, List.getElem?_append_left h]
theorem own_rmH {n : Nat} {U : List Int64} (l2 : U.length = 16) (hn : n ≤ 5) (H : own_H (n + 1) U) (a : Nat) (ha : a < n) (h0 : ¬ a = 0) : own_H n (U.set a (U.getD n 0)) := fun j hj => by
  rw [own_gsJ _ _ _ _ (by omega), if_neg h0, own_gsJ _ _ _ _ (by omega)]
  by_cases e : a = j
  · rw [if_pos e]; exact H n (by omega)
  · rw [if_neg e]; exact H j (by omega)
theorem own_HL {n : Nat} {U : List Int64} (H : own_H (n + 1) U) : own_H n U := fun j hj => H j (by omega)
theorem own_ib {mm : Int32} {k : Nat} (h : k < mm.toNatClampNeg) (h8 : mm.toNatClampNeg ≤ 8) : ¬ Int32.ofNat k < 0 ∧ Int32.ofNat k < mm := by
  have e := own_on k (by omega)
  rw [Int32.lt_iff_toInt_lt, Int32.lt_iff_toInt_lt, e, show (0 : Int32).toInt = 0 by decide]
  simp only [Int32.toNatClampNeg] at h
  omega
theorem own_ofb (a n : Nat) (hn : n ≤ 5) (h : a < n) : 0 ≤ (Int32.ofNat a).toInt ∧ (Int32.ofNat a).toInt < n := by rw [own_on a (by omega)]; omega
theorem d1_0 : decode prog_24_method_1_code 0 = .ok (.aload_n 0, 1) := by decide +kernel
theorem d1_1 : decode prog_24_method_1_code 1 = .ok (.invokespecial 1, 3) := by decide +kernel
theorem d1_4 : decode prog_24_method_1_code 4 = .ok (.aload_n 0, 1) := by decide +kernel
theorem d1_5 : decode prog_24_method_1_code 5 = .ok (.bipush 16, 2) := by decide +kernel
theorem d1_7 : decode prog_24_method_1_code 7 = .ok (.newarray .int, 2) := by decide +kernel
theorem d1_9 : decode prog_24_method_1_code 9 = .ok (.putfield 7, 3) := by decide +kernel
theorem d1_12 : decode prog_24_method_1_code 12 = .ok (.aload_n 0, 1) := by decide +kernel
theorem d1_13 : decode prog_24_method_1_code 13 = .ok (.bipush 16, 2) := by decide +kernel
theorem d1_15 : decode prog_24_method_1_code 15 = .ok (.newarray .long, 2) := by decide +kernel
theorem d1_17 : decode prog_24_method_1_code 17 = .ok (.putfield 13, 3) := by decide +kernel
theorem d1_20 : decode prog_24_method_1_code 20 = .ok (.aload_n 0, 1) := by decide +kernel
theorem d1_21 : decode prog_24_method_1_code 21 = .ok (.iconst 0, 1) := by decide +kernel
theorem d1_22 : decode prog_24_method_1_code 22 = .ok (.newarray .int, 2) := by decide +kernel
theorem d1_24 : decode prog_24_method_1_code 24 = .ok (.putfield 17, 3) := by decide +kernel
theorem d1_27 : decode prog_24_method_1_code 27 = .ok (.return_, 1) := by decide +kernel
theorem ef_1 (m : MethodId) (x0 : Addr)  : entryFrame m #[(.ref x0)] 1 = mkF m 0 #[.val (.ref x0)] [] := by first | (simp [entryFrame, mkF, argsToLocals, Value.category]; done) | rfl
def Q1 (Z : State) (x0 : Addr) (h0 : Heap) (n0 : Nat) (vE : Option Value) (hE : Heap) (LE : List Loc) : Prop := vE = none ∧ Fr n0 LE ∧ Keep h0 hE [x0] ∧ Exa Z hE x0 "com/example/folioseek/folioseek/UseOrder" ∧ Fld Z hE x0 "com/example/folioseek/folioseek/UseOrder" "size" "I" (.int (0 : Int32)) ∧ (∃ (aI aU aS : Addr) (kI kU kS : ClassId), Fld Z hE x0 "com/example/folioseek/folioseek/UseOrder" "ids" "[I" (.ref aI) ∧ Fld Z hE x0 "com/example/folioseek/folioseek/UseOrder" "uses" "[J" (.ref aU) ∧ Fld Z hE x0 "com/example/folioseek/folioseek/UseOrder" "slots" "[I" (.ref aS) ∧ Arv Z hE aI kI .int (16 : Int32) (List.map Value.int own_I0) (.int (0 : Int32)) ∧ Arv Z hE aU kU .long (16 : Int32) (List.map Value.long own_U0) (.long (0 : Int64)) ∧ Arv Z hE aS kS .int (0 : Int32) (List.map Value.int []) (.int (0 : Int32)) ∧ n0 ≤ aI ∧ n0 ≤ aU ∧ n0 ≤ aS ∧ aI ≠ aU ∧ aI ≠ aS ∧ aU ≠ aS ∧ x0 ≠ aI ∧ x0 ≠ aU ∧ x0 ≠ aS ∧ h0.size ≤ aI ∧ h0.size ≤ aU ∧ h0.size ≤ aS)
set_option maxRecDepth 65536 in
set_option maxHeartbeats 40000000 in
theorem rm1 (l : Launch) (Z : State) (a0 : Array Value) (hw : ∀ d ∈ tables_1, d.before a0 Z = true) (ws : List Jvm.Cond) (x0 : Addr) (h0 : Heap) (n0 : Nat) (Z0 : n0 ≤ h0.size) (E_x : Exa Z h0 x0 "com/example/folioseek/folioseek/UseOrder") (F_i : Fld Z h0 x0 "com/example/folioseek/folioseek/UseOrder" "ids" "[I" .null) (F_u : Fld Z h0 x0 "com/example/folioseek/folioseek/UseOrder" "uses" "[J" .null) (F_s : Fld Z h0 x0 "com/example/folioseek/folioseek/UseOrder" "slots" "[I" .null) (F_z : Fld Z h0 x0 "com/example/folioseek/folioseek/UseOrder" "size" "I" (.int (0 : Int32))) (g_x : n0 ≤ x0) :
    MetFree l (⟨"com/example/folioseek/folioseek/UseOrder", "<init>", "()V"⟩ : MethodName) (head1 (Jvm.Cond.code (⟨"com/example/folioseek/folioseek/UseOrder", "<init>", "()V"⟩ : MethodName) prog_24_method_1_code 1 none :: ws) ({ frames := 1, cells := 3, slots := 32, locals := 12 } : Room)) (fun a U => a = #[(.ref x0)] ∧ Z.Warmed39 U.vm ∧ U.heap = h0) (fun _ _ _ _ _ => True) (fun _ U o U' => ∃ vE LE, o = .returned vE ∧ Q1 Z x0 h0 n0 vE U'.heap LE ∧ FrameEnd U o U' LE ({ frames := 1, cells := 3, slots := 32, locals := 12 } : Room).cells ({ frames := 1, cells := 3, slots := 32, locals := 12 } : Room).slots) := by
  refine MetFree.of_bodySF (plainFor_of_name pn_1) hisR ?_
  intro p e s m args below meth c s₁ Bd hml0 hP hK
  obtain ⟨rfl, hZ, hh⟩ := hP
  have hx := Bd.exec
  have hby := Bd.bytes
  have hml : c.maxLocals = 1 := hml0
  have hown : s.vm.findClass "com/example/folioseek/folioseek/UseOrder" = some m.cls := findClass_of_methodNamed Bd.named
  have hnm := (name_of_methodNamed Bd.named Bd.method).1
  have hlk : meth.locks = false := BodyLoose.notSynchronized Bd
  have X0 : Stand p l e ({ frames := 1, cells := 3, slots := 32, locals := 12 } : Room) s m #[(.ref x0)] below meth c s₁ [] 0 0 := Stand.of_body Bd
  have e0 : s₁.heap = h0 := by rw [← hh, Bd.state]; rfl
  have N0 := Fr.nil n0
  obtain ⟨sE, hsE⟩ : ∃ z, z = (s₁.setTop (entryFrame m #[(.ref x0)] 1)) := ⟨_, rfl⟩
  have st0 : Steps p.tables e below sE (s₁.setTop (mkF m 0 #[.val (.ref x0)] [])) := by rw [hsE]; exact castTop (ef_1 m x0) (Steps.refl _)
  have K0 : Keep h0 h0 [x0] := Keep.refl _ _
  have st1 : Steps p.tables e below sE (s₁.setTop (mkF m 1 #[.val (.ref x0)] [(.ref x0)])) := st0.trans (by
      show Steps _ _ _ (s₁.setTop (mkF m 0 #[.val (.ref x0)] [])) _
      refine XS.aloadN X0.here hx rfl (hb hby d1_0) rfl rfl ?_
      exact Steps.refl _)
  obtain ⟨T2, X2, e2, sr2⟩ := initO X0 hx hZ hown (hw _ (List.mem_of_getElem? (i := 7) rfl)) (hw _ (List.mem_of_getElem? (i := 8) rfl)) (hw _ (List.mem_of_getElem? (i := 9) rfl)) e0 (g := (mkF m 1 #[.val (.ref x0)] [(.ref x0)])) rfl (by rw [hml]; rfl) rfl (hb hby d1_1) (by decide) (W := 0) (by show 2 * 0 + _ ≤ _; exact Nat.le_of_eq rfl) (by decide)
  have st3 : Steps p.tables e below sE (T2.setTop (mkF m 4 #[.val (.ref x0)] [])) := st1.trans (sr2 _ (Steps.refl _))
  have st4 : Steps p.tables e below sE (T2.setTop (mkF m 7 #[.val (.ref x0)] [(.int (16 : Int32)), (.ref x0)])) := st3.trans (by
      show Steps _ _ _ (T2.setTop (mkF m 4 #[.val (.ref x0)] [])) _
      refine XS.aloadN X2.here hx rfl (hb hby d1_4) rfl rfl ?_
      show Steps _ _ _ (T2.setTop (mkF m 5 #[.val (.ref x0)] [(.ref x0)])) _
      refine XS.bipush X2.here hx rfl (hb hby d1_5) ?_
      exact Steps.refl _)
  obtain ⟨T5, h5, k5, X5, e5, E5, A5, sr5⟩ := newP X2 hx hZ (hw _ (List.mem_of_getElem? (i := 10) rfl)) e2 (g := (mkF m 7 #[.val (.ref x0)] [(.int (16 : Int32)), (.ref x0)])) rfl (hb hby d1_7) rfl (by decide) (cap := 16) (by decide) (by decide) (by decide) (by decide)
  obtain ⟨b5, g5⟩ : ∃ z, z = h0.size := ⟨_, rfl⟩
  rw [← g5] at A5 sr5
  have g_b5 : n0 ≤ b5 := Nat.le_trans Z0 (Nat.le_of_eq g5.symm)
  have sz_b5 : h0.size ≤ b5 := Nat.le_trans K0.1 (Nat.le_of_eq g5.symm)
  have ne_x0_b5 : x0 ≠ b5 := Nat.ne_of_lt (Nat.lt_of_lt_of_le E_x.lt (Nat.le_of_eq g5.symm))
  have f6 : Exa Z h5 x0 "com/example/folioseek/folioseek/UseOrder" := E_x.ext E5
  have f7 : Fld Z h5 x0 "com/example/folioseek/folioseek/UseOrder" "ids" "[I" .null := F_i.ext E5
  have f8 : Fld Z h5 x0 "com/example/folioseek/folioseek/UseOrder" "uses" "[J" .null := F_u.ext E5
  have f9 : Fld Z h5 x0 "com/example/folioseek/folioseek/UseOrder" "slots" "[I" .null := F_s.ext E5
  have f10 : Fld Z h5 x0 "com/example/folioseek/folioseek/UseOrder" "size" "I" (.int (0 : Int32)) := F_z.ext E5
  have K11 : Keep h0 h5 [x0] := K0.ext E5
  have f12 : Arv Z h5 b5 k5 .int (16 : Int32) [(.int (0 : Int32)), (.int (0 : Int32)), (.int (0 : Int32)), (.int (0 : Int32)), (.int (0 : Int32)), (.int (0 : Int32)), (.int (0 : Int32)), (.int (0 : Int32)), (.int (0 : Int32)), (.int (0 : Int32)), (.int (0 : Int32)), (.int (0 : Int32)), (.int (0 : Int32)), (.int (0 : Int32)), (.int (0 : Int32)), (.int (0 : Int32))] (.int (0 : Int32)) := (Arv.new A5 (by decide)).pad (pad_rep [] (.int (0 : Int32)) 16)
  have Z5 : n0 ≤ h5.size := Nat.le_trans Z0 E5.1
  have st13 : Steps p.tables e below sE (T5.setTop (mkF m 9 #[.val (.ref x0)] [(.ref b5), (.ref x0)])) := st4.trans (sr5 _ (Steps.refl _))
  obtain ⟨T14, h14, X14, e14, W14, sr14⟩ := putF X5 hx hZ hown (host := "") (Or.inl (hw _ (List.mem_of_getElem? (i := 11) rfl))) Via.refl e5 f7 f6 (Or.inl (hw _ (List.mem_of_getElem? (i := 12) rfl))) (hw _ (List.mem_of_getElem? (i := 2) rfl)) (ty := (.array .int)) (by decide) rfl rfl (g := (mkF m 9 #[.val (.ref x0)] [(.ref b5), (.ref x0)])) rfl rfl (hb hby d1_9)
  have f15 : Exa Z h14 x0 "com/example/folioseek/folioseek/UseOrder" := f6.wr W14
  have f16 : Fld Z h14 x0 "com/example/folioseek/folioseek/UseOrder" "uses" "[J" .null := f8.other W14 (Or.inr (slot_ne (Or.inl (hw _ (List.mem_of_getElem? (i := 14) rfl))) (Or.inl (hw _ (List.mem_of_getElem? (i := 12) rfl))) (by decide) (t := (.array .long)) (t' := (.array .int)) (by decide) (by decide)))
  have f17 : Fld Z h14 x0 "com/example/folioseek/folioseek/UseOrder" "slots" "[I" .null := f9.other W14 (Or.inr (slot_ne (Or.inl (hw _ (List.mem_of_getElem? (i := 16) rfl))) (Or.inl (hw _ (List.mem_of_getElem? (i := 12) rfl))) (by decide) (t := (.array .int)) (t' := (.array .int)) (by decide) (by decide)))
  have f18 : Fld Z h14 x0 "com/example/folioseek/folioseek/UseOrder" "size" "I" (.int (0 : Int32)) := f10.other W14 (Or.inr (slot_ne (Or.inl (hw _ (List.mem_of_getElem? (i := 23) rfl))) (Or.inl (hw _ (List.mem_of_getElem? (i := 12) rfl))) (by decide) (t := .int) (t' := (.array .int)) (by decide) (by decide)))
  have f19 : Arv Z h14 b5 k5 .int (16 : Int32) [(.int (0 : Int32)), (.int (0 : Int32)), (.int (0 : Int32)), (.int (0 : Int32)), (.int (0 : Int32)), (.int (0 : Int32)), (.int (0 : Int32)), (.int (0 : Int32)), (.int (0 : Int32)), (.int (0 : Int32)), (.int (0 : Int32)), (.int (0 : Int32)), (.int (0 : Int32)), (.int (0 : Int32)), (.int (0 : Int32)), (.int (0 : Int32))] (.int (0 : Int32)) := f12.other W14 (Ne.symm ne_x0_b5)
  have f20 : Fld Z h14 x0 "com/example/folioseek/folioseek/UseOrder" "ids" "[I" (.ref b5) := f7.same W14
  have K21 : Keep h0 h14 [x0] := K11.wr W14 (Or.inl (List.mem_of_getElem? (i := 0) rfl))
  have Z14 : n0 ≤ h14.size := Nat.le_trans Z5 (Keep.of_wr W14).1
  have N14 := Fr.snoc X14 N0 g_x
  obtain ⟨LL14, X14, N14⟩ := own_hide X14 N14
  have st22 : Steps p.tables e below sE (T14.setTop (mkF m 12 #[.val (.ref x0)] [])) := st13.trans (sr14 _ (Steps.refl _))
  have st23 : Steps p.tables e below sE (T14.setTop (mkF m 15 #[.val (.ref x0)] [(.int (16 : Int32)), (.ref x0)])) := st22.trans (by
      show Steps _ _ _ (T14.setTop (mkF m 12 #[.val (.ref x0)] [])) _
      refine XS.aloadN X14.here hx rfl (hb hby d1_12) rfl rfl ?_
      show Steps _ _ _ (T14.setTop (mkF m 13 #[.val (.ref x0)] [(.ref x0)])) _
      refine XS.bipush X14.here hx rfl (hb hby d1_13) ?_
      exact Steps.refl _)
  obtain ⟨T24, h24, k24, X24, e24, E24, A24, sr24⟩ := newP X14 hx hZ (hw _ (List.mem_of_getElem? (i := 0) rfl)) e14 (g := (mkF m 15 #[.val (.ref x0)] [(.int (16 : Int32)), (.ref x0)])) rfl (hb hby d1_15) rfl (by decide) (cap := 16) (by decide) (by decide) (by decide) (by decide)
  obtain ⟨b24, g24⟩ : ∃ z, z = h14.size := ⟨_, rfl⟩
  rw [← g24] at A24 sr24
  have g_b24 : n0 ≤ b24 := Nat.le_trans Z14 (Nat.le_of_eq g24.symm)
  have sz_b24 : h0.size ≤ b24 := Nat.le_trans K21.1 (Nat.le_of_eq g24.symm)
  have ne_x0_b24 : x0 ≠ b24 := Nat.ne_of_lt (Nat.lt_of_lt_of_le f15.lt (Nat.le_of_eq g24.symm))
  have ne_b5_b24 : b5 ≠ b24 := Nat.ne_of_lt (Nat.lt_of_lt_of_le f19.lt (Nat.le_of_eq g24.symm))
  have f25 : Exa Z h24 x0 "com/example/folioseek/folioseek/UseOrder" := f15.ext E24
  have f26 : Fld Z h24 x0 "com/example/folioseek/folioseek/UseOrder" "uses" "[J" .null := f16.ext E24
  have f27 : Fld Z h24 x0 "com/example/folioseek/folioseek/UseOrder" "slots" "[I" .null := f17.ext E24
  have f28 : Fld Z h24 x0 "com/example/folioseek/folioseek/UseOrder" "size" "I" (.int (0 : Int32)) := f18.ext E24
  have f29 : Arv Z h24 b5 k5 .int (16 : Int32) [(.int (0 : Int32)), (.int (0 : Int32)), (.int (0 : Int32)), (.int (0 : Int32)), (.int (0 : Int32)), (.int (0 : Int32)), (.int (0 : Int32)), (.int (0 : Int32)), (.int (0 : Int32)), (.int (0 : Int32)), (.int (0 : Int32)), (.int (0 : Int32)), (.int (0 : Int32)), (.int (0 : Int32)), (.int (0 : Int32)), (.int (0 : Int32))] (.int (0 : Int32)) := f19.ext E24
  have f30 : Fld Z h24 x0 "com/example/folioseek/folioseek/UseOrder" "ids" "[I" (.ref b5) := f20.ext E24
  have K31 : Keep h0 h24 [x0] := K21.ext E24
  have f32 : Arv Z h24 b24 k24 .long (16 : Int32) [(.long (0 : Int64)), (.long (0 : Int64)), (.long (0 : Int64)), (.long (0 : Int64)), (.long (0 : Int64)), (.long (0 : Int64)), (.long (0 : Int64)), (.long (0 : Int64)), (.long (0 : Int64)), (.long (0 : Int64)), (.long (0 : Int64)), (.long (0 : Int64)), (.long (0 : Int64)), (.long (0 : Int64)), (.long (0 : Int64)), (.long (0 : Int64))] (.long (0 : Int64)) := (Arv.new A24 (by decide)).pad (pad_rep [] (.long (0 : Int64)) 16)
  have Z24 : n0 ≤ h24.size := Nat.le_trans Z14 E24.1
  have st33 : Steps p.tables e below sE (T24.setTop (mkF m 17 #[.val (.ref x0)] [(.ref b24), (.ref x0)])) := st23.trans (sr24 _ (Steps.refl _))
  obtain ⟨T34, h34, X34, e34, W34, sr34⟩ := putF X24 hx hZ hown (host := "") (Or.inl (hw _ (List.mem_of_getElem? (i := 13) rfl))) Via.refl e24 f26 f25 (Or.inl (hw _ (List.mem_of_getElem? (i := 14) rfl))) (hw _ (List.mem_of_getElem? (i := 2) rfl)) (ty := (.array .long)) (by decide) rfl rfl (g := (mkF m 17 #[.val (.ref x0)] [(.ref b24), (.ref x0)])) rfl rfl (hb hby d1_17)
  have f35 : Exa Z h34 x0 "com/example/folioseek/folioseek/UseOrder" := f25.wr W34
  have f36 : Fld Z h34 x0 "com/example/folioseek/folioseek/UseOrder" "slots" "[I" .null := f27.other W34 (Or.inr (slot_ne (Or.inl (hw _ (List.mem_of_getElem? (i := 16) rfl))) (Or.inl (hw _ (List.mem_of_getElem? (i := 14) rfl))) (by decide) (t := (.array .int)) (t' := (.array .long)) (by decide) (by decide)))
  have f37 : Fld Z h34 x0 "com/example/folioseek/folioseek/UseOrder" "size" "I" (.int (0 : Int32)) := f28.other W34 (Or.inr (slot_ne (Or.inl (hw _ (List.mem_of_getElem? (i := 23) rfl))) (Or.inl (hw _ (List.mem_of_getElem? (i := 14) rfl))) (by decide) (t := .int) (t' := (.array .long)) (by decide) (by decide)))
  have f38 : Arv Z h34 b5 k5 .int (16 : Int32) [(.int (0 : Int32)), (.int (0 : Int32)), (.int (0 : Int32)), (.int (0 : Int32)), (.int (0 : Int32)), (.int (0 : Int32)), (.int (0 : Int32)), (.int (0 : Int32)), (.int (0 : Int32)), (.int (0 : Int32)), (.int (0 : Int32)), (.int (0 : Int32)), (.int (0 : Int32)), (.int (0 : Int32)), (.int (0 : Int32)), (.int (0 : Int32))] (.int (0 : Int32)) := f29.other W34 (Ne.symm ne_x0_b5)
  have f39 : Fld Z h34 x0 "com/example/folioseek/folioseek/UseOrder" "ids" "[I" (.ref b5) := f30.other W34 (Or.inr (slot_ne (Or.inl (hw _ (List.mem_of_getElem? (i := 12) rfl))) (Or.inl (hw _ (List.mem_of_getElem? (i := 14) rfl))) (by decide) (t := (.array .int)) (t' := (.array .long)) (by decide) (by decide)))
  have f40 : Arv Z h34 b24 k24 .long (16 : Int32) [(.long (0 : Int64)), (.long (0 : Int64)), (.long (0 : Int64)), (.long (0 : Int64)), (.long (0 : Int64)), (.long (0 : Int64)), (.long (0 : Int64)), (.long (0 : Int64)), (.long (0 : Int64)), (.long (0 : Int64)), (.long (0 : Int64)), (.long (0 : Int64)), (.long (0 : Int64)), (.long (0 : Int64)), (.long (0 : Int64)), (.long (0 : Int64))] (.long (0 : Int64)) := f32.other W34 (Ne.symm ne_x0_b24)
  have f41 : Fld Z h34 x0 "com/example/folioseek/folioseek/UseOrder" "uses" "[J" (.ref b24) := f26.same W34
  have K42 : Keep h0 h34 [x0] := K31.wr W34 (Or.inl (List.mem_of_getElem? (i := 0) rfl))
  have Z34 : n0 ≤ h34.size := Nat.le_trans Z24 (Keep.of_wr W34).1
  have N34 := Fr.snoc X34 N14 g_x
  obtain ⟨LL34, X34, N34⟩ := own_hide X34 N34
  have st43 : Steps p.tables e below sE (T34.setTop (mkF m 20 #[.val (.ref x0)] [])) := st33.trans (sr34 _ (Steps.refl _))
  have st44 : Steps p.tables e below sE (T34.setTop (mkF m 22 #[.val (.ref x0)] [(.int (0 : Int32)), (.ref x0)])) := st43.trans (by
      show Steps _ _ _ (T34.setTop (mkF m 20 #[.val (.ref x0)] [])) _
      refine XS.aloadN X34.here hx rfl (hb hby d1_20) rfl rfl ?_
      show Steps _ _ _ (T34.setTop (mkF m 21 #[.val (.ref x0)] [(.ref x0)])) _
      refine XS.iconst X34.here hx rfl (hb hby d1_21) ?_
      exact Steps.refl _)
  obtain ⟨T45, h45, k45, X45, e45, E45, A45, sr45⟩ := newP X34 hx hZ (hw _ (List.mem_of_getElem? (i := 10) rfl)) e34 (g := (mkF m 22 #[.val (.ref x0)] [(.int (0 : Int32)), (.ref x0)])) rfl (hb hby d1_22) rfl (by decide) (cap := 0) (by decide) (by decide) (by decide) (by decide)
  obtain ⟨b45, g45⟩ : ∃ z, z = h34.size := ⟨_, rfl⟩
  rw [← g45] at A45 sr45
  have g_b45 : n0 ≤ b45 := Nat.le_trans Z34 (Nat.le_of_eq g45.symm)
  have sz_b45 : h0.size ≤ b45 := Nat.le_trans K42.1 (Nat.le_of_eq g45.symm)
  have ne_x0_b45 : x0 ≠ b45 := Nat.ne_of_lt (Nat.lt_of_lt_of_le f35.lt (Nat.le_of_eq g45.symm))
  have ne_b5_b45 : b5 ≠ b45 := Nat.ne_of_lt (Nat.lt_of_lt_of_le f38.lt (Nat.le_of_eq g45.symm))
  have ne_b24_b45 : b24 ≠ b45 := Nat.ne_of_lt (Nat.lt_of_lt_of_le f40.lt (Nat.le_of_eq g45.symm))
  have f46 : Exa Z h45 x0 "com/example/folioseek/folioseek/UseOrder" := f35.ext E45
  have f47 : Fld Z h45 x0 "com/example/folioseek/folioseek/UseOrder" "slots" "[I" .null := f36.ext E45
  have f48 : Fld Z h45 x0 "com/example/folioseek/folioseek/UseOrder" "size" "I" (.int (0 : Int32)) := f37.ext E45
  have f49 : Arv Z h45 b5 k5 .int (16 : Int32) [(.int (0 : Int32)), (.int (0 : Int32)), (.int (0 : Int32)), (.int (0 : Int32)), (.int (0 : Int32)), (.int (0 : Int32)), (.int (0 : Int32)), (.int (0 : Int32)), (.int (0 : Int32)), (.int (0 : Int32)), (.int (0 : Int32)), (.int (0 : Int32)), (.int (0 : Int32)), (.int (0 : Int32)), (.int (0 : Int32)), (.int (0 : Int32))] (.int (0 : Int32)) := f38.ext E45
  have f50 : Fld Z h45 x0 "com/example/folioseek/folioseek/UseOrder" "ids" "[I" (.ref b5) := f39.ext E45
  have f51 : Arv Z h45 b24 k24 .long (16 : Int32) [(.long (0 : Int64)), (.long (0 : Int64)), (.long (0 : Int64)), (.long (0 : Int64)), (.long (0 : Int64)), (.long (0 : Int64)), (.long (0 : Int64)), (.long (0 : Int64)), (.long (0 : Int64)), (.long (0 : Int64)), (.long (0 : Int64)), (.long (0 : Int64)), (.long (0 : Int64)), (.long (0 : Int64)), (.long (0 : Int64)), (.long (0 : Int64))] (.long (0 : Int64)) := f40.ext E45
  have f52 : Fld Z h45 x0 "com/example/folioseek/folioseek/UseOrder" "uses" "[J" (.ref b24) := f41.ext E45
  have K53 : Keep h0 h45 [x0] := K42.ext E45
  have f54 : Arv Z h45 b45 k45 .int (0 : Int32) [] (.int (0 : Int32)) := (Arv.new A45 (by decide)).pad (pad_rep [] (.int (0 : Int32)) 0)
  have Z45 : n0 ≤ h45.size := Nat.le_trans Z34 E45.1
  have st55 : Steps p.tables e below sE (T45.setTop (mkF m 24 #[.val (.ref x0)] [(.ref b45), (.ref x0)])) := st44.trans (sr45 _ (Steps.refl _))
  obtain ⟨T56, h56, X56, e56, W56, sr56⟩ := putF X45 hx hZ hown (host := "") (Or.inl (hw _ (List.mem_of_getElem? (i := 15) rfl))) Via.refl e45 f47 f46 (Or.inl (hw _ (List.mem_of_getElem? (i := 16) rfl))) (hw _ (List.mem_of_getElem? (i := 2) rfl)) (ty := (.array .int)) (by decide) rfl rfl (g := (mkF m 24 #[.val (.ref x0)] [(.ref b45), (.ref x0)])) rfl rfl (hb hby d1_24)
  have f57 : Exa Z h56 x0 "com/example/folioseek/folioseek/UseOrder" := f46.wr W56
  have f58 : Fld Z h56 x0 "com/example/folioseek/folioseek/UseOrder" "size" "I" (.int (0 : Int32)) := f48.other W56 (Or.inr (slot_ne (Or.inl (hw _ (List.mem_of_getElem? (i := 23) rfl))) (Or.inl (hw _ (List.mem_of_getElem? (i := 16) rfl))) (by decide) (t := .int) (t' := (.array .int)) (by decide) (by decide)))
  have f59 : Arv Z h56 b5 k5 .int (16 : Int32) [(.int (0 : Int32)), (.int (0 : Int32)), (.int (0 : Int32)), (.int (0 : Int32)), (.int (0 : Int32)), (.int (0 : Int32)), (.int (0 : Int32)), (.int (0 : Int32)), (.int (0 : Int32)), (.int (0 : Int32)), (.int (0 : Int32)), (.int (0 : Int32)), (.int (0 : Int32)), (.int (0 : Int32)), (.int (0 : Int32)), (.int (0 : Int32))] (.int (0 : Int32)) := f49.other W56 (Ne.symm ne_x0_b5)
  have f60 : Fld Z h56 x0 "com/example/folioseek/folioseek/UseOrder" "ids" "[I" (.ref b5) := f50.other W56 (Or.inr (slot_ne (Or.inl (hw _ (List.mem_of_getElem? (i := 12) rfl))) (Or.inl (hw _ (List.mem_of_getElem? (i := 16) rfl))) (by decide) (t := (.array .int)) (t' := (.array .int)) (by decide) (by decide)))
  have f61 : Arv Z h56 b24 k24 .long (16 : Int32) [(.long (0 : Int64)), (.long (0 : Int64)), (.long (0 : Int64)), (.long (0 : Int64)), (.long (0 : Int64)), (.long (0 : Int64)), (.long (0 : Int64)), (.long (0 : Int64)), (.long (0 : Int64)), (.long (0 : Int64)), (.long (0 : Int64)), (.long (0 : Int64)), (.long (0 : Int64)), (.long (0 : Int64)), (.long (0 : Int64)), (.long (0 : Int64))] (.long (0 : Int64)) := f51.other W56 (Ne.symm ne_x0_b24)
  have f62 : Fld Z h56 x0 "com/example/folioseek/folioseek/UseOrder" "uses" "[J" (.ref b24) := f52.other W56 (Or.inr (slot_ne (Or.inl (hw _ (List.mem_of_getElem? (i := 14) rfl))) (Or.inl (hw _ (List.mem_of_getElem? (i := 16) rfl))) (by decide) (t := (.array .long)) (t' := (.array .int)) (by decide) (by decide)))
  have f63 : Arv Z h56 b45 k45 .int (0 : Int32) [] (.int (0 : Int32)) := f54.other W56 (Ne.symm ne_x0_b45)
  have f64 : Fld Z h56 x0 "com/example/folioseek/folioseek/UseOrder" "slots" "[I" (.ref b45) := f47.same W56
  have K65 : Keep h0 h56 [x0] := K53.wr W56 (Or.inl (List.mem_of_getElem? (i := 0) rfl))
  have Z56 : n0 ≤ h56.size := Nat.le_trans Z45 (Keep.of_wr W56).1
  have N56 := Fr.snoc X56 N34 g_x
  obtain ⟨LL56, X56, N56⟩ := own_hide X56 N56
  have st66 : Steps p.tables e below sE (T56.setTop (mkF m 27 #[.val (.ref x0)] [])) := st55.trans (sr56 _ (Steps.refl _))
  obtain ⟨fs, hr, hrun, hended, hW, hsame⟩ := X56.leave (v := none) (fun _ => rfl) hlk
  refine ⟨_, _, (own_ent hsE st66).trans ?_, hrun, hended, _, _, rfl, ?_, ⟨_, rfl⟩, hW, hsame.mono (by decide) (by decide)⟩
  · exact X56.returnOut hx Bd.returns (hb hby d1_27) hr
  · show Q1 Z x0 h0 n0 _ T56.heap _
    rw [e56]
    exact ⟨rfl, N56, K65, f57, f58, ⟨b5, b24, b45, _, _, _, f60, f62, f64, f59, f61, f63, g_b5, g_b24, g_b45, ne_b5_b24, ne_b5_b45, ne_b24_b45, ne_x0_b5, ne_x0_b24, ne_x0_b45, sz_b5, sz_b24, sz_b45⟩⟩
theorem pd_3 : parseMethodDescriptor "([II)[I" = some ⟨[(.array .int), .int], some (.array .int)⟩ := by decide +kernel
theorem pd_4 : parseMethodDescriptor "([IIII)V" = some ⟨[(.array .int), .int, .int, .int], none⟩ := by decide +kernel
theorem pd_5 : parseMethodDescriptor "(I)V" = some ⟨[.int], none⟩ := by decide +kernel
theorem d3_0 : decode prog_24_method_5_code 0 = .ok (.aload_n 0, 1) := by decide +kernel
theorem d3_1 : decode prog_24_method_5_code 1 = .ok (.getfield 20, 3) := by decide +kernel
theorem d3_4 : decode prog_24_method_5_code 4 = .ok (.aload_n 0, 1) := by decide +kernel
theorem d3_5 : decode prog_24_method_5_code 5 = .ok (.getfield 7, 3) := by decide +kernel
theorem d3_8 : decode prog_24_method_5_code 8 = .ok (.arraylength, 1) := by decide +kernel
theorem d3_9 : decode prog_24_method_5_code 9 = .ok (.if_icmp .ne 37, 3) := by decide +kernel
theorem d3_46 : decode prog_24_method_5_code 46 = .ok (.iload_n 1, 1) := by decide +kernel
theorem d3_47 : decode prog_24_method_5_code 47 = .ok (.aload_n 0, 1) := by decide +kernel
theorem d3_48 : decode prog_24_method_5_code 48 = .ok (.getfield 17, 3) := by decide +kernel
theorem d3_51 : decode prog_24_method_5_code 51 = .ok (.arraylength, 1) := by decide +kernel
theorem d3_52 : decode prog_24_method_5_code 52 = .ok (.if_icmp .lt 46, 3) := by decide +kernel
theorem d3_55 : decode prog_24_method_5_code 55 = .ok (.aload_n 0, 1) := by decide +kernel
theorem d3_56 : decode prog_24_method_5_code 56 = .ok (.getfield 17, 3) := by decide +kernel
theorem d3_59 : decode prog_24_method_5_code 59 = .ok (.arraylength, 1) := by decide +kernel
theorem d3_60 : decode prog_24_method_5_code 60 = .ok (.istore 4, 2) := by decide +kernel
theorem d3_62 : decode prog_24_method_5_code 62 = .ok (.aload_n 0, 1) := by decide +kernel
theorem d3_63 : decode prog_24_method_5_code 63 = .ok (.aload_n 0, 1) := by decide +kernel
theorem d3_64 : decode prog_24_method_5_code 64 = .ok (.getfield 17, 3) := by decide +kernel
theorem d3_67 : decode prog_24_method_5_code 67 = .ok (.iload_n 1, 1) := by decide +kernel
theorem d3_68 : decode prog_24_method_5_code 68 = .ok (.iconst 1, 1) := by decide +kernel
theorem d3_69 : decode prog_24_method_5_code 69 = .ok (.iadd, 1) := by decide +kernel
theorem d3_70 : decode prog_24_method_5_code 70 = .ok (.iconst 2, 1) := by decide +kernel
theorem d3_71 : decode prog_24_method_5_code 71 = .ok (.iload 4, 2) := by decide +kernel
theorem d3_73 : decode prog_24_method_5_code 73 = .ok (.imul, 1) := by decide +kernel
theorem d3_74 : decode prog_24_method_5_code 74 = .ok (.invokestatic 33, 3) := by decide +kernel
theorem d3_77 : decode prog_24_method_5_code 77 = .ok (.invokestatic 24, 3) := by decide +kernel
theorem d3_80 : decode prog_24_method_5_code 80 = .ok (.putfield 17, 3) := by decide +kernel
theorem d3_83 : decode prog_24_method_5_code 83 = .ok (.aload_n 0, 1) := by decide +kernel
theorem d3_84 : decode prog_24_method_5_code 84 = .ok (.getfield 17, 3) := by decide +kernel
theorem d3_87 : decode prog_24_method_5_code 87 = .ok (.iload 4, 2) := by decide +kernel
theorem d3_89 : decode prog_24_method_5_code 89 = .ok (.aload_n 0, 1) := by decide +kernel
theorem d3_90 : decode prog_24_method_5_code 90 = .ok (.getfield 17, 3) := by decide +kernel
theorem d3_93 : decode prog_24_method_5_code 93 = .ok (.arraylength, 1) := by decide +kernel
theorem d3_94 : decode prog_24_method_5_code 94 = .ok (.iconst (-1), 1) := by decide +kernel
theorem d3_95 : decode prog_24_method_5_code 95 = .ok (.invokestatic 39, 3) := by decide +kernel
theorem d3_98 : decode prog_24_method_5_code 98 = .ok (.aload_n 0, 1) := by decide +kernel
theorem d3_99 : decode prog_24_method_5_code 99 = .ok (.iload_n 1, 1) := by decide +kernel
theorem d3_100 : decode prog_24_method_5_code 100 = .ok (.lload_n 2, 1) := by decide +kernel
theorem d3_101 : decode prog_24_method_5_code 101 = .ok (.aload_n 0, 1) := by decide +kernel
theorem d3_102 : decode prog_24_method_5_code 102 = .ok (.dup, 1) := by decide +kernel
theorem d3_103 : decode prog_24_method_5_code 103 = .ok (.getfield 20, 3) := by decide +kernel
theorem d3_106 : decode prog_24_method_5_code 106 = .ok (.dup_x1, 1) := by decide +kernel
theorem d3_107 : decode prog_24_method_5_code 107 = .ok (.iconst 1, 1) := by decide +kernel
theorem d3_108 : decode prog_24_method_5_code 108 = .ok (.iadd, 1) := by decide +kernel
theorem d3_109 : decode prog_24_method_5_code 109 = .ok (.putfield 20, 3) := by decide +kernel
theorem d3_112 : decode prog_24_method_5_code 112 = .ok (.invokevirtual 43, 3) := by decide +kernel
theorem d3_115 : decode prog_24_method_5_code 115 = .ok (.aload_n 0, 1) := by decide +kernel
theorem d3_116 : decode prog_24_method_5_code 116 = .ok (.aload_n 0, 1) := by decide +kernel
theorem d3_117 : decode prog_24_method_5_code 117 = .ok (.getfield 20, 3) := by decide +kernel
theorem d3_120 : decode prog_24_method_5_code 120 = .ok (.iconst 1, 1) := by decide +kernel
theorem d3_121 : decode prog_24_method_5_code 121 = .ok (.isub, 1) := by decide +kernel
theorem d3_122 : decode prog_24_method_5_code 122 = .ok (.invokevirtual 47, 3) := by decide +kernel
theorem d3_125 : decode prog_24_method_5_code 125 = .ok (.return_, 1) := by decide +kernel
theorem ef_ad0 (m : MethodId) (x0 : Addr) (x2 : Int64)  : entryFrame m #[(.ref x0), (.int (0 : Int32)), (.long x2)] 5 = mkF m 0 #[.val (.ref x0), .val (.int (0 : Int32)), .val (.long x2), .second, .unset] [] := by first | (simp [entryFrame, mkF, argsToLocals, Value.category]; done) | rfl
def Qad0 (Z : State) (x0 : Addr) (x2 : Int64) (aI : Addr) (aU : Addr) (aS : Addr) (kI : ClassId) (kU : ClassId) (kS : ClassId) (LI : List Int32) (LU : List Int64) (LS : List Int32) (val : Nat → Int64) (h0 : Heap) (n0 : Nat) (vE : Option Value) (hE : Heap) (LE : List Loc) : Prop := vE = none ∧ Fr n0 LE ∧ Keep h0 hE [x0, aI, aU, aS] ∧ Exa Z hE x0 "com/example/folioseek/folioseek/UseOrder" ∧ Fld Z hE x0 "com/example/folioseek/folioseek/UseOrder" "ids" "[I" (.ref aI) ∧ Fld Z hE x0 "com/example/folioseek/folioseek/UseOrder" "uses" "[J" (.ref aU) ∧ Fld Z hE x0 "com/example/folioseek/folioseek/UseOrder" "size" "I" (.int (1 : Int32)) ∧ (∃ (aT : Addr) (kT : ClassId) (LI' : List Int32) (LU' : List Int64) (LS' : List Int32), Fld Z hE x0 "com/example/folioseek/folioseek/UseOrder" "slots" "[I" (.ref aT) ∧ Arv Z hE aI kI .int (16 : Int32) (List.map Value.int LI') (.int (0 : Int32)) ∧ Arv Z hE aU kU .long (16 : Int32) (List.map Value.long LU') (.long (0 : Int64)) ∧ Arv Z hE aT kT .int (1 : Int32) (List.map Value.int LS') (.int (0 : Int32)) ∧ own_P 1 1 LI' LU' LS' val (fun i => i < 1) ∧ own_H 1 LU' ∧ n0 ≤ aT ∧ aI ≠ aT ∧ aU ≠ aT ∧ x0 ≠ aT ∧ (aT = aS ∨ h0.size ≤ aT))
set_option maxRecDepth 65536 in
set_option maxHeartbeats 40000000 in
theorem rmad0 (l : Launch) (Z : State) (a0 : Array Value) (hw : ∀ d ∈ tables_1, d.before a0 Z = true) (ws : List Jvm.Cond) (x0 : Addr) (x2 : Int64) (aI : Addr) (aU : Addr) (aS : Addr) (kI : ClassId) (kU : ClassId) (kS : ClassId) (LI : List Int32) (LU : List Int64) (LS : List Int32) (val : Nat → Int64) (h0 : Heap) (n0 : Nat) (Z0 : n0 ≤ h0.size) (E_x : Exa Z h0 x0 "com/example/folioseek/folioseek/UseOrder") (F_i : Fld Z h0 x0 "com/example/folioseek/folioseek/UseOrder" "ids" "[I" (.ref aI)) (F_u : Fld Z h0 x0 "com/example/folioseek/folioseek/UseOrder" "uses" "[J" (.ref aU)) (F_s : Fld Z h0 x0 "com/example/folioseek/folioseek/UseOrder" "slots" "[I" (.ref aS)) (F_z : Fld Z h0 x0 "com/example/folioseek/folioseek/UseOrder" "size" "I" (.int (0 : Int32))) (A_i : Arv Z h0 aI kI .int (16 : Int32) (List.map Value.int LI) (.int (0 : Int32))) (A_u : Arv Z h0 aU kU .long (16 : Int32) (List.map Value.long LU) (.long (0 : Int64))) (A_s : Arv Z h0 aS kS .int (0 : Int32) (List.map Value.int LS) (.int (0 : Int32))) (hP : own_P 0 0 LI LU LS val (fun i => i < 0)) (hH : own_H 0 LU) (hv : val 0 = x2) (g_x : n0 ≤ x0) (g_i : n0 ≤ aI) (g_u : n0 ≤ aU) (g_s : n0 ≤ aS) (ne_iu : aI ≠ aU) (ne_is : aI ≠ aS) (ne_us : aU ≠ aS) (ne_xi : x0 ≠ aI) (ne_xu : x0 ≠ aU) (ne_xs : x0 ≠ aS) :
    MetFree l (⟨"com/example/folioseek/folioseek/UseOrder", "add", "(IJ)V"⟩ : MethodName) (head1 (Jvm.Cond.code (⟨"com/example/folioseek/folioseek/UseOrder", "add", "(IJ)V"⟩ : MethodName) prog_24_method_5_code 5 none :: ws) ({ frames := 2, cells := 1, slots := 1, locals := 33 } : Room)) (fun a U => a = #[(.ref x0), (.int (0 : Int32)), (.long x2)] ∧ Z.Warmed39 U.vm ∧ U.heap = h0) (fun _ _ _ _ _ => True) (fun _ U o U' => ∃ vE LE, o = .returned vE ∧ Qad0 Z x0 x2 aI aU aS kI kU kS LI LU LS val h0 n0 vE U'.heap LE ∧ FrameEnd U o U' LE ({ frames := 2, cells := 1, slots := 1, locals := 33 } : Room).cells ({ frames := 2, cells := 1, slots := 1, locals := 33 } : Room).slots) := by
  refine MetFree.of_bodySF (plainFor_of_name pn_1) hisR ?_
  intro p e s m args below meth c s₁ Bd hml0 hP hK
  obtain ⟨rfl, hZ, hh⟩ := hP
  have hx := Bd.exec
  have hby := Bd.bytes
  have hml : c.maxLocals = 5 := hml0
  have hown : s.vm.findClass "com/example/folioseek/folioseek/UseOrder" = some m.cls := findClass_of_methodNamed Bd.named
  have hnm := (name_of_methodNamed Bd.named Bd.method).1
  have hlk : meth.locks = false := BodyLoose.notSynchronized Bd
  have X0 : Stand p l e ({ frames := 2, cells := 1, slots := 1, locals := 33 } : Room) s m #[(.ref x0), (.int (0 : Int32)), (.long x2)] below meth c s₁ [] 0 0 := Stand.of_body Bd
  have e0 : s₁.heap = h0 := by rw [← hh, Bd.state]; rfl
  have N0 := Fr.nil n0
  obtain ⟨sE, hsE⟩ : ∃ z, z = (s₁.setTop (entryFrame m #[(.ref x0), (.int (0 : Int32)), (.long x2)] 5)) := ⟨_, rfl⟩
  have st0 : Steps p.tables e below sE (s₁.setTop (mkF m 0 #[.val (.ref x0), .val (.int (0 : Int32)), .val (.long x2), .second, .unset] [])) := by rw [hsE]; exact castTop (ef_ad0 m x0 x2) (Steps.refl _)
  have K0 : Keep h0 h0 [x0, aI, aU, aS] := Keep.refl _ _
  have st1 : Steps p.tables e below sE (s₁.setTop (mkF m 1 #[.val (.ref x0), .val (.int (0 : Int32)), .val (.long x2), .second, .unset] [(.ref x0)])) := st0.trans (by
      show Steps _ _ _ (s₁.setTop (mkF m 0 #[.val (.ref x0), .val (.int (0 : Int32)), .val (.long x2), .second, .unset] [])) _
      refine XS.aloadN X0.here hx rfl (hb hby d3_0) rfl rfl ?_
      exact Steps.refl _)
  obtain ⟨T2, X2, e2, sr2⟩ := getF X0 hx hZ hown (host := "") (Or.inl (hw _ (List.mem_of_getElem? (i := 22) rfl))) Via.refl e0 F_z (g := (mkF m 1 #[.val (.ref x0), .val (.int (0 : Int32)), .val (.long x2), .second, .unset] [(.ref x0)])) rfl rfl (hb hby d3_1)
  have st3 : Steps p.tables e below sE (T2.setTop (mkF m 4 #[.val (.ref x0), .val (.int (0 : Int32)), .val (.long x2), .second, .unset] [(.int (0 : Int32))])) := st1.trans (sr2 _ (Steps.refl _))
  have st4 : Steps p.tables e below sE (T2.setTop (mkF m 5 #[.val (.ref x0), .val (.int (0 : Int32)), .val (.long x2), .second, .unset] [(.ref x0), (.int (0 : Int32))])) := st3.trans (by
      show Steps _ _ _ (T2.setTop (mkF m 4 #[.val (.ref x0), .val (.int (0 : Int32)), .val (.long x2), .second, .unset] [(.int (0 : Int32))])) _
      refine XS.aloadN X2.here hx rfl (hb hby d3_4) rfl rfl ?_
      exact Steps.refl _)
  obtain ⟨T5, X5, e5, sr5⟩ := getF X2 hx hZ hown (host := "") (Or.inl (hw _ (List.mem_of_getElem? (i := 11) rfl))) Via.refl e2 F_i (g := (mkF m 5 #[.val (.ref x0), .val (.int (0 : Int32)), .val (.long x2), .second, .unset] [(.ref x0), (.int (0 : Int32))])) rfl rfl (hb hby d3_5)
  have st6 : Steps p.tables e below sE (T5.setTop (mkF m 8 #[.val (.ref x0), .val (.int (0 : Int32)), .val (.long x2), .second, .unset] [(.ref aI), (.int (0 : Int32))])) := st4.trans (sr5 _ (Steps.refl _))
  obtain ⟨cl7, Ar7, -, S7, N7, -, -⟩ := id A_i
  have st8 : Steps p.tables e below sE (T5.setTop (mkF m 9 #[.val (.ref x0), .val (.int (0 : Int32)), .val (.long x2), .second, .unset] [(.int (16 : Int32)), (.int (0 : Int32))])) := st6.trans (by
      show Steps _ _ _ (T5.setTop (mkF m 8 #[.val (.ref x0), .val (.int (0 : Int32)), .val (.long x2), .second, .unset] [(.ref aI), (.int (0 : Int32))])) _
      refine X5.arraylength hx (by rw [e5]; exact Ar7.1) (State.isArrayOf_alike hZ.alike Ar7.2.1) (g := (mkF m 8 #[.val (.ref x0), .val (.int (0 : Int32)), .val (.long x2), .second, .unset] [(.ref aI), (.int (0 : Int32))])) rfl rfl (hb hby d3_8) _ ?_
      rw [len_of S7 N7]
      exact Steps.refl _)
  have hf9 : ¬ ((0 : Int32) = (16 : Int32)) := by decide
  have st10 : Steps p.tables e below sE (T5.setTop (mkF m 48 #[.val (.ref x0), .val (.int (0 : Int32)), .val (.long x2), .second, .unset] [(.ref x0), (.int (0 : Int32))])) := st8.trans (by
      show Steps _ _ _ (T5.setTop (mkF m 9 #[.val (.ref x0), .val (.int (0 : Int32)), .val (.long x2), .second, .unset] [(.int (16 : Int32)), (.int (0 : Int32))])) _
      refine XS.icmpYes X5.here hx rfl (pc0 := 9) (pc' := 46) rfl (hb hby d3_9) rfl (feq hf9).2 (by decide) (by decide) ?_
      show Steps _ _ _ (T5.setTop (mkF m 46 #[.val (.ref x0), .val (.int (0 : Int32)), .val (.long x2), .second, .unset] [])) _
      refine XS.iloadN X5.here hx rfl (hb hby d3_46) rfl ?_
      show Steps _ _ _ (T5.setTop (mkF m 47 #[.val (.ref x0), .val (.int (0 : Int32)), .val (.long x2), .second, .unset] [(.int (0 : Int32))])) _
      refine XS.aloadN X5.here hx rfl (hb hby d3_47) rfl rfl ?_
      exact Steps.refl _)
  obtain ⟨T11, X11, e11, sr11⟩ := getF X5 hx hZ hown (host := "") (Or.inl (hw _ (List.mem_of_getElem? (i := 15) rfl))) Via.refl e5 F_s (g := (mkF m 48 #[.val (.ref x0), .val (.int (0 : Int32)), .val (.long x2), .second, .unset] [(.ref x0), (.int (0 : Int32))])) rfl rfl (hb hby d3_48)
  have st12 : Steps p.tables e below sE (T11.setTop (mkF m 51 #[.val (.ref x0), .val (.int (0 : Int32)), .val (.long x2), .second, .unset] [(.ref aS), (.int (0 : Int32))])) := st10.trans (sr11 _ (Steps.refl _))
  obtain ⟨cl13, Ar13, -, S13, N13, -, -⟩ := id A_s
  have st14 : Steps p.tables e below sE (T11.setTop (mkF m 52 #[.val (.ref x0), .val (.int (0 : Int32)), .val (.long x2), .second, .unset] [(.int (0 : Int32)), (.int (0 : Int32))])) := st12.trans (by
      show Steps _ _ _ (T11.setTop (mkF m 51 #[.val (.ref x0), .val (.int (0 : Int32)), .val (.long x2), .second, .unset] [(.ref aS), (.int (0 : Int32))])) _
      refine X11.arraylength hx (by rw [e11]; exact Ar13.1) (State.isArrayOf_alike hZ.alike Ar13.2.1) (g := (mkF m 51 #[.val (.ref x0), .val (.int (0 : Int32)), .val (.long x2), .second, .unset] [(.ref aS), (.int (0 : Int32))])) rfl rfl (hb hby d3_51) _ ?_
      rw [len_of S13 N13]
      exact Steps.refl _)
  have hf15 : ¬ ((0 : Int32) < (0 : Int32)) := by decide
  have st16 : Steps p.tables e below sE (T11.setTop (mkF m 56 #[.val (.ref x0), .val (.int (0 : Int32)), .val (.long x2), .second, .unset] [(.ref x0)])) := st14.trans (by
      show Steps _ _ _ (T11.setTop (mkF m 52 #[.val (.ref x0), .val (.int (0 : Int32)), .val (.long x2), .second, .unset] [(.int (0 : Int32)), (.int (0 : Int32))])) _
      refine XS.icmpNo X11.here hx rfl (hb hby d3_52) rfl (flt hf15).1 ?_
      show Steps _ _ _ (T11.setTop (mkF m 55 #[.val (.ref x0), .val (.int (0 : Int32)), .val (.long x2), .second, .unset] [])) _
      refine XS.aloadN X11.here hx rfl (hb hby d3_55) rfl rfl ?_
      exact Steps.refl _)
  obtain ⟨T17, X17, e17, sr17⟩ := getF X11 hx hZ hown (host := "") (Or.inl (hw _ (List.mem_of_getElem? (i := 15) rfl))) Via.refl e11 F_s (g := (mkF m 56 #[.val (.ref x0), .val (.int (0 : Int32)), .val (.long x2), .second, .unset] [(.ref x0)])) rfl rfl (hb hby d3_56)
  have st18 : Steps p.tables e below sE (T17.setTop (mkF m 59 #[.val (.ref x0), .val (.int (0 : Int32)), .val (.long x2), .second, .unset] [(.ref aS)])) := st16.trans (sr17 _ (Steps.refl _))
  obtain ⟨cl19, Ar19, -, S19, N19, -, -⟩ := id A_s
  have st20 : Steps p.tables e below sE (T17.setTop (mkF m 64 #[.val (.ref x0), .val (.int (0 : Int32)), .val (.long x2), .second, .val (.int (0 : Int32))] [(.ref x0), (.ref x0)])) := st18.trans (by
      show Steps _ _ _ (T17.setTop (mkF m 59 #[.val (.ref x0), .val (.int (0 : Int32)), .val (.long x2), .second, .unset] [(.ref aS)])) _
      refine X17.arraylength hx (by rw [e17]; exact Ar19.1) (State.isArrayOf_alike hZ.alike Ar19.2.1) (g := (mkF m 59 #[.val (.ref x0), .val (.int (0 : Int32)), .val (.long x2), .second, .unset] [(.ref aS)])) rfl rfl (hb hby d3_59) _ ?_
      rw [len_of S19 N19]
      show Steps _ _ _ (T17.setTop (mkF m 60 #[.val (.ref x0), .val (.int (0 : Int32)), .val (.long x2), .second, .unset] [(.int (0 : Int32))])) _
      refine XS.istore X17.here hx rfl (hb hby d3_60) rfl (l' := #[.val (.ref x0), .val (.int (0 : Int32)), .val (.long x2), .second, .val (.int (0 : Int32))]) rfl ?_
      show Steps _ _ _ (T17.setTop (mkF m 62 #[.val (.ref x0), .val (.int (0 : Int32)), .val (.long x2), .second, .val (.int (0 : Int32))] [])) _
      refine XS.aloadN X17.here hx rfl (hb hby d3_62) rfl rfl ?_
      show Steps _ _ _ (T17.setTop (mkF m 63 #[.val (.ref x0), .val (.int (0 : Int32)), .val (.long x2), .second, .val (.int (0 : Int32))] [(.ref x0)])) _
      refine XS.aloadN X17.here hx rfl (hb hby d3_63) rfl rfl ?_
      exact Steps.refl _)
  obtain ⟨T21, X21, e21, sr21⟩ := getF X17 hx hZ hown (host := "") (Or.inl (hw _ (List.mem_of_getElem? (i := 15) rfl))) Via.refl e17 F_s (g := (mkF m 64 #[.val (.ref x0), .val (.int (0 : Int32)), .val (.long x2), .second, .val (.int (0 : Int32))] [(.ref x0), (.ref x0)])) rfl rfl (hb hby d3_64)
  have st22 : Steps p.tables e below sE (T21.setTop (mkF m 67 #[.val (.ref x0), .val (.int (0 : Int32)), .val (.long x2), .second, .val (.int (0 : Int32))] [(.ref aS), (.ref x0)])) := st20.trans (sr21 _ (Steps.refl _))
  have st23 : Steps p.tables e below sE (T21.setTop (mkF m 74 #[.val (.ref x0), .val (.int (0 : Int32)), .val (.long x2), .second, .val (.int (0 : Int32))] [(.int (0 : Int32)), (.int (1 : Int32)), (.ref aS), (.ref x0)])) := st22.trans (by
      show Steps _ _ _ (T21.setTop (mkF m 67 #[.val (.ref x0), .val (.int (0 : Int32)), .val (.long x2), .second, .val (.int (0 : Int32))] [(.ref aS), (.ref x0)])) _
      refine XS.iloadN X21.here hx rfl (hb hby d3_67) rfl ?_
      show Steps _ _ _ (T21.setTop (mkF m 68 #[.val (.ref x0), .val (.int (0 : Int32)), .val (.long x2), .second, .val (.int (0 : Int32))] [(.int (0 : Int32)), (.ref aS), (.ref x0)])) _
      refine XS.iconst X21.here hx rfl (hb hby d3_68) ?_
      show Steps _ _ _ (T21.setTop (mkF m 69 #[.val (.ref x0), .val (.int (0 : Int32)), .val (.long x2), .second, .val (.int (0 : Int32))] [(.int (1 : Int32)), (.int (0 : Int32)), (.ref aS), (.ref x0)])) _
      refine XS.iadd X21.here hx rfl (hb hby d3_69) rfl ?_
      show Steps _ _ _ (T21.setTop (mkF m 70 #[.val (.ref x0), .val (.int (0 : Int32)), .val (.long x2), .second, .val (.int (0 : Int32))] [(.int (1 : Int32)), (.ref aS), (.ref x0)])) _
      refine XS.iconst X21.here hx rfl (hb hby d3_70) ?_
      show Steps _ _ _ (T21.setTop (mkF m 71 #[.val (.ref x0), .val (.int (0 : Int32)), .val (.long x2), .second, .val (.int (0 : Int32))] [(.int (2 : Int32)), (.int (1 : Int32)), (.ref aS), (.ref x0)])) _
      refine XS.iload X21.here hx rfl (hb hby d3_71) rfl ?_
      show Steps _ _ _ (T21.setTop (mkF m 73 #[.val (.ref x0), .val (.int (0 : Int32)), .val (.long x2), .second, .val (.int (0 : Int32))] [(.int (0 : Int32)), (.int (2 : Int32)), (.int (1 : Int32)), (.ref aS), (.ref x0)])) _
      refine XS.imul X21.here hx rfl (hb hby d3_73) rfl ?_
      exact Steps.refl _)
  obtain ⟨_, _, ⟨T24, L24, k24, n24⟩, -, X24, ⟨Lc24, hQ24, l24, y24, z24⟩, sr24⟩ := Jvm.LawKit.callS X21 hx (y := (⟨"java/lang/Math", "max", "(II)I"⟩ : MethodName)) hown (mvT hZ (hw _ (List.mem_of_getElem? (i := 24) rfl))) (mvT hZ (hw _ (List.mem_of_getElem? (i := 25) rfl))) (mvT hZ (hw _ (List.mem_of_getElem? (i := 26) rfl))) (mvT hZ (hw _ (List.mem_of_getElem? (i := 27) rfl))) (by decide) (backOf (W := 2) (rm4 l Z a0 hw [] (1 : Int32) (0 : Int32)  h0 n0 Z0 ) hZ (hw _ (List.mem_of_getElem? (i := 27) rfl)) (hw _ (List.mem_of_getElem? (i := 26) rfl)) (by decide) (by decide)) (g := (mkF m 74 #[.val (.ref x0), .val (.int (0 : Int32)), .val (.long x2), .second, .val (.int (0 : Int32))] [(.int (0 : Int32)), (.int (1 : Int32)), (.ref aS), (.ref x0)])) rfl (by rw [hml]; rfl) (argsL := [(.int (1 : Int32)), (.int (0 : Int32))]) (rest := [(.ref aS), (.ref x0)]) (lenOf pd_1 rfl) rfl (by show 2 * 0 + _ ≤ _; exact Nat.le_of_eq rfl) (hb hby d3_74) (fun _ _ => ⟨rfl, e21, (by decide : 0 + 0 ≤ _), (by decide : 0 + 0 ≤ _)⟩)
  dsimp only [Pt.U, Pt.locs, Pt.cells, Pt.slots] at X24 l24 y24 z24 sr24 hQ24
  subst l24 y24 z24
  obtain ⟨rfl, N24q, hh24⟩ := hQ24
  have N24 := Fr.app N0 N24q
  obtain ⟨LL24, X24, N24⟩ := own_hide X24 N24
  have st25 : Steps p.tables e below sE (T24.setTop (mkF m 77 #[.val (.ref x0), .val (.int (0 : Int32)), .val (.long x2), .second, .val (.int (0 : Int32))] [(.int (F4 (1 : Int32) (0 : Int32))), (.ref aS), (.ref x0)])) := st23.trans (sr24 _ (Steps.refl _))
  have hmx : (F4 (1 : Int32) (0 : Int32)) = (1 : Int32) := by decide
  rw [hmx] at st25
  obtain ⟨_, _, ⟨T26, L26, k26, n26⟩, -, X26, ⟨Lc26, hQ26, l26, y26, z26⟩, sr26⟩ := Jvm.LawKit.callS X24 hx (y := (⟨"java/util/Arrays", "copyOf", "([II)[I"⟩ : MethodName)) hown (mvT hZ (hw _ (List.mem_of_getElem? (i := 28) rfl))) (mvT hZ (hw _ (List.mem_of_getElem? (i := 29) rfl))) (mvT hZ (hw _ (List.mem_of_getElem? (i := 30) rfl))) (mvT hZ (hw _ (List.mem_of_getElem? (i := 31) rfl))) (by decide) (backOf (W := 1) (rmcp0 l Z a0 hw [] aS kS LS h0 n0 Z0 A_s hP.2.2.1) hZ (hw _ (List.mem_of_getElem? (i := 31) rfl)) (hw _ (List.mem_of_getElem? (i := 30) rfl)) (by decide) (by decide)) (g := (mkF m 77 #[.val (.ref x0), .val (.int (0 : Int32)), .val (.long x2), .second, .val (.int (0 : Int32))] [(.int (1 : Int32)), (.ref aS), (.ref x0)])) rfl (by rw [hml]; rfl) (argsL := [(.ref aS), (.int (1 : Int32))]) (rest := [(.ref x0)]) (lenOf pd_3 rfl) rfl (by show 2 * 0 + _ ≤ _; exact Nat.le_of_eq rfl) (hb hby d3_77) (fun _ _ => ⟨rfl, hh24, (by decide : 0 + 1 ≤ _), (by decide : 0 + 1 ≤ _)⟩)
  dsimp only [Pt.U, Pt.locs, Pt.cells, Pt.slots] at X26 l26 y26 z26 sr26 hQ26
  subst l26 y26 z26
  obtain ⟨rfl, N26q, K26c, ⟨kN, qbS⟩⟩ := hQ26
  have N26 := Fr.app N24 N26q
  obtain ⟨LL26, X26, N26⟩ := own_hide X26 N26
  have f27 : Exa Z T26.heap x0 "com/example/folioseek/folioseek/UseOrder" := E_x.keep K26c
  have f28 : Fld Z T26.heap x0 "com/example/folioseek/folioseek/UseOrder" "ids" "[I" (.ref aI) := F_i.keep K26c nin0
  have f29 : Fld Z T26.heap x0 "com/example/folioseek/folioseek/UseOrder" "uses" "[J" (.ref aU) := F_u.keep K26c nin0
  have f30 : Fld Z T26.heap x0 "com/example/folioseek/folioseek/UseOrder" "slots" "[I" (.ref aS) := F_s.keep K26c nin0
  have f31 : Fld Z T26.heap x0 "com/example/folioseek/folioseek/UseOrder" "size" "I" (.int (0 : Int32)) := F_z.keep K26c nin0
  have f32 : Arv Z T26.heap aI kI .int (16 : Int32) (List.map Value.int LI) (.int (0 : Int32)) := A_i.keep K26c nin0
  have f33 : Arv Z T26.heap aU kU .long (16 : Int32) (List.map Value.long LU) (.long (0 : Int64)) := A_u.keep K26c nin0
  have f34 : Arv Z T26.heap aS kS .int (0 : Int32) (List.map Value.int LS) (.int (0 : Int32)) := A_s.keep K26c nin0
  have K35 : Keep h0 T26.heap [x0, aI, aU, aS] := K0.trans K26c all0
  have Z36 : n0 ≤ T26.heap.size := Nat.le_trans Z0 K26c.1
  obtain ⟨bS, gbS⟩ : ∃ z, z = h0.size := ⟨_, rfl⟩
  rw [← gbS] at qbS sr26
  have g_bS : n0 ≤ bS := Nat.le_trans Z0 (Nat.le_of_eq gbS.symm)
  have sz_bS : h0.size ≤ bS := Nat.le_trans K0.1 (Nat.le_of_eq gbS.symm)
  have ne_x0_bS : x0 ≠ bS := Nat.ne_of_lt (Nat.lt_of_lt_of_le E_x.lt (Nat.le_of_eq gbS.symm))
  have ne_aI_bS : aI ≠ bS := Nat.ne_of_lt (Nat.lt_of_lt_of_le A_i.lt (Nat.le_of_eq gbS.symm))
  have ne_aU_bS : aU ≠ bS := Nat.ne_of_lt (Nat.lt_of_lt_of_le A_u.lt (Nat.le_of_eq gbS.symm))
  have ne_aS_bS : aS ≠ bS := Nat.ne_of_lt (Nat.lt_of_lt_of_le A_s.lt (Nat.le_of_eq gbS.symm))
  have st37 : Steps p.tables e below sE (T26.setTop (mkF m 80 #[.val (.ref x0), .val (.int (0 : Int32)), .val (.long x2), .second, .val (.int (0 : Int32))] [(.ref bS), (.ref x0)])) := st25.trans (sr26 _ (Steps.refl _))
  obtain ⟨T38, h38, X38, e38, W38, sr38⟩ := putF X26 hx hZ hown (host := "") (Or.inl (hw _ (List.mem_of_getElem? (i := 15) rfl))) Via.refl rfl f30 f27 (Or.inl (hw _ (List.mem_of_getElem? (i := 16) rfl))) (hw _ (List.mem_of_getElem? (i := 2) rfl)) (ty := (.array .int)) (by decide) rfl rfl (g := (mkF m 80 #[.val (.ref x0), .val (.int (0 : Int32)), .val (.long x2), .second, .val (.int (0 : Int32))] [(.ref bS), (.ref x0)])) rfl rfl (hb hby d3_80)
  have f39 : Exa Z h38 x0 "com/example/folioseek/folioseek/UseOrder" := f27.wr W38
  have f40 : Fld Z h38 x0 "com/example/folioseek/folioseek/UseOrder" "ids" "[I" (.ref aI) := f28.other W38 (Or.inr (slot_ne (Or.inl (hw _ (List.mem_of_getElem? (i := 12) rfl))) (Or.inl (hw _ (List.mem_of_getElem? (i := 16) rfl))) (by decide) (t := (.array .int)) (t' := (.array .int)) (by decide) (by decide)))
  have f41 : Fld Z h38 x0 "com/example/folioseek/folioseek/UseOrder" "uses" "[J" (.ref aU) := f29.other W38 (Or.inr (slot_ne (Or.inl (hw _ (List.mem_of_getElem? (i := 14) rfl))) (Or.inl (hw _ (List.mem_of_getElem? (i := 16) rfl))) (by decide) (t := (.array .long)) (t' := (.array .int)) (by decide) (by decide)))
  have f42 : Fld Z h38 x0 "com/example/folioseek/folioseek/UseOrder" "size" "I" (.int (0 : Int32)) := f31.other W38 (Or.inr (slot_ne (Or.inl (hw _ (List.mem_of_getElem? (i := 23) rfl))) (Or.inl (hw _ (List.mem_of_getElem? (i := 16) rfl))) (by decide) (t := .int) (t' := (.array .int)) (by decide) (by decide)))
  have f43 : Arv Z h38 aI kI .int (16 : Int32) (List.map Value.int LI) (.int (0 : Int32)) := f32.other W38 (Ne.symm ne_xi)
  have f44 : Arv Z h38 aU kU .long (16 : Int32) (List.map Value.long LU) (.long (0 : Int64)) := f33.other W38 (Ne.symm ne_xu)
  have f45 : Arv Z h38 aS kS .int (0 : Int32) (List.map Value.int LS) (.int (0 : Int32)) := f34.other W38 (Ne.symm ne_xs)
  have f46 : Arv Z h38 bS kN .int (1 : Int32) (List.map Value.int (LS ++ List.replicate 1 (0 : Int32))) (.int (0 : Int32)) := qbS.other W38 (Ne.symm ne_x0_bS)
  have f47 : Fld Z h38 x0 "com/example/folioseek/folioseek/UseOrder" "slots" "[I" (.ref bS) := f30.same W38
  have K48 : Keep h0 h38 [x0, aI, aU, aS] := K35.wr W38 (Or.inl (List.mem_of_getElem? (i := 0) rfl))
  have Z38 : n0 ≤ h38.size := Nat.le_trans Z36 (Keep.of_wr W38).1
  have N38 := Fr.snoc X38 N26 g_x
  obtain ⟨LL38, X38, N38⟩ := own_hide X38 N38
  have st49 : Steps p.tables e below sE (T38.setTop (mkF m 83 #[.val (.ref x0), .val (.int (0 : Int32)), .val (.long x2), .second, .val (.int (0 : Int32))] [])) := st37.trans (sr38 _ (Steps.refl _))
  have st50 : Steps p.tables e below sE (T38.setTop (mkF m 84 #[.val (.ref x0), .val (.int (0 : Int32)), .val (.long x2), .second, .val (.int (0 : Int32))] [(.ref x0)])) := st49.trans (by
      show Steps _ _ _ (T38.setTop (mkF m 83 #[.val (.ref x0), .val (.int (0 : Int32)), .val (.long x2), .second, .val (.int (0 : Int32))] [])) _
      refine XS.aloadN X38.here hx rfl (hb hby d3_83) rfl rfl ?_
      exact Steps.refl _)
  obtain ⟨T51, X51, e51, sr51⟩ := getF X38 hx hZ hown (host := "") (Or.inl (hw _ (List.mem_of_getElem? (i := 15) rfl))) Via.refl e38 f47 (g := (mkF m 84 #[.val (.ref x0), .val (.int (0 : Int32)), .val (.long x2), .second, .val (.int (0 : Int32))] [(.ref x0)])) rfl rfl (hb hby d3_84)
  have st52 : Steps p.tables e below sE (T51.setTop (mkF m 87 #[.val (.ref x0), .val (.int (0 : Int32)), .val (.long x2), .second, .val (.int (0 : Int32))] [(.ref bS)])) := st50.trans (sr51 _ (Steps.refl _))
  have st53 : Steps p.tables e below sE (T51.setTop (mkF m 90 #[.val (.ref x0), .val (.int (0 : Int32)), .val (.long x2), .second, .val (.int (0 : Int32))] [(.ref x0), (.int (0 : Int32)), (.ref bS)])) := st52.trans (by
      show Steps _ _ _ (T51.setTop (mkF m 87 #[.val (.ref x0), .val (.int (0 : Int32)), .val (.long x2), .second, .val (.int (0 : Int32))] [(.ref bS)])) _
      refine XS.iload X51.here hx rfl (hb hby d3_87) rfl ?_
      show Steps _ _ _ (T51.setTop (mkF m 89 #[.val (.ref x0), .val (.int (0 : Int32)), .val (.long x2), .second, .val (.int (0 : Int32))] [(.int (0 : Int32)), (.ref bS)])) _
      refine XS.aloadN X51.here hx rfl (hb hby d3_89) rfl rfl ?_
      exact Steps.refl _)
  obtain ⟨T54, X54, e54, sr54⟩ := getF X51 hx hZ hown (host := "") (Or.inl (hw _ (List.mem_of_getElem? (i := 15) rfl))) Via.refl e51 f47 (g := (mkF m 90 #[.val (.ref x0), .val (.int (0 : Int32)), .val (.long x2), .second, .val (.int (0 : Int32))] [(.ref x0), (.int (0 : Int32)), (.ref bS)])) rfl rfl (hb hby d3_90)
  have st55 : Steps p.tables e below sE (T54.setTop (mkF m 93 #[.val (.ref x0), .val (.int (0 : Int32)), .val (.long x2), .second, .val (.int (0 : Int32))] [(.ref bS), (.int (0 : Int32)), (.ref bS)])) := st53.trans (sr54 _ (Steps.refl _))
  obtain ⟨cl56, Ar56, -, S56, N56, -, -⟩ := id f46
  have st57 : Steps p.tables e below sE (T54.setTop (mkF m 95 #[.val (.ref x0), .val (.int (0 : Int32)), .val (.long x2), .second, .val (.int (0 : Int32))] [(.int (-1 : Int32)), (.int (1 : Int32)), (.int (0 : Int32)), (.ref bS)])) := st55.trans (by
      show Steps _ _ _ (T54.setTop (mkF m 93 #[.val (.ref x0), .val (.int (0 : Int32)), .val (.long x2), .second, .val (.int (0 : Int32))] [(.ref bS), (.int (0 : Int32)), (.ref bS)])) _
      refine X54.arraylength hx (by rw [e54]; exact Ar56.1) (State.isArrayOf_alike hZ.alike Ar56.2.1) (g := (mkF m 93 #[.val (.ref x0), .val (.int (0 : Int32)), .val (.long x2), .second, .val (.int (0 : Int32))] [(.ref bS), (.int (0 : Int32)), (.ref bS)])) rfl rfl (hb hby d3_93) _ ?_
      rw [len_of S56 N56]
      show Steps _ _ _ (T54.setTop (mkF m 94 #[.val (.ref x0), .val (.int (0 : Int32)), .val (.long x2), .second, .val (.int (0 : Int32))] [(.int (1 : Int32)), (.int (0 : Int32)), (.ref bS)])) _
      refine XS.iconst X54.here hx rfl (hb hby d3_94) ?_
      exact Steps.refl _)
  obtain ⟨_, _, ⟨T58, L58, k58, n58⟩, -, X58, ⟨Lc58, hQ58, l58, y58, z58⟩, sr58⟩ := Jvm.LawKit.callS X54 hx (y := (⟨"java/util/Arrays", "fill", "([IIII)V"⟩ : MethodName)) hown (mvT hZ (hw _ (List.mem_of_getElem? (i := 39) rfl))) (mvT hZ (hw _ (List.mem_of_getElem? (i := 40) rfl))) (mvT hZ (hw _ (List.mem_of_getElem? (i := 30) rfl))) (mvT hZ (hw _ (List.mem_of_getElem? (i := 41) rfl))) (by decide) (backOf (W := 0) (rmfl0 l Z a0 hw [] bS kN (LS ++ List.replicate 1 (0 : Int32)) h38 n0 Z38 f46 (by rw [List.length_append, List.length_replicate, hP.2.2.1]) g_bS) hZ (hw _ (List.mem_of_getElem? (i := 41) rfl)) (hw _ (List.mem_of_getElem? (i := 30) rfl)) (by decide) (by decide)) (g := (mkF m 95 #[.val (.ref x0), .val (.int (0 : Int32)), .val (.long x2), .second, .val (.int (0 : Int32))] [(.int (-1 : Int32)), (.int (1 : Int32)), (.int (0 : Int32)), (.ref bS)])) rfl (by rw [hml]; rfl) (argsL := [(.ref bS), (.int (0 : Int32)), (.int (1 : Int32)), (.int (-1 : Int32))]) (rest := []) (lenOf pd_4 rfl) rfl (by show 2 * 0 + _ ≤ _; exact Nat.le_of_eq rfl) (hb hby d3_95) (fun _ _ => ⟨rfl, e54, (by decide : 1 + 0 ≤ _), (by decide : 1 + 0 ≤ _)⟩)
  dsimp only [Pt.U, Pt.locs, Pt.cells, Pt.slots] at X58 l58 y58 z58 sr58 hQ58
  subst l58 y58 z58
  obtain ⟨rfl, N58q, K58c, f58_0⟩ := hQ58
  have N58 := Fr.app N38 N58q
  obtain ⟨LL58, X58, N58⟩ := own_hide X58 N58
  have f59 : Exa Z T58.heap x0 "com/example/folioseek/folioseek/UseOrder" := f39.keep K58c
  have f60 : Fld Z T58.heap x0 "com/example/folioseek/folioseek/UseOrder" "ids" "[I" (.ref aI) := f40.keep K58c (ninS ne_x0_bS nin0)
  have f61 : Fld Z T58.heap x0 "com/example/folioseek/folioseek/UseOrder" "uses" "[J" (.ref aU) := f41.keep K58c (ninS ne_x0_bS nin0)
  have f62 : Fld Z T58.heap x0 "com/example/folioseek/folioseek/UseOrder" "size" "I" (.int (0 : Int32)) := f42.keep K58c (ninS ne_x0_bS nin0)
  have f63 : Arv Z T58.heap aI kI .int (16 : Int32) (List.map Value.int LI) (.int (0 : Int32)) := f43.keep K58c (ninS ne_aI_bS nin0)
  have f64 : Arv Z T58.heap aU kU .long (16 : Int32) (List.map Value.long LU) (.long (0 : Int64)) := f44.keep K58c (ninS ne_aU_bS nin0)
  have f65 : Arv Z T58.heap aS kS .int (0 : Int32) (List.map Value.int LS) (.int (0 : Int32)) := f45.keep K58c (ninS ne_aS_bS nin0)
  have f66 : Fld Z T58.heap x0 "com/example/folioseek/folioseek/UseOrder" "slots" "[I" (.ref bS) := f47.keep K58c (ninS ne_x0_bS nin0)
  have K67 : Keep h0 T58.heap [x0, aI, aU, aS] := K48.trans K58c (allS (Or.inr sz_bS) all0)
  have Z68 : n0 ≤ T58.heap.size := Nat.le_trans Z38 K58c.1
  have st69 : Steps p.tables e below sE (T58.setTop (mkF m 98 #[.val (.ref x0), .val (.int (0 : Int32)), .val (.long x2), .second, .val (.int (0 : Int32))] [])) := st57.trans (sr58 _ (Steps.refl _))
  have st70 : Steps p.tables e below sE (T58.setTop (mkF m 103 #[.val (.ref x0), .val (.int (0 : Int32)), .val (.long x2), .second, .val (.int (0 : Int32))] [(.ref x0), (.ref x0), (.long x2), (.int (0 : Int32)), (.ref x0)])) := st69.trans (by
      show Steps _ _ _ (T58.setTop (mkF m 98 #[.val (.ref x0), .val (.int (0 : Int32)), .val (.long x2), .second, .val (.int (0 : Int32))] [])) _
      refine XS.aloadN X58.here hx rfl (hb hby d3_98) rfl rfl ?_
      show Steps _ _ _ (T58.setTop (mkF m 99 #[.val (.ref x0), .val (.int (0 : Int32)), .val (.long x2), .second, .val (.int (0 : Int32))] [(.ref x0)])) _
      refine XS.iloadN X58.here hx rfl (hb hby d3_99) rfl ?_
      show Steps _ _ _ (T58.setTop (mkF m 100 #[.val (.ref x0), .val (.int (0 : Int32)), .val (.long x2), .second, .val (.int (0 : Int32))] [(.int (0 : Int32)), (.ref x0)])) _
      refine XS.lloadN X58.here hx rfl (hb hby d3_100) rfl ?_
      show Steps _ _ _ (T58.setTop (mkF m 101 #[.val (.ref x0), .val (.int (0 : Int32)), .val (.long x2), .second, .val (.int (0 : Int32))] [(.long x2), (.int (0 : Int32)), (.ref x0)])) _
      refine XS.aloadN X58.here hx rfl (hb hby d3_101) rfl rfl ?_
      show Steps _ _ _ (T58.setTop (mkF m 102 #[.val (.ref x0), .val (.int (0 : Int32)), .val (.long x2), .second, .val (.int (0 : Int32))] [(.ref x0), (.long x2), (.int (0 : Int32)), (.ref x0)])) _
      refine XS.dup X58.here hx rfl (hb hby d3_102) rfl rfl ?_
      exact Steps.refl _)
  obtain ⟨T71, X71, e71, sr71⟩ := getF X58 hx hZ hown (host := "") (Or.inl (hw _ (List.mem_of_getElem? (i := 22) rfl))) Via.refl rfl f62 (g := (mkF m 103 #[.val (.ref x0), .val (.int (0 : Int32)), .val (.long x2), .second, .val (.int (0 : Int32))] [(.ref x0), (.ref x0), (.long x2), (.int (0 : Int32)), (.ref x0)])) rfl rfl (hb hby d3_103)
  have st72 : Steps p.tables e below sE (T71.setTop (mkF m 106 #[.val (.ref x0), .val (.int (0 : Int32)), .val (.long x2), .second, .val (.int (0 : Int32))] [(.int (0 : Int32)), (.ref x0), (.long x2), (.int (0 : Int32)), (.ref x0)])) := st70.trans (sr71 _ (Steps.refl _))
  have st73 : Steps p.tables e below sE (T71.setTop (mkF m 109 #[.val (.ref x0), .val (.int (0 : Int32)), .val (.long x2), .second, .val (.int (0 : Int32))] [(.int (1 : Int32)), (.ref x0), (.int (0 : Int32)), (.long x2), (.int (0 : Int32)), (.ref x0)])) := st72.trans (by
      show Steps _ _ _ (T71.setTop (mkF m 106 #[.val (.ref x0), .val (.int (0 : Int32)), .val (.long x2), .second, .val (.int (0 : Int32))] [(.int (0 : Int32)), (.ref x0), (.long x2), (.int (0 : Int32)), (.ref x0)])) _
      refine XS.dupX1 X71.here hx rfl (hb hby d3_106) rfl rfl rfl ?_
      show Steps _ _ _ (T71.setTop (mkF m 107 #[.val (.ref x0), .val (.int (0 : Int32)), .val (.long x2), .second, .val (.int (0 : Int32))] [(.int (0 : Int32)), (.ref x0), (.int (0 : Int32)), (.long x2), (.int (0 : Int32)), (.ref x0)])) _
      refine XS.iconst X71.here hx rfl (hb hby d3_107) ?_
      show Steps _ _ _ (T71.setTop (mkF m 108 #[.val (.ref x0), .val (.int (0 : Int32)), .val (.long x2), .second, .val (.int (0 : Int32))] [(.int (1 : Int32)), (.int (0 : Int32)), (.ref x0), (.int (0 : Int32)), (.long x2), (.int (0 : Int32)), (.ref x0)])) _
      refine XS.iadd X71.here hx rfl (hb hby d3_108) rfl ?_
      exact Steps.refl _)
  obtain ⟨T74, h74, X74, e74, W74, sr74⟩ := putF X71 hx hZ hown (host := "") (Or.inl (hw _ (List.mem_of_getElem? (i := 22) rfl))) Via.refl e71 f62 f59 (Or.inl (hw _ (List.mem_of_getElem? (i := 23) rfl))) (hw _ (List.mem_of_getElem? (i := 2) rfl)) (ty := .int) (by decide) rfl rfl (g := (mkF m 109 #[.val (.ref x0), .val (.int (0 : Int32)), .val (.long x2), .second, .val (.int (0 : Int32))] [(.int (1 : Int32)), (.ref x0), (.int (0 : Int32)), (.long x2), (.int (0 : Int32)), (.ref x0)])) rfl rfl (hb hby d3_109)
  have f75 : Exa Z h74 x0 "com/example/folioseek/folioseek/UseOrder" := f59.wr W74
  have f76 : Fld Z h74 x0 "com/example/folioseek/folioseek/UseOrder" "ids" "[I" (.ref aI) := f60.other W74 (Or.inr (slot_ne (Or.inl (hw _ (List.mem_of_getElem? (i := 12) rfl))) (Or.inl (hw _ (List.mem_of_getElem? (i := 23) rfl))) (by decide) (t := (.array .int)) (t' := .int) (by decide) (by decide)))
  have f77 : Fld Z h74 x0 "com/example/folioseek/folioseek/UseOrder" "uses" "[J" (.ref aU) := f61.other W74 (Or.inr (slot_ne (Or.inl (hw _ (List.mem_of_getElem? (i := 14) rfl))) (Or.inl (hw _ (List.mem_of_getElem? (i := 23) rfl))) (by decide) (t := (.array .long)) (t' := .int) (by decide) (by decide)))
  have f78 : Arv Z h74 aI kI .int (16 : Int32) (List.map Value.int LI) (.int (0 : Int32)) := f63.other W74 (Ne.symm ne_xi)
  have f79 : Arv Z h74 aU kU .long (16 : Int32) (List.map Value.long LU) (.long (0 : Int64)) := f64.other W74 (Ne.symm ne_xu)
  have f80 : Arv Z h74 aS kS .int (0 : Int32) (List.map Value.int LS) (.int (0 : Int32)) := f65.other W74 (Ne.symm ne_xs)
  have f81 : Fld Z h74 x0 "com/example/folioseek/folioseek/UseOrder" "slots" "[I" (.ref bS) := f66.other W74 (Or.inr (slot_ne (Or.inl (hw _ (List.mem_of_getElem? (i := 16) rfl))) (Or.inl (hw _ (List.mem_of_getElem? (i := 23) rfl))) (by decide) (t := (.array .int)) (t' := .int) (by decide) (by decide)))
  have f82 : Arv Z h74 bS kN .int (1 : Int32) (List.map Value.int ((LS ++ List.replicate 1 (0 : Int32)).set ((0 : Int32)).toNatClampNeg (-1 : Int32))) (.int (0 : Int32)) := f58_0.other W74 (Ne.symm ne_x0_bS)
  have f83 : Fld Z h74 x0 "com/example/folioseek/folioseek/UseOrder" "size" "I" (.int (1 : Int32)) := f62.same W74
  have K84 : Keep h0 h74 [x0, aI, aU, aS] := K67.wr W74 (Or.inl (List.mem_of_getElem? (i := 0) rfl))
  have Z74 : n0 ≤ h74.size := Nat.le_trans Z68 (Keep.of_wr W74).1
  have N74 := Fr.snoc X74 N58 g_x
  obtain ⟨LL74, X74, N74⟩ := own_hide X74 N74
  have st85 : Steps p.tables e below sE (T74.setTop (mkF m 112 #[.val (.ref x0), .val (.int (0 : Int32)), .val (.long x2), .second, .val (.int (0 : Int32))] [(.int (0 : Int32)), (.long x2), (.int (0 : Int32)), (.ref x0)])) := st73.trans (sr74 _ (Steps.refl _))
  obtain ⟨cq86, q86, q86'⟩ := f75.cell
  obtain ⟨_, _, ⟨T86, L86, k86, n86⟩, -, X86, ⟨Lc86, hQ86, l86, y86, z86⟩, sr86⟩ := X74.privateBack hx (y := (⟨"com/example/folioseek/folioseek/UseOrder", "place", "(IJI)V"⟩ : MethodName)) hown (mvT hZ (hw _ (List.mem_of_getElem? (i := 45) rfl))) (mvT hZ (hw _ (List.mem_of_getElem? (i := 46) rfl))) (own_selp (z := (⟨"com/example/folioseek/folioseek/UseOrder", "add", "(IJ)V"⟩ : MethodName)) rfl (notFace_of_selects (args := #[]) (mvT hZ (hw _ (List.mem_of_getElem? (i := 20) rfl)))) (args' := #[]) (mvT hZ (hw _ (List.mem_of_getElem? (i := 19) rfl))) (Cond.privateMethod_at (mvP hZ (hw _ (List.mem_of_getElem? (i := 47) rfl)) (args := #[]))) (mvT hZ (hw _ (List.mem_of_getElem? (i := 46) rfl))) (by decide)) (Cond.privateMethod_at (mvP hZ (hw _ (List.mem_of_getElem? (i := 47) rfl)) (args := #[]))) (mvT hZ (hw _ (List.mem_of_getElem? (i := 48) rfl))) (by decide) (backOf (W := 0) (rm9 l Z a0 hw [] x0 (0 : Int32) x2 (0 : Int32) aI aU bS kI kU kN LI LU ((LS ++ List.replicate 1 (0 : Int32)).set ((0 : Int32)).toNatClampNeg (-1 : Int32)) (1 : Int32) h74 n0 Z74 f76 f77 f81 f78 f79 f82 (by decide) (by decide) ⟨hP.1, hP.2.1, by decide, (by simp only [List.length_set, List.length_append, List.length_replicate, hP.2.2.1]; decide)⟩ g_i g_u g_bS ne_iu ne_aI_bS ne_aU_bS ne_xi ne_xu ne_x0_bS) hZ (hw _ (List.mem_of_getElem? (i := 48) rfl)) (hw _ (List.mem_of_getElem? (i := 3) rfl)) (by decide) (by decide)) (g := (mkF m 112 #[.val (.ref x0), .val (.int (0 : Int32)), .val (.long x2), .second, .val (.int (0 : Int32))] [(.int (0 : Int32)), (.long x2), (.int (0 : Int32)), (.ref x0)])) rfl (by rw [hml]; rfl) (Steps.refl _) (a := x0) (by rw [e74]; exact q86) q86' (argsL := [(.int (0 : Int32)), (.long x2), (.int (0 : Int32))]) (rest := []) (lenOf pd_0 rfl) rfl (by show 2 * 0 + _ ≤ _; exact Nat.le_of_eq rfl) (hb hby d3_112) (fun _ _ => ⟨rfl, e74, (by decide : 1 + 0 ≤ _), (by decide : 1 + 0 ≤ _)⟩)
  dsimp only [Pt.U, Pt.locs, Pt.cells, Pt.slots] at X86 l86 y86 z86 sr86 hQ86
  subst l86 y86 z86
  obtain ⟨rfl, N86q, K86c, f86_0, f86_1, f86_2⟩ := hQ86
  have N86 := Fr.app N74 N86q
  obtain ⟨LL86, X86, N86⟩ := own_hide X86 N86
  have f87 : Exa Z T86.heap x0 "com/example/folioseek/folioseek/UseOrder" := f75.keep K86c
  have f88 : Fld Z T86.heap x0 "com/example/folioseek/folioseek/UseOrder" "ids" "[I" (.ref aI) := f76.keep K86c (ninS ne_xi (ninS ne_xu (ninS ne_x0_bS nin0)))
  have f89 : Fld Z T86.heap x0 "com/example/folioseek/folioseek/UseOrder" "uses" "[J" (.ref aU) := f77.keep K86c (ninS ne_xi (ninS ne_xu (ninS ne_x0_bS nin0)))
  have f90 : Arv Z T86.heap aS kS .int (0 : Int32) (List.map Value.int LS) (.int (0 : Int32)) := f80.keep K86c (ninS (Ne.symm ne_is) (ninS (Ne.symm ne_us) (ninS ne_aS_bS nin0)))
  have f91 : Fld Z T86.heap x0 "com/example/folioseek/folioseek/UseOrder" "slots" "[I" (.ref bS) := f81.keep K86c (ninS ne_xi (ninS ne_xu (ninS ne_x0_bS nin0)))
  have f92 : Fld Z T86.heap x0 "com/example/folioseek/folioseek/UseOrder" "size" "I" (.int (1 : Int32)) := f83.keep K86c (ninS ne_xi (ninS ne_xu (ninS ne_x0_bS nin0)))
  have K93 : Keep h0 T86.heap [x0, aI, aU, aS] := K84.trans K86c (allS (Or.inl (List.mem_of_getElem? (i := 1) rfl)) (allS (Or.inl (List.mem_of_getElem? (i := 2) rfl)) (allS (Or.inr sz_bS) all0)))
  have Z94 : n0 ≤ T86.heap.size := Nat.le_trans Z74 K86c.1
  have st95 : Steps p.tables e below sE (T86.setTop (mkF m 115 #[.val (.ref x0), .val (.int (0 : Int32)), .val (.long x2), .second, .val (.int (0 : Int32))] [])) := st85.trans (sr86)
  have st96 : Steps p.tables e below sE (T86.setTop (mkF m 117 #[.val (.ref x0), .val (.int (0 : Int32)), .val (.long x2), .second, .val (.int (0 : Int32))] [(.ref x0), (.ref x0)])) := st95.trans (by
      show Steps _ _ _ (T86.setTop (mkF m 115 #[.val (.ref x0), .val (.int (0 : Int32)), .val (.long x2), .second, .val (.int (0 : Int32))] [])) _
      refine XS.aloadN X86.here hx rfl (hb hby d3_115) rfl rfl ?_
      show Steps _ _ _ (T86.setTop (mkF m 116 #[.val (.ref x0), .val (.int (0 : Int32)), .val (.long x2), .second, .val (.int (0 : Int32))] [(.ref x0)])) _
      refine XS.aloadN X86.here hx rfl (hb hby d3_116) rfl rfl ?_
      exact Steps.refl _)
  obtain ⟨T97, X97, e97, sr97⟩ := getF X86 hx hZ hown (host := "") (Or.inl (hw _ (List.mem_of_getElem? (i := 22) rfl))) Via.refl rfl f92 (g := (mkF m 117 #[.val (.ref x0), .val (.int (0 : Int32)), .val (.long x2), .second, .val (.int (0 : Int32))] [(.ref x0), (.ref x0)])) rfl rfl (hb hby d3_117)
  have st98 : Steps p.tables e below sE (T97.setTop (mkF m 120 #[.val (.ref x0), .val (.int (0 : Int32)), .val (.long x2), .second, .val (.int (0 : Int32))] [(.int (1 : Int32)), (.ref x0)])) := st96.trans (sr97 _ (Steps.refl _))
  have st99 : Steps p.tables e below sE (T97.setTop (mkF m 122 #[.val (.ref x0), .val (.int (0 : Int32)), .val (.long x2), .second, .val (.int (0 : Int32))] [(.int (0 : Int32)), (.ref x0)])) := st98.trans (by
      show Steps _ _ _ (T97.setTop (mkF m 120 #[.val (.ref x0), .val (.int (0 : Int32)), .val (.long x2), .second, .val (.int (0 : Int32))] [(.int (1 : Int32)), (.ref x0)])) _
      refine XS.iconst X97.here hx rfl (hb hby d3_120) ?_
      show Steps _ _ _ (T97.setTop (mkF m 121 #[.val (.ref x0), .val (.int (0 : Int32)), .val (.long x2), .second, .val (.int (0 : Int32))] [(.int (1 : Int32)), (.int (1 : Int32)), (.ref x0)])) _
      refine XS.isub X97.here hx rfl (hb hby d3_121) rfl ?_
      exact Steps.refl _)
  have hSl : (((LS ++ List.replicate 1 (0 : Int32)).set ((0 : Int32)).toNatClampNeg (-1 : Int32))).length = 1 := by simp only [List.length_set, List.length_append, List.length_replicate, hP.2.2.1]
  have hSg : ∀ i, i < 0 → (((LS ++ List.replicate 1 (0 : Int32)).set ((0 : Int32)).toNatClampNeg (-1 : Int32))).getD i 0 = LS.getD i 0 := by
    intro i hi
    rw [own_gsI _ _ _ _ (by simp only [List.length_set, List.length_append, List.length_replicate, hP.2.2.1]; decide), if_neg (show ¬ ((0 : Int32)).toNatClampNeg = i from fun q => by rw [show ((0 : Int32)).toNatClampNeg = 0 by decide] at q; omega), own_gg LS 1 i (by rw [hP.2.2.1]; exact hi)]
  have hP2 : own_P 1 1 (LI.set ((0 : Int32)).toNatClampNeg (0 : Int32)) (LU.set ((0 : Int32)).toNatClampNeg x2) (((LS ++ List.replicate 1 (0 : Int32)).set ((0 : Int32)).toNatClampNeg (-1 : Int32)).set ((0 : Int32)).toNatClampNeg (0 : Int32)) val (fun i => i < 1) := by
    have q := own_push (m' := 1) (S' := ((LS ++ List.replicate 1 (0 : Int32)).set ((0 : Int32)).toNatClampNeg (-1 : Int32))) hP (by decide) (by decide) (by decide) (by decide) hSl hSg
    rw [hv] at q
    exact q
  have hU2 : ∀ j, j < 1 → ¬ j = 0 → (((LU.set ((0 : Int32)).toNatClampNeg x2)).getD 0 0).toInt ≤ (((LU.set ((0 : Int32)).toNatClampNeg x2)).getD j 0).toInt := own_pushH hP.2.1 (by decide) hH x2
  obtain ⟨cq100, q100, q100'⟩ := f87.cell
  obtain ⟨_, _, ⟨T100, L100, k100, n100⟩, -, X100, ⟨Lc100, hQ100, l100, y100, z100⟩, sr100⟩ := X97.privateBack hx (y := (⟨"com/example/folioseek/folioseek/UseOrder", "siftUp", "(I)V"⟩ : MethodName)) hown (mvT hZ (hw _ (List.mem_of_getElem? (i := 49) rfl))) (mvT hZ (hw _ (List.mem_of_getElem? (i := 50) rfl))) (own_selp (z := (⟨"com/example/folioseek/folioseek/UseOrder", "add", "(IJ)V"⟩ : MethodName)) rfl (notFace_of_selects (args := #[]) (mvT hZ (hw _ (List.mem_of_getElem? (i := 20) rfl)))) (args' := #[]) (mvT hZ (hw _ (List.mem_of_getElem? (i := 19) rfl))) (Cond.privateMethod_at (mvP hZ (hw _ (List.mem_of_getElem? (i := 51) rfl)) (args := #[]))) (mvT hZ (hw _ (List.mem_of_getElem? (i := 50) rfl))) (by decide)) (Cond.privateMethod_at (mvP hZ (hw _ (List.mem_of_getElem? (i := 51) rfl)) (args := #[]))) (mvT hZ (hw _ (List.mem_of_getElem? (i := 52) rfl))) (by decide) (backOf (W := 0) (rm10 l Z a0 hw [] x0 (0 : Int32) aI aU bS kI kU kN (LI.set ((0 : Int32)).toNatClampNeg (0 : Int32)) (LU.set ((0 : Int32)).toNatClampNeg x2) (((LS ++ List.replicate 1 (0 : Int32)).set ((0 : Int32)).toNatClampNeg (-1 : Int32)).set ((0 : Int32)).toNatClampNeg (0 : Int32)) (1 : Int32) 1 val (fun i => i < 1) T86.heap n0 Z94 f87 f88 f89 f91 f86_0 f86_1 f86_2 hP2 (by decide) hU2 g_i g_u g_bS ne_iu ne_aI_bS ne_aU_bS ne_xi ne_xu ne_x0_bS) hZ (hw _ (List.mem_of_getElem? (i := 52) rfl)) (hw _ (List.mem_of_getElem? (i := 3) rfl)) (by decide) (by decide)) (g := (mkF m 122 #[.val (.ref x0), .val (.int (0 : Int32)), .val (.long x2), .second, .val (.int (0 : Int32))] [(.int (0 : Int32)), (.ref x0)])) rfl (by rw [hml]; rfl) (Steps.refl _) (a := x0) (by rw [e97]; exact q100) q100' (argsL := [(.int (0 : Int32))]) (rest := []) (lenOf pd_5 rfl) rfl (by show 2 * 0 + _ ≤ _; exact Nat.le_of_eq rfl) (hb hby d3_122) (fun _ _ => ⟨rfl, e97, (by decide : 1 + 0 ≤ _), (by decide : 1 + 0 ≤ _)⟩)
  dsimp only [Pt.U, Pt.locs, Pt.cells, Pt.slots] at X100 l100 y100 z100 sr100 hQ100
  subst l100 y100 z100
  obtain ⟨rfl, N100q, K100c, ⟨LI', LU', LS', qI, qU, qS, hP', hH'⟩⟩ := hQ100
  have N100 := Fr.app N86 N100q
  obtain ⟨LL100, X100, N100⟩ := own_hide X100 N100
  have f101 : Exa Z T100.heap x0 "com/example/folioseek/folioseek/UseOrder" := f87.keep K100c
  have f102 : Fld Z T100.heap x0 "com/example/folioseek/folioseek/UseOrder" "ids" "[I" (.ref aI) := f88.keep K100c (ninS ne_xi (ninS ne_xu (ninS ne_x0_bS nin0)))
  have f103 : Fld Z T100.heap x0 "com/example/folioseek/folioseek/UseOrder" "uses" "[J" (.ref aU) := f89.keep K100c (ninS ne_xi (ninS ne_xu (ninS ne_x0_bS nin0)))
  have f104 : Arv Z T100.heap aS kS .int (0 : Int32) (List.map Value.int LS) (.int (0 : Int32)) := f90.keep K100c (ninS (Ne.symm ne_is) (ninS (Ne.symm ne_us) (ninS ne_aS_bS nin0)))
  have f105 : Fld Z T100.heap x0 "com/example/folioseek/folioseek/UseOrder" "slots" "[I" (.ref bS) := f91.keep K100c (ninS ne_xi (ninS ne_xu (ninS ne_x0_bS nin0)))
  have f106 : Fld Z T100.heap x0 "com/example/folioseek/folioseek/UseOrder" "size" "I" (.int (1 : Int32)) := f92.keep K100c (ninS ne_xi (ninS ne_xu (ninS ne_x0_bS nin0)))
  have K107 : Keep h0 T100.heap [x0, aI, aU, aS] := K93.trans K100c (allS (Or.inl (List.mem_of_getElem? (i := 1) rfl)) (allS (Or.inl (List.mem_of_getElem? (i := 2) rfl)) (allS (Or.inr sz_bS) all0)))
  have Z108 : n0 ≤ T100.heap.size := Nat.le_trans Z94 K100c.1
  have st109 : Steps p.tables e below sE (T100.setTop (mkF m 125 #[.val (.ref x0), .val (.int (0 : Int32)), .val (.long x2), .second, .val (.int (0 : Int32))] [])) := st99.trans (sr100)
  obtain ⟨fs, hr, hrun, hended, hW, hsame⟩ := X100.leave (v := none) (fun _ => rfl) hlk
  refine ⟨_, _, (own_ent hsE st109).trans ?_, hrun, hended, _, _, rfl, ?_, ⟨_, rfl⟩, hW, hsame.mono (by decide) (by decide)⟩
  · exact X100.returnOut hx Bd.returns (hb hby d3_125) hr
  · show Qad0 Z x0 x2 aI aU aS kI kU kS LI LU LS val h0 n0 _ T100.heap _
    exact ⟨rfl, N100, K107, f101, f102, f103, f106, ⟨bS, _, LI', LU', LS', f105, qI, qU, qS, hP', hH', g_bS, ne_aI_bS, ne_aU_bS, ne_x0_bS, Or.inr sz_bS⟩⟩
theorem ef_ad1 (m : MethodId) (x0 : Addr) (x2 : Int64)  : entryFrame m #[(.ref x0), (.int (1 : Int32)), (.long x2)] 5 = mkF m 0 #[.val (.ref x0), .val (.int (1 : Int32)), .val (.long x2), .second, .unset] [] := by first | (simp [entryFrame, mkF, argsToLocals, Value.category]; done) | rfl
def Qad1 (Z : State) (x0 : Addr) (x2 : Int64) (aI : Addr) (aU : Addr) (aS : Addr) (kI : ClassId) (kU : ClassId) (kS : ClassId) (LI : List Int32) (LU : List Int64) (LS : List Int32) (val : Nat → Int64) (h0 : Heap) (n0 : Nat) (vE : Option Value) (hE : Heap) (LE : List Loc) : Prop := vE = none ∧ Fr n0 LE ∧ Keep h0 hE [x0, aI, aU, aS] ∧ Exa Z hE x0 "com/example/folioseek/folioseek/UseOrder" ∧ Fld Z hE x0 "com/example/folioseek/folioseek/UseOrder" "ids" "[I" (.ref aI) ∧ Fld Z hE x0 "com/example/folioseek/folioseek/UseOrder" "uses" "[J" (.ref aU) ∧ Fld Z hE x0 "com/example/folioseek/folioseek/UseOrder" "size" "I" (.int (2 : Int32)) ∧ (∃ (aT : Addr) (kT : ClassId) (LI' : List Int32) (LU' : List Int64) (LS' : List Int32), Fld Z hE x0 "com/example/folioseek/folioseek/UseOrder" "slots" "[I" (.ref aT) ∧ Arv Z hE aI kI .int (16 : Int32) (List.map Value.int LI') (.int (0 : Int32)) ∧ Arv Z hE aU kU .long (16 : Int32) (List.map Value.long LU') (.long (0 : Int64)) ∧ Arv Z hE aT kT .int (2 : Int32) (List.map Value.int LS') (.int (0 : Int32)) ∧ own_P 2 2 LI' LU' LS' val (fun i => i < 2) ∧ own_H 2 LU' ∧ n0 ≤ aT ∧ aI ≠ aT ∧ aU ≠ aT ∧ x0 ≠ aT ∧ (aT = aS ∨ h0.size ≤ aT))
set_option maxRecDepth 65536 in
set_option maxHeartbeats 40000000 in
theorem rmad1 (l : Launch) (Z : State) (a0 : Array Value) (hw : ∀ d ∈ tables_1, d.before a0 Z = true) (ws : List Jvm.Cond) (x0 : Addr) (x2 : Int64) (aI : Addr) (aU : Addr) (aS : Addr) (kI : ClassId) (kU : ClassId) (kS : ClassId) (LI : List Int32) (LU : List Int64) (LS : List Int32) (val : Nat → Int64) (h0 : Heap) (n0 : Nat) (Z0 : n0 ≤ h0.size) (E_x : Exa Z h0 x0 "com/example/folioseek/folioseek/UseOrder") (F_i : Fld Z h0 x0 "com/example/folioseek/folioseek/UseOrder" "ids" "[I" (.ref aI)) (F_u : Fld Z h0 x0 "com/example/folioseek/folioseek/UseOrder" "uses" "[J" (.ref aU)) (F_s : Fld Z h0 x0 "com/example/folioseek/folioseek/UseOrder" "slots" "[I" (.ref aS)) (F_z : Fld Z h0 x0 "com/example/folioseek/folioseek/UseOrder" "size" "I" (.int (1 : Int32))) (A_i : Arv Z h0 aI kI .int (16 : Int32) (List.map Value.int LI) (.int (0 : Int32))) (A_u : Arv Z h0 aU kU .long (16 : Int32) (List.map Value.long LU) (.long (0 : Int64))) (A_s : Arv Z h0 aS kS .int (1 : Int32) (List.map Value.int LS) (.int (0 : Int32))) (hP : own_P 1 1 LI LU LS val (fun i => i < 1)) (hH : own_H 1 LU) (hv : val 1 = x2) (g_x : n0 ≤ x0) (g_i : n0 ≤ aI) (g_u : n0 ≤ aU) (g_s : n0 ≤ aS) (ne_iu : aI ≠ aU) (ne_is : aI ≠ aS) (ne_us : aU ≠ aS) (ne_xi : x0 ≠ aI) (ne_xu : x0 ≠ aU) (ne_xs : x0 ≠ aS) :
    MetFree l (⟨"com/example/folioseek/folioseek/UseOrder", "add", "(IJ)V"⟩ : MethodName) (head1 (Jvm.Cond.code (⟨"com/example/folioseek/folioseek/UseOrder", "add", "(IJ)V"⟩ : MethodName) prog_24_method_5_code 5 none :: ws) ({ frames := 2, cells := 1, slots := 2, locals := 33 } : Room)) (fun a U => a = #[(.ref x0), (.int (1 : Int32)), (.long x2)] ∧ Z.Warmed39 U.vm ∧ U.heap = h0) (fun _ _ _ _ _ => True) (fun _ U o U' => ∃ vE LE, o = .returned vE ∧ Qad1 Z x0 x2 aI aU aS kI kU kS LI LU LS val h0 n0 vE U'.heap LE ∧ FrameEnd U o U' LE ({ frames := 2, cells := 1, slots := 2, locals := 33 } : Room).cells ({ frames := 2, cells := 1, slots := 2, locals := 33 } : Room).slots) := by
  refine MetFree.of_bodySF (plainFor_of_name pn_1) hisR ?_
  intro p e s m args below meth c s₁ Bd hml0 hP hK
  obtain ⟨rfl, hZ, hh⟩ := hP
  have hx := Bd.exec
  have hby := Bd.bytes
  have hml : c.maxLocals = 5 := hml0
  have hown : s.vm.findClass "com/example/folioseek/folioseek/UseOrder" = some m.cls := findClass_of_methodNamed Bd.named
  have hnm := (name_of_methodNamed Bd.named Bd.method).1
  have hlk : meth.locks = false := BodyLoose.notSynchronized Bd
  have X0 : Stand p l e ({ frames := 2, cells := 1, slots := 2, locals := 33 } : Room) s m #[(.ref x0), (.int (1 : Int32)), (.long x2)] below meth c s₁ [] 0 0 := Stand.of_body Bd
  have e0 : s₁.heap = h0 := by rw [← hh, Bd.state]; rfl
  have N0 := Fr.nil n0
  obtain ⟨sE, hsE⟩ : ∃ z, z = (s₁.setTop (entryFrame m #[(.ref x0), (.int (1 : Int32)), (.long x2)] 5)) := ⟨_, rfl⟩
  have st0 : Steps p.tables e below sE (s₁.setTop (mkF m 0 #[.val (.ref x0), .val (.int (1 : Int32)), .val (.long x2), .second, .unset] [])) := by rw [hsE]; exact castTop (ef_ad1 m x0 x2) (Steps.refl _)
  have K0 : Keep h0 h0 [x0, aI, aU, aS] := Keep.refl _ _
  have st1 : Steps p.tables e below sE (s₁.setTop (mkF m 1 #[.val (.ref x0), .val (.int (1 : Int32)), .val (.long x2), .second, .unset] [(.ref x0)])) := st0.trans (by
      show Steps _ _ _ (s₁.setTop (mkF m 0 #[.val (.ref x0), .val (.int (1 : Int32)), .val (.long x2), .second, .unset] [])) _
      refine XS.aloadN X0.here hx rfl (hb hby d3_0) rfl rfl ?_
      exact Steps.refl _)
  obtain ⟨T2, X2, e2, sr2⟩ := getF X0 hx hZ hown (host := "") (Or.inl (hw _ (List.mem_of_getElem? (i := 22) rfl))) Via.refl e0 F_z (g := (mkF m 1 #[.val (.ref x0), .val (.int (1 : Int32)), .val (.long x2), .second, .unset] [(.ref x0)])) rfl rfl (hb hby d3_1)
  have st3 : Steps p.tables e below sE (T2.setTop (mkF m 4 #[.val (.ref x0), .val (.int (1 : Int32)), .val (.long x2), .second, .unset] [(.int (1 : Int32))])) := st1.trans (sr2 _ (Steps.refl _))
  have st4 : Steps p.tables e below sE (T2.setTop (mkF m 5 #[.val (.ref x0), .val (.int (1 : Int32)), .val (.long x2), .second, .unset] [(.ref x0), (.int (1 : Int32))])) := st3.trans (by
      show Steps _ _ _ (T2.setTop (mkF m 4 #[.val (.ref x0), .val (.int (1 : Int32)), .val (.long x2), .second, .unset] [(.int (1 : Int32))])) _
      refine XS.aloadN X2.here hx rfl (hb hby d3_4) rfl rfl ?_
      exact Steps.refl _)
  obtain ⟨T5, X5, e5, sr5⟩ := getF X2 hx hZ hown (host := "") (Or.inl (hw _ (List.mem_of_getElem? (i := 11) rfl))) Via.refl e2 F_i (g := (mkF m 5 #[.val (.ref x0), .val (.int (1 : Int32)), .val (.long x2), .second, .unset] [(.ref x0), (.int (1 : Int32))])) rfl rfl (hb hby d3_5)
  have st6 : Steps p.tables e below sE (T5.setTop (mkF m 8 #[.val (.ref x0), .val (.int (1 : Int32)), .val (.long x2), .second, .unset] [(.ref aI), (.int (1 : Int32))])) := st4.trans (sr5 _ (Steps.refl _))
  obtain ⟨cl7, Ar7, -, S7, N7, -, -⟩ := id A_i
  have st8 : Steps p.tables e below sE (T5.setTop (mkF m 9 #[.val (.ref x0), .val (.int (1 : Int32)), .val (.long x2), .second, .unset] [(.int (16 : Int32)), (.int (1 : Int32))])) := st6.trans (by
      show Steps _ _ _ (T5.setTop (mkF m 8 #[.val (.ref x0), .val (.int (1 : Int32)), .val (.long x2), .second, .unset] [(.ref aI), (.int (1 : Int32))])) _
      refine X5.arraylength hx (by rw [e5]; exact Ar7.1) (State.isArrayOf_alike hZ.alike Ar7.2.1) (g := (mkF m 8 #[.val (.ref x0), .val (.int (1 : Int32)), .val (.long x2), .second, .unset] [(.ref aI), (.int (1 : Int32))])) rfl rfl (hb hby d3_8) _ ?_
      rw [len_of S7 N7]
      exact Steps.refl _)
  have hf9 : ¬ ((1 : Int32) = (16 : Int32)) := by decide
  have st10 : Steps p.tables e below sE (T5.setTop (mkF m 48 #[.val (.ref x0), .val (.int (1 : Int32)), .val (.long x2), .second, .unset] [(.ref x0), (.int (1 : Int32))])) := st8.trans (by
      show Steps _ _ _ (T5.setTop (mkF m 9 #[.val (.ref x0), .val (.int (1 : Int32)), .val (.long x2), .second, .unset] [(.int (16 : Int32)), (.int (1 : Int32))])) _
      refine XS.icmpYes X5.here hx rfl (pc0 := 9) (pc' := 46) rfl (hb hby d3_9) rfl (feq hf9).2 (by decide) (by decide) ?_
      show Steps _ _ _ (T5.setTop (mkF m 46 #[.val (.ref x0), .val (.int (1 : Int32)), .val (.long x2), .second, .unset] [])) _
      refine XS.iloadN X5.here hx rfl (hb hby d3_46) rfl ?_
      show Steps _ _ _ (T5.setTop (mkF m 47 #[.val (.ref x0), .val (.int (1 : Int32)), .val (.long x2), .second, .unset] [(.int (1 : Int32))])) _
      refine XS.aloadN X5.here hx rfl (hb hby d3_47) rfl rfl ?_
      exact Steps.refl _)
  obtain ⟨T11, X11, e11, sr11⟩ := getF X5 hx hZ hown (host := "") (Or.inl (hw _ (List.mem_of_getElem? (i := 15) rfl))) Via.refl e5 F_s (g := (mkF m 48 #[.val (.ref x0), .val (.int (1 : Int32)), .val (.long x2), .second, .unset] [(.ref x0), (.int (1 : Int32))])) rfl rfl (hb hby d3_48)
  have st12 : Steps p.tables e below sE (T11.setTop (mkF m 51 #[.val (.ref x0), .val (.int (1 : Int32)), .val (.long x2), .second, .unset] [(.ref aS), (.int (1 : Int32))])) := st10.trans (sr11 _ (Steps.refl _))
  obtain ⟨cl13, Ar13, -, S13, N13, -, -⟩ := id A_s
  have st14 : Steps p.tables e below sE (T11.setTop (mkF m 52 #[.val (.ref x0), .val (.int (1 : Int32)), .val (.long x2), .second, .unset] [(.int (1 : Int32)), (.int (1 : Int32))])) := st12.trans (by
      show Steps _ _ _ (T11.setTop (mkF m 51 #[.val (.ref x0), .val (.int (1 : Int32)), .val (.long x2), .second, .unset] [(.ref aS), (.int (1 : Int32))])) _
      refine X11.arraylength hx (by rw [e11]; exact Ar13.1) (State.isArrayOf_alike hZ.alike Ar13.2.1) (g := (mkF m 51 #[.val (.ref x0), .val (.int (1 : Int32)), .val (.long x2), .second, .unset] [(.ref aS), (.int (1 : Int32))])) rfl rfl (hb hby d3_51) _ ?_
      rw [len_of S13 N13]
      exact Steps.refl _)
  have hf15 : ¬ ((1 : Int32) < (1 : Int32)) := by decide
  have st16 : Steps p.tables e below sE (T11.setTop (mkF m 56 #[.val (.ref x0), .val (.int (1 : Int32)), .val (.long x2), .second, .unset] [(.ref x0)])) := st14.trans (by
      show Steps _ _ _ (T11.setTop (mkF m 52 #[.val (.ref x0), .val (.int (1 : Int32)), .val (.long x2), .second, .unset] [(.int (1 : Int32)), (.int (1 : Int32))])) _
      refine XS.icmpNo X11.here hx rfl (hb hby d3_52) rfl (flt hf15).1 ?_
      show Steps _ _ _ (T11.setTop (mkF m 55 #[.val (.ref x0), .val (.int (1 : Int32)), .val (.long x2), .second, .unset] [])) _
      refine XS.aloadN X11.here hx rfl (hb hby d3_55) rfl rfl ?_
      exact Steps.refl _)
  obtain ⟨T17, X17, e17, sr17⟩ := getF X11 hx hZ hown (host := "") (Or.inl (hw _ (List.mem_of_getElem? (i := 15) rfl))) Via.refl e11 F_s (g := (mkF m 56 #[.val (.ref x0), .val (.int (1 : Int32)), .val (.long x2), .second, .unset] [(.ref x0)])) rfl rfl (hb hby d3_56)
  have st18 : Steps p.tables e below sE (T17.setTop (mkF m 59 #[.val (.ref x0), .val (.int (1 : Int32)), .val (.long x2), .second, .unset] [(.ref aS)])) := st16.trans (sr17 _ (Steps.refl _))
  obtain ⟨cl19, Ar19, -, S19, N19, -, -⟩ := id A_s
  have st20 : Steps p.tables e below sE (T17.setTop (mkF m 64 #[.val (.ref x0), .val (.int (1 : Int32)), .val (.long x2), .second, .val (.int (1 : Int32))] [(.ref x0), (.ref x0)])) := st18.trans (by
      show Steps _ _ _ (T17.setTop (mkF m 59 #[.val (.ref x0), .val (.int (1 : Int32)), .val (.long x2), .second, .unset] [(.ref aS)])) _
      refine X17.arraylength hx (by rw [e17]; exact Ar19.1) (State.isArrayOf_alike hZ.alike Ar19.2.1) (g := (mkF m 59 #[.val (.ref x0), .val (.int (1 : Int32)), .val (.long x2), .second, .unset] [(.ref aS)])) rfl rfl (hb hby d3_59) _ ?_
      rw [len_of S19 N19]
      show Steps _ _ _ (T17.setTop (mkF m 60 #[.val (.ref x0), .val (.int (1 : Int32)), .val (.long x2), .second, .unset] [(.int (1 : Int32))])) _
      refine XS.istore X17.here hx rfl (hb hby d3_60) rfl (l' := #[.val (.ref x0), .val (.int (1 : Int32)), .val (.long x2), .second, .val (.int (1 : Int32))]) rfl ?_
      show Steps _ _ _ (T17.setTop (mkF m 62 #[.val (.ref x0), .val (.int (1 : Int32)), .val (.long x2), .second, .val (.int (1 : Int32))] [])) _
      refine XS.aloadN X17.here hx rfl (hb hby d3_62) rfl rfl ?_
      show Steps _ _ _ (T17.setTop (mkF m 63 #[.val (.ref x0), .val (.int (1 : Int32)), .val (.long x2), .second, .val (.int (1 : Int32))] [(.ref x0)])) _
      refine XS.aloadN X17.here hx rfl (hb hby d3_63) rfl rfl ?_
      exact Steps.refl _)
  obtain ⟨T21, X21, e21, sr21⟩ := getF X17 hx hZ hown (host := "") (Or.inl (hw _ (List.mem_of_getElem? (i := 15) rfl))) Via.refl e17 F_s (g := (mkF m 64 #[.val (.ref x0), .val (.int (1 : Int32)), .val (.long x2), .second, .val (.int (1 : Int32))] [(.ref x0), (.ref x0)])) rfl rfl (hb hby d3_64)
  have st22 : Steps p.tables e below sE (T21.setTop (mkF m 67 #[.val (.ref x0), .val (.int (1 : Int32)), .val (.long x2), .second, .val (.int (1 : Int32))] [(.ref aS), (.ref x0)])) := st20.trans (sr21 _ (Steps.refl _))
  have st23 : Steps p.tables e below sE (T21.setTop (mkF m 74 #[.val (.ref x0), .val (.int (1 : Int32)), .val (.long x2), .second, .val (.int (1 : Int32))] [(.int (2 : Int32)), (.int (2 : Int32)), (.ref aS), (.ref x0)])) := st22.trans (by
      show Steps _ _ _ (T21.setTop (mkF m 67 #[.val (.ref x0), .val (.int (1 : Int32)), .val (.long x2), .second, .val (.int (1 : Int32))] [(.ref aS), (.ref x0)])) _
      refine XS.iloadN X21.here hx rfl (hb hby d3_67) rfl ?_
      show Steps _ _ _ (T21.setTop (mkF m 68 #[.val (.ref x0), .val (.int (1 : Int32)), .val (.long x2), .second, .val (.int (1 : Int32))] [(.int (1 : Int32)), (.ref aS), (.ref x0)])) _
      refine XS.iconst X21.here hx rfl (hb hby d3_68) ?_
      show Steps _ _ _ (T21.setTop (mkF m 69 #[.val (.ref x0), .val (.int (1 : Int32)), .val (.long x2), .second, .val (.int (1 : Int32))] [(.int (1 : Int32)), (.int (1 : Int32)), (.ref aS), (.ref x0)])) _
      refine XS.iadd X21.here hx rfl (hb hby d3_69) rfl ?_
      show Steps _ _ _ (T21.setTop (mkF m 70 #[.val (.ref x0), .val (.int (1 : Int32)), .val (.long x2), .second, .val (.int (1 : Int32))] [(.int (2 : Int32)), (.ref aS), (.ref x0)])) _
      refine XS.iconst X21.here hx rfl (hb hby d3_70) ?_
      show Steps _ _ _ (T21.setTop (mkF m 71 #[.val (.ref x0), .val (.int (1 : Int32)), .val (.long x2), .second, .val (.int (1 : Int32))] [(.int (2 : Int32)), (.int (2 : Int32)), (.ref aS), (.ref x0)])) _
      refine XS.iload X21.here hx rfl (hb hby d3_71) rfl ?_
      show Steps _ _ _ (T21.setTop (mkF m 73 #[.val (.ref x0), .val (.int (1 : Int32)), .val (.long x2), .second, .val (.int (1 : Int32))] [(.int (1 : Int32)), (.int (2 : Int32)), (.int (2 : Int32)), (.ref aS), (.ref x0)])) _
      refine XS.imul X21.here hx rfl (hb hby d3_73) rfl ?_
      exact Steps.refl _)
  obtain ⟨_, _, ⟨T24, L24, k24, n24⟩, -, X24, ⟨Lc24, hQ24, l24, y24, z24⟩, sr24⟩ := Jvm.LawKit.callS X21 hx (y := (⟨"java/lang/Math", "max", "(II)I"⟩ : MethodName)) hown (mvT hZ (hw _ (List.mem_of_getElem? (i := 24) rfl))) (mvT hZ (hw _ (List.mem_of_getElem? (i := 25) rfl))) (mvT hZ (hw _ (List.mem_of_getElem? (i := 26) rfl))) (mvT hZ (hw _ (List.mem_of_getElem? (i := 27) rfl))) (by decide) (backOf (W := 2) (rm4 l Z a0 hw [] (2 : Int32) (2 : Int32)  h0 n0 Z0 ) hZ (hw _ (List.mem_of_getElem? (i := 27) rfl)) (hw _ (List.mem_of_getElem? (i := 26) rfl)) (by decide) (by decide)) (g := (mkF m 74 #[.val (.ref x0), .val (.int (1 : Int32)), .val (.long x2), .second, .val (.int (1 : Int32))] [(.int (2 : Int32)), (.int (2 : Int32)), (.ref aS), (.ref x0)])) rfl (by rw [hml]; rfl) (argsL := [(.int (2 : Int32)), (.int (2 : Int32))]) (rest := [(.ref aS), (.ref x0)]) (lenOf pd_1 rfl) rfl (by show 2 * 0 + _ ≤ _; exact Nat.le_of_eq rfl) (hb hby d3_74) (fun _ _ => ⟨rfl, e21, (by decide : 0 + 0 ≤ _), (by decide : 0 + 0 ≤ _)⟩)
  dsimp only [Pt.U, Pt.locs, Pt.cells, Pt.slots] at X24 l24 y24 z24 sr24 hQ24
  subst l24 y24 z24
  obtain ⟨rfl, N24q, hh24⟩ := hQ24
  have N24 := Fr.app N0 N24q
  obtain ⟨LL24, X24, N24⟩ := own_hide X24 N24
  have st25 : Steps p.tables e below sE (T24.setTop (mkF m 77 #[.val (.ref x0), .val (.int (1 : Int32)), .val (.long x2), .second, .val (.int (1 : Int32))] [(.int (F4 (2 : Int32) (2 : Int32))), (.ref aS), (.ref x0)])) := st23.trans (sr24 _ (Steps.refl _))
  have hmx : (F4 (2 : Int32) (2 : Int32)) = (2 : Int32) := by decide
  rw [hmx] at st25
  obtain ⟨_, _, ⟨T26, L26, k26, n26⟩, -, X26, ⟨Lc26, hQ26, l26, y26, z26⟩, sr26⟩ := Jvm.LawKit.callS X24 hx (y := (⟨"java/util/Arrays", "copyOf", "([II)[I"⟩ : MethodName)) hown (mvT hZ (hw _ (List.mem_of_getElem? (i := 28) rfl))) (mvT hZ (hw _ (List.mem_of_getElem? (i := 29) rfl))) (mvT hZ (hw _ (List.mem_of_getElem? (i := 30) rfl))) (mvT hZ (hw _ (List.mem_of_getElem? (i := 31) rfl))) (by decide) (backOf (W := 1) (rmcp1 l Z a0 hw [] aS kS LS h0 n0 Z0 A_s hP.2.2.1) hZ (hw _ (List.mem_of_getElem? (i := 31) rfl)) (hw _ (List.mem_of_getElem? (i := 30) rfl)) (by decide) (by decide)) (g := (mkF m 77 #[.val (.ref x0), .val (.int (1 : Int32)), .val (.long x2), .second, .val (.int (1 : Int32))] [(.int (2 : Int32)), (.ref aS), (.ref x0)])) rfl (by rw [hml]; rfl) (argsL := [(.ref aS), (.int (2 : Int32))]) (rest := [(.ref x0)]) (lenOf pd_3 rfl) rfl (by show 2 * 0 + _ ≤ _; exact Nat.le_of_eq rfl) (hb hby d3_77) (fun _ _ => ⟨rfl, hh24, (by decide : 0 + 1 ≤ _), (by decide : 0 + 2 ≤ _)⟩)
  dsimp only [Pt.U, Pt.locs, Pt.cells, Pt.slots] at X26 l26 y26 z26 sr26 hQ26
  subst l26 y26 z26
  obtain ⟨rfl, N26q, K26c, ⟨kN, qbS⟩⟩ := hQ26
  have N26 := Fr.app N24 N26q
  obtain ⟨LL26, X26, N26⟩ := own_hide X26 N26
  have f27 : Exa Z T26.heap x0 "com/example/folioseek/folioseek/UseOrder" := E_x.keep K26c
  have f28 : Fld Z T26.heap x0 "com/example/folioseek/folioseek/UseOrder" "ids" "[I" (.ref aI) := F_i.keep K26c nin0
  have f29 : Fld Z T26.heap x0 "com/example/folioseek/folioseek/UseOrder" "uses" "[J" (.ref aU) := F_u.keep K26c nin0
  have f30 : Fld Z T26.heap x0 "com/example/folioseek/folioseek/UseOrder" "slots" "[I" (.ref aS) := F_s.keep K26c nin0
  have f31 : Fld Z T26.heap x0 "com/example/folioseek/folioseek/UseOrder" "size" "I" (.int (1 : Int32)) := F_z.keep K26c nin0
  have f32 : Arv Z T26.heap aI kI .int (16 : Int32) (List.map Value.int LI) (.int (0 : Int32)) := A_i.keep K26c nin0
  have f33 : Arv Z T26.heap aU kU .long (16 : Int32) (List.map Value.long LU) (.long (0 : Int64)) := A_u.keep K26c nin0
  have f34 : Arv Z T26.heap aS kS .int (1 : Int32) (List.map Value.int LS) (.int (0 : Int32)) := A_s.keep K26c nin0
  have K35 : Keep h0 T26.heap [x0, aI, aU, aS] := K0.trans K26c all0
  have Z36 : n0 ≤ T26.heap.size := Nat.le_trans Z0 K26c.1
  obtain ⟨bS, gbS⟩ : ∃ z, z = h0.size := ⟨_, rfl⟩
  rw [← gbS] at qbS sr26
  have g_bS : n0 ≤ bS := Nat.le_trans Z0 (Nat.le_of_eq gbS.symm)
  have sz_bS : h0.size ≤ bS := Nat.le_trans K0.1 (Nat.le_of_eq gbS.symm)
  have ne_x0_bS : x0 ≠ bS := Nat.ne_of_lt (Nat.lt_of_lt_of_le E_x.lt (Nat.le_of_eq gbS.symm))
  have ne_aI_bS : aI ≠ bS := Nat.ne_of_lt (Nat.lt_of_lt_of_le A_i.lt (Nat.le_of_eq gbS.symm))
  have ne_aU_bS : aU ≠ bS := Nat.ne_of_lt (Nat.lt_of_lt_of_le A_u.lt (Nat.le_of_eq gbS.symm))
  have ne_aS_bS : aS ≠ bS := Nat.ne_of_lt (Nat.lt_of_lt_of_le A_s.lt (Nat.le_of_eq gbS.symm))
  have st37 : Steps p.tables e below sE (T26.setTop (mkF m 80 #[.val (.ref x0), .val (.int (1 : Int32)), .val (.long x2), .second, .val (.int (1 : Int32))] [(.ref bS), (.ref x0)])) := st25.trans (sr26 _ (Steps.refl _))
  obtain ⟨T38, h38, X38, e38, W38, sr38⟩ := putF X26 hx hZ hown (host := "") (Or.inl (hw _ (List.mem_of_getElem? (i := 15) rfl))) Via.refl rfl f30 f27 (Or.inl (hw _ (List.mem_of_getElem? (i := 16) rfl))) (hw _ (List.mem_of_getElem? (i := 2) rfl)) (ty := (.array .int)) (by decide) rfl rfl (g := (mkF m 80 #[.val (.ref x0), .val (.int (1 : Int32)), .val (.long x2), .second, .val (.int (1 : Int32))] [(.ref bS), (.ref x0)])) rfl rfl (hb hby d3_80)
  have f39 : Exa Z h38 x0 "com/example/folioseek/folioseek/UseOrder" := f27.wr W38
  have f40 : Fld Z h38 x0 "com/example/folioseek/folioseek/UseOrder" "ids" "[I" (.ref aI) := f28.other W38 (Or.inr (slot_ne (Or.inl (hw _ (List.mem_of_getElem? (i := 12) rfl))) (Or.inl (hw _ (List.mem_of_getElem? (i := 16) rfl))) (by decide) (t := (.array .int)) (t' := (.array .int)) (by decide) (by decide)))
  have f41 : Fld Z h38 x0 "com/example/folioseek/folioseek/UseOrder" "uses" "[J" (.ref aU) := f29.other W38 (Or.inr (slot_ne (Or.inl (hw _ (List.mem_of_getElem? (i := 14) rfl))) (Or.inl (hw _ (List.mem_of_getElem? (i := 16) rfl))) (by decide) (t := (.array .long)) (t' := (.array .int)) (by decide) (by decide)))
  have f42 : Fld Z h38 x0 "com/example/folioseek/folioseek/UseOrder" "size" "I" (.int (1 : Int32)) := f31.other W38 (Or.inr (slot_ne (Or.inl (hw _ (List.mem_of_getElem? (i := 23) rfl))) (Or.inl (hw _ (List.mem_of_getElem? (i := 16) rfl))) (by decide) (t := .int) (t' := (.array .int)) (by decide) (by decide)))
  have f43 : Arv Z h38 aI kI .int (16 : Int32) (List.map Value.int LI) (.int (0 : Int32)) := f32.other W38 (Ne.symm ne_xi)
  have f44 : Arv Z h38 aU kU .long (16 : Int32) (List.map Value.long LU) (.long (0 : Int64)) := f33.other W38 (Ne.symm ne_xu)
  have f45 : Arv Z h38 aS kS .int (1 : Int32) (List.map Value.int LS) (.int (0 : Int32)) := f34.other W38 (Ne.symm ne_xs)
  have f46 : Arv Z h38 bS kN .int (2 : Int32) (List.map Value.int (LS ++ List.replicate 1 (0 : Int32))) (.int (0 : Int32)) := qbS.other W38 (Ne.symm ne_x0_bS)
  have f47 : Fld Z h38 x0 "com/example/folioseek/folioseek/UseOrder" "slots" "[I" (.ref bS) := f30.same W38
  have K48 : Keep h0 h38 [x0, aI, aU, aS] := K35.wr W38 (Or.inl (List.mem_of_getElem? (i := 0) rfl))
  have Z38 : n0 ≤ h38.size := Nat.le_trans Z36 (Keep.of_wr W38).1
  have N38 := Fr.snoc X38 N26 g_x
  obtain ⟨LL38, X38, N38⟩ := own_hide X38 N38
  have st49 : Steps p.tables e below sE (T38.setTop (mkF m 83 #[.val (.ref x0), .val (.int (1 : Int32)), .val (.long x2), .second, .val (.int (1 : Int32))] [])) := st37.trans (sr38 _ (Steps.refl _))
  have st50 : Steps p.tables e below sE (T38.setTop (mkF m 84 #[.val (.ref x0), .val (.int (1 : Int32)), .val (.long x2), .second, .val (.int (1 : Int32))] [(.ref x0)])) := st49.trans (by
      show Steps _ _ _ (T38.setTop (mkF m 83 #[.val (.ref x0), .val (.int (1 : Int32)), .val (.long x2), .second, .val (.int (1 : Int32))] [])) _
      refine XS.aloadN X38.here hx rfl (hb hby d3_83) rfl rfl ?_
      exact Steps.refl _)
  obtain ⟨T51, X51, e51, sr51⟩ := getF X38 hx hZ hown (host := "") (Or.inl (hw _ (List.mem_of_getElem? (i := 15) rfl))) Via.refl e38 f47 (g := (mkF m 84 #[.val (.ref x0), .val (.int (1 : Int32)), .val (.long x2), .second, .val (.int (1 : Int32))] [(.ref x0)])) rfl rfl (hb hby d3_84)
  have st52 : Steps p.tables e below sE (T51.setTop (mkF m 87 #[.val (.ref x0), .val (.int (1 : Int32)), .val (.long x2), .second, .val (.int (1 : Int32))] [(.ref bS)])) := st50.trans (sr51 _ (Steps.refl _))
  have st53 : Steps p.tables e below sE (T51.setTop (mkF m 90 #[.val (.ref x0), .val (.int (1 : Int32)), .val (.long x2), .second, .val (.int (1 : Int32))] [(.ref x0), (.int (1 : Int32)), (.ref bS)])) := st52.trans (by
      show Steps _ _ _ (T51.setTop (mkF m 87 #[.val (.ref x0), .val (.int (1 : Int32)), .val (.long x2), .second, .val (.int (1 : Int32))] [(.ref bS)])) _
      refine XS.iload X51.here hx rfl (hb hby d3_87) rfl ?_
      show Steps _ _ _ (T51.setTop (mkF m 89 #[.val (.ref x0), .val (.int (1 : Int32)), .val (.long x2), .second, .val (.int (1 : Int32))] [(.int (1 : Int32)), (.ref bS)])) _
      refine XS.aloadN X51.here hx rfl (hb hby d3_89) rfl rfl ?_
      exact Steps.refl _)
  obtain ⟨T54, X54, e54, sr54⟩ := getF X51 hx hZ hown (host := "") (Or.inl (hw _ (List.mem_of_getElem? (i := 15) rfl))) Via.refl e51 f47 (g := (mkF m 90 #[.val (.ref x0), .val (.int (1 : Int32)), .val (.long x2), .second, .val (.int (1 : Int32))] [(.ref x0), (.int (1 : Int32)), (.ref bS)])) rfl rfl (hb hby d3_90)
  have st55 : Steps p.tables e below sE (T54.setTop (mkF m 93 #[.val (.ref x0), .val (.int (1 : Int32)), .val (.long x2), .second, .val (.int (1 : Int32))] [(.ref bS), (.int (1 : Int32)), (.ref bS)])) := st53.trans (sr54 _ (Steps.refl _))
  obtain ⟨cl56, Ar56, -, S56, N56, -, -⟩ := id f46
  have st57 : Steps p.tables e below sE (T54.setTop (mkF m 95 #[.val (.ref x0), .val (.int (1 : Int32)), .val (.long x2), .second, .val (.int (1 : Int32))] [(.int (-1 : Int32)), (.int (2 : Int32)), (.int (1 : Int32)), (.ref bS)])) := st55.trans (by
      show Steps _ _ _ (T54.setTop (mkF m 93 #[.val (.ref x0), .val (.int (1 : Int32)), .val (.long x2), .second, .val (.int (1 : Int32))] [(.ref bS), (.int (1 : Int32)), (.ref bS)])) _
      refine X54.arraylength hx (by rw [e54]; exact Ar56.1) (State.isArrayOf_alike hZ.alike Ar56.2.1) (g := (mkF m 93 #[.val (.ref x0), .val (.int (1 : Int32)), .val (.long x2), .second, .val (.int (1 : Int32))] [(.ref bS), (.int (1 : Int32)), (.ref bS)])) rfl rfl (hb hby d3_93) _ ?_
      rw [len_of S56 N56]
      show Steps _ _ _ (T54.setTop (mkF m 94 #[.val (.ref x0), .val (.int (1 : Int32)), .val (.long x2), .second, .val (.int (1 : Int32))] [(.int (2 : Int32)), (.int (1 : Int32)), (.ref bS)])) _
      refine XS.iconst X54.here hx rfl (hb hby d3_94) ?_
      exact Steps.refl _)
  obtain ⟨_, _, ⟨T58, L58, k58, n58⟩, -, X58, ⟨Lc58, hQ58, l58, y58, z58⟩, sr58⟩ := Jvm.LawKit.callS X54 hx (y := (⟨"java/util/Arrays", "fill", "([IIII)V"⟩ : MethodName)) hown (mvT hZ (hw _ (List.mem_of_getElem? (i := 39) rfl))) (mvT hZ (hw _ (List.mem_of_getElem? (i := 40) rfl))) (mvT hZ (hw _ (List.mem_of_getElem? (i := 30) rfl))) (mvT hZ (hw _ (List.mem_of_getElem? (i := 41) rfl))) (by decide) (backOf (W := 0) (rmfl1 l Z a0 hw [] bS kN (LS ++ List.replicate 1 (0 : Int32)) h38 n0 Z38 f46 (by rw [List.length_append, List.length_replicate, hP.2.2.1]) g_bS) hZ (hw _ (List.mem_of_getElem? (i := 41) rfl)) (hw _ (List.mem_of_getElem? (i := 30) rfl)) (by decide) (by decide)) (g := (mkF m 95 #[.val (.ref x0), .val (.int (1 : Int32)), .val (.long x2), .second, .val (.int (1 : Int32))] [(.int (-1 : Int32)), (.int (2 : Int32)), (.int (1 : Int32)), (.ref bS)])) rfl (by rw [hml]; rfl) (argsL := [(.ref bS), (.int (1 : Int32)), (.int (2 : Int32)), (.int (-1 : Int32))]) (rest := []) (lenOf pd_4 rfl) rfl (by show 2 * 0 + _ ≤ _; exact Nat.le_of_eq rfl) (hb hby d3_95) (fun _ _ => ⟨rfl, e54, (by decide : 1 + 0 ≤ _), (by decide : 2 + 0 ≤ _)⟩)
  dsimp only [Pt.U, Pt.locs, Pt.cells, Pt.slots] at X58 l58 y58 z58 sr58 hQ58
  subst l58 y58 z58
  obtain ⟨rfl, N58q, K58c, f58_0⟩ := hQ58
  have N58 := Fr.app N38 N58q
  obtain ⟨LL58, X58, N58⟩ := own_hide X58 N58
  have f59 : Exa Z T58.heap x0 "com/example/folioseek/folioseek/UseOrder" := f39.keep K58c
  have f60 : Fld Z T58.heap x0 "com/example/folioseek/folioseek/UseOrder" "ids" "[I" (.ref aI) := f40.keep K58c (ninS ne_x0_bS nin0)
  have f61 : Fld Z T58.heap x0 "com/example/folioseek/folioseek/UseOrder" "uses" "[J" (.ref aU) := f41.keep K58c (ninS ne_x0_bS nin0)
  have f62 : Fld Z T58.heap x0 "com/example/folioseek/folioseek/UseOrder" "size" "I" (.int (1 : Int32)) := f42.keep K58c (ninS ne_x0_bS nin0)
  have f63 : Arv Z T58.heap aI kI .int (16 : Int32) (List.map Value.int LI) (.int (0 : Int32)) := f43.keep K58c (ninS ne_aI_bS nin0)
  have f64 : Arv Z T58.heap aU kU .long (16 : Int32) (List.map Value.long LU) (.long (0 : Int64)) := f44.keep K58c (ninS ne_aU_bS nin0)
  have f65 : Arv Z T58.heap aS kS .int (1 : Int32) (List.map Value.int LS) (.int (0 : Int32)) := f45.keep K58c (ninS ne_aS_bS nin0)
  have f66 : Fld Z T58.heap x0 "com/example/folioseek/folioseek/UseOrder" "slots" "[I" (.ref bS) := f47.keep K58c (ninS ne_x0_bS nin0)
  have K67 : Keep h0 T58.heap [x0, aI, aU, aS] := K48.trans K58c (allS (Or.inr sz_bS) all0)
  have Z68 : n0 ≤ T58.heap.size := Nat.le_trans Z38 K58c.1
  have st69 : Steps p.tables e below sE (T58.setTop (mkF m 98 #[.val (.ref x0), .val (.int (1 : Int32)), .val (.long x2), .second, .val (.int (1 : Int32))] [])) := st57.trans (sr58 _ (Steps.refl _))
  have st70 : Steps p.tables e below sE (T58.setTop (mkF m 103 #[.val (.ref x0), .val (.int (1 : Int32)), .val (.long x2), .second, .val (.int (1 : Int32))] [(.ref x0), (.ref x0), (.long x2), (.int (1 : Int32)), (.ref x0)])) := st69.trans (by
      show Steps _ _ _ (T58.setTop (mkF m 98 #[.val (.ref x0), .val (.int (1 : Int32)), .val (.long x2), .second, .val (.int (1 : Int32))] [])) _
      refine XS.aloadN X58.here hx rfl (hb hby d3_98) rfl rfl ?_
      show Steps _ _ _ (T58.setTop (mkF m 99 #[.val (.ref x0), .val (.int (1 : Int32)), .val (.long x2), .second, .val (.int (1 : Int32))] [(.ref x0)])) _
      refine XS.iloadN X58.here hx rfl (hb hby d3_99) rfl ?_
      show Steps _ _ _ (T58.setTop (mkF m 100 #[.val (.ref x0), .val (.int (1 : Int32)), .val (.long x2), .second, .val (.int (1 : Int32))] [(.int (1 : Int32)), (.ref x0)])) _
      refine XS.lloadN X58.here hx rfl (hb hby d3_100) rfl ?_
      show Steps _ _ _ (T58.setTop (mkF m 101 #[.val (.ref x0), .val (.int (1 : Int32)), .val (.long x2), .second, .val (.int (1 : Int32))] [(.long x2), (.int (1 : Int32)), (.ref x0)])) _
      refine XS.aloadN X58.here hx rfl (hb hby d3_101) rfl rfl ?_
      show Steps _ _ _ (T58.setTop (mkF m 102 #[.val (.ref x0), .val (.int (1 : Int32)), .val (.long x2), .second, .val (.int (1 : Int32))] [(.ref x0), (.long x2), (.int (1 : Int32)), (.ref x0)])) _
      refine XS.dup X58.here hx rfl (hb hby d3_102) rfl rfl ?_
      exact Steps.refl _)
  obtain ⟨T71, X71, e71, sr71⟩ := getF X58 hx hZ hown (host := "") (Or.inl (hw _ (List.mem_of_getElem? (i := 22) rfl))) Via.refl rfl f62 (g := (mkF m 103 #[.val (.ref x0), .val (.int (1 : Int32)), .val (.long x2), .second, .val (.int (1 : Int32))] [(.ref x0), (.ref x0), (.long x2), (.int (1 : Int32)), (.ref x0)])) rfl rfl (hb hby d3_103)
  have st72 : Steps p.tables e below sE (T71.setTop (mkF m 106 #[.val (.ref x0), .val (.int (1 : Int32)), .val (.long x2), .second, .val (.int (1 : Int32))] [(.int (1 : Int32)), (.ref x0), (.long x2), (.int (1 : Int32)), (.ref x0)])) := st70.trans (sr71 _ (Steps.refl _))
  have st73 : Steps p.tables e below sE (T71.setTop (mkF m 109 #[.val (.ref x0), .val (.int (1 : Int32)), .val (.long x2), .second, .val (.int (1 : Int32))] [(.int (2 : Int32)), (.ref x0), (.int (1 : Int32)), (.long x2), (.int (1 : Int32)), (.ref x0)])) := st72.trans (by
      show Steps _ _ _ (T71.setTop (mkF m 106 #[.val (.ref x0), .val (.int (1 : Int32)), .val (.long x2), .second, .val (.int (1 : Int32))] [(.int (1 : Int32)), (.ref x0), (.long x2), (.int (1 : Int32)), (.ref x0)])) _
      refine XS.dupX1 X71.here hx rfl (hb hby d3_106) rfl rfl rfl ?_
      show Steps _ _ _ (T71.setTop (mkF m 107 #[.val (.ref x0), .val (.int (1 : Int32)), .val (.long x2), .second, .val (.int (1 : Int32))] [(.int (1 : Int32)), (.ref x0), (.int (1 : Int32)), (.long x2), (.int (1 : Int32)), (.ref x0)])) _
      refine XS.iconst X71.here hx rfl (hb hby d3_107) ?_
      show Steps _ _ _ (T71.setTop (mkF m 108 #[.val (.ref x0), .val (.int (1 : Int32)), .val (.long x2), .second, .val (.int (1 : Int32))] [(.int (1 : Int32)), (.int (1 : Int32)), (.ref x0), (.int (1 : Int32)), (.long x2), (.int (1 : Int32)), (.ref x0)])) _
      refine XS.iadd X71.here hx rfl (hb hby d3_108) rfl ?_
      exact Steps.refl _)
  obtain ⟨T74, h74, X74, e74, W74, sr74⟩ := putF X71 hx hZ hown (host := "") (Or.inl (hw _ (List.mem_of_getElem? (i := 22) rfl))) Via.refl e71 f62 f59 (Or.inl (hw _ (List.mem_of_getElem? (i := 23) rfl))) (hw _ (List.mem_of_getElem? (i := 2) rfl)) (ty := .int) (by decide) rfl rfl (g := (mkF m 109 #[.val (.ref x0), .val (.int (1 : Int32)), .val (.long x2), .second, .val (.int (1 : Int32))] [(.int (2 : Int32)), (.ref x0), (.int (1 : Int32)), (.long x2), (.int (1 : Int32)), (.ref x0)])) rfl rfl (hb hby d3_109)
  have f75 : Exa Z h74 x0 "com/example/folioseek/folioseek/UseOrder" := f59.wr W74
  have f76 : Fld Z h74 x0 "com/example/folioseek/folioseek/UseOrder" "ids" "[I" (.ref aI) := f60.other W74 (Or.inr (slot_ne (Or.inl (hw _ (List.mem_of_getElem? (i := 12) rfl))) (Or.inl (hw _ (List.mem_of_getElem? (i := 23) rfl))) (by decide) (t := (.array .int)) (t' := .int) (by decide) (by decide)))
  have f77 : Fld Z h74 x0 "com/example/folioseek/folioseek/UseOrder" "uses" "[J" (.ref aU) := f61.other W74 (Or.inr (slot_ne (Or.inl (hw _ (List.mem_of_getElem? (i := 14) rfl))) (Or.inl (hw _ (List.mem_of_getElem? (i := 23) rfl))) (by decide) (t := (.array .long)) (t' := .int) (by decide) (by decide)))
  have f78 : Arv Z h74 aI kI .int (16 : Int32) (List.map Value.int LI) (.int (0 : Int32)) := f63.other W74 (Ne.symm ne_xi)
  have f79 : Arv Z h74 aU kU .long (16 : Int32) (List.map Value.long LU) (.long (0 : Int64)) := f64.other W74 (Ne.symm ne_xu)
  have f80 : Arv Z h74 aS kS .int (1 : Int32) (List.map Value.int LS) (.int (0 : Int32)) := f65.other W74 (Ne.symm ne_xs)
  have f81 : Fld Z h74 x0 "com/example/folioseek/folioseek/UseOrder" "slots" "[I" (.ref bS) := f66.other W74 (Or.inr (slot_ne (Or.inl (hw _ (List.mem_of_getElem? (i := 16) rfl))) (Or.inl (hw _ (List.mem_of_getElem? (i := 23) rfl))) (by decide) (t := (.array .int)) (t' := .int) (by decide) (by decide)))
  have f82 : Arv Z h74 bS kN .int (2 : Int32) (List.map Value.int ((LS ++ List.replicate 1 (0 : Int32)).set ((1 : Int32)).toNatClampNeg (-1 : Int32))) (.int (0 : Int32)) := f58_0.other W74 (Ne.symm ne_x0_bS)
  have f83 : Fld Z h74 x0 "com/example/folioseek/folioseek/UseOrder" "size" "I" (.int (2 : Int32)) := f62.same W74
  have K84 : Keep h0 h74 [x0, aI, aU, aS] := K67.wr W74 (Or.inl (List.mem_of_getElem? (i := 0) rfl))
  have Z74 : n0 ≤ h74.size := Nat.le_trans Z68 (Keep.of_wr W74).1
  have N74 := Fr.snoc X74 N58 g_x
  obtain ⟨LL74, X74, N74⟩ := own_hide X74 N74
  have st85 : Steps p.tables e below sE (T74.setTop (mkF m 112 #[.val (.ref x0), .val (.int (1 : Int32)), .val (.long x2), .second, .val (.int (1 : Int32))] [(.int (1 : Int32)), (.long x2), (.int (1 : Int32)), (.ref x0)])) := st73.trans (sr74 _ (Steps.refl _))
  obtain ⟨cq86, q86, q86'⟩ := f75.cell
  obtain ⟨_, _, ⟨T86, L86, k86, n86⟩, -, X86, ⟨Lc86, hQ86, l86, y86, z86⟩, sr86⟩ := X74.privateBack hx (y := (⟨"com/example/folioseek/folioseek/UseOrder", "place", "(IJI)V"⟩ : MethodName)) hown (mvT hZ (hw _ (List.mem_of_getElem? (i := 45) rfl))) (mvT hZ (hw _ (List.mem_of_getElem? (i := 46) rfl))) (own_selp (z := (⟨"com/example/folioseek/folioseek/UseOrder", "add", "(IJ)V"⟩ : MethodName)) rfl (notFace_of_selects (args := #[]) (mvT hZ (hw _ (List.mem_of_getElem? (i := 20) rfl)))) (args' := #[]) (mvT hZ (hw _ (List.mem_of_getElem? (i := 19) rfl))) (Cond.privateMethod_at (mvP hZ (hw _ (List.mem_of_getElem? (i := 47) rfl)) (args := #[]))) (mvT hZ (hw _ (List.mem_of_getElem? (i := 46) rfl))) (by decide)) (Cond.privateMethod_at (mvP hZ (hw _ (List.mem_of_getElem? (i := 47) rfl)) (args := #[]))) (mvT hZ (hw _ (List.mem_of_getElem? (i := 48) rfl))) (by decide) (backOf (W := 0) (rm9 l Z a0 hw [] x0 (1 : Int32) x2 (1 : Int32) aI aU bS kI kU kN LI LU ((LS ++ List.replicate 1 (0 : Int32)).set ((1 : Int32)).toNatClampNeg (-1 : Int32)) (2 : Int32) h74 n0 Z74 f76 f77 f81 f78 f79 f82 (by decide) (by decide) ⟨hP.1, hP.2.1, by decide, (by simp only [List.length_set, List.length_append, List.length_replicate, hP.2.2.1]; decide)⟩ g_i g_u g_bS ne_iu ne_aI_bS ne_aU_bS ne_xi ne_xu ne_x0_bS) hZ (hw _ (List.mem_of_getElem? (i := 48) rfl)) (hw _ (List.mem_of_getElem? (i := 3) rfl)) (by decide) (by decide)) (g := (mkF m 112 #[.val (.ref x0), .val (.int (1 : Int32)), .val (.long x2), .second, .val (.int (1 : Int32))] [(.int (1 : Int32)), (.long x2), (.int (1 : Int32)), (.ref x0)])) rfl (by rw [hml]; rfl) (Steps.refl _) (a := x0) (by rw [e74]; exact q86) q86' (argsL := [(.int (1 : Int32)), (.long x2), (.int (1 : Int32))]) (rest := []) (lenOf pd_0 rfl) rfl (by show 2 * 0 + _ ≤ _; exact Nat.le_of_eq rfl) (hb hby d3_112) (fun _ _ => ⟨rfl, e74, (by decide : 1 + 0 ≤ _), (by decide : 2 + 0 ≤ _)⟩)
  dsimp only [Pt.U, Pt.locs, Pt.cells, Pt.slots] at X86 l86 y86 z86 sr86 hQ86
  subst l86 y86 z86
  obtain ⟨rfl, N86q, K86c, f86_0, f86_1, f86_2⟩ := hQ86
  have N86 := Fr.app N74 N86q
  obtain ⟨LL86, X86, N86⟩ := own_hide X86 N86
  have f87 : Exa Z T86.heap x0 "com/example/folioseek/folioseek/UseOrder" := f75.keep K86c
  have f88 : Fld Z T86.heap x0 "com/example/folioseek/folioseek/UseOrder" "ids" "[I" (.ref aI) := f76.keep K86c (ninS ne_xi (ninS ne_xu (ninS ne_x0_bS nin0)))
  have f89 : Fld Z T86.heap x0 "com/example/folioseek/folioseek/UseOrder" "uses" "[J" (.ref aU) := f77.keep K86c (ninS ne_xi (ninS ne_xu (ninS ne_x0_bS nin0)))
  have f90 : Arv Z T86.heap aS kS .int (1 : Int32) (List.map Value.int LS) (.int (0 : Int32)) := f80.keep K86c (ninS (Ne.symm ne_is) (ninS (Ne.symm ne_us) (ninS ne_aS_bS nin0)))
  have f91 : Fld Z T86.heap x0 "com/example/folioseek/folioseek/UseOrder" "slots" "[I" (.ref bS) := f81.keep K86c (ninS ne_xi (ninS ne_xu (ninS ne_x0_bS nin0)))
  have f92 : Fld Z T86.heap x0 "com/example/folioseek/folioseek/UseOrder" "size" "I" (.int (2 : Int32)) := f83.keep K86c (ninS ne_xi (ninS ne_xu (ninS ne_x0_bS nin0)))
  have K93 : Keep h0 T86.heap [x0, aI, aU, aS] := K84.trans K86c (allS (Or.inl (List.mem_of_getElem? (i := 1) rfl)) (allS (Or.inl (List.mem_of_getElem? (i := 2) rfl)) (allS (Or.inr sz_bS) all0)))
  have Z94 : n0 ≤ T86.heap.size := Nat.le_trans Z74 K86c.1
  have st95 : Steps p.tables e below sE (T86.setTop (mkF m 115 #[.val (.ref x0), .val (.int (1 : Int32)), .val (.long x2), .second, .val (.int (1 : Int32))] [])) := st85.trans (sr86)
  have st96 : Steps p.tables e below sE (T86.setTop (mkF m 117 #[.val (.ref x0), .val (.int (1 : Int32)), .val (.long x2), .second, .val (.int (1 : Int32))] [(.ref x0), (.ref x0)])) := st95.trans (by
      show Steps _ _ _ (T86.setTop (mkF m 115 #[.val (.ref x0), .val (.int (1 : Int32)), .val (.long x2), .second, .val (.int (1 : Int32))] [])) _
      refine XS.aloadN X86.here hx rfl (hb hby d3_115) rfl rfl ?_
      show Steps _ _ _ (T86.setTop (mkF m 116 #[.val (.ref x0), .val (.int (1 : Int32)), .val (.long x2), .second, .val (.int (1 : Int32))] [(.ref x0)])) _
      refine XS.aloadN X86.here hx rfl (hb hby d3_116) rfl rfl ?_
      exact Steps.refl _)
  obtain ⟨T97, X97, e97, sr97⟩ := getF X86 hx hZ hown (host := "") (Or.inl (hw _ (List.mem_of_getElem? (i := 22) rfl))) Via.refl rfl f92 (g := (mkF m 117 #[.val (.ref x0), .val (.int (1 : Int32)), .val (.long x2), .second, .val (.int (1 : Int32))] [(.ref x0), (.ref x0)])) rfl rfl (hb hby d3_117)
  have st98 : Steps p.tables e below sE (T97.setTop (mkF m 120 #[.val (.ref x0), .val (.int (1 : Int32)), .val (.long x2), .second, .val (.int (1 : Int32))] [(.int (2 : Int32)), (.ref x0)])) := st96.trans (sr97 _ (Steps.refl _))
  have st99 : Steps p.tables e below sE (T97.setTop (mkF m 122 #[.val (.ref x0), .val (.int (1 : Int32)), .val (.long x2), .second, .val (.int (1 : Int32))] [(.int (1 : Int32)), (.ref x0)])) := st98.trans (by
      show Steps _ _ _ (T97.setTop (mkF m 120 #[.val (.ref x0), .val (.int (1 : Int32)), .val (.long x2), .second, .val (.int (1 : Int32))] [(.int (2 : Int32)), (.ref x0)])) _
      refine XS.iconst X97.here hx rfl (hb hby d3_120) ?_
      show Steps _ _ _ (T97.setTop (mkF m 121 #[.val (.ref x0), .val (.int (1 : Int32)), .val (.long x2), .second, .val (.int (1 : Int32))] [(.int (1 : Int32)), (.int (2 : Int32)), (.ref x0)])) _
      refine XS.isub X97.here hx rfl (hb hby d3_121) rfl ?_
      exact Steps.refl _)
  have hSl : (((LS ++ List.replicate 1 (0 : Int32)).set ((1 : Int32)).toNatClampNeg (-1 : Int32))).length = 2 := by simp only [List.length_set, List.length_append, List.length_replicate, hP.2.2.1]
  have hSg : ∀ i, i < 1 → (((LS ++ List.replicate 1 (0 : Int32)).set ((1 : Int32)).toNatClampNeg (-1 : Int32))).getD i 0 = LS.getD i 0 := by
    intro i hi
    rw [own_gsI _ _ _ _ (by simp only [List.length_set, List.length_append, List.length_replicate, hP.2.2.1]; decide), if_neg (show ¬ ((1 : Int32)).toNatClampNeg = i from fun q => by rw [show ((1 : Int32)).toNatClampNeg = 1 by decide] at q; omega), own_gg LS 1 i (by rw [hP.2.2.1]; exact hi)]
  have hP2 : own_P 2 2 (LI.set ((1 : Int32)).toNatClampNeg (1 : Int32)) (LU.set ((1 : Int32)).toNatClampNeg x2) (((LS ++ List.replicate 1 (0 : Int32)).set ((1 : Int32)).toNatClampNeg (-1 : Int32)).set ((1 : Int32)).toNatClampNeg (1 : Int32)) val (fun i => i < 2) := by
    have q := own_push (m' := 2) (S' := ((LS ++ List.replicate 1 (0 : Int32)).set ((1 : Int32)).toNatClampNeg (-1 : Int32))) hP (by decide) (by decide) (by decide) (by decide) hSl hSg
    rw [hv] at q
    exact q
  have hU2 : ∀ j, j < 2 → ¬ j = 1 → (((LU.set ((1 : Int32)).toNatClampNeg x2)).getD 0 0).toInt ≤ (((LU.set ((1 : Int32)).toNatClampNeg x2)).getD j 0).toInt := own_pushH hP.2.1 (by decide) hH x2
  obtain ⟨cq100, q100, q100'⟩ := f87.cell
  obtain ⟨_, _, ⟨T100, L100, k100, n100⟩, -, X100, ⟨Lc100, hQ100, l100, y100, z100⟩, sr100⟩ := X97.privateBack hx (y := (⟨"com/example/folioseek/folioseek/UseOrder", "siftUp", "(I)V"⟩ : MethodName)) hown (mvT hZ (hw _ (List.mem_of_getElem? (i := 49) rfl))) (mvT hZ (hw _ (List.mem_of_getElem? (i := 50) rfl))) (own_selp (z := (⟨"com/example/folioseek/folioseek/UseOrder", "add", "(IJ)V"⟩ : MethodName)) rfl (notFace_of_selects (args := #[]) (mvT hZ (hw _ (List.mem_of_getElem? (i := 20) rfl)))) (args' := #[]) (mvT hZ (hw _ (List.mem_of_getElem? (i := 19) rfl))) (Cond.privateMethod_at (mvP hZ (hw _ (List.mem_of_getElem? (i := 51) rfl)) (args := #[]))) (mvT hZ (hw _ (List.mem_of_getElem? (i := 50) rfl))) (by decide)) (Cond.privateMethod_at (mvP hZ (hw _ (List.mem_of_getElem? (i := 51) rfl)) (args := #[]))) (mvT hZ (hw _ (List.mem_of_getElem? (i := 52) rfl))) (by decide) (backOf (W := 0) (rm10 l Z a0 hw [] x0 (1 : Int32) aI aU bS kI kU kN (LI.set ((1 : Int32)).toNatClampNeg (1 : Int32)) (LU.set ((1 : Int32)).toNatClampNeg x2) (((LS ++ List.replicate 1 (0 : Int32)).set ((1 : Int32)).toNatClampNeg (-1 : Int32)).set ((1 : Int32)).toNatClampNeg (1 : Int32)) (2 : Int32) 2 val (fun i => i < 2) T86.heap n0 Z94 f87 f88 f89 f91 f86_0 f86_1 f86_2 hP2 (by decide) hU2 g_i g_u g_bS ne_iu ne_aI_bS ne_aU_bS ne_xi ne_xu ne_x0_bS) hZ (hw _ (List.mem_of_getElem? (i := 52) rfl)) (hw _ (List.mem_of_getElem? (i := 3) rfl)) (by decide) (by decide)) (g := (mkF m 122 #[.val (.ref x0), .val (.int (1 : Int32)), .val (.long x2), .second, .val (.int (1 : Int32))] [(.int (1 : Int32)), (.ref x0)])) rfl (by rw [hml]; rfl) (Steps.refl _) (a := x0) (by rw [e97]; exact q100) q100' (argsL := [(.int (1 : Int32))]) (rest := []) (lenOf pd_5 rfl) rfl (by show 2 * 0 + _ ≤ _; exact Nat.le_of_eq rfl) (hb hby d3_122) (fun _ _ => ⟨rfl, e97, (by decide : 1 + 0 ≤ _), (by decide : 2 + 0 ≤ _)⟩)
  dsimp only [Pt.U, Pt.locs, Pt.cells, Pt.slots] at X100 l100 y100 z100 sr100 hQ100
  subst l100 y100 z100
  obtain ⟨rfl, N100q, K100c, ⟨LI', LU', LS', qI, qU, qS, hP', hH'⟩⟩ := hQ100
  have N100 := Fr.app N86 N100q
  obtain ⟨LL100, X100, N100⟩ := own_hide X100 N100
  have f101 : Exa Z T100.heap x0 "com/example/folioseek/folioseek/UseOrder" := f87.keep K100c
  have f102 : Fld Z T100.heap x0 "com/example/folioseek/folioseek/UseOrder" "ids" "[I" (.ref aI) := f88.keep K100c (ninS ne_xi (ninS ne_xu (ninS ne_x0_bS nin0)))
  have f103 : Fld Z T100.heap x0 "com/example/folioseek/folioseek/UseOrder" "uses" "[J" (.ref aU) := f89.keep K100c (ninS ne_xi (ninS ne_xu (ninS ne_x0_bS nin0)))
  have f104 : Arv Z T100.heap aS kS .int (1 : Int32) (List.map Value.int LS) (.int (0 : Int32)) := f90.keep K100c (ninS (Ne.symm ne_is) (ninS (Ne.symm ne_us) (ninS ne_aS_bS nin0)))
  have f105 : Fld Z T100.heap x0 "com/example/folioseek/folioseek/UseOrder" "slots" "[I" (.ref bS) := f91.keep K100c (ninS ne_xi (ninS ne_xu (ninS ne_x0_bS nin0)))
  have f106 : Fld Z T100.heap x0 "com/example/folioseek/folioseek/UseOrder" "size" "I" (.int (2 : Int32)) := f92.keep K100c (ninS ne_xi (ninS ne_xu (ninS ne_x0_bS nin0)))
  have K107 : Keep h0 T100.heap [x0, aI, aU, aS] := K93.trans K100c (allS (Or.inl (List.mem_of_getElem? (i := 1) rfl)) (allS (Or.inl (List.mem_of_getElem? (i := 2) rfl)) (allS (Or.inr sz_bS) all0)))
  have Z108 : n0 ≤ T100.heap.size := Nat.le_trans Z94 K100c.1
  have st109 : Steps p.tables e below sE (T100.setTop (mkF m 125 #[.val (.ref x0), .val (.int (1 : Int32)), .val (.long x2), .second, .val (.int (1 : Int32))] [])) := st99.trans (sr100)
  obtain ⟨fs, hr, hrun, hended, hW, hsame⟩ := X100.leave (v := none) (fun _ => rfl) hlk
  refine ⟨_, _, (own_ent hsE st109).trans ?_, hrun, hended, _, _, rfl, ?_, ⟨_, rfl⟩, hW, hsame.mono (by decide) (by decide)⟩
  · exact X100.returnOut hx Bd.returns (hb hby d3_125) hr
  · show Qad1 Z x0 x2 aI aU aS kI kU kS LI LU LS val h0 n0 _ T100.heap _
    exact ⟨rfl, N100, K107, f101, f102, f103, f106, ⟨bS, _, LI', LU', LS', f105, qI, qU, qS, hP', hH', g_bS, ne_aI_bS, ne_aU_bS, ne_x0_bS, Or.inr sz_bS⟩⟩
theorem ef_ad2 (m : MethodId) (x0 : Addr) (x2 : Int64)  : entryFrame m #[(.ref x0), (.int (2 : Int32)), (.long x2)] 5 = mkF m 0 #[.val (.ref x0), .val (.int (2 : Int32)), .val (.long x2), .second, .unset] [] := by first | (simp [entryFrame, mkF, argsToLocals, Value.category]; done) | rfl
def Qad2 (Z : State) (x0 : Addr) (x2 : Int64) (aI : Addr) (aU : Addr) (aS : Addr) (kI : ClassId) (kU : ClassId) (kS : ClassId) (LI : List Int32) (LU : List Int64) (LS : List Int32) (val : Nat → Int64) (h0 : Heap) (n0 : Nat) (vE : Option Value) (hE : Heap) (LE : List Loc) : Prop := vE = none ∧ Fr n0 LE ∧ Keep h0 hE [x0, aI, aU, aS] ∧ Exa Z hE x0 "com/example/folioseek/folioseek/UseOrder" ∧ Fld Z hE x0 "com/example/folioseek/folioseek/UseOrder" "ids" "[I" (.ref aI) ∧ Fld Z hE x0 "com/example/folioseek/folioseek/UseOrder" "uses" "[J" (.ref aU) ∧ Fld Z hE x0 "com/example/folioseek/folioseek/UseOrder" "size" "I" (.int (3 : Int32)) ∧ (∃ (aT : Addr) (kT : ClassId) (LI' : List Int32) (LU' : List Int64) (LS' : List Int32), Fld Z hE x0 "com/example/folioseek/folioseek/UseOrder" "slots" "[I" (.ref aT) ∧ Arv Z hE aI kI .int (16 : Int32) (List.map Value.int LI') (.int (0 : Int32)) ∧ Arv Z hE aU kU .long (16 : Int32) (List.map Value.long LU') (.long (0 : Int64)) ∧ Arv Z hE aT kT .int (4 : Int32) (List.map Value.int LS') (.int (0 : Int32)) ∧ own_P 3 4 LI' LU' LS' val (fun i => i < 3) ∧ own_H 3 LU' ∧ n0 ≤ aT ∧ aI ≠ aT ∧ aU ≠ aT ∧ x0 ≠ aT ∧ (aT = aS ∨ h0.size ≤ aT))
set_option maxRecDepth 65536 in
set_option maxHeartbeats 40000000 in
theorem rmad2 (l : Launch) (Z : State) (a0 : Array Value) (hw : ∀ d ∈ tables_1, d.before a0 Z = true) (ws : List Jvm.Cond) (x0 : Addr) (x2 : Int64) (aI : Addr) (aU : Addr) (aS : Addr) (kI : ClassId) (kU : ClassId) (kS : ClassId) (LI : List Int32) (LU : List Int64) (LS : List Int32) (val : Nat → Int64) (h0 : Heap) (n0 : Nat) (Z0 : n0 ≤ h0.size) (E_x : Exa Z h0 x0 "com/example/folioseek/folioseek/UseOrder") (F_i : Fld Z h0 x0 "com/example/folioseek/folioseek/UseOrder" "ids" "[I" (.ref aI)) (F_u : Fld Z h0 x0 "com/example/folioseek/folioseek/UseOrder" "uses" "[J" (.ref aU)) (F_s : Fld Z h0 x0 "com/example/folioseek/folioseek/UseOrder" "slots" "[I" (.ref aS)) (F_z : Fld Z h0 x0 "com/example/folioseek/folioseek/UseOrder" "size" "I" (.int (2 : Int32))) (A_i : Arv Z h0 aI kI .int (16 : Int32) (List.map Value.int LI) (.int (0 : Int32))) (A_u : Arv Z h0 aU kU .long (16 : Int32) (List.map Value.long LU) (.long (0 : Int64))) (A_s : Arv Z h0 aS kS .int (2 : Int32) (List.map Value.int LS) (.int (0 : Int32))) (hP : own_P 2 2 LI LU LS val (fun i => i < 2)) (hH : own_H 2 LU) (hv : val 2 = x2) (g_x : n0 ≤ x0) (g_i : n0 ≤ aI) (g_u : n0 ≤ aU) (g_s : n0 ≤ aS) (ne_iu : aI ≠ aU) (ne_is : aI ≠ aS) (ne_us : aU ≠ aS) (ne_xi : x0 ≠ aI) (ne_xu : x0 ≠ aU) (ne_xs : x0 ≠ aS) :
    MetFree l (⟨"com/example/folioseek/folioseek/UseOrder", "add", "(IJ)V"⟩ : MethodName) (head1 (Jvm.Cond.code (⟨"com/example/folioseek/folioseek/UseOrder", "add", "(IJ)V"⟩ : MethodName) prog_24_method_5_code 5 none :: ws) ({ frames := 2, cells := 1, slots := 4, locals := 33 } : Room)) (fun a U => a = #[(.ref x0), (.int (2 : Int32)), (.long x2)] ∧ Z.Warmed39 U.vm ∧ U.heap = h0) (fun _ _ _ _ _ => True) (fun _ U o U' => ∃ vE LE, o = .returned vE ∧ Qad2 Z x0 x2 aI aU aS kI kU kS LI LU LS val h0 n0 vE U'.heap LE ∧ FrameEnd U o U' LE ({ frames := 2, cells := 1, slots := 4, locals := 33 } : Room).cells ({ frames := 2, cells := 1, slots := 4, locals := 33 } : Room).slots) := by
  refine MetFree.of_bodySF (plainFor_of_name pn_1) hisR ?_
  intro p e s m args below meth c s₁ Bd hml0 hP hK
  obtain ⟨rfl, hZ, hh⟩ := hP
  have hx := Bd.exec
  have hby := Bd.bytes
  have hml : c.maxLocals = 5 := hml0
  have hown : s.vm.findClass "com/example/folioseek/folioseek/UseOrder" = some m.cls := findClass_of_methodNamed Bd.named
  have hnm := (name_of_methodNamed Bd.named Bd.method).1
  have hlk : meth.locks = false := BodyLoose.notSynchronized Bd
  have X0 : Stand p l e ({ frames := 2, cells := 1, slots := 4, locals := 33 } : Room) s m #[(.ref x0), (.int (2 : Int32)), (.long x2)] below meth c s₁ [] 0 0 := Stand.of_body Bd
  have e0 : s₁.heap = h0 := by rw [← hh, Bd.state]; rfl
  have N0 := Fr.nil n0
  obtain ⟨sE, hsE⟩ : ∃ z, z = (s₁.setTop (entryFrame m #[(.ref x0), (.int (2 : Int32)), (.long x2)] 5)) := ⟨_, rfl⟩
  have st0 : Steps p.tables e below sE (s₁.setTop (mkF m 0 #[.val (.ref x0), .val (.int (2 : Int32)), .val (.long x2), .second, .unset] [])) := by rw [hsE]; exact castTop (ef_ad2 m x0 x2) (Steps.refl _)
  have K0 : Keep h0 h0 [x0, aI, aU, aS] := Keep.refl _ _
  have st1 : Steps p.tables e below sE (s₁.setTop (mkF m 1 #[.val (.ref x0), .val (.int (2 : Int32)), .val (.long x2), .second, .unset] [(.ref x0)])) := st0.trans (by
      show Steps _ _ _ (s₁.setTop (mkF m 0 #[.val (.ref x0), .val (.int (2 : Int32)), .val (.long x2), .second, .unset] [])) _
      refine XS.aloadN X0.here hx rfl (hb hby d3_0) rfl rfl ?_
      exact Steps.refl _)
  obtain ⟨T2, X2, e2, sr2⟩ := getF X0 hx hZ hown (host := "") (Or.inl (hw _ (List.mem_of_getElem? (i := 22) rfl))) Via.refl e0 F_z (g := (mkF m 1 #[.val (.ref x0), .val (.int (2 : Int32)), .val (.long x2), .second, .unset] [(.ref x0)])) rfl rfl (hb hby d3_1)
  have st3 : Steps p.tables e below sE (T2.setTop (mkF m 4 #[.val (.ref x0), .val (.int (2 : Int32)), .val (.long x2), .second, .unset] [(.int (2 : Int32))])) := st1.trans (sr2 _ (Steps.refl _))
  have st4 : Steps p.tables e below sE (T2.setTop (mkF m 5 #[.val (.ref x0), .val (.int (2 : Int32)), .val (.long x2), .second, .unset] [(.ref x0), (.int (2 : Int32))])) := st3.trans (by
      show Steps _ _ _ (T2.setTop (mkF m 4 #[.val (.ref x0), .val (.int (2 : Int32)), .val (.long x2), .second, .unset] [(.int (2 : Int32))])) _
      refine XS.aloadN X2.here hx rfl (hb hby d3_4) rfl rfl ?_
      exact Steps.refl _)
  obtain ⟨T5, X5, e5, sr5⟩ := getF X2 hx hZ hown (host := "") (Or.inl (hw _ (List.mem_of_getElem? (i := 11) rfl))) Via.refl e2 F_i (g := (mkF m 5 #[.val (.ref x0), .val (.int (2 : Int32)), .val (.long x2), .second, .unset] [(.ref x0), (.int (2 : Int32))])) rfl rfl (hb hby d3_5)
  have st6 : Steps p.tables e below sE (T5.setTop (mkF m 8 #[.val (.ref x0), .val (.int (2 : Int32)), .val (.long x2), .second, .unset] [(.ref aI), (.int (2 : Int32))])) := st4.trans (sr5 _ (Steps.refl _))
  obtain ⟨cl7, Ar7, -, S7, N7, -, -⟩ := id A_i
  have st8 : Steps p.tables e below sE (T5.setTop (mkF m 9 #[.val (.ref x0), .val (.int (2 : Int32)), .val (.long x2), .second, .unset] [(.int (16 : Int32)), (.int (2 : Int32))])) := st6.trans (by
      show Steps _ _ _ (T5.setTop (mkF m 8 #[.val (.ref x0), .val (.int (2 : Int32)), .val (.long x2), .second, .unset] [(.ref aI), (.int (2 : Int32))])) _
      refine X5.arraylength hx (by rw [e5]; exact Ar7.1) (State.isArrayOf_alike hZ.alike Ar7.2.1) (g := (mkF m 8 #[.val (.ref x0), .val (.int (2 : Int32)), .val (.long x2), .second, .unset] [(.ref aI), (.int (2 : Int32))])) rfl rfl (hb hby d3_8) _ ?_
      rw [len_of S7 N7]
      exact Steps.refl _)
  have hf9 : ¬ ((2 : Int32) = (16 : Int32)) := by decide
  have st10 : Steps p.tables e below sE (T5.setTop (mkF m 48 #[.val (.ref x0), .val (.int (2 : Int32)), .val (.long x2), .second, .unset] [(.ref x0), (.int (2 : Int32))])) := st8.trans (by
      show Steps _ _ _ (T5.setTop (mkF m 9 #[.val (.ref x0), .val (.int (2 : Int32)), .val (.long x2), .second, .unset] [(.int (16 : Int32)), (.int (2 : Int32))])) _
      refine XS.icmpYes X5.here hx rfl (pc0 := 9) (pc' := 46) rfl (hb hby d3_9) rfl (feq hf9).2 (by decide) (by decide) ?_
      show Steps _ _ _ (T5.setTop (mkF m 46 #[.val (.ref x0), .val (.int (2 : Int32)), .val (.long x2), .second, .unset] [])) _
      refine XS.iloadN X5.here hx rfl (hb hby d3_46) rfl ?_
      show Steps _ _ _ (T5.setTop (mkF m 47 #[.val (.ref x0), .val (.int (2 : Int32)), .val (.long x2), .second, .unset] [(.int (2 : Int32))])) _
      refine XS.aloadN X5.here hx rfl (hb hby d3_47) rfl rfl ?_
      exact Steps.refl _)
  obtain ⟨T11, X11, e11, sr11⟩ := getF X5 hx hZ hown (host := "") (Or.inl (hw _ (List.mem_of_getElem? (i := 15) rfl))) Via.refl e5 F_s (g := (mkF m 48 #[.val (.ref x0), .val (.int (2 : Int32)), .val (.long x2), .second, .unset] [(.ref x0), (.int (2 : Int32))])) rfl rfl (hb hby d3_48)
  have st12 : Steps p.tables e below sE (T11.setTop (mkF m 51 #[.val (.ref x0), .val (.int (2 : Int32)), .val (.long x2), .second, .unset] [(.ref aS), (.int (2 : Int32))])) := st10.trans (sr11 _ (Steps.refl _))
  obtain ⟨cl13, Ar13, -, S13, N13, -, -⟩ := id A_s
  have st14 : Steps p.tables e below sE (T11.setTop (mkF m 52 #[.val (.ref x0), .val (.int (2 : Int32)), .val (.long x2), .second, .unset] [(.int (2 : Int32)), (.int (2 : Int32))])) := st12.trans (by
      show Steps _ _ _ (T11.setTop (mkF m 51 #[.val (.ref x0), .val (.int (2 : Int32)), .val (.long x2), .second, .unset] [(.ref aS), (.int (2 : Int32))])) _
      refine X11.arraylength hx (by rw [e11]; exact Ar13.1) (State.isArrayOf_alike hZ.alike Ar13.2.1) (g := (mkF m 51 #[.val (.ref x0), .val (.int (2 : Int32)), .val (.long x2), .second, .unset] [(.ref aS), (.int (2 : Int32))])) rfl rfl (hb hby d3_51) _ ?_
      rw [len_of S13 N13]
      exact Steps.refl _)
  have hf15 : ¬ ((2 : Int32) < (2 : Int32)) := by decide
  have st16 : Steps p.tables e below sE (T11.setTop (mkF m 56 #[.val (.ref x0), .val (.int (2 : Int32)), .val (.long x2), .second, .unset] [(.ref x0)])) := st14.trans (by
      show Steps _ _ _ (T11.setTop (mkF m 52 #[.val (.ref x0), .val (.int (2 : Int32)), .val (.long x2), .second, .unset] [(.int (2 : Int32)), (.int (2 : Int32))])) _
      refine XS.icmpNo X11.here hx rfl (hb hby d3_52) rfl (flt hf15).1 ?_
      show Steps _ _ _ (T11.setTop (mkF m 55 #[.val (.ref x0), .val (.int (2 : Int32)), .val (.long x2), .second, .unset] [])) _
      refine XS.aloadN X11.here hx rfl (hb hby d3_55) rfl rfl ?_
      exact Steps.refl _)
  obtain ⟨T17, X17, e17, sr17⟩ := getF X11 hx hZ hown (host := "") (Or.inl (hw _ (List.mem_of_getElem? (i := 15) rfl))) Via.refl e11 F_s (g := (mkF m 56 #[.val (.ref x0), .val (.int (2 : Int32)), .val (.long x2), .second, .unset] [(.ref x0)])) rfl rfl (hb hby d3_56)
  have st18 : Steps p.tables e below sE (T17.setTop (mkF m 59 #[.val (.ref x0), .val (.int (2 : Int32)), .val (.long x2), .second, .unset] [(.ref aS)])) := st16.trans (sr17 _ (Steps.refl _))
  obtain ⟨cl19, Ar19, -, S19, N19, -, -⟩ := id A_s
  have st20 : Steps p.tables e below sE (T17.setTop (mkF m 64 #[.val (.ref x0), .val (.int (2 : Int32)), .val (.long x2), .second, .val (.int (2 : Int32))] [(.ref x0), (.ref x0)])) := st18.trans (by
      show Steps _ _ _ (T17.setTop (mkF m 59 #[.val (.ref x0), .val (.int (2 : Int32)), .val (.long x2), .second, .unset] [(.ref aS)])) _
      refine X17.arraylength hx (by rw [e17]; exact Ar19.1) (State.isArrayOf_alike hZ.alike Ar19.2.1) (g := (mkF m 59 #[.val (.ref x0), .val (.int (2 : Int32)), .val (.long x2), .second, .unset] [(.ref aS)])) rfl rfl (hb hby d3_59) _ ?_
      rw [len_of S19 N19]
      show Steps _ _ _ (T17.setTop (mkF m 60 #[.val (.ref x0), .val (.int (2 : Int32)), .val (.long x2), .second, .unset] [(.int (2 : Int32))])) _
      refine XS.istore X17.here hx rfl (hb hby d3_60) rfl (l' := #[.val (.ref x0), .val (.int (2 : Int32)), .val (.long x2), .second, .val (.int (2 : Int32))]) rfl ?_
      show Steps _ _ _ (T17.setTop (mkF m 62 #[.val (.ref x0), .val (.int (2 : Int32)), .val (.long x2), .second, .val (.int (2 : Int32))] [])) _
      refine XS.aloadN X17.here hx rfl (hb hby d3_62) rfl rfl ?_
      show Steps _ _ _ (T17.setTop (mkF m 63 #[.val (.ref x0), .val (.int (2 : Int32)), .val (.long x2), .second, .val (.int (2 : Int32))] [(.ref x0)])) _
      refine XS.aloadN X17.here hx rfl (hb hby d3_63) rfl rfl ?_
      exact Steps.refl _)
  obtain ⟨T21, X21, e21, sr21⟩ := getF X17 hx hZ hown (host := "") (Or.inl (hw _ (List.mem_of_getElem? (i := 15) rfl))) Via.refl e17 F_s (g := (mkF m 64 #[.val (.ref x0), .val (.int (2 : Int32)), .val (.long x2), .second, .val (.int (2 : Int32))] [(.ref x0), (.ref x0)])) rfl rfl (hb hby d3_64)
  have st22 : Steps p.tables e below sE (T21.setTop (mkF m 67 #[.val (.ref x0), .val (.int (2 : Int32)), .val (.long x2), .second, .val (.int (2 : Int32))] [(.ref aS), (.ref x0)])) := st20.trans (sr21 _ (Steps.refl _))
  have st23 : Steps p.tables e below sE (T21.setTop (mkF m 74 #[.val (.ref x0), .val (.int (2 : Int32)), .val (.long x2), .second, .val (.int (2 : Int32))] [(.int (4 : Int32)), (.int (3 : Int32)), (.ref aS), (.ref x0)])) := st22.trans (by
      show Steps _ _ _ (T21.setTop (mkF m 67 #[.val (.ref x0), .val (.int (2 : Int32)), .val (.long x2), .second, .val (.int (2 : Int32))] [(.ref aS), (.ref x0)])) _
      refine XS.iloadN X21.here hx rfl (hb hby d3_67) rfl ?_
      show Steps _ _ _ (T21.setTop (mkF m 68 #[.val (.ref x0), .val (.int (2 : Int32)), .val (.long x2), .second, .val (.int (2 : Int32))] [(.int (2 : Int32)), (.ref aS), (.ref x0)])) _
      refine XS.iconst X21.here hx rfl (hb hby d3_68) ?_
      show Steps _ _ _ (T21.setTop (mkF m 69 #[.val (.ref x0), .val (.int (2 : Int32)), .val (.long x2), .second, .val (.int (2 : Int32))] [(.int (1 : Int32)), (.int (2 : Int32)), (.ref aS), (.ref x0)])) _
      refine XS.iadd X21.here hx rfl (hb hby d3_69) rfl ?_
      show Steps _ _ _ (T21.setTop (mkF m 70 #[.val (.ref x0), .val (.int (2 : Int32)), .val (.long x2), .second, .val (.int (2 : Int32))] [(.int (3 : Int32)), (.ref aS), (.ref x0)])) _
      refine XS.iconst X21.here hx rfl (hb hby d3_70) ?_
      show Steps _ _ _ (T21.setTop (mkF m 71 #[.val (.ref x0), .val (.int (2 : Int32)), .val (.long x2), .second, .val (.int (2 : Int32))] [(.int (2 : Int32)), (.int (3 : Int32)), (.ref aS), (.ref x0)])) _
      refine XS.iload X21.here hx rfl (hb hby d3_71) rfl ?_
      show Steps _ _ _ (T21.setTop (mkF m 73 #[.val (.ref x0), .val (.int (2 : Int32)), .val (.long x2), .second, .val (.int (2 : Int32))] [(.int (2 : Int32)), (.int (2 : Int32)), (.int (3 : Int32)), (.ref aS), (.ref x0)])) _
      refine XS.imul X21.here hx rfl (hb hby d3_73) rfl ?_
      exact Steps.refl _)
  obtain ⟨_, _, ⟨T24, L24, k24, n24⟩, -, X24, ⟨Lc24, hQ24, l24, y24, z24⟩, sr24⟩ := Jvm.LawKit.callS X21 hx (y := (⟨"java/lang/Math", "max", "(II)I"⟩ : MethodName)) hown (mvT hZ (hw _ (List.mem_of_getElem? (i := 24) rfl))) (mvT hZ (hw _ (List.mem_of_getElem? (i := 25) rfl))) (mvT hZ (hw _ (List.mem_of_getElem? (i := 26) rfl))) (mvT hZ (hw _ (List.mem_of_getElem? (i := 27) rfl))) (by decide) (backOf (W := 2) (rm4 l Z a0 hw [] (3 : Int32) (4 : Int32)  h0 n0 Z0 ) hZ (hw _ (List.mem_of_getElem? (i := 27) rfl)) (hw _ (List.mem_of_getElem? (i := 26) rfl)) (by decide) (by decide)) (g := (mkF m 74 #[.val (.ref x0), .val (.int (2 : Int32)), .val (.long x2), .second, .val (.int (2 : Int32))] [(.int (4 : Int32)), (.int (3 : Int32)), (.ref aS), (.ref x0)])) rfl (by rw [hml]; rfl) (argsL := [(.int (3 : Int32)), (.int (4 : Int32))]) (rest := [(.ref aS), (.ref x0)]) (lenOf pd_1 rfl) rfl (by show 2 * 0 + _ ≤ _; exact Nat.le_of_eq rfl) (hb hby d3_74) (fun _ _ => ⟨rfl, e21, (by decide : 0 + 0 ≤ _), (by decide : 0 + 0 ≤ _)⟩)
  dsimp only [Pt.U, Pt.locs, Pt.cells, Pt.slots] at X24 l24 y24 z24 sr24 hQ24
  subst l24 y24 z24
  obtain ⟨rfl, N24q, hh24⟩ := hQ24
  have N24 := Fr.app N0 N24q
  obtain ⟨LL24, X24, N24⟩ := own_hide X24 N24
  have st25 : Steps p.tables e below sE (T24.setTop (mkF m 77 #[.val (.ref x0), .val (.int (2 : Int32)), .val (.long x2), .second, .val (.int (2 : Int32))] [(.int (F4 (3 : Int32) (4 : Int32))), (.ref aS), (.ref x0)])) := st23.trans (sr24 _ (Steps.refl _))
  have hmx : (F4 (3 : Int32) (4 : Int32)) = (4 : Int32) := by decide
  rw [hmx] at st25
  obtain ⟨_, _, ⟨T26, L26, k26, n26⟩, -, X26, ⟨Lc26, hQ26, l26, y26, z26⟩, sr26⟩ := Jvm.LawKit.callS X24 hx (y := (⟨"java/util/Arrays", "copyOf", "([II)[I"⟩ : MethodName)) hown (mvT hZ (hw _ (List.mem_of_getElem? (i := 28) rfl))) (mvT hZ (hw _ (List.mem_of_getElem? (i := 29) rfl))) (mvT hZ (hw _ (List.mem_of_getElem? (i := 30) rfl))) (mvT hZ (hw _ (List.mem_of_getElem? (i := 31) rfl))) (by decide) (backOf (W := 1) (rmcp2 l Z a0 hw [] aS kS LS h0 n0 Z0 A_s hP.2.2.1) hZ (hw _ (List.mem_of_getElem? (i := 31) rfl)) (hw _ (List.mem_of_getElem? (i := 30) rfl)) (by decide) (by decide)) (g := (mkF m 77 #[.val (.ref x0), .val (.int (2 : Int32)), .val (.long x2), .second, .val (.int (2 : Int32))] [(.int (4 : Int32)), (.ref aS), (.ref x0)])) rfl (by rw [hml]; rfl) (argsL := [(.ref aS), (.int (4 : Int32))]) (rest := [(.ref x0)]) (lenOf pd_3 rfl) rfl (by show 2 * 0 + _ ≤ _; exact Nat.le_of_eq rfl) (hb hby d3_77) (fun _ _ => ⟨rfl, hh24, (by decide : 0 + 1 ≤ _), (by decide : 0 + 4 ≤ _)⟩)
  dsimp only [Pt.U, Pt.locs, Pt.cells, Pt.slots] at X26 l26 y26 z26 sr26 hQ26
  subst l26 y26 z26
  obtain ⟨rfl, N26q, K26c, ⟨kN, qbS⟩⟩ := hQ26
  have N26 := Fr.app N24 N26q
  obtain ⟨LL26, X26, N26⟩ := own_hide X26 N26
  have f27 : Exa Z T26.heap x0 "com/example/folioseek/folioseek/UseOrder" := E_x.keep K26c
  have f28 : Fld Z T26.heap x0 "com/example/folioseek/folioseek/UseOrder" "ids" "[I" (.ref aI) := F_i.keep K26c nin0
  have f29 : Fld Z T26.heap x0 "com/example/folioseek/folioseek/UseOrder" "uses" "[J" (.ref aU) := F_u.keep K26c nin0
  have f30 : Fld Z T26.heap x0 "com/example/folioseek/folioseek/UseOrder" "slots" "[I" (.ref aS) := F_s.keep K26c nin0
  have f31 : Fld Z T26.heap x0 "com/example/folioseek/folioseek/UseOrder" "size" "I" (.int (2 : Int32)) := F_z.keep K26c nin0
  have f32 : Arv Z T26.heap aI kI .int (16 : Int32) (List.map Value.int LI) (.int (0 : Int32)) := A_i.keep K26c nin0
  have f33 : Arv Z T26.heap aU kU .long (16 : Int32) (List.map Value.long LU) (.long (0 : Int64)) := A_u.keep K26c nin0
  have f34 : Arv Z T26.heap aS kS .int (2 : Int32) (List.map Value.int LS) (.int (0 : Int32)) := A_s.keep K26c nin0
  have K35 : Keep h0 T26.heap [x0, aI, aU, aS] := K0.trans K26c all0
  have Z36 : n0 ≤ T26.heap.size := Nat.le_trans Z0 K26c.1
  obtain ⟨bS, gbS⟩ : ∃ z, z = h0.size := ⟨_, rfl⟩
  rw [← gbS] at qbS sr26
  have g_bS : n0 ≤ bS := Nat.le_trans Z0 (Nat.le_of_eq gbS.symm)
  have sz_bS : h0.size ≤ bS := Nat.le_trans K0.1 (Nat.le_of_eq gbS.symm)
  have ne_x0_bS : x0 ≠ bS := Nat.ne_of_lt (Nat.lt_of_lt_of_le E_x.lt (Nat.le_of_eq gbS.symm))
  have ne_aI_bS : aI ≠ bS := Nat.ne_of_lt (Nat.lt_of_lt_of_le A_i.lt (Nat.le_of_eq gbS.symm))
  have ne_aU_bS : aU ≠ bS := Nat.ne_of_lt (Nat.lt_of_lt_of_le A_u.lt (Nat.le_of_eq gbS.symm))
  have ne_aS_bS : aS ≠ bS := Nat.ne_of_lt (Nat.lt_of_lt_of_le A_s.lt (Nat.le_of_eq gbS.symm))
  have st37 : Steps p.tables e below sE (T26.setTop (mkF m 80 #[.val (.ref x0), .val (.int (2 : Int32)), .val (.long x2), .second, .val (.int (2 : Int32))] [(.ref bS), (.ref x0)])) := st25.trans (sr26 _ (Steps.refl _))
  obtain ⟨T38, h38, X38, e38, W38, sr38⟩ := putF X26 hx hZ hown (host := "") (Or.inl (hw _ (List.mem_of_getElem? (i := 15) rfl))) Via.refl rfl f30 f27 (Or.inl (hw _ (List.mem_of_getElem? (i := 16) rfl))) (hw _ (List.mem_of_getElem? (i := 2) rfl)) (ty := (.array .int)) (by decide) rfl rfl (g := (mkF m 80 #[.val (.ref x0), .val (.int (2 : Int32)), .val (.long x2), .second, .val (.int (2 : Int32))] [(.ref bS), (.ref x0)])) rfl rfl (hb hby d3_80)
  have f39 : Exa Z h38 x0 "com/example/folioseek/folioseek/UseOrder" := f27.wr W38
  have f40 : Fld Z h38 x0 "com/example/folioseek/folioseek/UseOrder" "ids" "[I" (.ref aI) := f28.other W38 (Or.inr (slot_ne (Or.inl (hw _ (List.mem_of_getElem? (i := 12) rfl))) (Or.inl (hw _ (List.mem_of_getElem? (i := 16) rfl))) (by decide) (t := (.array .int)) (t' := (.array .int)) (by decide) (by decide)))
  have f41 : Fld Z h38 x0 "com/example/folioseek/folioseek/UseOrder" "uses" "[J" (.ref aU) := f29.other W38 (Or.inr (slot_ne (Or.inl (hw _ (List.mem_of_getElem? (i := 14) rfl))) (Or.inl (hw _ (List.mem_of_getElem? (i := 16) rfl))) (by decide) (t := (.array .long)) (t' := (.array .int)) (by decide) (by decide)))
  have f42 : Fld Z h38 x0 "com/example/folioseek/folioseek/UseOrder" "size" "I" (.int (2 : Int32)) := f31.other W38 (Or.inr (slot_ne (Or.inl (hw _ (List.mem_of_getElem? (i := 23) rfl))) (Or.inl (hw _ (List.mem_of_getElem? (i := 16) rfl))) (by decide) (t := .int) (t' := (.array .int)) (by decide) (by decide)))
  have f43 : Arv Z h38 aI kI .int (16 : Int32) (List.map Value.int LI) (.int (0 : Int32)) := f32.other W38 (Ne.symm ne_xi)
  have f44 : Arv Z h38 aU kU .long (16 : Int32) (List.map Value.long LU) (.long (0 : Int64)) := f33.other W38 (Ne.symm ne_xu)
  have f45 : Arv Z h38 aS kS .int (2 : Int32) (List.map Value.int LS) (.int (0 : Int32)) := f34.other W38 (Ne.symm ne_xs)
  have f46 : Arv Z h38 bS kN .int (4 : Int32) (List.map Value.int (LS ++ List.replicate 2 (0 : Int32))) (.int (0 : Int32)) := qbS.other W38 (Ne.symm ne_x0_bS)
  have f47 : Fld Z h38 x0 "com/example/folioseek/folioseek/UseOrder" "slots" "[I" (.ref bS) := f30.same W38
  have K48 : Keep h0 h38 [x0, aI, aU, aS] := K35.wr W38 (Or.inl (List.mem_of_getElem? (i := 0) rfl))
  have Z38 : n0 ≤ h38.size := Nat.le_trans Z36 (Keep.of_wr W38).1
  have N38 := Fr.snoc X38 N26 g_x
  obtain ⟨LL38, X38, N38⟩ := own_hide X38 N38
  have st49 : Steps p.tables e below sE (T38.setTop (mkF m 83 #[.val (.ref x0), .val (.int (2 : Int32)), .val (.long x2), .second, .val (.int (2 : Int32))] [])) := st37.trans (sr38 _ (Steps.refl _))
  have st50 : Steps p.tables e below sE (T38.setTop (mkF m 84 #[.val (.ref x0), .val (.int (2 : Int32)), .val (.long x2), .second, .val (.int (2 : Int32))] [(.ref x0)])) := st49.trans (by
      show Steps _ _ _ (T38.setTop (mkF m 83 #[.val (.ref x0), .val (.int (2 : Int32)), .val (.long x2), .second, .val (.int (2 : Int32))] [])) _
      refine XS.aloadN X38.here hx rfl (hb hby d3_83) rfl rfl ?_
      exact Steps.refl _)
  obtain ⟨T51, X51, e51, sr51⟩ := getF X38 hx hZ hown (host := "") (Or.inl (hw _ (List.mem_of_getElem? (i := 15) rfl))) Via.refl e38 f47 (g := (mkF m 84 #[.val (.ref x0), .val (.int (2 : Int32)), .val (.long x2), .second, .val (.int (2 : Int32))] [(.ref x0)])) rfl rfl (hb hby d3_84)
  have st52 : Steps p.tables e below sE (T51.setTop (mkF m 87 #[.val (.ref x0), .val (.int (2 : Int32)), .val (.long x2), .second, .val (.int (2 : Int32))] [(.ref bS)])) := st50.trans (sr51 _ (Steps.refl _))
  have st53 : Steps p.tables e below sE (T51.setTop (mkF m 90 #[.val (.ref x0), .val (.int (2 : Int32)), .val (.long x2), .second, .val (.int (2 : Int32))] [(.ref x0), (.int (2 : Int32)), (.ref bS)])) := st52.trans (by
      show Steps _ _ _ (T51.setTop (mkF m 87 #[.val (.ref x0), .val (.int (2 : Int32)), .val (.long x2), .second, .val (.int (2 : Int32))] [(.ref bS)])) _
      refine XS.iload X51.here hx rfl (hb hby d3_87) rfl ?_
      show Steps _ _ _ (T51.setTop (mkF m 89 #[.val (.ref x0), .val (.int (2 : Int32)), .val (.long x2), .second, .val (.int (2 : Int32))] [(.int (2 : Int32)), (.ref bS)])) _
      refine XS.aloadN X51.here hx rfl (hb hby d3_89) rfl rfl ?_
      exact Steps.refl _)
  obtain ⟨T54, X54, e54, sr54⟩ := getF X51 hx hZ hown (host := "") (Or.inl (hw _ (List.mem_of_getElem? (i := 15) rfl))) Via.refl e51 f47 (g := (mkF m 90 #[.val (.ref x0), .val (.int (2 : Int32)), .val (.long x2), .second, .val (.int (2 : Int32))] [(.ref x0), (.int (2 : Int32)), (.ref bS)])) rfl rfl (hb hby d3_90)
  have st55 : Steps p.tables e below sE (T54.setTop (mkF m 93 #[.val (.ref x0), .val (.int (2 : Int32)), .val (.long x2), .second, .val (.int (2 : Int32))] [(.ref bS), (.int (2 : Int32)), (.ref bS)])) := st53.trans (sr54 _ (Steps.refl _))
  obtain ⟨cl56, Ar56, -, S56, N56, -, -⟩ := id f46
  have st57 : Steps p.tables e below sE (T54.setTop (mkF m 95 #[.val (.ref x0), .val (.int (2 : Int32)), .val (.long x2), .second, .val (.int (2 : Int32))] [(.int (-1 : Int32)), (.int (4 : Int32)), (.int (2 : Int32)), (.ref bS)])) := st55.trans (by
      show Steps _ _ _ (T54.setTop (mkF m 93 #[.val (.ref x0), .val (.int (2 : Int32)), .val (.long x2), .second, .val (.int (2 : Int32))] [(.ref bS), (.int (2 : Int32)), (.ref bS)])) _
      refine X54.arraylength hx (by rw [e54]; exact Ar56.1) (State.isArrayOf_alike hZ.alike Ar56.2.1) (g := (mkF m 93 #[.val (.ref x0), .val (.int (2 : Int32)), .val (.long x2), .second, .val (.int (2 : Int32))] [(.ref bS), (.int (2 : Int32)), (.ref bS)])) rfl rfl (hb hby d3_93) _ ?_
      rw [len_of S56 N56]
      show Steps _ _ _ (T54.setTop (mkF m 94 #[.val (.ref x0), .val (.int (2 : Int32)), .val (.long x2), .second, .val (.int (2 : Int32))] [(.int (4 : Int32)), (.int (2 : Int32)), (.ref bS)])) _
      refine XS.iconst X54.here hx rfl (hb hby d3_94) ?_
      exact Steps.refl _)
  obtain ⟨_, _, ⟨T58, L58, k58, n58⟩, -, X58, ⟨Lc58, hQ58, l58, y58, z58⟩, sr58⟩ := Jvm.LawKit.callS X54 hx (y := (⟨"java/util/Arrays", "fill", "([IIII)V"⟩ : MethodName)) hown (mvT hZ (hw _ (List.mem_of_getElem? (i := 39) rfl))) (mvT hZ (hw _ (List.mem_of_getElem? (i := 40) rfl))) (mvT hZ (hw _ (List.mem_of_getElem? (i := 30) rfl))) (mvT hZ (hw _ (List.mem_of_getElem? (i := 41) rfl))) (by decide) (backOf (W := 0) (rmfl2 l Z a0 hw [] bS kN (LS ++ List.replicate 2 (0 : Int32)) h38 n0 Z38 f46 (by rw [List.length_append, List.length_replicate, hP.2.2.1]) g_bS) hZ (hw _ (List.mem_of_getElem? (i := 41) rfl)) (hw _ (List.mem_of_getElem? (i := 30) rfl)) (by decide) (by decide)) (g := (mkF m 95 #[.val (.ref x0), .val (.int (2 : Int32)), .val (.long x2), .second, .val (.int (2 : Int32))] [(.int (-1 : Int32)), (.int (4 : Int32)), (.int (2 : Int32)), (.ref bS)])) rfl (by rw [hml]; rfl) (argsL := [(.ref bS), (.int (2 : Int32)), (.int (4 : Int32)), (.int (-1 : Int32))]) (rest := []) (lenOf pd_4 rfl) rfl (by show 2 * 0 + _ ≤ _; exact Nat.le_of_eq rfl) (hb hby d3_95) (fun _ _ => ⟨rfl, e54, (by decide : 1 + 0 ≤ _), (by decide : 4 + 0 ≤ _)⟩)
  dsimp only [Pt.U, Pt.locs, Pt.cells, Pt.slots] at X58 l58 y58 z58 sr58 hQ58
  subst l58 y58 z58
  obtain ⟨rfl, N58q, K58c, f58_0⟩ := hQ58
  have N58 := Fr.app N38 N58q
  obtain ⟨LL58, X58, N58⟩ := own_hide X58 N58
  have f59 : Exa Z T58.heap x0 "com/example/folioseek/folioseek/UseOrder" := f39.keep K58c
  have f60 : Fld Z T58.heap x0 "com/example/folioseek/folioseek/UseOrder" "ids" "[I" (.ref aI) := f40.keep K58c (ninS ne_x0_bS nin0)
  have f61 : Fld Z T58.heap x0 "com/example/folioseek/folioseek/UseOrder" "uses" "[J" (.ref aU) := f41.keep K58c (ninS ne_x0_bS nin0)
  have f62 : Fld Z T58.heap x0 "com/example/folioseek/folioseek/UseOrder" "size" "I" (.int (2 : Int32)) := f42.keep K58c (ninS ne_x0_bS nin0)
  have f63 : Arv Z T58.heap aI kI .int (16 : Int32) (List.map Value.int LI) (.int (0 : Int32)) := f43.keep K58c (ninS ne_aI_bS nin0)
  have f64 : Arv Z T58.heap aU kU .long (16 : Int32) (List.map Value.long LU) (.long (0 : Int64)) := f44.keep K58c (ninS ne_aU_bS nin0)
  have f65 : Arv Z T58.heap aS kS .int (2 : Int32) (List.map Value.int LS) (.int (0 : Int32)) := f45.keep K58c (ninS ne_aS_bS nin0)
  have f66 : Fld Z T58.heap x0 "com/example/folioseek/folioseek/UseOrder" "slots" "[I" (.ref bS) := f47.keep K58c (ninS ne_x0_bS nin0)
  have K67 : Keep h0 T58.heap [x0, aI, aU, aS] := K48.trans K58c (allS (Or.inr sz_bS) all0)
  have Z68 : n0 ≤ T58.heap.size := Nat.le_trans Z38 K58c.1
  have st69 : Steps p.tables e below sE (T58.setTop (mkF m 98 #[.val (.ref x0), .val (.int (2 : Int32)), .val (.long x2), .second, .val (.int (2 : Int32))] [])) := st57.trans (sr58 _ (Steps.refl _))
  have st70 : Steps p.tables e below sE (T58.setTop (mkF m 103 #[.val (.ref x0), .val (.int (2 : Int32)), .val (.long x2), .second, .val (.int (2 : Int32))] [(.ref x0), (.ref x0), (.long x2), (.int (2 : Int32)), (.ref x0)])) := st69.trans (by
      show Steps _ _ _ (T58.setTop (mkF m 98 #[.val (.ref x0), .val (.int (2 : Int32)), .val (.long x2), .second, .val (.int (2 : Int32))] [])) _
      refine XS.aloadN X58.here hx rfl (hb hby d3_98) rfl rfl ?_
      show Steps _ _ _ (T58.setTop (mkF m 99 #[.val (.ref x0), .val (.int (2 : Int32)), .val (.long x2), .second, .val (.int (2 : Int32))] [(.ref x0)])) _
      refine XS.iloadN X58.here hx rfl (hb hby d3_99) rfl ?_
      show Steps _ _ _ (T58.setTop (mkF m 100 #[.val (.ref x0), .val (.int (2 : Int32)), .val (.long x2), .second, .val (.int (2 : Int32))] [(.int (2 : Int32)), (.ref x0)])) _
      refine XS.lloadN X58.here hx rfl (hb hby d3_100) rfl ?_
      show Steps _ _ _ (T58.setTop (mkF m 101 #[.val (.ref x0), .val (.int (2 : Int32)), .val (.long x2), .second, .val (.int (2 : Int32))] [(.long x2), (.int (2 : Int32)), (.ref x0)])) _
      refine XS.aloadN X58.here hx rfl (hb hby d3_101) rfl rfl ?_
      show Steps _ _ _ (T58.setTop (mkF m 102 #[.val (.ref x0), .val (.int (2 : Int32)), .val (.long x2), .second, .val (.int (2 : Int32))] [(.ref x0), (.long x2), (.int (2 : Int32)), (.ref x0)])) _
      refine XS.dup X58.here hx rfl (hb hby d3_102) rfl rfl ?_
      exact Steps.refl _)
  obtain ⟨T71, X71, e71, sr71⟩ := getF X58 hx hZ hown (host := "") (Or.inl (hw _ (List.mem_of_getElem? (i := 22) rfl))) Via.refl rfl f62 (g := (mkF m 103 #[.val (.ref x0), .val (.int (2 : Int32)), .val (.long x2), .second, .val (.int (2 : Int32))] [(.ref x0), (.ref x0), (.long x2), (.int (2 : Int32)), (.ref x0)])) rfl rfl (hb hby d3_103)
  have st72 : Steps p.tables e below sE (T71.setTop (mkF m 106 #[.val (.ref x0), .val (.int (2 : Int32)), .val (.long x2), .second, .val (.int (2 : Int32))] [(.int (2 : Int32)), (.ref x0), (.long x2), (.int (2 : Int32)), (.ref x0)])) := st70.trans (sr71 _ (Steps.refl _))
  have st73 : Steps p.tables e below sE (T71.setTop (mkF m 109 #[.val (.ref x0), .val (.int (2 : Int32)), .val (.long x2), .second, .val (.int (2 : Int32))] [(.int (3 : Int32)), (.ref x0), (.int (2 : Int32)), (.long x2), (.int (2 : Int32)), (.ref x0)])) := st72.trans (by
      show Steps _ _ _ (T71.setTop (mkF m 106 #[.val (.ref x0), .val (.int (2 : Int32)), .val (.long x2), .second, .val (.int (2 : Int32))] [(.int (2 : Int32)), (.ref x0), (.long x2), (.int (2 : Int32)), (.ref x0)])) _
      refine XS.dupX1 X71.here hx rfl (hb hby d3_106) rfl rfl rfl ?_
      show Steps _ _ _ (T71.setTop (mkF m 107 #[.val (.ref x0), .val (.int (2 : Int32)), .val (.long x2), .second, .val (.int (2 : Int32))] [(.int (2 : Int32)), (.ref x0), (.int (2 : Int32)), (.long x2), (.int (2 : Int32)), (.ref x0)])) _
      refine XS.iconst X71.here hx rfl (hb hby d3_107) ?_
      show Steps _ _ _ (T71.setTop (mkF m 108 #[.val (.ref x0), .val (.int (2 : Int32)), .val (.long x2), .second, .val (.int (2 : Int32))] [(.int (1 : Int32)), (.int (2 : Int32)), (.ref x0), (.int (2 : Int32)), (.long x2), (.int (2 : Int32)), (.ref x0)])) _
      refine XS.iadd X71.here hx rfl (hb hby d3_108) rfl ?_
      exact Steps.refl _)
  obtain ⟨T74, h74, X74, e74, W74, sr74⟩ := putF X71 hx hZ hown (host := "") (Or.inl (hw _ (List.mem_of_getElem? (i := 22) rfl))) Via.refl e71 f62 f59 (Or.inl (hw _ (List.mem_of_getElem? (i := 23) rfl))) (hw _ (List.mem_of_getElem? (i := 2) rfl)) (ty := .int) (by decide) rfl rfl (g := (mkF m 109 #[.val (.ref x0), .val (.int (2 : Int32)), .val (.long x2), .second, .val (.int (2 : Int32))] [(.int (3 : Int32)), (.ref x0), (.int (2 : Int32)), (.long x2), (.int (2 : Int32)), (.ref x0)])) rfl rfl (hb hby d3_109)
  have f75 : Exa Z h74 x0 "com/example/folioseek/folioseek/UseOrder" := f59.wr W74
  have f76 : Fld Z h74 x0 "com/example/folioseek/folioseek/UseOrder" "ids" "[I" (.ref aI) := f60.other W74 (Or.inr (slot_ne (Or.inl (hw _ (List.mem_of_getElem? (i := 12) rfl))) (Or.inl (hw _ (List.mem_of_getElem? (i := 23) rfl))) (by decide) (t := (.array .int)) (t' := .int) (by decide) (by decide)))
  have f77 : Fld Z h74 x0 "com/example/folioseek/folioseek/UseOrder" "uses" "[J" (.ref aU) := f61.other W74 (Or.inr (slot_ne (Or.inl (hw _ (List.mem_of_getElem? (i := 14) rfl))) (Or.inl (hw _ (List.mem_of_getElem? (i := 23) rfl))) (by decide) (t := (.array .long)) (t' := .int) (by decide) (by decide)))
  have f78 : Arv Z h74 aI kI .int (16 : Int32) (List.map Value.int LI) (.int (0 : Int32)) := f63.other W74 (Ne.symm ne_xi)
  have f79 : Arv Z h74 aU kU .long (16 : Int32) (List.map Value.long LU) (.long (0 : Int64)) := f64.other W74 (Ne.symm ne_xu)
  have f80 : Arv Z h74 aS kS .int (2 : Int32) (List.map Value.int LS) (.int (0 : Int32)) := f65.other W74 (Ne.symm ne_xs)
  have f81 : Fld Z h74 x0 "com/example/folioseek/folioseek/UseOrder" "slots" "[I" (.ref bS) := f66.other W74 (Or.inr (slot_ne (Or.inl (hw _ (List.mem_of_getElem? (i := 16) rfl))) (Or.inl (hw _ (List.mem_of_getElem? (i := 23) rfl))) (by decide) (t := (.array .int)) (t' := .int) (by decide) (by decide)))
  have f82 : Arv Z h74 bS kN .int (4 : Int32) (List.map Value.int (((LS ++ List.replicate 2 (0 : Int32)).set ((2 : Int32)).toNatClampNeg (-1 : Int32)).set ((3 : Int32)).toNatClampNeg (-1 : Int32))) (.int (0 : Int32)) := f58_0.other W74 (Ne.symm ne_x0_bS)
  have f83 : Fld Z h74 x0 "com/example/folioseek/folioseek/UseOrder" "size" "I" (.int (3 : Int32)) := f62.same W74
  have K84 : Keep h0 h74 [x0, aI, aU, aS] := K67.wr W74 (Or.inl (List.mem_of_getElem? (i := 0) rfl))
  have Z74 : n0 ≤ h74.size := Nat.le_trans Z68 (Keep.of_wr W74).1
  have N74 := Fr.snoc X74 N58 g_x
  obtain ⟨LL74, X74, N74⟩ := own_hide X74 N74
  have st85 : Steps p.tables e below sE (T74.setTop (mkF m 112 #[.val (.ref x0), .val (.int (2 : Int32)), .val (.long x2), .second, .val (.int (2 : Int32))] [(.int (2 : Int32)), (.long x2), (.int (2 : Int32)), (.ref x0)])) := st73.trans (sr74 _ (Steps.refl _))
  obtain ⟨cq86, q86, q86'⟩ := f75.cell
  obtain ⟨_, _, ⟨T86, L86, k86, n86⟩, -, X86, ⟨Lc86, hQ86, l86, y86, z86⟩, sr86⟩ := X74.privateBack hx (y := (⟨"com/example/folioseek/folioseek/UseOrder", "place", "(IJI)V"⟩ : MethodName)) hown (mvT hZ (hw _ (List.mem_of_getElem? (i := 45) rfl))) (mvT hZ (hw _ (List.mem_of_getElem? (i := 46) rfl))) (own_selp (z := (⟨"com/example/folioseek/folioseek/UseOrder", "add", "(IJ)V"⟩ : MethodName)) rfl (notFace_of_selects (args := #[]) (mvT hZ (hw _ (List.mem_of_getElem? (i := 20) rfl)))) (args' := #[]) (mvT hZ (hw _ (List.mem_of_getElem? (i := 19) rfl))) (Cond.privateMethod_at (mvP hZ (hw _ (List.mem_of_getElem? (i := 47) rfl)) (args := #[]))) (mvT hZ (hw _ (List.mem_of_getElem? (i := 46) rfl))) (by decide)) (Cond.privateMethod_at (mvP hZ (hw _ (List.mem_of_getElem? (i := 47) rfl)) (args := #[]))) (mvT hZ (hw _ (List.mem_of_getElem? (i := 48) rfl))) (by decide) (backOf (W := 0) (rm9 l Z a0 hw [] x0 (2 : Int32) x2 (2 : Int32) aI aU bS kI kU kN LI LU (((LS ++ List.replicate 2 (0 : Int32)).set ((2 : Int32)).toNatClampNeg (-1 : Int32)).set ((3 : Int32)).toNatClampNeg (-1 : Int32)) (4 : Int32) h74 n0 Z74 f76 f77 f81 f78 f79 f82 (by decide) (by decide) ⟨hP.1, hP.2.1, by decide, (by simp only [List.length_set, List.length_append, List.length_replicate, hP.2.2.1]; decide)⟩ g_i g_u g_bS ne_iu ne_aI_bS ne_aU_bS ne_xi ne_xu ne_x0_bS) hZ (hw _ (List.mem_of_getElem? (i := 48) rfl)) (hw _ (List.mem_of_getElem? (i := 3) rfl)) (by decide) (by decide)) (g := (mkF m 112 #[.val (.ref x0), .val (.int (2 : Int32)), .val (.long x2), .second, .val (.int (2 : Int32))] [(.int (2 : Int32)), (.long x2), (.int (2 : Int32)), (.ref x0)])) rfl (by rw [hml]; rfl) (Steps.refl _) (a := x0) (by rw [e74]; exact q86) q86' (argsL := [(.int (2 : Int32)), (.long x2), (.int (2 : Int32))]) (rest := []) (lenOf pd_0 rfl) rfl (by show 2 * 0 + _ ≤ _; exact Nat.le_of_eq rfl) (hb hby d3_112) (fun _ _ => ⟨rfl, e74, (by decide : 1 + 0 ≤ _), (by decide : 4 + 0 ≤ _)⟩)
  dsimp only [Pt.U, Pt.locs, Pt.cells, Pt.slots] at X86 l86 y86 z86 sr86 hQ86
  subst l86 y86 z86
  obtain ⟨rfl, N86q, K86c, f86_0, f86_1, f86_2⟩ := hQ86
  have N86 := Fr.app N74 N86q
  obtain ⟨LL86, X86, N86⟩ := own_hide X86 N86
  have f87 : Exa Z T86.heap x0 "com/example/folioseek/folioseek/UseOrder" := f75.keep K86c
  have f88 : Fld Z T86.heap x0 "com/example/folioseek/folioseek/UseOrder" "ids" "[I" (.ref aI) := f76.keep K86c (ninS ne_xi (ninS ne_xu (ninS ne_x0_bS nin0)))
  have f89 : Fld Z T86.heap x0 "com/example/folioseek/folioseek/UseOrder" "uses" "[J" (.ref aU) := f77.keep K86c (ninS ne_xi (ninS ne_xu (ninS ne_x0_bS nin0)))
  have f90 : Arv Z T86.heap aS kS .int (2 : Int32) (List.map Value.int LS) (.int (0 : Int32)) := f80.keep K86c (ninS (Ne.symm ne_is) (ninS (Ne.symm ne_us) (ninS ne_aS_bS nin0)))
  have f91 : Fld Z T86.heap x0 "com/example/folioseek/folioseek/UseOrder" "slots" "[I" (.ref bS) := f81.keep K86c (ninS ne_xi (ninS ne_xu (ninS ne_x0_bS nin0)))
  have f92 : Fld Z T86.heap x0 "com/example/folioseek/folioseek/UseOrder" "size" "I" (.int (3 : Int32)) := f83.keep K86c (ninS ne_xi (ninS ne_xu (ninS ne_x0_bS nin0)))
  have K93 : Keep h0 T86.heap [x0, aI, aU, aS] := K84.trans K86c (allS (Or.inl (List.mem_of_getElem? (i := 1) rfl)) (allS (Or.inl (List.mem_of_getElem? (i := 2) rfl)) (allS (Or.inr sz_bS) all0)))
  have Z94 : n0 ≤ T86.heap.size := Nat.le_trans Z74 K86c.1
  have st95 : Steps p.tables e below sE (T86.setTop (mkF m 115 #[.val (.ref x0), .val (.int (2 : Int32)), .val (.long x2), .second, .val (.int (2 : Int32))] [])) := st85.trans (sr86)
  have st96 : Steps p.tables e below sE (T86.setTop (mkF m 117 #[.val (.ref x0), .val (.int (2 : Int32)), .val (.long x2), .second, .val (.int (2 : Int32))] [(.ref x0), (.ref x0)])) := st95.trans (by
      show Steps _ _ _ (T86.setTop (mkF m 115 #[.val (.ref x0), .val (.int (2 : Int32)), .val (.long x2), .second, .val (.int (2 : Int32))] [])) _
      refine XS.aloadN X86.here hx rfl (hb hby d3_115) rfl rfl ?_
      show Steps _ _ _ (T86.setTop (mkF m 116 #[.val (.ref x0), .val (.int (2 : Int32)), .val (.long x2), .second, .val (.int (2 : Int32))] [(.ref x0)])) _
      refine XS.aloadN X86.here hx rfl (hb hby d3_116) rfl rfl ?_
      exact Steps.refl _)
  obtain ⟨T97, X97, e97, sr97⟩ := getF X86 hx hZ hown (host := "") (Or.inl (hw _ (List.mem_of_getElem? (i := 22) rfl))) Via.refl rfl f92 (g := (mkF m 117 #[.val (.ref x0), .val (.int (2 : Int32)), .val (.long x2), .second, .val (.int (2 : Int32))] [(.ref x0), (.ref x0)])) rfl rfl (hb hby d3_117)
  have st98 : Steps p.tables e below sE (T97.setTop (mkF m 120 #[.val (.ref x0), .val (.int (2 : Int32)), .val (.long x2), .second, .val (.int (2 : Int32))] [(.int (3 : Int32)), (.ref x0)])) := st96.trans (sr97 _ (Steps.refl _))
  have st99 : Steps p.tables e below sE (T97.setTop (mkF m 122 #[.val (.ref x0), .val (.int (2 : Int32)), .val (.long x2), .second, .val (.int (2 : Int32))] [(.int (2 : Int32)), (.ref x0)])) := st98.trans (by
      show Steps _ _ _ (T97.setTop (mkF m 120 #[.val (.ref x0), .val (.int (2 : Int32)), .val (.long x2), .second, .val (.int (2 : Int32))] [(.int (3 : Int32)), (.ref x0)])) _
      refine XS.iconst X97.here hx rfl (hb hby d3_120) ?_
      show Steps _ _ _ (T97.setTop (mkF m 121 #[.val (.ref x0), .val (.int (2 : Int32)), .val (.long x2), .second, .val (.int (2 : Int32))] [(.int (1 : Int32)), (.int (3 : Int32)), (.ref x0)])) _
      refine XS.isub X97.here hx rfl (hb hby d3_121) rfl ?_
      exact Steps.refl _)
  have hSl : ((((LS ++ List.replicate 2 (0 : Int32)).set ((2 : Int32)).toNatClampNeg (-1 : Int32)).set ((3 : Int32)).toNatClampNeg (-1 : Int32))).length = 4 := by simp only [List.length_set, List.length_append, List.length_replicate, hP.2.2.1]
  have hSg : ∀ i, i < 2 → ((((LS ++ List.replicate 2 (0 : Int32)).set ((2 : Int32)).toNatClampNeg (-1 : Int32)).set ((3 : Int32)).toNatClampNeg (-1 : Int32))).getD i 0 = LS.getD i 0 := by
    intro i hi
    rw [own_gsI _ _ _ _ (by simp only [List.length_set, List.length_append, List.length_replicate, hP.2.2.1]; decide), if_neg (show ¬ ((3 : Int32)).toNatClampNeg = i from fun q => by rw [show ((3 : Int32)).toNatClampNeg = 3 by decide] at q; omega), own_gsI _ _ _ _ (by simp only [List.length_set, List.length_append, List.length_replicate, hP.2.2.1]; decide), if_neg (show ¬ ((2 : Int32)).toNatClampNeg = i from fun q => by rw [show ((2 : Int32)).toNatClampNeg = 2 by decide] at q; omega), own_gg LS 2 i (by rw [hP.2.2.1]; exact hi)]
  have hP2 : own_P 3 4 (LI.set ((2 : Int32)).toNatClampNeg (2 : Int32)) (LU.set ((2 : Int32)).toNatClampNeg x2) ((((LS ++ List.replicate 2 (0 : Int32)).set ((2 : Int32)).toNatClampNeg (-1 : Int32)).set ((3 : Int32)).toNatClampNeg (-1 : Int32)).set ((2 : Int32)).toNatClampNeg (2 : Int32)) val (fun i => i < 3) := by
    have q := own_push (m' := 4) (S' := (((LS ++ List.replicate 2 (0 : Int32)).set ((2 : Int32)).toNatClampNeg (-1 : Int32)).set ((3 : Int32)).toNatClampNeg (-1 : Int32))) hP (by decide) (by decide) (by decide) (by decide) hSl hSg
    rw [hv] at q
    exact q
  have hU2 : ∀ j, j < 3 → ¬ j = 2 → (((LU.set ((2 : Int32)).toNatClampNeg x2)).getD 0 0).toInt ≤ (((LU.set ((2 : Int32)).toNatClampNeg x2)).getD j 0).toInt := own_pushH hP.2.1 (by decide) hH x2
  obtain ⟨cq100, q100, q100'⟩ := f87.cell
  obtain ⟨_, _, ⟨T100, L100, k100, n100⟩, -, X100, ⟨Lc100, hQ100, l100, y100, z100⟩, sr100⟩ := X97.privateBack hx (y := (⟨"com/example/folioseek/folioseek/UseOrder", "siftUp", "(I)V"⟩ : MethodName)) hown (mvT hZ (hw _ (List.mem_of_getElem? (i := 49) rfl))) (mvT hZ (hw _ (List.mem_of_getElem? (i := 50) rfl))) (own_selp (z := (⟨"com/example/folioseek/folioseek/UseOrder", "add", "(IJ)V"⟩ : MethodName)) rfl (notFace_of_selects (args := #[]) (mvT hZ (hw _ (List.mem_of_getElem? (i := 20) rfl)))) (args' := #[]) (mvT hZ (hw _ (List.mem_of_getElem? (i := 19) rfl))) (Cond.privateMethod_at (mvP hZ (hw _ (List.mem_of_getElem? (i := 51) rfl)) (args := #[]))) (mvT hZ (hw _ (List.mem_of_getElem? (i := 50) rfl))) (by decide)) (Cond.privateMethod_at (mvP hZ (hw _ (List.mem_of_getElem? (i := 51) rfl)) (args := #[]))) (mvT hZ (hw _ (List.mem_of_getElem? (i := 52) rfl))) (by decide) (backOf (W := 0) (rm10 l Z a0 hw [] x0 (2 : Int32) aI aU bS kI kU kN (LI.set ((2 : Int32)).toNatClampNeg (2 : Int32)) (LU.set ((2 : Int32)).toNatClampNeg x2) ((((LS ++ List.replicate 2 (0 : Int32)).set ((2 : Int32)).toNatClampNeg (-1 : Int32)).set ((3 : Int32)).toNatClampNeg (-1 : Int32)).set ((2 : Int32)).toNatClampNeg (2 : Int32)) (4 : Int32) 3 val (fun i => i < 3) T86.heap n0 Z94 f87 f88 f89 f91 f86_0 f86_1 f86_2 hP2 (by decide) hU2 g_i g_u g_bS ne_iu ne_aI_bS ne_aU_bS ne_xi ne_xu ne_x0_bS) hZ (hw _ (List.mem_of_getElem? (i := 52) rfl)) (hw _ (List.mem_of_getElem? (i := 3) rfl)) (by decide) (by decide)) (g := (mkF m 122 #[.val (.ref x0), .val (.int (2 : Int32)), .val (.long x2), .second, .val (.int (2 : Int32))] [(.int (2 : Int32)), (.ref x0)])) rfl (by rw [hml]; rfl) (Steps.refl _) (a := x0) (by rw [e97]; exact q100) q100' (argsL := [(.int (2 : Int32))]) (rest := []) (lenOf pd_5 rfl) rfl (by show 2 * 0 + _ ≤ _; exact Nat.le_of_eq rfl) (hb hby d3_122) (fun _ _ => ⟨rfl, e97, (by decide : 1 + 0 ≤ _), (by decide : 4 + 0 ≤ _)⟩)
  dsimp only [Pt.U, Pt.locs, Pt.cells, Pt.slots] at X100 l100 y100 z100 sr100 hQ100
  subst l100 y100 z100
  obtain ⟨rfl, N100q, K100c, ⟨LI', LU', LS', qI, qU, qS, hP', hH'⟩⟩ := hQ100
  have N100 := Fr.app N86 N100q
  obtain ⟨LL100, X100, N100⟩ := own_hide X100 N100
  have f101 : Exa Z T100.heap x0 "com/example/folioseek/folioseek/UseOrder" := f87.keep K100c
  have f102 : Fld Z T100.heap x0 "com/example/folioseek/folioseek/UseOrder" "ids" "[I" (.ref aI) := f88.keep K100c (ninS ne_xi (ninS ne_xu (ninS ne_x0_bS nin0)))
  have f103 : Fld Z T100.heap x0 "com/example/folioseek/folioseek/UseOrder" "uses" "[J" (.ref aU) := f89.keep K100c (ninS ne_xi (ninS ne_xu (ninS ne_x0_bS nin0)))
  have f104 : Arv Z T100.heap aS kS .int (2 : Int32) (List.map Value.int LS) (.int (0 : Int32)) := f90.keep K100c (ninS (Ne.symm ne_is) (ninS (Ne.symm ne_us) (ninS ne_aS_bS nin0)))
  have f105 : Fld Z T100.heap x0 "com/example/folioseek/folioseek/UseOrder" "slots" "[I" (.ref bS) := f91.keep K100c (ninS ne_xi (ninS ne_xu (ninS ne_x0_bS nin0)))
  have f106 : Fld Z T100.heap x0 "com/example/folioseek/folioseek/UseOrder" "size" "I" (.int (3 : Int32)) := f92.keep K100c (ninS ne_xi (ninS ne_xu (ninS ne_x0_bS nin0)))
  have K107 : Keep h0 T100.heap [x0, aI, aU, aS] := K93.trans K100c (allS (Or.inl (List.mem_of_getElem? (i := 1) rfl)) (allS (Or.inl (List.mem_of_getElem? (i := 2) rfl)) (allS (Or.inr sz_bS) all0)))
  have Z108 : n0 ≤ T100.heap.size := Nat.le_trans Z94 K100c.1
  have st109 : Steps p.tables e below sE (T100.setTop (mkF m 125 #[.val (.ref x0), .val (.int (2 : Int32)), .val (.long x2), .second, .val (.int (2 : Int32))] [])) := st99.trans (sr100)
  obtain ⟨fs, hr, hrun, hended, hW, hsame⟩ := X100.leave (v := none) (fun _ => rfl) hlk
  refine ⟨_, _, (own_ent hsE st109).trans ?_, hrun, hended, _, _, rfl, ?_, ⟨_, rfl⟩, hW, hsame.mono (by decide) (by decide)⟩
  · exact X100.returnOut hx Bd.returns (hb hby d3_125) hr
  · show Qad2 Z x0 x2 aI aU aS kI kU kS LI LU LS val h0 n0 _ T100.heap _
    exact ⟨rfl, N100, K107, f101, f102, f103, f106, ⟨bS, _, LI', LU', LS', f105, qI, qU, qS, hP', hH', g_bS, ne_aI_bS, ne_aU_bS, ne_x0_bS, Or.inr sz_bS⟩⟩
theorem ef_ad3 (m : MethodId) (x0 : Addr) (x2 : Int64)  : entryFrame m #[(.ref x0), (.int (3 : Int32)), (.long x2)] 5 = mkF m 0 #[.val (.ref x0), .val (.int (3 : Int32)), .val (.long x2), .second, .unset] [] := by first | (simp [entryFrame, mkF, argsToLocals, Value.category]; done) | rfl
def Qad3 (Z : State) (x0 : Addr) (x2 : Int64) (aI : Addr) (aU : Addr) (aS : Addr) (kI : ClassId) (kU : ClassId) (kS : ClassId) (LI : List Int32) (LU : List Int64) (LS : List Int32) (val : Nat → Int64) (h0 : Heap) (n0 : Nat) (vE : Option Value) (hE : Heap) (LE : List Loc) : Prop := vE = none ∧ Fr n0 LE ∧ Keep h0 hE [x0, aI, aU, aS] ∧ Exa Z hE x0 "com/example/folioseek/folioseek/UseOrder" ∧ Fld Z hE x0 "com/example/folioseek/folioseek/UseOrder" "ids" "[I" (.ref aI) ∧ Fld Z hE x0 "com/example/folioseek/folioseek/UseOrder" "uses" "[J" (.ref aU) ∧ Fld Z hE x0 "com/example/folioseek/folioseek/UseOrder" "size" "I" (.int (4 : Int32)) ∧ (∃ (aT : Addr) (kT : ClassId) (LI' : List Int32) (LU' : List Int64) (LS' : List Int32), Fld Z hE x0 "com/example/folioseek/folioseek/UseOrder" "slots" "[I" (.ref aT) ∧ Arv Z hE aI kI .int (16 : Int32) (List.map Value.int LI') (.int (0 : Int32)) ∧ Arv Z hE aU kU .long (16 : Int32) (List.map Value.long LU') (.long (0 : Int64)) ∧ Arv Z hE aT kT .int (4 : Int32) (List.map Value.int LS') (.int (0 : Int32)) ∧ own_P 4 4 LI' LU' LS' val (fun i => i < 4) ∧ own_H 4 LU' ∧ n0 ≤ aT ∧ aI ≠ aT ∧ aU ≠ aT ∧ x0 ≠ aT ∧ (aT = aS ∨ h0.size ≤ aT))
set_option maxRecDepth 65536 in
set_option maxHeartbeats 40000000 in
theorem rmad3 (l : Launch) (Z : State) (a0 : Array Value) (hw : ∀ d ∈ tables_1, d.before a0 Z = true) (ws : List Jvm.Cond) (x0 : Addr) (x2 : Int64) (aI : Addr) (aU : Addr) (aS : Addr) (kI : ClassId) (kU : ClassId) (kS : ClassId) (LI : List Int32) (LU : List Int64) (LS : List Int32) (val : Nat → Int64) (h0 : Heap) (n0 : Nat) (Z0 : n0 ≤ h0.size) (E_x : Exa Z h0 x0 "com/example/folioseek/folioseek/UseOrder") (F_i : Fld Z h0 x0 "com/example/folioseek/folioseek/UseOrder" "ids" "[I" (.ref aI)) (F_u : Fld Z h0 x0 "com/example/folioseek/folioseek/UseOrder" "uses" "[J" (.ref aU)) (F_s : Fld Z h0 x0 "com/example/folioseek/folioseek/UseOrder" "slots" "[I" (.ref aS)) (F_z : Fld Z h0 x0 "com/example/folioseek/folioseek/UseOrder" "size" "I" (.int (3 : Int32))) (A_i : Arv Z h0 aI kI .int (16 : Int32) (List.map Value.int LI) (.int (0 : Int32))) (A_u : Arv Z h0 aU kU .long (16 : Int32) (List.map Value.long LU) (.long (0 : Int64))) (A_s : Arv Z h0 aS kS .int (4 : Int32) (List.map Value.int LS) (.int (0 : Int32))) (hP : own_P 3 4 LI LU LS val (fun i => i < 3)) (hH : own_H 3 LU) (hv : val 3 = x2) (g_x : n0 ≤ x0) (g_i : n0 ≤ aI) (g_u : n0 ≤ aU) (g_s : n0 ≤ aS) (ne_iu : aI ≠ aU) (ne_is : aI ≠ aS) (ne_us : aU ≠ aS) (ne_xi : x0 ≠ aI) (ne_xu : x0 ≠ aU) (ne_xs : x0 ≠ aS) :
    MetFree l (⟨"com/example/folioseek/folioseek/UseOrder", "add", "(IJ)V"⟩ : MethodName) (head1 (Jvm.Cond.code (⟨"com/example/folioseek/folioseek/UseOrder", "add", "(IJ)V"⟩ : MethodName) prog_24_method_5_code 5 none :: ws) ({ frames := 2, cells := 0, slots := 0, locals := 33 } : Room)) (fun a U => a = #[(.ref x0), (.int (3 : Int32)), (.long x2)] ∧ Z.Warmed39 U.vm ∧ U.heap = h0) (fun _ _ _ _ _ => True) (fun _ U o U' => ∃ vE LE, o = .returned vE ∧ Qad3 Z x0 x2 aI aU aS kI kU kS LI LU LS val h0 n0 vE U'.heap LE ∧ FrameEnd U o U' LE ({ frames := 2, cells := 0, slots := 0, locals := 33 } : Room).cells ({ frames := 2, cells := 0, slots := 0, locals := 33 } : Room).slots) := by
  refine MetFree.of_bodySF (plainFor_of_name pn_1) hisR ?_
  intro p e s m args below meth c s₁ Bd hml0 hP hK
  obtain ⟨rfl, hZ, hh⟩ := hP
  have hx := Bd.exec
  have hby := Bd.bytes
  have hml : c.maxLocals = 5 := hml0
  have hown : s.vm.findClass "com/example/folioseek/folioseek/UseOrder" = some m.cls := findClass_of_methodNamed Bd.named
  have hnm := (name_of_methodNamed Bd.named Bd.method).1
  have hlk : meth.locks = false := BodyLoose.notSynchronized Bd
  have X0 : Stand p l e ({ frames := 2, cells := 0, slots := 0, locals := 33 } : Room) s m #[(.ref x0), (.int (3 : Int32)), (.long x2)] below meth c s₁ [] 0 0 := Stand.of_body Bd
  have e0 : s₁.heap = h0 := by rw [← hh, Bd.state]; rfl
  have N0 := Fr.nil n0
  obtain ⟨sE, hsE⟩ : ∃ z, z = (s₁.setTop (entryFrame m #[(.ref x0), (.int (3 : Int32)), (.long x2)] 5)) := ⟨_, rfl⟩
  have st0 : Steps p.tables e below sE (s₁.setTop (mkF m 0 #[.val (.ref x0), .val (.int (3 : Int32)), .val (.long x2), .second, .unset] [])) := by rw [hsE]; exact castTop (ef_ad3 m x0 x2) (Steps.refl _)
  have K0 : Keep h0 h0 [x0, aI, aU, aS] := Keep.refl _ _
  have st1 : Steps p.tables e below sE (s₁.setTop (mkF m 1 #[.val (.ref x0), .val (.int (3 : Int32)), .val (.long x2), .second, .unset] [(.ref x0)])) := st0.trans (by
      show Steps _ _ _ (s₁.setTop (mkF m 0 #[.val (.ref x0), .val (.int (3 : Int32)), .val (.long x2), .second, .unset] [])) _
      refine XS.aloadN X0.here hx rfl (hb hby d3_0) rfl rfl ?_
      exact Steps.refl _)
  obtain ⟨T2, X2, e2, sr2⟩ := getF X0 hx hZ hown (host := "") (Or.inl (hw _ (List.mem_of_getElem? (i := 22) rfl))) Via.refl e0 F_z (g := (mkF m 1 #[.val (.ref x0), .val (.int (3 : Int32)), .val (.long x2), .second, .unset] [(.ref x0)])) rfl rfl (hb hby d3_1)
  have st3 : Steps p.tables e below sE (T2.setTop (mkF m 4 #[.val (.ref x0), .val (.int (3 : Int32)), .val (.long x2), .second, .unset] [(.int (3 : Int32))])) := st1.trans (sr2 _ (Steps.refl _))
  have st4 : Steps p.tables e below sE (T2.setTop (mkF m 5 #[.val (.ref x0), .val (.int (3 : Int32)), .val (.long x2), .second, .unset] [(.ref x0), (.int (3 : Int32))])) := st3.trans (by
      show Steps _ _ _ (T2.setTop (mkF m 4 #[.val (.ref x0), .val (.int (3 : Int32)), .val (.long x2), .second, .unset] [(.int (3 : Int32))])) _
      refine XS.aloadN X2.here hx rfl (hb hby d3_4) rfl rfl ?_
      exact Steps.refl _)
  obtain ⟨T5, X5, e5, sr5⟩ := getF X2 hx hZ hown (host := "") (Or.inl (hw _ (List.mem_of_getElem? (i := 11) rfl))) Via.refl e2 F_i (g := (mkF m 5 #[.val (.ref x0), .val (.int (3 : Int32)), .val (.long x2), .second, .unset] [(.ref x0), (.int (3 : Int32))])) rfl rfl (hb hby d3_5)
  have st6 : Steps p.tables e below sE (T5.setTop (mkF m 8 #[.val (.ref x0), .val (.int (3 : Int32)), .val (.long x2), .second, .unset] [(.ref aI), (.int (3 : Int32))])) := st4.trans (sr5 _ (Steps.refl _))
  obtain ⟨cl7, Ar7, -, S7, N7, -, -⟩ := id A_i
  have st8 : Steps p.tables e below sE (T5.setTop (mkF m 9 #[.val (.ref x0), .val (.int (3 : Int32)), .val (.long x2), .second, .unset] [(.int (16 : Int32)), (.int (3 : Int32))])) := st6.trans (by
      show Steps _ _ _ (T5.setTop (mkF m 8 #[.val (.ref x0), .val (.int (3 : Int32)), .val (.long x2), .second, .unset] [(.ref aI), (.int (3 : Int32))])) _
      refine X5.arraylength hx (by rw [e5]; exact Ar7.1) (State.isArrayOf_alike hZ.alike Ar7.2.1) (g := (mkF m 8 #[.val (.ref x0), .val (.int (3 : Int32)), .val (.long x2), .second, .unset] [(.ref aI), (.int (3 : Int32))])) rfl rfl (hb hby d3_8) _ ?_
      rw [len_of S7 N7]
      exact Steps.refl _)
  have hf9 : ¬ ((3 : Int32) = (16 : Int32)) := by decide
  have st10 : Steps p.tables e below sE (T5.setTop (mkF m 48 #[.val (.ref x0), .val (.int (3 : Int32)), .val (.long x2), .second, .unset] [(.ref x0), (.int (3 : Int32))])) := st8.trans (by
      show Steps _ _ _ (T5.setTop (mkF m 9 #[.val (.ref x0), .val (.int (3 : Int32)), .val (.long x2), .second, .unset] [(.int (16 : Int32)), (.int (3 : Int32))])) _
      refine XS.icmpYes X5.here hx rfl (pc0 := 9) (pc' := 46) rfl (hb hby d3_9) rfl (feq hf9).2 (by decide) (by decide) ?_
      show Steps _ _ _ (T5.setTop (mkF m 46 #[.val (.ref x0), .val (.int (3 : Int32)), .val (.long x2), .second, .unset] [])) _
      refine XS.iloadN X5.here hx rfl (hb hby d3_46) rfl ?_
      show Steps _ _ _ (T5.setTop (mkF m 47 #[.val (.ref x0), .val (.int (3 : Int32)), .val (.long x2), .second, .unset] [(.int (3 : Int32))])) _
      refine XS.aloadN X5.here hx rfl (hb hby d3_47) rfl rfl ?_
      exact Steps.refl _)
  obtain ⟨T11, X11, e11, sr11⟩ := getF X5 hx hZ hown (host := "") (Or.inl (hw _ (List.mem_of_getElem? (i := 15) rfl))) Via.refl e5 F_s (g := (mkF m 48 #[.val (.ref x0), .val (.int (3 : Int32)), .val (.long x2), .second, .unset] [(.ref x0), (.int (3 : Int32))])) rfl rfl (hb hby d3_48)
  have st12 : Steps p.tables e below sE (T11.setTop (mkF m 51 #[.val (.ref x0), .val (.int (3 : Int32)), .val (.long x2), .second, .unset] [(.ref aS), (.int (3 : Int32))])) := st10.trans (sr11 _ (Steps.refl _))
  obtain ⟨cl13, Ar13, -, S13, N13, -, -⟩ := id A_s
  have st14 : Steps p.tables e below sE (T11.setTop (mkF m 52 #[.val (.ref x0), .val (.int (3 : Int32)), .val (.long x2), .second, .unset] [(.int (4 : Int32)), (.int (3 : Int32))])) := st12.trans (by
      show Steps _ _ _ (T11.setTop (mkF m 51 #[.val (.ref x0), .val (.int (3 : Int32)), .val (.long x2), .second, .unset] [(.ref aS), (.int (3 : Int32))])) _
      refine X11.arraylength hx (by rw [e11]; exact Ar13.1) (State.isArrayOf_alike hZ.alike Ar13.2.1) (g := (mkF m 51 #[.val (.ref x0), .val (.int (3 : Int32)), .val (.long x2), .second, .unset] [(.ref aS), (.int (3 : Int32))])) rfl rfl (hb hby d3_51) _ ?_
      rw [len_of S13 N13]
      exact Steps.refl _)
  have hf15 : (3 : Int32) < (4 : Int32) := by decide
  have st16 : Steps p.tables e below sE (T11.setTop (mkF m 103 #[.val (.ref x0), .val (.int (3 : Int32)), .val (.long x2), .second, .unset] [(.ref x0), (.ref x0), (.long x2), (.int (3 : Int32)), (.ref x0)])) := st14.trans (by
      show Steps _ _ _ (T11.setTop (mkF m 52 #[.val (.ref x0), .val (.int (3 : Int32)), .val (.long x2), .second, .unset] [(.int (4 : Int32)), (.int (3 : Int32))])) _
      refine XS.icmpYes X11.here hx rfl (pc0 := 52) (pc' := 98) rfl (hb hby d3_52) rfl (tlt hf15).1 (by decide) (by decide) ?_
      show Steps _ _ _ (T11.setTop (mkF m 98 #[.val (.ref x0), .val (.int (3 : Int32)), .val (.long x2), .second, .unset] [])) _
      refine XS.aloadN X11.here hx rfl (hb hby d3_98) rfl rfl ?_
      show Steps _ _ _ (T11.setTop (mkF m 99 #[.val (.ref x0), .val (.int (3 : Int32)), .val (.long x2), .second, .unset] [(.ref x0)])) _
      refine XS.iloadN X11.here hx rfl (hb hby d3_99) rfl ?_
      show Steps _ _ _ (T11.setTop (mkF m 100 #[.val (.ref x0), .val (.int (3 : Int32)), .val (.long x2), .second, .unset] [(.int (3 : Int32)), (.ref x0)])) _
      refine XS.lloadN X11.here hx rfl (hb hby d3_100) rfl ?_
      show Steps _ _ _ (T11.setTop (mkF m 101 #[.val (.ref x0), .val (.int (3 : Int32)), .val (.long x2), .second, .unset] [(.long x2), (.int (3 : Int32)), (.ref x0)])) _
      refine XS.aloadN X11.here hx rfl (hb hby d3_101) rfl rfl ?_
      show Steps _ _ _ (T11.setTop (mkF m 102 #[.val (.ref x0), .val (.int (3 : Int32)), .val (.long x2), .second, .unset] [(.ref x0), (.long x2), (.int (3 : Int32)), (.ref x0)])) _
      refine XS.dup X11.here hx rfl (hb hby d3_102) rfl rfl ?_
      exact Steps.refl _)
  obtain ⟨T17, X17, e17, sr17⟩ := getF X11 hx hZ hown (host := "") (Or.inl (hw _ (List.mem_of_getElem? (i := 22) rfl))) Via.refl e11 F_z (g := (mkF m 103 #[.val (.ref x0), .val (.int (3 : Int32)), .val (.long x2), .second, .unset] [(.ref x0), (.ref x0), (.long x2), (.int (3 : Int32)), (.ref x0)])) rfl rfl (hb hby d3_103)
  have st18 : Steps p.tables e below sE (T17.setTop (mkF m 106 #[.val (.ref x0), .val (.int (3 : Int32)), .val (.long x2), .second, .unset] [(.int (3 : Int32)), (.ref x0), (.long x2), (.int (3 : Int32)), (.ref x0)])) := st16.trans (sr17 _ (Steps.refl _))
  have st19 : Steps p.tables e below sE (T17.setTop (mkF m 109 #[.val (.ref x0), .val (.int (3 : Int32)), .val (.long x2), .second, .unset] [(.int (4 : Int32)), (.ref x0), (.int (3 : Int32)), (.long x2), (.int (3 : Int32)), (.ref x0)])) := st18.trans (by
      show Steps _ _ _ (T17.setTop (mkF m 106 #[.val (.ref x0), .val (.int (3 : Int32)), .val (.long x2), .second, .unset] [(.int (3 : Int32)), (.ref x0), (.long x2), (.int (3 : Int32)), (.ref x0)])) _
      refine XS.dupX1 X17.here hx rfl (hb hby d3_106) rfl rfl rfl ?_
      show Steps _ _ _ (T17.setTop (mkF m 107 #[.val (.ref x0), .val (.int (3 : Int32)), .val (.long x2), .second, .unset] [(.int (3 : Int32)), (.ref x0), (.int (3 : Int32)), (.long x2), (.int (3 : Int32)), (.ref x0)])) _
      refine XS.iconst X17.here hx rfl (hb hby d3_107) ?_
      show Steps _ _ _ (T17.setTop (mkF m 108 #[.val (.ref x0), .val (.int (3 : Int32)), .val (.long x2), .second, .unset] [(.int (1 : Int32)), (.int (3 : Int32)), (.ref x0), (.int (3 : Int32)), (.long x2), (.int (3 : Int32)), (.ref x0)])) _
      refine XS.iadd X17.here hx rfl (hb hby d3_108) rfl ?_
      exact Steps.refl _)
  obtain ⟨T20, h20, X20, e20, W20, sr20⟩ := putF X17 hx hZ hown (host := "") (Or.inl (hw _ (List.mem_of_getElem? (i := 22) rfl))) Via.refl e17 F_z E_x (Or.inl (hw _ (List.mem_of_getElem? (i := 23) rfl))) (hw _ (List.mem_of_getElem? (i := 2) rfl)) (ty := .int) (by decide) rfl rfl (g := (mkF m 109 #[.val (.ref x0), .val (.int (3 : Int32)), .val (.long x2), .second, .unset] [(.int (4 : Int32)), (.ref x0), (.int (3 : Int32)), (.long x2), (.int (3 : Int32)), (.ref x0)])) rfl rfl (hb hby d3_109)
  have f21 : Exa Z h20 x0 "com/example/folioseek/folioseek/UseOrder" := E_x.wr W20
  have f22 : Fld Z h20 x0 "com/example/folioseek/folioseek/UseOrder" "ids" "[I" (.ref aI) := F_i.other W20 (Or.inr (slot_ne (Or.inl (hw _ (List.mem_of_getElem? (i := 12) rfl))) (Or.inl (hw _ (List.mem_of_getElem? (i := 23) rfl))) (by decide) (t := (.array .int)) (t' := .int) (by decide) (by decide)))
  have f23 : Fld Z h20 x0 "com/example/folioseek/folioseek/UseOrder" "uses" "[J" (.ref aU) := F_u.other W20 (Or.inr (slot_ne (Or.inl (hw _ (List.mem_of_getElem? (i := 14) rfl))) (Or.inl (hw _ (List.mem_of_getElem? (i := 23) rfl))) (by decide) (t := (.array .long)) (t' := .int) (by decide) (by decide)))
  have f24 : Fld Z h20 x0 "com/example/folioseek/folioseek/UseOrder" "slots" "[I" (.ref aS) := F_s.other W20 (Or.inr (slot_ne (Or.inl (hw _ (List.mem_of_getElem? (i := 16) rfl))) (Or.inl (hw _ (List.mem_of_getElem? (i := 23) rfl))) (by decide) (t := (.array .int)) (t' := .int) (by decide) (by decide)))
  have f25 : Arv Z h20 aI kI .int (16 : Int32) (List.map Value.int LI) (.int (0 : Int32)) := A_i.other W20 (Ne.symm ne_xi)
  have f26 : Arv Z h20 aU kU .long (16 : Int32) (List.map Value.long LU) (.long (0 : Int64)) := A_u.other W20 (Ne.symm ne_xu)
  have f27 : Arv Z h20 aS kS .int (4 : Int32) (List.map Value.int LS) (.int (0 : Int32)) := A_s.other W20 (Ne.symm ne_xs)
  have f28 : Fld Z h20 x0 "com/example/folioseek/folioseek/UseOrder" "size" "I" (.int (4 : Int32)) := F_z.same W20
  have K29 : Keep h0 h20 [x0, aI, aU, aS] := K0.wr W20 (Or.inl (List.mem_of_getElem? (i := 0) rfl))
  have Z20 : n0 ≤ h20.size := Nat.le_trans Z0 (Keep.of_wr W20).1
  have N20 := Fr.snoc X20 N0 g_x
  obtain ⟨LL20, X20, N20⟩ := own_hide X20 N20
  have st30 : Steps p.tables e below sE (T20.setTop (mkF m 112 #[.val (.ref x0), .val (.int (3 : Int32)), .val (.long x2), .second, .unset] [(.int (3 : Int32)), (.long x2), (.int (3 : Int32)), (.ref x0)])) := st19.trans (sr20 _ (Steps.refl _))
  obtain ⟨cq31, q31, q31'⟩ := f21.cell
  obtain ⟨_, _, ⟨T31, L31, k31, n31⟩, -, X31, ⟨Lc31, hQ31, l31, y31, z31⟩, sr31⟩ := X20.privateBack hx (y := (⟨"com/example/folioseek/folioseek/UseOrder", "place", "(IJI)V"⟩ : MethodName)) hown (mvT hZ (hw _ (List.mem_of_getElem? (i := 45) rfl))) (mvT hZ (hw _ (List.mem_of_getElem? (i := 46) rfl))) (own_selp (z := (⟨"com/example/folioseek/folioseek/UseOrder", "add", "(IJ)V"⟩ : MethodName)) rfl (notFace_of_selects (args := #[]) (mvT hZ (hw _ (List.mem_of_getElem? (i := 20) rfl)))) (args' := #[]) (mvT hZ (hw _ (List.mem_of_getElem? (i := 19) rfl))) (Cond.privateMethod_at (mvP hZ (hw _ (List.mem_of_getElem? (i := 47) rfl)) (args := #[]))) (mvT hZ (hw _ (List.mem_of_getElem? (i := 46) rfl))) (by decide)) (Cond.privateMethod_at (mvP hZ (hw _ (List.mem_of_getElem? (i := 47) rfl)) (args := #[]))) (mvT hZ (hw _ (List.mem_of_getElem? (i := 48) rfl))) (by decide) (backOf (W := 0) (rm9 l Z a0 hw [] x0 (3 : Int32) x2 (3 : Int32) aI aU aS kI kU kS LI LU LS (4 : Int32) h20 n0 Z20 f22 f23 f24 f25 f26 f27 (by decide) (by decide) ⟨hP.1, hP.2.1, by decide, (by rw [hP.2.2.1]; decide)⟩ g_i g_u g_s ne_iu ne_is ne_us ne_xi ne_xu ne_xs) hZ (hw _ (List.mem_of_getElem? (i := 48) rfl)) (hw _ (List.mem_of_getElem? (i := 3) rfl)) (by decide) (by decide)) (g := (mkF m 112 #[.val (.ref x0), .val (.int (3 : Int32)), .val (.long x2), .second, .unset] [(.int (3 : Int32)), (.long x2), (.int (3 : Int32)), (.ref x0)])) rfl (by rw [hml]; rfl) (Steps.refl _) (a := x0) (by rw [e20]; exact q31) q31' (argsL := [(.int (3 : Int32)), (.long x2), (.int (3 : Int32))]) (rest := []) (lenOf pd_0 rfl) rfl (by show 2 * 0 + _ ≤ _; exact Nat.le_of_eq rfl) (hb hby d3_112) (fun _ _ => ⟨rfl, e20, (by decide : 0 + 0 ≤ _), (by decide : 0 + 0 ≤ _)⟩)
  dsimp only [Pt.U, Pt.locs, Pt.cells, Pt.slots] at X31 l31 y31 z31 sr31 hQ31
  subst l31 y31 z31
  obtain ⟨rfl, N31q, K31c, f31_0, f31_1, f31_2⟩ := hQ31
  have N31 := Fr.app N20 N31q
  obtain ⟨LL31, X31, N31⟩ := own_hide X31 N31
  have f32 : Exa Z T31.heap x0 "com/example/folioseek/folioseek/UseOrder" := f21.keep K31c
  have f33 : Fld Z T31.heap x0 "com/example/folioseek/folioseek/UseOrder" "ids" "[I" (.ref aI) := f22.keep K31c (ninS ne_xi (ninS ne_xu (ninS ne_xs nin0)))
  have f34 : Fld Z T31.heap x0 "com/example/folioseek/folioseek/UseOrder" "uses" "[J" (.ref aU) := f23.keep K31c (ninS ne_xi (ninS ne_xu (ninS ne_xs nin0)))
  have f35 : Fld Z T31.heap x0 "com/example/folioseek/folioseek/UseOrder" "slots" "[I" (.ref aS) := f24.keep K31c (ninS ne_xi (ninS ne_xu (ninS ne_xs nin0)))
  have f36 : Fld Z T31.heap x0 "com/example/folioseek/folioseek/UseOrder" "size" "I" (.int (4 : Int32)) := f28.keep K31c (ninS ne_xi (ninS ne_xu (ninS ne_xs nin0)))
  have K37 : Keep h0 T31.heap [x0, aI, aU, aS] := K29.trans K31c (allS (Or.inl (List.mem_of_getElem? (i := 1) rfl)) (allS (Or.inl (List.mem_of_getElem? (i := 2) rfl)) (allS (Or.inl (List.mem_of_getElem? (i := 3) rfl)) all0)))
  have Z38 : n0 ≤ T31.heap.size := Nat.le_trans Z20 K31c.1
  have st39 : Steps p.tables e below sE (T31.setTop (mkF m 115 #[.val (.ref x0), .val (.int (3 : Int32)), .val (.long x2), .second, .unset] [])) := st30.trans (sr31)
  have st40 : Steps p.tables e below sE (T31.setTop (mkF m 117 #[.val (.ref x0), .val (.int (3 : Int32)), .val (.long x2), .second, .unset] [(.ref x0), (.ref x0)])) := st39.trans (by
      show Steps _ _ _ (T31.setTop (mkF m 115 #[.val (.ref x0), .val (.int (3 : Int32)), .val (.long x2), .second, .unset] [])) _
      refine XS.aloadN X31.here hx rfl (hb hby d3_115) rfl rfl ?_
      show Steps _ _ _ (T31.setTop (mkF m 116 #[.val (.ref x0), .val (.int (3 : Int32)), .val (.long x2), .second, .unset] [(.ref x0)])) _
      refine XS.aloadN X31.here hx rfl (hb hby d3_116) rfl rfl ?_
      exact Steps.refl _)
  obtain ⟨T41, X41, e41, sr41⟩ := getF X31 hx hZ hown (host := "") (Or.inl (hw _ (List.mem_of_getElem? (i := 22) rfl))) Via.refl rfl f36 (g := (mkF m 117 #[.val (.ref x0), .val (.int (3 : Int32)), .val (.long x2), .second, .unset] [(.ref x0), (.ref x0)])) rfl rfl (hb hby d3_117)
  have st42 : Steps p.tables e below sE (T41.setTop (mkF m 120 #[.val (.ref x0), .val (.int (3 : Int32)), .val (.long x2), .second, .unset] [(.int (4 : Int32)), (.ref x0)])) := st40.trans (sr41 _ (Steps.refl _))
  have st43 : Steps p.tables e below sE (T41.setTop (mkF m 122 #[.val (.ref x0), .val (.int (3 : Int32)), .val (.long x2), .second, .unset] [(.int (3 : Int32)), (.ref x0)])) := st42.trans (by
      show Steps _ _ _ (T41.setTop (mkF m 120 #[.val (.ref x0), .val (.int (3 : Int32)), .val (.long x2), .second, .unset] [(.int (4 : Int32)), (.ref x0)])) _
      refine XS.iconst X41.here hx rfl (hb hby d3_120) ?_
      show Steps _ _ _ (T41.setTop (mkF m 121 #[.val (.ref x0), .val (.int (3 : Int32)), .val (.long x2), .second, .unset] [(.int (1 : Int32)), (.int (4 : Int32)), (.ref x0)])) _
      refine XS.isub X41.here hx rfl (hb hby d3_121) rfl ?_
      exact Steps.refl _)
  have hSl : (LS).length = 4 := by simp only [List.length_set, List.length_append, List.length_replicate, hP.2.2.1]
  have hSg : ∀ i, i < 4 → (LS).getD i 0 = LS.getD i 0 := by
    intro i hi
    rfl
  have hP2 : own_P 4 4 (LI.set ((3 : Int32)).toNatClampNeg (3 : Int32)) (LU.set ((3 : Int32)).toNatClampNeg x2) (LS.set ((3 : Int32)).toNatClampNeg (3 : Int32)) val (fun i => i < 4) := by
    have q := own_push (m' := 4) (S' := LS) hP (by decide) (by decide) (by decide) (by decide) hSl hSg
    rw [hv] at q
    exact q
  have hU2 : ∀ j, j < 4 → ¬ j = 3 → (((LU.set ((3 : Int32)).toNatClampNeg x2)).getD 0 0).toInt ≤ (((LU.set ((3 : Int32)).toNatClampNeg x2)).getD j 0).toInt := own_pushH hP.2.1 (by decide) hH x2
  obtain ⟨cq44, q44, q44'⟩ := f32.cell
  obtain ⟨_, _, ⟨T44, L44, k44, n44⟩, -, X44, ⟨Lc44, hQ44, l44, y44, z44⟩, sr44⟩ := X41.privateBack hx (y := (⟨"com/example/folioseek/folioseek/UseOrder", "siftUp", "(I)V"⟩ : MethodName)) hown (mvT hZ (hw _ (List.mem_of_getElem? (i := 49) rfl))) (mvT hZ (hw _ (List.mem_of_getElem? (i := 50) rfl))) (own_selp (z := (⟨"com/example/folioseek/folioseek/UseOrder", "add", "(IJ)V"⟩ : MethodName)) rfl (notFace_of_selects (args := #[]) (mvT hZ (hw _ (List.mem_of_getElem? (i := 20) rfl)))) (args' := #[]) (mvT hZ (hw _ (List.mem_of_getElem? (i := 19) rfl))) (Cond.privateMethod_at (mvP hZ (hw _ (List.mem_of_getElem? (i := 51) rfl)) (args := #[]))) (mvT hZ (hw _ (List.mem_of_getElem? (i := 50) rfl))) (by decide)) (Cond.privateMethod_at (mvP hZ (hw _ (List.mem_of_getElem? (i := 51) rfl)) (args := #[]))) (mvT hZ (hw _ (List.mem_of_getElem? (i := 52) rfl))) (by decide) (backOf (W := 0) (rm10 l Z a0 hw [] x0 (3 : Int32) aI aU aS kI kU kS (LI.set ((3 : Int32)).toNatClampNeg (3 : Int32)) (LU.set ((3 : Int32)).toNatClampNeg x2) (LS.set ((3 : Int32)).toNatClampNeg (3 : Int32)) (4 : Int32) 4 val (fun i => i < 4) T31.heap n0 Z38 f32 f33 f34 f35 f31_0 f31_1 f31_2 hP2 (by decide) hU2 g_i g_u g_s ne_iu ne_is ne_us ne_xi ne_xu ne_xs) hZ (hw _ (List.mem_of_getElem? (i := 52) rfl)) (hw _ (List.mem_of_getElem? (i := 3) rfl)) (by decide) (by decide)) (g := (mkF m 122 #[.val (.ref x0), .val (.int (3 : Int32)), .val (.long x2), .second, .unset] [(.int (3 : Int32)), (.ref x0)])) rfl (by rw [hml]; rfl) (Steps.refl _) (a := x0) (by rw [e41]; exact q44) q44' (argsL := [(.int (3 : Int32))]) (rest := []) (lenOf pd_5 rfl) rfl (by show 2 * 0 + _ ≤ _; exact Nat.le_of_eq rfl) (hb hby d3_122) (fun _ _ => ⟨rfl, e41, (by decide : 0 + 0 ≤ _), (by decide : 0 + 0 ≤ _)⟩)
  dsimp only [Pt.U, Pt.locs, Pt.cells, Pt.slots] at X44 l44 y44 z44 sr44 hQ44
  subst l44 y44 z44
  obtain ⟨rfl, N44q, K44c, ⟨LI', LU', LS', qI, qU, qS, hP', hH'⟩⟩ := hQ44
  have N44 := Fr.app N31 N44q
  obtain ⟨LL44, X44, N44⟩ := own_hide X44 N44
  have f45 : Exa Z T44.heap x0 "com/example/folioseek/folioseek/UseOrder" := f32.keep K44c
  have f46 : Fld Z T44.heap x0 "com/example/folioseek/folioseek/UseOrder" "ids" "[I" (.ref aI) := f33.keep K44c (ninS ne_xi (ninS ne_xu (ninS ne_xs nin0)))
  have f47 : Fld Z T44.heap x0 "com/example/folioseek/folioseek/UseOrder" "uses" "[J" (.ref aU) := f34.keep K44c (ninS ne_xi (ninS ne_xu (ninS ne_xs nin0)))
  have f48 : Fld Z T44.heap x0 "com/example/folioseek/folioseek/UseOrder" "slots" "[I" (.ref aS) := f35.keep K44c (ninS ne_xi (ninS ne_xu (ninS ne_xs nin0)))
  have f49 : Fld Z T44.heap x0 "com/example/folioseek/folioseek/UseOrder" "size" "I" (.int (4 : Int32)) := f36.keep K44c (ninS ne_xi (ninS ne_xu (ninS ne_xs nin0)))
  have K50 : Keep h0 T44.heap [x0, aI, aU, aS] := K37.trans K44c (allS (Or.inl (List.mem_of_getElem? (i := 1) rfl)) (allS (Or.inl (List.mem_of_getElem? (i := 2) rfl)) (allS (Or.inl (List.mem_of_getElem? (i := 3) rfl)) all0)))
  have Z51 : n0 ≤ T44.heap.size := Nat.le_trans Z38 K44c.1
  have st52 : Steps p.tables e below sE (T44.setTop (mkF m 125 #[.val (.ref x0), .val (.int (3 : Int32)), .val (.long x2), .second, .unset] [])) := st43.trans (sr44)
  obtain ⟨fs, hr, hrun, hended, hW, hsame⟩ := X44.leave (v := none) (fun _ => rfl) hlk
  refine ⟨_, _, (own_ent hsE st52).trans ?_, hrun, hended, _, _, rfl, ?_, ⟨_, rfl⟩, hW, hsame.mono (by decide) (by decide)⟩
  · exact X44.returnOut hx Bd.returns (hb hby d3_125) hr
  · show Qad3 Z x0 x2 aI aU aS kI kU kS LI LU LS val h0 n0 _ T44.heap _
    exact ⟨rfl, N44, K50, f45, f46, f47, f49, ⟨aS, _, LI', LU', LS', f48, qI, qU, qS, hP', hH', g_s, ne_is, ne_us, ne_xs, Or.inl rfl⟩⟩
theorem ef_ad4 (m : MethodId) (x0 : Addr) (x2 : Int64)  : entryFrame m #[(.ref x0), (.int (4 : Int32)), (.long x2)] 5 = mkF m 0 #[.val (.ref x0), .val (.int (4 : Int32)), .val (.long x2), .second, .unset] [] := by first | (simp [entryFrame, mkF, argsToLocals, Value.category]; done) | rfl
def Qad4 (Z : State) (x0 : Addr) (x2 : Int64) (aI : Addr) (aU : Addr) (aS : Addr) (kI : ClassId) (kU : ClassId) (kS : ClassId) (LI : List Int32) (LU : List Int64) (LS : List Int32) (val : Nat → Int64) (h0 : Heap) (n0 : Nat) (vE : Option Value) (hE : Heap) (LE : List Loc) : Prop := vE = none ∧ Fr n0 LE ∧ Keep h0 hE [x0, aI, aU, aS] ∧ Exa Z hE x0 "com/example/folioseek/folioseek/UseOrder" ∧ Fld Z hE x0 "com/example/folioseek/folioseek/UseOrder" "ids" "[I" (.ref aI) ∧ Fld Z hE x0 "com/example/folioseek/folioseek/UseOrder" "uses" "[J" (.ref aU) ∧ Fld Z hE x0 "com/example/folioseek/folioseek/UseOrder" "size" "I" (.int (5 : Int32)) ∧ (∃ (aT : Addr) (kT : ClassId) (LI' : List Int32) (LU' : List Int64) (LS' : List Int32), Fld Z hE x0 "com/example/folioseek/folioseek/UseOrder" "slots" "[I" (.ref aT) ∧ Arv Z hE aI kI .int (16 : Int32) (List.map Value.int LI') (.int (0 : Int32)) ∧ Arv Z hE aU kU .long (16 : Int32) (List.map Value.long LU') (.long (0 : Int64)) ∧ Arv Z hE aT kT .int (8 : Int32) (List.map Value.int LS') (.int (0 : Int32)) ∧ own_P 5 8 LI' LU' LS' val (fun i => i < 5) ∧ own_H 5 LU' ∧ n0 ≤ aT ∧ aI ≠ aT ∧ aU ≠ aT ∧ x0 ≠ aT ∧ (aT = aS ∨ h0.size ≤ aT))
set_option maxRecDepth 65536 in
set_option maxHeartbeats 40000000 in
theorem rmad4 (l : Launch) (Z : State) (a0 : Array Value) (hw : ∀ d ∈ tables_1, d.before a0 Z = true) (ws : List Jvm.Cond) (x0 : Addr) (x2 : Int64) (aI : Addr) (aU : Addr) (aS : Addr) (kI : ClassId) (kU : ClassId) (kS : ClassId) (LI : List Int32) (LU : List Int64) (LS : List Int32) (val : Nat → Int64) (h0 : Heap) (n0 : Nat) (Z0 : n0 ≤ h0.size) (E_x : Exa Z h0 x0 "com/example/folioseek/folioseek/UseOrder") (F_i : Fld Z h0 x0 "com/example/folioseek/folioseek/UseOrder" "ids" "[I" (.ref aI)) (F_u : Fld Z h0 x0 "com/example/folioseek/folioseek/UseOrder" "uses" "[J" (.ref aU)) (F_s : Fld Z h0 x0 "com/example/folioseek/folioseek/UseOrder" "slots" "[I" (.ref aS)) (F_z : Fld Z h0 x0 "com/example/folioseek/folioseek/UseOrder" "size" "I" (.int (4 : Int32))) (A_i : Arv Z h0 aI kI .int (16 : Int32) (List.map Value.int LI) (.int (0 : Int32))) (A_u : Arv Z h0 aU kU .long (16 : Int32) (List.map Value.long LU) (.long (0 : Int64))) (A_s : Arv Z h0 aS kS .int (4 : Int32) (List.map Value.int LS) (.int (0 : Int32))) (hP : own_P 4 4 LI LU LS val (fun i => i < 4)) (hH : own_H 4 LU) (hv : val 4 = x2) (g_x : n0 ≤ x0) (g_i : n0 ≤ aI) (g_u : n0 ≤ aU) (g_s : n0 ≤ aS) (ne_iu : aI ≠ aU) (ne_is : aI ≠ aS) (ne_us : aU ≠ aS) (ne_xi : x0 ≠ aI) (ne_xu : x0 ≠ aU) (ne_xs : x0 ≠ aS) :
    MetFree l (⟨"com/example/folioseek/folioseek/UseOrder", "add", "(IJ)V"⟩ : MethodName) (head1 (Jvm.Cond.code (⟨"com/example/folioseek/folioseek/UseOrder", "add", "(IJ)V"⟩ : MethodName) prog_24_method_5_code 5 none :: ws) ({ frames := 2, cells := 1, slots := 8, locals := 33 } : Room)) (fun a U => a = #[(.ref x0), (.int (4 : Int32)), (.long x2)] ∧ Z.Warmed39 U.vm ∧ U.heap = h0) (fun _ _ _ _ _ => True) (fun _ U o U' => ∃ vE LE, o = .returned vE ∧ Qad4 Z x0 x2 aI aU aS kI kU kS LI LU LS val h0 n0 vE U'.heap LE ∧ FrameEnd U o U' LE ({ frames := 2, cells := 1, slots := 8, locals := 33 } : Room).cells ({ frames := 2, cells := 1, slots := 8, locals := 33 } : Room).slots) := by
  refine MetFree.of_bodySF (plainFor_of_name pn_1) hisR ?_
  intro p e s m args below meth c s₁ Bd hml0 hP hK
  obtain ⟨rfl, hZ, hh⟩ := hP
  have hx := Bd.exec
  have hby := Bd.bytes
  have hml : c.maxLocals = 5 := hml0
  have hown : s.vm.findClass "com/example/folioseek/folioseek/UseOrder" = some m.cls := findClass_of_methodNamed Bd.named
  have hnm := (name_of_methodNamed Bd.named Bd.method).1
  have hlk : meth.locks = false := BodyLoose.notSynchronized Bd
  have X0 : Stand p l e ({ frames := 2, cells := 1, slots := 8, locals := 33 } : Room) s m #[(.ref x0), (.int (4 : Int32)), (.long x2)] below meth c s₁ [] 0 0 := Stand.of_body Bd
  have e0 : s₁.heap = h0 := by rw [← hh, Bd.state]; rfl
  have N0 := Fr.nil n0
  obtain ⟨sE, hsE⟩ : ∃ z, z = (s₁.setTop (entryFrame m #[(.ref x0), (.int (4 : Int32)), (.long x2)] 5)) := ⟨_, rfl⟩
  have st0 : Steps p.tables e below sE (s₁.setTop (mkF m 0 #[.val (.ref x0), .val (.int (4 : Int32)), .val (.long x2), .second, .unset] [])) := by rw [hsE]; exact castTop (ef_ad4 m x0 x2) (Steps.refl _)
  have K0 : Keep h0 h0 [x0, aI, aU, aS] := Keep.refl _ _
  have st1 : Steps p.tables e below sE (s₁.setTop (mkF m 1 #[.val (.ref x0), .val (.int (4 : Int32)), .val (.long x2), .second, .unset] [(.ref x0)])) := st0.trans (by
      show Steps _ _ _ (s₁.setTop (mkF m 0 #[.val (.ref x0), .val (.int (4 : Int32)), .val (.long x2), .second, .unset] [])) _
      refine XS.aloadN X0.here hx rfl (hb hby d3_0) rfl rfl ?_
      exact Steps.refl _)
  obtain ⟨T2, X2, e2, sr2⟩ := getF X0 hx hZ hown (host := "") (Or.inl (hw _ (List.mem_of_getElem? (i := 22) rfl))) Via.refl e0 F_z (g := (mkF m 1 #[.val (.ref x0), .val (.int (4 : Int32)), .val (.long x2), .second, .unset] [(.ref x0)])) rfl rfl (hb hby d3_1)
  have st3 : Steps p.tables e below sE (T2.setTop (mkF m 4 #[.val (.ref x0), .val (.int (4 : Int32)), .val (.long x2), .second, .unset] [(.int (4 : Int32))])) := st1.trans (sr2 _ (Steps.refl _))
  have st4 : Steps p.tables e below sE (T2.setTop (mkF m 5 #[.val (.ref x0), .val (.int (4 : Int32)), .val (.long x2), .second, .unset] [(.ref x0), (.int (4 : Int32))])) := st3.trans (by
      show Steps _ _ _ (T2.setTop (mkF m 4 #[.val (.ref x0), .val (.int (4 : Int32)), .val (.long x2), .second, .unset] [(.int (4 : Int32))])) _
      refine XS.aloadN X2.here hx rfl (hb hby d3_4) rfl rfl ?_
      exact Steps.refl _)
  obtain ⟨T5, X5, e5, sr5⟩ := getF X2 hx hZ hown (host := "") (Or.inl (hw _ (List.mem_of_getElem? (i := 11) rfl))) Via.refl e2 F_i (g := (mkF m 5 #[.val (.ref x0), .val (.int (4 : Int32)), .val (.long x2), .second, .unset] [(.ref x0), (.int (4 : Int32))])) rfl rfl (hb hby d3_5)
  have st6 : Steps p.tables e below sE (T5.setTop (mkF m 8 #[.val (.ref x0), .val (.int (4 : Int32)), .val (.long x2), .second, .unset] [(.ref aI), (.int (4 : Int32))])) := st4.trans (sr5 _ (Steps.refl _))
  obtain ⟨cl7, Ar7, -, S7, N7, -, -⟩ := id A_i
  have st8 : Steps p.tables e below sE (T5.setTop (mkF m 9 #[.val (.ref x0), .val (.int (4 : Int32)), .val (.long x2), .second, .unset] [(.int (16 : Int32)), (.int (4 : Int32))])) := st6.trans (by
      show Steps _ _ _ (T5.setTop (mkF m 8 #[.val (.ref x0), .val (.int (4 : Int32)), .val (.long x2), .second, .unset] [(.ref aI), (.int (4 : Int32))])) _
      refine X5.arraylength hx (by rw [e5]; exact Ar7.1) (State.isArrayOf_alike hZ.alike Ar7.2.1) (g := (mkF m 8 #[.val (.ref x0), .val (.int (4 : Int32)), .val (.long x2), .second, .unset] [(.ref aI), (.int (4 : Int32))])) rfl rfl (hb hby d3_8) _ ?_
      rw [len_of S7 N7]
      exact Steps.refl _)
  have hf9 : ¬ ((4 : Int32) = (16 : Int32)) := by decide
  have st10 : Steps p.tables e below sE (T5.setTop (mkF m 48 #[.val (.ref x0), .val (.int (4 : Int32)), .val (.long x2), .second, .unset] [(.ref x0), (.int (4 : Int32))])) := st8.trans (by
      show Steps _ _ _ (T5.setTop (mkF m 9 #[.val (.ref x0), .val (.int (4 : Int32)), .val (.long x2), .second, .unset] [(.int (16 : Int32)), (.int (4 : Int32))])) _
      refine XS.icmpYes X5.here hx rfl (pc0 := 9) (pc' := 46) rfl (hb hby d3_9) rfl (feq hf9).2 (by decide) (by decide) ?_
      show Steps _ _ _ (T5.setTop (mkF m 46 #[.val (.ref x0), .val (.int (4 : Int32)), .val (.long x2), .second, .unset] [])) _
      refine XS.iloadN X5.here hx rfl (hb hby d3_46) rfl ?_
      show Steps _ _ _ (T5.setTop (mkF m 47 #[.val (.ref x0), .val (.int (4 : Int32)), .val (.long x2), .second, .unset] [(.int (4 : Int32))])) _
      refine XS.aloadN X5.here hx rfl (hb hby d3_47) rfl rfl ?_
      exact Steps.refl _)
  obtain ⟨T11, X11, e11, sr11⟩ := getF X5 hx hZ hown (host := "") (Or.inl (hw _ (List.mem_of_getElem? (i := 15) rfl))) Via.refl e5 F_s (g := (mkF m 48 #[.val (.ref x0), .val (.int (4 : Int32)), .val (.long x2), .second, .unset] [(.ref x0), (.int (4 : Int32))])) rfl rfl (hb hby d3_48)
  have st12 : Steps p.tables e below sE (T11.setTop (mkF m 51 #[.val (.ref x0), .val (.int (4 : Int32)), .val (.long x2), .second, .unset] [(.ref aS), (.int (4 : Int32))])) := st10.trans (sr11 _ (Steps.refl _))
  obtain ⟨cl13, Ar13, -, S13, N13, -, -⟩ := id A_s
  have st14 : Steps p.tables e below sE (T11.setTop (mkF m 52 #[.val (.ref x0), .val (.int (4 : Int32)), .val (.long x2), .second, .unset] [(.int (4 : Int32)), (.int (4 : Int32))])) := st12.trans (by
      show Steps _ _ _ (T11.setTop (mkF m 51 #[.val (.ref x0), .val (.int (4 : Int32)), .val (.long x2), .second, .unset] [(.ref aS), (.int (4 : Int32))])) _
      refine X11.arraylength hx (by rw [e11]; exact Ar13.1) (State.isArrayOf_alike hZ.alike Ar13.2.1) (g := (mkF m 51 #[.val (.ref x0), .val (.int (4 : Int32)), .val (.long x2), .second, .unset] [(.ref aS), (.int (4 : Int32))])) rfl rfl (hb hby d3_51) _ ?_
      rw [len_of S13 N13]
      exact Steps.refl _)
  have hf15 : ¬ ((4 : Int32) < (4 : Int32)) := by decide
  have st16 : Steps p.tables e below sE (T11.setTop (mkF m 56 #[.val (.ref x0), .val (.int (4 : Int32)), .val (.long x2), .second, .unset] [(.ref x0)])) := st14.trans (by
      show Steps _ _ _ (T11.setTop (mkF m 52 #[.val (.ref x0), .val (.int (4 : Int32)), .val (.long x2), .second, .unset] [(.int (4 : Int32)), (.int (4 : Int32))])) _
      refine XS.icmpNo X11.here hx rfl (hb hby d3_52) rfl (flt hf15).1 ?_
      show Steps _ _ _ (T11.setTop (mkF m 55 #[.val (.ref x0), .val (.int (4 : Int32)), .val (.long x2), .second, .unset] [])) _
      refine XS.aloadN X11.here hx rfl (hb hby d3_55) rfl rfl ?_
      exact Steps.refl _)
  obtain ⟨T17, X17, e17, sr17⟩ := getF X11 hx hZ hown (host := "") (Or.inl (hw _ (List.mem_of_getElem? (i := 15) rfl))) Via.refl e11 F_s (g := (mkF m 56 #[.val (.ref x0), .val (.int (4 : Int32)), .val (.long x2), .second, .unset] [(.ref x0)])) rfl rfl (hb hby d3_56)
  have st18 : Steps p.tables e below sE (T17.setTop (mkF m 59 #[.val (.ref x0), .val (.int (4 : Int32)), .val (.long x2), .second, .unset] [(.ref aS)])) := st16.trans (sr17 _ (Steps.refl _))
  obtain ⟨cl19, Ar19, -, S19, N19, -, -⟩ := id A_s
  have st20 : Steps p.tables e below sE (T17.setTop (mkF m 64 #[.val (.ref x0), .val (.int (4 : Int32)), .val (.long x2), .second, .val (.int (4 : Int32))] [(.ref x0), (.ref x0)])) := st18.trans (by
      show Steps _ _ _ (T17.setTop (mkF m 59 #[.val (.ref x0), .val (.int (4 : Int32)), .val (.long x2), .second, .unset] [(.ref aS)])) _
      refine X17.arraylength hx (by rw [e17]; exact Ar19.1) (State.isArrayOf_alike hZ.alike Ar19.2.1) (g := (mkF m 59 #[.val (.ref x0), .val (.int (4 : Int32)), .val (.long x2), .second, .unset] [(.ref aS)])) rfl rfl (hb hby d3_59) _ ?_
      rw [len_of S19 N19]
      show Steps _ _ _ (T17.setTop (mkF m 60 #[.val (.ref x0), .val (.int (4 : Int32)), .val (.long x2), .second, .unset] [(.int (4 : Int32))])) _
      refine XS.istore X17.here hx rfl (hb hby d3_60) rfl (l' := #[.val (.ref x0), .val (.int (4 : Int32)), .val (.long x2), .second, .val (.int (4 : Int32))]) rfl ?_
      show Steps _ _ _ (T17.setTop (mkF m 62 #[.val (.ref x0), .val (.int (4 : Int32)), .val (.long x2), .second, .val (.int (4 : Int32))] [])) _
      refine XS.aloadN X17.here hx rfl (hb hby d3_62) rfl rfl ?_
      show Steps _ _ _ (T17.setTop (mkF m 63 #[.val (.ref x0), .val (.int (4 : Int32)), .val (.long x2), .second, .val (.int (4 : Int32))] [(.ref x0)])) _
      refine XS.aloadN X17.here hx rfl (hb hby d3_63) rfl rfl ?_
      exact Steps.refl _)
  obtain ⟨T21, X21, e21, sr21⟩ := getF X17 hx hZ hown (host := "") (Or.inl (hw _ (List.mem_of_getElem? (i := 15) rfl))) Via.refl e17 F_s (g := (mkF m 64 #[.val (.ref x0), .val (.int (4 : Int32)), .val (.long x2), .second, .val (.int (4 : Int32))] [(.ref x0), (.ref x0)])) rfl rfl (hb hby d3_64)
  have st22 : Steps p.tables e below sE (T21.setTop (mkF m 67 #[.val (.ref x0), .val (.int (4 : Int32)), .val (.long x2), .second, .val (.int (4 : Int32))] [(.ref aS), (.ref x0)])) := st20.trans (sr21 _ (Steps.refl _))
  have st23 : Steps p.tables e below sE (T21.setTop (mkF m 74 #[.val (.ref x0), .val (.int (4 : Int32)), .val (.long x2), .second, .val (.int (4 : Int32))] [(.int (8 : Int32)), (.int (5 : Int32)), (.ref aS), (.ref x0)])) := st22.trans (by
      show Steps _ _ _ (T21.setTop (mkF m 67 #[.val (.ref x0), .val (.int (4 : Int32)), .val (.long x2), .second, .val (.int (4 : Int32))] [(.ref aS), (.ref x0)])) _
      refine XS.iloadN X21.here hx rfl (hb hby d3_67) rfl ?_
      show Steps _ _ _ (T21.setTop (mkF m 68 #[.val (.ref x0), .val (.int (4 : Int32)), .val (.long x2), .second, .val (.int (4 : Int32))] [(.int (4 : Int32)), (.ref aS), (.ref x0)])) _
      refine XS.iconst X21.here hx rfl (hb hby d3_68) ?_
      show Steps _ _ _ (T21.setTop (mkF m 69 #[.val (.ref x0), .val (.int (4 : Int32)), .val (.long x2), .second, .val (.int (4 : Int32))] [(.int (1 : Int32)), (.int (4 : Int32)), (.ref aS), (.ref x0)])) _
      refine XS.iadd X21.here hx rfl (hb hby d3_69) rfl ?_
      show Steps _ _ _ (T21.setTop (mkF m 70 #[.val (.ref x0), .val (.int (4 : Int32)), .val (.long x2), .second, .val (.int (4 : Int32))] [(.int (5 : Int32)), (.ref aS), (.ref x0)])) _
      refine XS.iconst X21.here hx rfl (hb hby d3_70) ?_
      show Steps _ _ _ (T21.setTop (mkF m 71 #[.val (.ref x0), .val (.int (4 : Int32)), .val (.long x2), .second, .val (.int (4 : Int32))] [(.int (2 : Int32)), (.int (5 : Int32)), (.ref aS), (.ref x0)])) _
      refine XS.iload X21.here hx rfl (hb hby d3_71) rfl ?_
      show Steps _ _ _ (T21.setTop (mkF m 73 #[.val (.ref x0), .val (.int (4 : Int32)), .val (.long x2), .second, .val (.int (4 : Int32))] [(.int (4 : Int32)), (.int (2 : Int32)), (.int (5 : Int32)), (.ref aS), (.ref x0)])) _
      refine XS.imul X21.here hx rfl (hb hby d3_73) rfl ?_
      exact Steps.refl _)
  obtain ⟨_, _, ⟨T24, L24, k24, n24⟩, -, X24, ⟨Lc24, hQ24, l24, y24, z24⟩, sr24⟩ := Jvm.LawKit.callS X21 hx (y := (⟨"java/lang/Math", "max", "(II)I"⟩ : MethodName)) hown (mvT hZ (hw _ (List.mem_of_getElem? (i := 24) rfl))) (mvT hZ (hw _ (List.mem_of_getElem? (i := 25) rfl))) (mvT hZ (hw _ (List.mem_of_getElem? (i := 26) rfl))) (mvT hZ (hw _ (List.mem_of_getElem? (i := 27) rfl))) (by decide) (backOf (W := 2) (rm4 l Z a0 hw [] (5 : Int32) (8 : Int32)  h0 n0 Z0 ) hZ (hw _ (List.mem_of_getElem? (i := 27) rfl)) (hw _ (List.mem_of_getElem? (i := 26) rfl)) (by decide) (by decide)) (g := (mkF m 74 #[.val (.ref x0), .val (.int (4 : Int32)), .val (.long x2), .second, .val (.int (4 : Int32))] [(.int (8 : Int32)), (.int (5 : Int32)), (.ref aS), (.ref x0)])) rfl (by rw [hml]; rfl) (argsL := [(.int (5 : Int32)), (.int (8 : Int32))]) (rest := [(.ref aS), (.ref x0)]) (lenOf pd_1 rfl) rfl (by show 2 * 0 + _ ≤ _; exact Nat.le_of_eq rfl) (hb hby d3_74) (fun _ _ => ⟨rfl, e21, (by decide : 0 + 0 ≤ _), (by decide : 0 + 0 ≤ _)⟩)
  dsimp only [Pt.U, Pt.locs, Pt.cells, Pt.slots] at X24 l24 y24 z24 sr24 hQ24
  subst l24 y24 z24
  obtain ⟨rfl, N24q, hh24⟩ := hQ24
  have N24 := Fr.app N0 N24q
  obtain ⟨LL24, X24, N24⟩ := own_hide X24 N24
  have st25 : Steps p.tables e below sE (T24.setTop (mkF m 77 #[.val (.ref x0), .val (.int (4 : Int32)), .val (.long x2), .second, .val (.int (4 : Int32))] [(.int (F4 (5 : Int32) (8 : Int32))), (.ref aS), (.ref x0)])) := st23.trans (sr24 _ (Steps.refl _))
  have hmx : (F4 (5 : Int32) (8 : Int32)) = (8 : Int32) := by decide
  rw [hmx] at st25
  obtain ⟨_, _, ⟨T26, L26, k26, n26⟩, -, X26, ⟨Lc26, hQ26, l26, y26, z26⟩, sr26⟩ := Jvm.LawKit.callS X24 hx (y := (⟨"java/util/Arrays", "copyOf", "([II)[I"⟩ : MethodName)) hown (mvT hZ (hw _ (List.mem_of_getElem? (i := 28) rfl))) (mvT hZ (hw _ (List.mem_of_getElem? (i := 29) rfl))) (mvT hZ (hw _ (List.mem_of_getElem? (i := 30) rfl))) (mvT hZ (hw _ (List.mem_of_getElem? (i := 31) rfl))) (by decide) (backOf (W := 1) (rmcp4 l Z a0 hw [] aS kS LS h0 n0 Z0 A_s hP.2.2.1) hZ (hw _ (List.mem_of_getElem? (i := 31) rfl)) (hw _ (List.mem_of_getElem? (i := 30) rfl)) (by decide) (by decide)) (g := (mkF m 77 #[.val (.ref x0), .val (.int (4 : Int32)), .val (.long x2), .second, .val (.int (4 : Int32))] [(.int (8 : Int32)), (.ref aS), (.ref x0)])) rfl (by rw [hml]; rfl) (argsL := [(.ref aS), (.int (8 : Int32))]) (rest := [(.ref x0)]) (lenOf pd_3 rfl) rfl (by show 2 * 0 + _ ≤ _; exact Nat.le_of_eq rfl) (hb hby d3_77) (fun _ _ => ⟨rfl, hh24, (by decide : 0 + 1 ≤ _), (by decide : 0 + 8 ≤ _)⟩)
  dsimp only [Pt.U, Pt.locs, Pt.cells, Pt.slots] at X26 l26 y26 z26 sr26 hQ26
  subst l26 y26 z26
  obtain ⟨rfl, N26q, K26c, ⟨kN, qbS⟩⟩ := hQ26
  have N26 := Fr.app N24 N26q
  obtain ⟨LL26, X26, N26⟩ := own_hide X26 N26
  have f27 : Exa Z T26.heap x0 "com/example/folioseek/folioseek/UseOrder" := E_x.keep K26c
  have f28 : Fld Z T26.heap x0 "com/example/folioseek/folioseek/UseOrder" "ids" "[I" (.ref aI) := F_i.keep K26c nin0
  have f29 : Fld Z T26.heap x0 "com/example/folioseek/folioseek/UseOrder" "uses" "[J" (.ref aU) := F_u.keep K26c nin0
  have f30 : Fld Z T26.heap x0 "com/example/folioseek/folioseek/UseOrder" "slots" "[I" (.ref aS) := F_s.keep K26c nin0
  have f31 : Fld Z T26.heap x0 "com/example/folioseek/folioseek/UseOrder" "size" "I" (.int (4 : Int32)) := F_z.keep K26c nin0
  have f32 : Arv Z T26.heap aI kI .int (16 : Int32) (List.map Value.int LI) (.int (0 : Int32)) := A_i.keep K26c nin0
  have f33 : Arv Z T26.heap aU kU .long (16 : Int32) (List.map Value.long LU) (.long (0 : Int64)) := A_u.keep K26c nin0
  have f34 : Arv Z T26.heap aS kS .int (4 : Int32) (List.map Value.int LS) (.int (0 : Int32)) := A_s.keep K26c nin0
  have K35 : Keep h0 T26.heap [x0, aI, aU, aS] := K0.trans K26c all0
  have Z36 : n0 ≤ T26.heap.size := Nat.le_trans Z0 K26c.1
  obtain ⟨bS, gbS⟩ : ∃ z, z = h0.size := ⟨_, rfl⟩
  rw [← gbS] at qbS sr26
  have g_bS : n0 ≤ bS := Nat.le_trans Z0 (Nat.le_of_eq gbS.symm)
  have sz_bS : h0.size ≤ bS := Nat.le_trans K0.1 (Nat.le_of_eq gbS.symm)
  have ne_x0_bS : x0 ≠ bS := Nat.ne_of_lt (Nat.lt_of_lt_of_le E_x.lt (Nat.le_of_eq gbS.symm))
  have ne_aI_bS : aI ≠ bS := Nat.ne_of_lt (Nat.lt_of_lt_of_le A_i.lt (Nat.le_of_eq gbS.symm))
  have ne_aU_bS : aU ≠ bS := Nat.ne_of_lt (Nat.lt_of_lt_of_le A_u.lt (Nat.le_of_eq gbS.symm))
  have ne_aS_bS : aS ≠ bS := Nat.ne_of_lt (Nat.lt_of_lt_of_le A_s.lt (Nat.le_of_eq gbS.symm))
  have st37 : Steps p.tables e below sE (T26.setTop (mkF m 80 #[.val (.ref x0), .val (.int (4 : Int32)), .val (.long x2), .second, .val (.int (4 : Int32))] [(.ref bS), (.ref x0)])) := st25.trans (sr26 _ (Steps.refl _))
  obtain ⟨T38, h38, X38, e38, W38, sr38⟩ := putF X26 hx hZ hown (host := "") (Or.inl (hw _ (List.mem_of_getElem? (i := 15) rfl))) Via.refl rfl f30 f27 (Or.inl (hw _ (List.mem_of_getElem? (i := 16) rfl))) (hw _ (List.mem_of_getElem? (i := 2) rfl)) (ty := (.array .int)) (by decide) rfl rfl (g := (mkF m 80 #[.val (.ref x0), .val (.int (4 : Int32)), .val (.long x2), .second, .val (.int (4 : Int32))] [(.ref bS), (.ref x0)])) rfl rfl (hb hby d3_80)
  have f39 : Exa Z h38 x0 "com/example/folioseek/folioseek/UseOrder" := f27.wr W38
  have f40 : Fld Z h38 x0 "com/example/folioseek/folioseek/UseOrder" "ids" "[I" (.ref aI) := f28.other W38 (Or.inr (slot_ne (Or.inl (hw _ (List.mem_of_getElem? (i := 12) rfl))) (Or.inl (hw _ (List.mem_of_getElem? (i := 16) rfl))) (by decide) (t := (.array .int)) (t' := (.array .int)) (by decide) (by decide)))
  have f41 : Fld Z h38 x0 "com/example/folioseek/folioseek/UseOrder" "uses" "[J" (.ref aU) := f29.other W38 (Or.inr (slot_ne (Or.inl (hw _ (List.mem_of_getElem? (i := 14) rfl))) (Or.inl (hw _ (List.mem_of_getElem? (i := 16) rfl))) (by decide) (t := (.array .long)) (t' := (.array .int)) (by decide) (by decide)))
  have f42 : Fld Z h38 x0 "com/example/folioseek/folioseek/UseOrder" "size" "I" (.int (4 : Int32)) := f31.other W38 (Or.inr (slot_ne (Or.inl (hw _ (List.mem_of_getElem? (i := 23) rfl))) (Or.inl (hw _ (List.mem_of_getElem? (i := 16) rfl))) (by decide) (t := .int) (t' := (.array .int)) (by decide) (by decide)))
  have f43 : Arv Z h38 aI kI .int (16 : Int32) (List.map Value.int LI) (.int (0 : Int32)) := f32.other W38 (Ne.symm ne_xi)
  have f44 : Arv Z h38 aU kU .long (16 : Int32) (List.map Value.long LU) (.long (0 : Int64)) := f33.other W38 (Ne.symm ne_xu)
  have f45 : Arv Z h38 aS kS .int (4 : Int32) (List.map Value.int LS) (.int (0 : Int32)) := f34.other W38 (Ne.symm ne_xs)
  have f46 : Arv Z h38 bS kN .int (8 : Int32) (List.map Value.int (LS ++ List.replicate 4 (0 : Int32))) (.int (0 : Int32)) := qbS.other W38 (Ne.symm ne_x0_bS)
  have f47 : Fld Z h38 x0 "com/example/folioseek/folioseek/UseOrder" "slots" "[I" (.ref bS) := f30.same W38
  have K48 : Keep h0 h38 [x0, aI, aU, aS] := K35.wr W38 (Or.inl (List.mem_of_getElem? (i := 0) rfl))
  have Z38 : n0 ≤ h38.size := Nat.le_trans Z36 (Keep.of_wr W38).1
  have N38 := Fr.snoc X38 N26 g_x
  obtain ⟨LL38, X38, N38⟩ := own_hide X38 N38
  have st49 : Steps p.tables e below sE (T38.setTop (mkF m 83 #[.val (.ref x0), .val (.int (4 : Int32)), .val (.long x2), .second, .val (.int (4 : Int32))] [])) := st37.trans (sr38 _ (Steps.refl _))
  have st50 : Steps p.tables e below sE (T38.setTop (mkF m 84 #[.val (.ref x0), .val (.int (4 : Int32)), .val (.long x2), .second, .val (.int (4 : Int32))] [(.ref x0)])) := st49.trans (by
      show Steps _ _ _ (T38.setTop (mkF m 83 #[.val (.ref x0), .val (.int (4 : Int32)), .val (.long x2), .second, .val (.int (4 : Int32))] [])) _
      refine XS.aloadN X38.here hx rfl (hb hby d3_83) rfl rfl ?_
      exact Steps.refl _)
  obtain ⟨T51, X51, e51, sr51⟩ := getF X38 hx hZ hown (host := "") (Or.inl (hw _ (List.mem_of_getElem? (i := 15) rfl))) Via.refl e38 f47 (g := (mkF m 84 #[.val (.ref x0), .val (.int (4 : Int32)), .val (.long x2), .second, .val (.int (4 : Int32))] [(.ref x0)])) rfl rfl (hb hby d3_84)
  have st52 : Steps p.tables e below sE (T51.setTop (mkF m 87 #[.val (.ref x0), .val (.int (4 : Int32)), .val (.long x2), .second, .val (.int (4 : Int32))] [(.ref bS)])) := st50.trans (sr51 _ (Steps.refl _))
  have st53 : Steps p.tables e below sE (T51.setTop (mkF m 90 #[.val (.ref x0), .val (.int (4 : Int32)), .val (.long x2), .second, .val (.int (4 : Int32))] [(.ref x0), (.int (4 : Int32)), (.ref bS)])) := st52.trans (by
      show Steps _ _ _ (T51.setTop (mkF m 87 #[.val (.ref x0), .val (.int (4 : Int32)), .val (.long x2), .second, .val (.int (4 : Int32))] [(.ref bS)])) _
      refine XS.iload X51.here hx rfl (hb hby d3_87) rfl ?_
      show Steps _ _ _ (T51.setTop (mkF m 89 #[.val (.ref x0), .val (.int (4 : Int32)), .val (.long x2), .second, .val (.int (4 : Int32))] [(.int (4 : Int32)), (.ref bS)])) _
      refine XS.aloadN X51.here hx rfl (hb hby d3_89) rfl rfl ?_
      exact Steps.refl _)
  obtain ⟨T54, X54, e54, sr54⟩ := getF X51 hx hZ hown (host := "") (Or.inl (hw _ (List.mem_of_getElem? (i := 15) rfl))) Via.refl e51 f47 (g := (mkF m 90 #[.val (.ref x0), .val (.int (4 : Int32)), .val (.long x2), .second, .val (.int (4 : Int32))] [(.ref x0), (.int (4 : Int32)), (.ref bS)])) rfl rfl (hb hby d3_90)
  have st55 : Steps p.tables e below sE (T54.setTop (mkF m 93 #[.val (.ref x0), .val (.int (4 : Int32)), .val (.long x2), .second, .val (.int (4 : Int32))] [(.ref bS), (.int (4 : Int32)), (.ref bS)])) := st53.trans (sr54 _ (Steps.refl _))
  obtain ⟨cl56, Ar56, -, S56, N56, -, -⟩ := id f46
  have st57 : Steps p.tables e below sE (T54.setTop (mkF m 95 #[.val (.ref x0), .val (.int (4 : Int32)), .val (.long x2), .second, .val (.int (4 : Int32))] [(.int (-1 : Int32)), (.int (8 : Int32)), (.int (4 : Int32)), (.ref bS)])) := st55.trans (by
      show Steps _ _ _ (T54.setTop (mkF m 93 #[.val (.ref x0), .val (.int (4 : Int32)), .val (.long x2), .second, .val (.int (4 : Int32))] [(.ref bS), (.int (4 : Int32)), (.ref bS)])) _
      refine X54.arraylength hx (by rw [e54]; exact Ar56.1) (State.isArrayOf_alike hZ.alike Ar56.2.1) (g := (mkF m 93 #[.val (.ref x0), .val (.int (4 : Int32)), .val (.long x2), .second, .val (.int (4 : Int32))] [(.ref bS), (.int (4 : Int32)), (.ref bS)])) rfl rfl (hb hby d3_93) _ ?_
      rw [len_of S56 N56]
      show Steps _ _ _ (T54.setTop (mkF m 94 #[.val (.ref x0), .val (.int (4 : Int32)), .val (.long x2), .second, .val (.int (4 : Int32))] [(.int (8 : Int32)), (.int (4 : Int32)), (.ref bS)])) _
      refine XS.iconst X54.here hx rfl (hb hby d3_94) ?_
      exact Steps.refl _)
  obtain ⟨_, _, ⟨T58, L58, k58, n58⟩, -, X58, ⟨Lc58, hQ58, l58, y58, z58⟩, sr58⟩ := Jvm.LawKit.callS X54 hx (y := (⟨"java/util/Arrays", "fill", "([IIII)V"⟩ : MethodName)) hown (mvT hZ (hw _ (List.mem_of_getElem? (i := 39) rfl))) (mvT hZ (hw _ (List.mem_of_getElem? (i := 40) rfl))) (mvT hZ (hw _ (List.mem_of_getElem? (i := 30) rfl))) (mvT hZ (hw _ (List.mem_of_getElem? (i := 41) rfl))) (by decide) (backOf (W := 0) (rmfl4 l Z a0 hw [] bS kN (LS ++ List.replicate 4 (0 : Int32)) h38 n0 Z38 f46 (by rw [List.length_append, List.length_replicate, hP.2.2.1]) g_bS) hZ (hw _ (List.mem_of_getElem? (i := 41) rfl)) (hw _ (List.mem_of_getElem? (i := 30) rfl)) (by decide) (by decide)) (g := (mkF m 95 #[.val (.ref x0), .val (.int (4 : Int32)), .val (.long x2), .second, .val (.int (4 : Int32))] [(.int (-1 : Int32)), (.int (8 : Int32)), (.int (4 : Int32)), (.ref bS)])) rfl (by rw [hml]; rfl) (argsL := [(.ref bS), (.int (4 : Int32)), (.int (8 : Int32)), (.int (-1 : Int32))]) (rest := []) (lenOf pd_4 rfl) rfl (by show 2 * 0 + _ ≤ _; exact Nat.le_of_eq rfl) (hb hby d3_95) (fun _ _ => ⟨rfl, e54, (by decide : 1 + 0 ≤ _), (by decide : 8 + 0 ≤ _)⟩)
  dsimp only [Pt.U, Pt.locs, Pt.cells, Pt.slots] at X58 l58 y58 z58 sr58 hQ58
  subst l58 y58 z58
  obtain ⟨rfl, N58q, K58c, f58_0⟩ := hQ58
  have N58 := Fr.app N38 N58q
  obtain ⟨LL58, X58, N58⟩ := own_hide X58 N58
  have f59 : Exa Z T58.heap x0 "com/example/folioseek/folioseek/UseOrder" := f39.keep K58c
  have f60 : Fld Z T58.heap x0 "com/example/folioseek/folioseek/UseOrder" "ids" "[I" (.ref aI) := f40.keep K58c (ninS ne_x0_bS nin0)
  have f61 : Fld Z T58.heap x0 "com/example/folioseek/folioseek/UseOrder" "uses" "[J" (.ref aU) := f41.keep K58c (ninS ne_x0_bS nin0)
  have f62 : Fld Z T58.heap x0 "com/example/folioseek/folioseek/UseOrder" "size" "I" (.int (4 : Int32)) := f42.keep K58c (ninS ne_x0_bS nin0)
  have f63 : Arv Z T58.heap aI kI .int (16 : Int32) (List.map Value.int LI) (.int (0 : Int32)) := f43.keep K58c (ninS ne_aI_bS nin0)
  have f64 : Arv Z T58.heap aU kU .long (16 : Int32) (List.map Value.long LU) (.long (0 : Int64)) := f44.keep K58c (ninS ne_aU_bS nin0)
  have f65 : Arv Z T58.heap aS kS .int (4 : Int32) (List.map Value.int LS) (.int (0 : Int32)) := f45.keep K58c (ninS ne_aS_bS nin0)
  have f66 : Fld Z T58.heap x0 "com/example/folioseek/folioseek/UseOrder" "slots" "[I" (.ref bS) := f47.keep K58c (ninS ne_x0_bS nin0)
  have K67 : Keep h0 T58.heap [x0, aI, aU, aS] := K48.trans K58c (allS (Or.inr sz_bS) all0)
  have Z68 : n0 ≤ T58.heap.size := Nat.le_trans Z38 K58c.1
  have st69 : Steps p.tables e below sE (T58.setTop (mkF m 98 #[.val (.ref x0), .val (.int (4 : Int32)), .val (.long x2), .second, .val (.int (4 : Int32))] [])) := st57.trans (sr58 _ (Steps.refl _))
  have st70 : Steps p.tables e below sE (T58.setTop (mkF m 103 #[.val (.ref x0), .val (.int (4 : Int32)), .val (.long x2), .second, .val (.int (4 : Int32))] [(.ref x0), (.ref x0), (.long x2), (.int (4 : Int32)), (.ref x0)])) := st69.trans (by
      show Steps _ _ _ (T58.setTop (mkF m 98 #[.val (.ref x0), .val (.int (4 : Int32)), .val (.long x2), .second, .val (.int (4 : Int32))] [])) _
      refine XS.aloadN X58.here hx rfl (hb hby d3_98) rfl rfl ?_
      show Steps _ _ _ (T58.setTop (mkF m 99 #[.val (.ref x0), .val (.int (4 : Int32)), .val (.long x2), .second, .val (.int (4 : Int32))] [(.ref x0)])) _
      refine XS.iloadN X58.here hx rfl (hb hby d3_99) rfl ?_
      show Steps _ _ _ (T58.setTop (mkF m 100 #[.val (.ref x0), .val (.int (4 : Int32)), .val (.long x2), .second, .val (.int (4 : Int32))] [(.int (4 : Int32)), (.ref x0)])) _
      refine XS.lloadN X58.here hx rfl (hb hby d3_100) rfl ?_
      show Steps _ _ _ (T58.setTop (mkF m 101 #[.val (.ref x0), .val (.int (4 : Int32)), .val (.long x2), .second, .val (.int (4 : Int32))] [(.long x2), (.int (4 : Int32)), (.ref x0)])) _
      refine XS.aloadN X58.here hx rfl (hb hby d3_101) rfl rfl ?_
      show Steps _ _ _ (T58.setTop (mkF m 102 #[.val (.ref x0), .val (.int (4 : Int32)), .val (.long x2), .second, .val (.int (4 : Int32))] [(.ref x0), (.long x2), (.int (4 : Int32)), (.ref x0)])) _
      refine XS.dup X58.here hx rfl (hb hby d3_102) rfl rfl ?_
      exact Steps.refl _)
  obtain ⟨T71, X71, e71, sr71⟩ := getF X58 hx hZ hown (host := "") (Or.inl (hw _ (List.mem_of_getElem? (i := 22) rfl))) Via.refl rfl f62 (g := (mkF m 103 #[.val (.ref x0), .val (.int (4 : Int32)), .val (.long x2), .second, .val (.int (4 : Int32))] [(.ref x0), (.ref x0), (.long x2), (.int (4 : Int32)), (.ref x0)])) rfl rfl (hb hby d3_103)
  have st72 : Steps p.tables e below sE (T71.setTop (mkF m 106 #[.val (.ref x0), .val (.int (4 : Int32)), .val (.long x2), .second, .val (.int (4 : Int32))] [(.int (4 : Int32)), (.ref x0), (.long x2), (.int (4 : Int32)), (.ref x0)])) := st70.trans (sr71 _ (Steps.refl _))
  have st73 : Steps p.tables e below sE (T71.setTop (mkF m 109 #[.val (.ref x0), .val (.int (4 : Int32)), .val (.long x2), .second, .val (.int (4 : Int32))] [(.int (5 : Int32)), (.ref x0), (.int (4 : Int32)), (.long x2), (.int (4 : Int32)), (.ref x0)])) := st72.trans (by
      show Steps _ _ _ (T71.setTop (mkF m 106 #[.val (.ref x0), .val (.int (4 : Int32)), .val (.long x2), .second, .val (.int (4 : Int32))] [(.int (4 : Int32)), (.ref x0), (.long x2), (.int (4 : Int32)), (.ref x0)])) _
      refine XS.dupX1 X71.here hx rfl (hb hby d3_106) rfl rfl rfl ?_
      show Steps _ _ _ (T71.setTop (mkF m 107 #[.val (.ref x0), .val (.int (4 : Int32)), .val (.long x2), .second, .val (.int (4 : Int32))] [(.int (4 : Int32)), (.ref x0), (.int (4 : Int32)), (.long x2), (.int (4 : Int32)), (.ref x0)])) _
      refine XS.iconst X71.here hx rfl (hb hby d3_107) ?_
      show Steps _ _ _ (T71.setTop (mkF m 108 #[.val (.ref x0), .val (.int (4 : Int32)), .val (.long x2), .second, .val (.int (4 : Int32))] [(.int (1 : Int32)), (.int (4 : Int32)), (.ref x0), (.int (4 : Int32)), (.long x2), (.int (4 : Int32)), (.ref x0)])) _
      refine XS.iadd X71.here hx rfl (hb hby d3_108) rfl ?_
      exact Steps.refl _)
  obtain ⟨T74, h74, X74, e74, W74, sr74⟩ := putF X71 hx hZ hown (host := "") (Or.inl (hw _ (List.mem_of_getElem? (i := 22) rfl))) Via.refl e71 f62 f59 (Or.inl (hw _ (List.mem_of_getElem? (i := 23) rfl))) (hw _ (List.mem_of_getElem? (i := 2) rfl)) (ty := .int) (by decide) rfl rfl (g := (mkF m 109 #[.val (.ref x0), .val (.int (4 : Int32)), .val (.long x2), .second, .val (.int (4 : Int32))] [(.int (5 : Int32)), (.ref x0), (.int (4 : Int32)), (.long x2), (.int (4 : Int32)), (.ref x0)])) rfl rfl (hb hby d3_109)
  have f75 : Exa Z h74 x0 "com/example/folioseek/folioseek/UseOrder" := f59.wr W74
  have f76 : Fld Z h74 x0 "com/example/folioseek/folioseek/UseOrder" "ids" "[I" (.ref aI) := f60.other W74 (Or.inr (slot_ne (Or.inl (hw _ (List.mem_of_getElem? (i := 12) rfl))) (Or.inl (hw _ (List.mem_of_getElem? (i := 23) rfl))) (by decide) (t := (.array .int)) (t' := .int) (by decide) (by decide)))
  have f77 : Fld Z h74 x0 "com/example/folioseek/folioseek/UseOrder" "uses" "[J" (.ref aU) := f61.other W74 (Or.inr (slot_ne (Or.inl (hw _ (List.mem_of_getElem? (i := 14) rfl))) (Or.inl (hw _ (List.mem_of_getElem? (i := 23) rfl))) (by decide) (t := (.array .long)) (t' := .int) (by decide) (by decide)))
  have f78 : Arv Z h74 aI kI .int (16 : Int32) (List.map Value.int LI) (.int (0 : Int32)) := f63.other W74 (Ne.symm ne_xi)
  have f79 : Arv Z h74 aU kU .long (16 : Int32) (List.map Value.long LU) (.long (0 : Int64)) := f64.other W74 (Ne.symm ne_xu)
  have f80 : Arv Z h74 aS kS .int (4 : Int32) (List.map Value.int LS) (.int (0 : Int32)) := f65.other W74 (Ne.symm ne_xs)
  have f81 : Fld Z h74 x0 "com/example/folioseek/folioseek/UseOrder" "slots" "[I" (.ref bS) := f66.other W74 (Or.inr (slot_ne (Or.inl (hw _ (List.mem_of_getElem? (i := 16) rfl))) (Or.inl (hw _ (List.mem_of_getElem? (i := 23) rfl))) (by decide) (t := (.array .int)) (t' := .int) (by decide) (by decide)))
  have f82 : Arv Z h74 bS kN .int (8 : Int32) (List.map Value.int (((((LS ++ List.replicate 4 (0 : Int32)).set ((4 : Int32)).toNatClampNeg (-1 : Int32)).set ((5 : Int32)).toNatClampNeg (-1 : Int32)).set ((6 : Int32)).toNatClampNeg (-1 : Int32)).set ((7 : Int32)).toNatClampNeg (-1 : Int32))) (.int (0 : Int32)) := f58_0.other W74 (Ne.symm ne_x0_bS)
  have f83 : Fld Z h74 x0 "com/example/folioseek/folioseek/UseOrder" "size" "I" (.int (5 : Int32)) := f62.same W74
  have K84 : Keep h0 h74 [x0, aI, aU, aS] := K67.wr W74 (Or.inl (List.mem_of_getElem? (i := 0) rfl))
  have Z74 : n0 ≤ h74.size := Nat.le_trans Z68 (Keep.of_wr W74).1
  have N74 := Fr.snoc X74 N58 g_x
  obtain ⟨LL74, X74, N74⟩ := own_hide X74 N74
  have st85 : Steps p.tables e below sE (T74.setTop (mkF m 112 #[.val (.ref x0), .val (.int (4 : Int32)), .val (.long x2), .second, .val (.int (4 : Int32))] [(.int (4 : Int32)), (.long x2), (.int (4 : Int32)), (.ref x0)])) := st73.trans (sr74 _ (Steps.refl _))
  obtain ⟨cq86, q86, q86'⟩ := f75.cell
  obtain ⟨_, _, ⟨T86, L86, k86, n86⟩, -, X86, ⟨Lc86, hQ86, l86, y86, z86⟩, sr86⟩ := X74.privateBack hx (y := (⟨"com/example/folioseek/folioseek/UseOrder", "place", "(IJI)V"⟩ : MethodName)) hown (mvT hZ (hw _ (List.mem_of_getElem? (i := 45) rfl))) (mvT hZ (hw _ (List.mem_of_getElem? (i := 46) rfl))) (own_selp (z := (⟨"com/example/folioseek/folioseek/UseOrder", "add", "(IJ)V"⟩ : MethodName)) rfl (notFace_of_selects (args := #[]) (mvT hZ (hw _ (List.mem_of_getElem? (i := 20) rfl)))) (args' := #[]) (mvT hZ (hw _ (List.mem_of_getElem? (i := 19) rfl))) (Cond.privateMethod_at (mvP hZ (hw _ (List.mem_of_getElem? (i := 47) rfl)) (args := #[]))) (mvT hZ (hw _ (List.mem_of_getElem? (i := 46) rfl))) (by decide)) (Cond.privateMethod_at (mvP hZ (hw _ (List.mem_of_getElem? (i := 47) rfl)) (args := #[]))) (mvT hZ (hw _ (List.mem_of_getElem? (i := 48) rfl))) (by decide) (backOf (W := 0) (rm9 l Z a0 hw [] x0 (4 : Int32) x2 (4 : Int32) aI aU bS kI kU kN LI LU (((((LS ++ List.replicate 4 (0 : Int32)).set ((4 : Int32)).toNatClampNeg (-1 : Int32)).set ((5 : Int32)).toNatClampNeg (-1 : Int32)).set ((6 : Int32)).toNatClampNeg (-1 : Int32)).set ((7 : Int32)).toNatClampNeg (-1 : Int32)) (8 : Int32) h74 n0 Z74 f76 f77 f81 f78 f79 f82 (by decide) (by decide) ⟨hP.1, hP.2.1, by decide, (by simp only [List.length_set, List.length_append, List.length_replicate, hP.2.2.1]; decide)⟩ g_i g_u g_bS ne_iu ne_aI_bS ne_aU_bS ne_xi ne_xu ne_x0_bS) hZ (hw _ (List.mem_of_getElem? (i := 48) rfl)) (hw _ (List.mem_of_getElem? (i := 3) rfl)) (by decide) (by decide)) (g := (mkF m 112 #[.val (.ref x0), .val (.int (4 : Int32)), .val (.long x2), .second, .val (.int (4 : Int32))] [(.int (4 : Int32)), (.long x2), (.int (4 : Int32)), (.ref x0)])) rfl (by rw [hml]; rfl) (Steps.refl _) (a := x0) (by rw [e74]; exact q86) q86' (argsL := [(.int (4 : Int32)), (.long x2), (.int (4 : Int32))]) (rest := []) (lenOf pd_0 rfl) rfl (by show 2 * 0 + _ ≤ _; exact Nat.le_of_eq rfl) (hb hby d3_112) (fun _ _ => ⟨rfl, e74, (by decide : 1 + 0 ≤ _), (by decide : 8 + 0 ≤ _)⟩)
  dsimp only [Pt.U, Pt.locs, Pt.cells, Pt.slots] at X86 l86 y86 z86 sr86 hQ86
  subst l86 y86 z86
  obtain ⟨rfl, N86q, K86c, f86_0, f86_1, f86_2⟩ := hQ86
  have N86 := Fr.app N74 N86q
  obtain ⟨LL86, X86, N86⟩ := own_hide X86 N86
  have f87 : Exa Z T86.heap x0 "com/example/folioseek/folioseek/UseOrder" := f75.keep K86c
  have f88 : Fld Z T86.heap x0 "com/example/folioseek/folioseek/UseOrder" "ids" "[I" (.ref aI) := f76.keep K86c (ninS ne_xi (ninS ne_xu (ninS ne_x0_bS nin0)))
  have f89 : Fld Z T86.heap x0 "com/example/folioseek/folioseek/UseOrder" "uses" "[J" (.ref aU) := f77.keep K86c (ninS ne_xi (ninS ne_xu (ninS ne_x0_bS nin0)))
  have f90 : Arv Z T86.heap aS kS .int (4 : Int32) (List.map Value.int LS) (.int (0 : Int32)) := f80.keep K86c (ninS (Ne.symm ne_is) (ninS (Ne.symm ne_us) (ninS ne_aS_bS nin0)))
  have f91 : Fld Z T86.heap x0 "com/example/folioseek/folioseek/UseOrder" "slots" "[I" (.ref bS) := f81.keep K86c (ninS ne_xi (ninS ne_xu (ninS ne_x0_bS nin0)))
  have f92 : Fld Z T86.heap x0 "com/example/folioseek/folioseek/UseOrder" "size" "I" (.int (5 : Int32)) := f83.keep K86c (ninS ne_xi (ninS ne_xu (ninS ne_x0_bS nin0)))
  have K93 : Keep h0 T86.heap [x0, aI, aU, aS] := K84.trans K86c (allS (Or.inl (List.mem_of_getElem? (i := 1) rfl)) (allS (Or.inl (List.mem_of_getElem? (i := 2) rfl)) (allS (Or.inr sz_bS) all0)))
  have Z94 : n0 ≤ T86.heap.size := Nat.le_trans Z74 K86c.1
  have st95 : Steps p.tables e below sE (T86.setTop (mkF m 115 #[.val (.ref x0), .val (.int (4 : Int32)), .val (.long x2), .second, .val (.int (4 : Int32))] [])) := st85.trans (sr86)
  have st96 : Steps p.tables e below sE (T86.setTop (mkF m 117 #[.val (.ref x0), .val (.int (4 : Int32)), .val (.long x2), .second, .val (.int (4 : Int32))] [(.ref x0), (.ref x0)])) := st95.trans (by
      show Steps _ _ _ (T86.setTop (mkF m 115 #[.val (.ref x0), .val (.int (4 : Int32)), .val (.long x2), .second, .val (.int (4 : Int32))] [])) _
      refine XS.aloadN X86.here hx rfl (hb hby d3_115) rfl rfl ?_
      show Steps _ _ _ (T86.setTop (mkF m 116 #[.val (.ref x0), .val (.int (4 : Int32)), .val (.long x2), .second, .val (.int (4 : Int32))] [(.ref x0)])) _
      refine XS.aloadN X86.here hx rfl (hb hby d3_116) rfl rfl ?_
      exact Steps.refl _)
  obtain ⟨T97, X97, e97, sr97⟩ := getF X86 hx hZ hown (host := "") (Or.inl (hw _ (List.mem_of_getElem? (i := 22) rfl))) Via.refl rfl f92 (g := (mkF m 117 #[.val (.ref x0), .val (.int (4 : Int32)), .val (.long x2), .second, .val (.int (4 : Int32))] [(.ref x0), (.ref x0)])) rfl rfl (hb hby d3_117)
  have st98 : Steps p.tables e below sE (T97.setTop (mkF m 120 #[.val (.ref x0), .val (.int (4 : Int32)), .val (.long x2), .second, .val (.int (4 : Int32))] [(.int (5 : Int32)), (.ref x0)])) := st96.trans (sr97 _ (Steps.refl _))
  have st99 : Steps p.tables e below sE (T97.setTop (mkF m 122 #[.val (.ref x0), .val (.int (4 : Int32)), .val (.long x2), .second, .val (.int (4 : Int32))] [(.int (4 : Int32)), (.ref x0)])) := st98.trans (by
      show Steps _ _ _ (T97.setTop (mkF m 120 #[.val (.ref x0), .val (.int (4 : Int32)), .val (.long x2), .second, .val (.int (4 : Int32))] [(.int (5 : Int32)), (.ref x0)])) _
      refine XS.iconst X97.here hx rfl (hb hby d3_120) ?_
      show Steps _ _ _ (T97.setTop (mkF m 121 #[.val (.ref x0), .val (.int (4 : Int32)), .val (.long x2), .second, .val (.int (4 : Int32))] [(.int (1 : Int32)), (.int (5 : Int32)), (.ref x0)])) _
      refine XS.isub X97.here hx rfl (hb hby d3_121) rfl ?_
      exact Steps.refl _)
  have hSl : ((((((LS ++ List.replicate 4 (0 : Int32)).set ((4 : Int32)).toNatClampNeg (-1 : Int32)).set ((5 : Int32)).toNatClampNeg (-1 : Int32)).set ((6 : Int32)).toNatClampNeg (-1 : Int32)).set ((7 : Int32)).toNatClampNeg (-1 : Int32))).length = 8 := by simp only [List.length_set, List.length_append, List.length_replicate, hP.2.2.1]
  have hSg : ∀ i, i < 4 → ((((((LS ++ List.replicate 4 (0 : Int32)).set ((4 : Int32)).toNatClampNeg (-1 : Int32)).set ((5 : Int32)).toNatClampNeg (-1 : Int32)).set ((6 : Int32)).toNatClampNeg (-1 : Int32)).set ((7 : Int32)).toNatClampNeg (-1 : Int32))).getD i 0 = LS.getD i 0 := by
    intro i hi
    rw [own_gsI _ _ _ _ (by simp only [List.length_set, List.length_append, List.length_replicate, hP.2.2.1]; decide), if_neg (show ¬ ((7 : Int32)).toNatClampNeg = i from fun q => by rw [show ((7 : Int32)).toNatClampNeg = 7 by decide] at q; omega), own_gsI _ _ _ _ (by simp only [List.length_set, List.length_append, List.length_replicate, hP.2.2.1]; decide), if_neg (show ¬ ((6 : Int32)).toNatClampNeg = i from fun q => by rw [show ((6 : Int32)).toNatClampNeg = 6 by decide] at q; omega), own_gsI _ _ _ _ (by simp only [List.length_set, List.length_append, List.length_replicate, hP.2.2.1]; decide), if_neg (show ¬ ((5 : Int32)).toNatClampNeg = i from fun q => by rw [show ((5 : Int32)).toNatClampNeg = 5 by decide] at q; omega), own_gsI _ _ _ _ (by simp only [List.length_set, List.length_append, List.length_replicate, hP.2.2.1]; decide), if_neg (show ¬ ((4 : Int32)).toNatClampNeg = i from fun q => by rw [show ((4 : Int32)).toNatClampNeg = 4 by decide] at q; omega), own_gg LS 4 i (by rw [hP.2.2.1]; exact hi)]
  have hP2 : own_P 5 8 (LI.set ((4 : Int32)).toNatClampNeg (4 : Int32)) (LU.set ((4 : Int32)).toNatClampNeg x2) ((((((LS ++ List.replicate 4 (0 : Int32)).set ((4 : Int32)).toNatClampNeg (-1 : Int32)).set ((5 : Int32)).toNatClampNeg (-1 : Int32)).set ((6 : Int32)).toNatClampNeg (-1 : Int32)).set ((7 : Int32)).toNatClampNeg (-1 : Int32)).set ((4 : Int32)).toNatClampNeg (4 : Int32)) val (fun i => i < 5) := by
    have q := own_push (m' := 8) (S' := (((((LS ++ List.replicate 4 (0 : Int32)).set ((4 : Int32)).toNatClampNeg (-1 : Int32)).set ((5 : Int32)).toNatClampNeg (-1 : Int32)).set ((6 : Int32)).toNatClampNeg (-1 : Int32)).set ((7 : Int32)).toNatClampNeg (-1 : Int32))) hP (by decide) (by decide) (by decide) (by decide) hSl hSg
    rw [hv] at q
    exact q
  have hU2 : ∀ j, j < 5 → ¬ j = 4 → (((LU.set ((4 : Int32)).toNatClampNeg x2)).getD 0 0).toInt ≤ (((LU.set ((4 : Int32)).toNatClampNeg x2)).getD j 0).toInt := own_pushH hP.2.1 (by decide) hH x2
  obtain ⟨cq100, q100, q100'⟩ := f87.cell
  obtain ⟨_, _, ⟨T100, L100, k100, n100⟩, -, X100, ⟨Lc100, hQ100, l100, y100, z100⟩, sr100⟩ := X97.privateBack hx (y := (⟨"com/example/folioseek/folioseek/UseOrder", "siftUp", "(I)V"⟩ : MethodName)) hown (mvT hZ (hw _ (List.mem_of_getElem? (i := 49) rfl))) (mvT hZ (hw _ (List.mem_of_getElem? (i := 50) rfl))) (own_selp (z := (⟨"com/example/folioseek/folioseek/UseOrder", "add", "(IJ)V"⟩ : MethodName)) rfl (notFace_of_selects (args := #[]) (mvT hZ (hw _ (List.mem_of_getElem? (i := 20) rfl)))) (args' := #[]) (mvT hZ (hw _ (List.mem_of_getElem? (i := 19) rfl))) (Cond.privateMethod_at (mvP hZ (hw _ (List.mem_of_getElem? (i := 51) rfl)) (args := #[]))) (mvT hZ (hw _ (List.mem_of_getElem? (i := 50) rfl))) (by decide)) (Cond.privateMethod_at (mvP hZ (hw _ (List.mem_of_getElem? (i := 51) rfl)) (args := #[]))) (mvT hZ (hw _ (List.mem_of_getElem? (i := 52) rfl))) (by decide) (backOf (W := 0) (rm10 l Z a0 hw [] x0 (4 : Int32) aI aU bS kI kU kN (LI.set ((4 : Int32)).toNatClampNeg (4 : Int32)) (LU.set ((4 : Int32)).toNatClampNeg x2) ((((((LS ++ List.replicate 4 (0 : Int32)).set ((4 : Int32)).toNatClampNeg (-1 : Int32)).set ((5 : Int32)).toNatClampNeg (-1 : Int32)).set ((6 : Int32)).toNatClampNeg (-1 : Int32)).set ((7 : Int32)).toNatClampNeg (-1 : Int32)).set ((4 : Int32)).toNatClampNeg (4 : Int32)) (8 : Int32) 5 val (fun i => i < 5) T86.heap n0 Z94 f87 f88 f89 f91 f86_0 f86_1 f86_2 hP2 (by decide) hU2 g_i g_u g_bS ne_iu ne_aI_bS ne_aU_bS ne_xi ne_xu ne_x0_bS) hZ (hw _ (List.mem_of_getElem? (i := 52) rfl)) (hw _ (List.mem_of_getElem? (i := 3) rfl)) (by decide) (by decide)) (g := (mkF m 122 #[.val (.ref x0), .val (.int (4 : Int32)), .val (.long x2), .second, .val (.int (4 : Int32))] [(.int (4 : Int32)), (.ref x0)])) rfl (by rw [hml]; rfl) (Steps.refl _) (a := x0) (by rw [e97]; exact q100) q100' (argsL := [(.int (4 : Int32))]) (rest := []) (lenOf pd_5 rfl) rfl (by show 2 * 0 + _ ≤ _; exact Nat.le_of_eq rfl) (hb hby d3_122) (fun _ _ => ⟨rfl, e97, (by decide : 1 + 0 ≤ _), (by decide : 8 + 0 ≤ _)⟩)
  dsimp only [Pt.U, Pt.locs, Pt.cells, Pt.slots] at X100 l100 y100 z100 sr100 hQ100
  subst l100 y100 z100
  obtain ⟨rfl, N100q, K100c, ⟨LI', LU', LS', qI, qU, qS, hP', hH'⟩⟩ := hQ100
  have N100 := Fr.app N86 N100q
  obtain ⟨LL100, X100, N100⟩ := own_hide X100 N100
  have f101 : Exa Z T100.heap x0 "com/example/folioseek/folioseek/UseOrder" := f87.keep K100c
  have f102 : Fld Z T100.heap x0 "com/example/folioseek/folioseek/UseOrder" "ids" "[I" (.ref aI) := f88.keep K100c (ninS ne_xi (ninS ne_xu (ninS ne_x0_bS nin0)))
  have f103 : Fld Z T100.heap x0 "com/example/folioseek/folioseek/UseOrder" "uses" "[J" (.ref aU) := f89.keep K100c (ninS ne_xi (ninS ne_xu (ninS ne_x0_bS nin0)))
  have f104 : Arv Z T100.heap aS kS .int (4 : Int32) (List.map Value.int LS) (.int (0 : Int32)) := f90.keep K100c (ninS (Ne.symm ne_is) (ninS (Ne.symm ne_us) (ninS ne_aS_bS nin0)))
  have f105 : Fld Z T100.heap x0 "com/example/folioseek/folioseek/UseOrder" "slots" "[I" (.ref bS) := f91.keep K100c (ninS ne_xi (ninS ne_xu (ninS ne_x0_bS nin0)))
  have f106 : Fld Z T100.heap x0 "com/example/folioseek/folioseek/UseOrder" "size" "I" (.int (5 : Int32)) := f92.keep K100c (ninS ne_xi (ninS ne_xu (ninS ne_x0_bS nin0)))
  have K107 : Keep h0 T100.heap [x0, aI, aU, aS] := K93.trans K100c (allS (Or.inl (List.mem_of_getElem? (i := 1) rfl)) (allS (Or.inl (List.mem_of_getElem? (i := 2) rfl)) (allS (Or.inr sz_bS) all0)))
  have Z108 : n0 ≤ T100.heap.size := Nat.le_trans Z94 K100c.1
  have st109 : Steps p.tables e below sE (T100.setTop (mkF m 125 #[.val (.ref x0), .val (.int (4 : Int32)), .val (.long x2), .second, .val (.int (4 : Int32))] [])) := st99.trans (sr100)
  obtain ⟨fs, hr, hrun, hended, hW, hsame⟩ := X100.leave (v := none) (fun _ => rfl) hlk
  refine ⟨_, _, (own_ent hsE st109).trans ?_, hrun, hended, _, _, rfl, ?_, ⟨_, rfl⟩, hW, hsame.mono (by decide) (by decide)⟩
  · exact X100.returnOut hx Bd.returns (hb hby d3_125) hr
  · show Qad4 Z x0 x2 aI aU aS kI kU kS LI LU LS val h0 n0 _ T100.heap _
    exact ⟨rfl, N100, K107, f101, f102, f103, f106, ⟨bS, _, LI', LU', LS', f105, qI, qU, qS, hP', hH', g_bS, ne_aI_bS, ne_aU_bS, ne_x0_bS, Or.inr sz_bS⟩⟩
theorem d17_0 : decode prog_24_method_7_code 0 = .ok (.aload_n 0, 1) := by decide +kernel
theorem d17_1 : decode prog_24_method_7_code 1 = .ok (.getfield 17, 3) := by decide +kernel
theorem d17_4 : decode prog_24_method_7_code 4 = .ok (.iload_n 1, 1) := by decide +kernel
theorem d17_5 : decode prog_24_method_7_code 5 = .ok (.iaload, 1) := by decide +kernel
theorem d17_6 : decode prog_24_method_7_code 6 = .ok (.istore_n 2, 1) := by decide +kernel
theorem d17_7 : decode prog_24_method_7_code 7 = .ok (.aload_n 0, 1) := by decide +kernel
theorem d17_8 : decode prog_24_method_7_code 8 = .ok (.getfield 17, 3) := by decide +kernel
theorem d17_11 : decode prog_24_method_7_code 11 = .ok (.iload_n 1, 1) := by decide +kernel
theorem d17_12 : decode prog_24_method_7_code 12 = .ok (.iconst (-1), 1) := by decide +kernel
theorem d17_13 : decode prog_24_method_7_code 13 = .ok (.iastore, 1) := by decide +kernel
theorem d17_14 : decode prog_24_method_7_code 14 = .ok (.aload_n 0, 1) := by decide +kernel
theorem d17_15 : decode prog_24_method_7_code 15 = .ok (.dup, 1) := by decide +kernel
theorem d17_16 : decode prog_24_method_7_code 16 = .ok (.getfield 20, 3) := by decide +kernel
theorem d17_19 : decode prog_24_method_7_code 19 = .ok (.iconst 1, 1) := by decide +kernel
theorem d17_20 : decode prog_24_method_7_code 20 = .ok (.isub, 1) := by decide +kernel
theorem d17_21 : decode prog_24_method_7_code 21 = .ok (.putfield 20, 3) := by decide +kernel
theorem d17_24 : decode prog_24_method_7_code 24 = .ok (.iload_n 2, 1) := by decide +kernel
theorem d17_25 : decode prog_24_method_7_code 25 = .ok (.aload_n 0, 1) := by decide +kernel
theorem d17_26 : decode prog_24_method_7_code 26 = .ok (.getfield 20, 3) := by decide +kernel
theorem d17_29 : decode prog_24_method_7_code 29 = .ok (.if_icmp .ge 43, 3) := by decide +kernel
theorem d17_32 : decode prog_24_method_7_code 32 = .ok (.aload_n 0, 1) := by decide +kernel
theorem d17_33 : decode prog_24_method_7_code 33 = .ok (.getfield 7, 3) := by decide +kernel
theorem d17_36 : decode prog_24_method_7_code 36 = .ok (.aload_n 0, 1) := by decide +kernel
theorem d17_37 : decode prog_24_method_7_code 37 = .ok (.getfield 20, 3) := by decide +kernel
theorem d17_40 : decode prog_24_method_7_code 40 = .ok (.iaload, 1) := by decide +kernel
theorem d17_41 : decode prog_24_method_7_code 41 = .ok (.istore_n 3, 1) := by decide +kernel
theorem d17_42 : decode prog_24_method_7_code 42 = .ok (.aload_n 0, 1) := by decide +kernel
theorem d17_43 : decode prog_24_method_7_code 43 = .ok (.iload_n 3, 1) := by decide +kernel
theorem d17_44 : decode prog_24_method_7_code 44 = .ok (.aload_n 0, 1) := by decide +kernel
theorem d17_45 : decode prog_24_method_7_code 45 = .ok (.getfield 13, 3) := by decide +kernel
theorem d17_48 : decode prog_24_method_7_code 48 = .ok (.aload_n 0, 1) := by decide +kernel
theorem d17_49 : decode prog_24_method_7_code 49 = .ok (.getfield 20, 3) := by decide +kernel
theorem d17_52 : decode prog_24_method_7_code 52 = .ok (.laload, 1) := by decide +kernel
theorem d17_53 : decode prog_24_method_7_code 53 = .ok (.iload_n 2, 1) := by decide +kernel
theorem d17_54 : decode prog_24_method_7_code 54 = .ok (.invokevirtual 43, 3) := by decide +kernel
theorem d17_57 : decode prog_24_method_7_code 57 = .ok (.aload_n 0, 1) := by decide +kernel
theorem d17_58 : decode prog_24_method_7_code 58 = .ok (.iload_n 2, 1) := by decide +kernel
theorem d17_59 : decode prog_24_method_7_code 59 = .ok (.invokevirtual 51, 3) := by decide +kernel
theorem d17_62 : decode prog_24_method_7_code 62 = .ok (.aload_n 0, 1) := by decide +kernel
theorem d17_63 : decode prog_24_method_7_code 63 = .ok (.aload_n 0, 1) := by decide +kernel
theorem d17_64 : decode prog_24_method_7_code 64 = .ok (.getfield 17, 3) := by decide +kernel
theorem d17_67 : decode prog_24_method_7_code 67 = .ok (.iload_n 3, 1) := by decide +kernel
theorem d17_68 : decode prog_24_method_7_code 68 = .ok (.iaload, 1) := by decide +kernel
theorem d17_69 : decode prog_24_method_7_code 69 = .ok (.invokevirtual 47, 3) := by decide +kernel
theorem d17_72 : decode prog_24_method_7_code 72 = .ok (.return_, 1) := by decide +kernel
theorem ef_rm4 (m : MethodId) (x0 : Addr) (x1 : Int32)  : entryFrame m #[(.ref x0), (.int x1)] 4 = mkF m 0 #[.val (.ref x0), .val (.int x1), .unset, .unset] [] := by first | (simp [entryFrame, mkF, argsToLocals, Value.category]; done) | rfl
def Qrm4 (Z : State) (x0 : Addr) (x1 : Int32) (aI : Addr) (aU : Addr) (aS : Addr) (kI : ClassId) (kU : ClassId) (kS : ClassId) (LI : List Int32) (LU : List Int64) (LS : List Int32) (mm : Int32) (val : Nat → Int64) (pres : Nat → Prop) (k : Nat) (h0 : Heap) (n0 : Nat) (vE : Option Value) (hE : Heap) (LE : List Loc) : Prop := vE = none ∧ Fr n0 LE ∧ Keep h0 hE [x0, aI, aU, aS] ∧ Exa Z hE x0 "com/example/folioseek/folioseek/UseOrder" ∧ Fld Z hE x0 "com/example/folioseek/folioseek/UseOrder" "ids" "[I" (.ref aI) ∧ Fld Z hE x0 "com/example/folioseek/folioseek/UseOrder" "uses" "[J" (.ref aU) ∧ Fld Z hE x0 "com/example/folioseek/folioseek/UseOrder" "slots" "[I" (.ref aS) ∧ Fld Z hE x0 "com/example/folioseek/folioseek/UseOrder" "size" "I" (.int (4 : Int32)) ∧ (∃ (LI' : List Int32) (LU' : List Int64) (LS' : List Int32), Arv Z hE aI kI .int (16 : Int32) (List.map Value.int LI') (.int (0 : Int32)) ∧ Arv Z hE aU kU .long (16 : Int32) (List.map Value.long LU') (.long (0 : Int64)) ∧ Arv Z hE aS kS .int mm (List.map Value.int LS') (.int (0 : Int32)) ∧ own_P 4 mm.toNatClampNeg LI' LU' LS' val (fun i => pres i ∧ ¬ i = k) ∧ own_H 4 LU')
set_option maxRecDepth 65536 in
set_option maxHeartbeats 40000000 in
theorem rmrm4 (l : Launch) (Z : State) (a0 : Array Value) (hw : ∀ d ∈ tables_1, d.before a0 Z = true) (ws : List Jvm.Cond) (x0 : Addr) (x1 : Int32) (aI : Addr) (aU : Addr) (aS : Addr) (kI : ClassId) (kU : ClassId) (kS : ClassId) (LI : List Int32) (LU : List Int64) (LS : List Int32) (mm : Int32) (val : Nat → Int64) (pres : Nat → Prop) (k : Nat) (h0 : Heap) (n0 : Nat) (Z0 : n0 ≤ h0.size) (E_x : Exa Z h0 x0 "com/example/folioseek/folioseek/UseOrder") (F_i : Fld Z h0 x0 "com/example/folioseek/folioseek/UseOrder" "ids" "[I" (.ref aI)) (F_u : Fld Z h0 x0 "com/example/folioseek/folioseek/UseOrder" "uses" "[J" (.ref aU)) (F_s : Fld Z h0 x0 "com/example/folioseek/folioseek/UseOrder" "slots" "[I" (.ref aS)) (F_z : Fld Z h0 x0 "com/example/folioseek/folioseek/UseOrder" "size" "I" (.int (5 : Int32))) (A_i : Arv Z h0 aI kI .int (16 : Int32) (List.map Value.int LI) (.int (0 : Int32))) (A_u : Arv Z h0 aU kU .long (16 : Int32) (List.map Value.long LU) (.long (0 : Int64))) (A_s : Arv Z h0 aS kS .int mm (List.map Value.int LS) (.int (0 : Int32))) (hP : own_P 5 mm.toNatClampNeg LI LU LS val pres) (hH : own_H 5 LU) (hk : pres k) (hx' : x1 = Int32.ofNat k) (g_x : n0 ≤ x0) (g_i : n0 ≤ aI) (g_u : n0 ≤ aU) (g_s : n0 ≤ aS) (ne_iu : aI ≠ aU) (ne_is : aI ≠ aS) (ne_us : aU ≠ aS) (ne_xi : x0 ≠ aI) (ne_xu : x0 ≠ aU) (ne_xs : x0 ≠ aS) :
    MetFree l (⟨"com/example/folioseek/folioseek/UseOrder", "remove", "(I)V"⟩ : MethodName) (head1 (Jvm.Cond.code (⟨"com/example/folioseek/folioseek/UseOrder", "remove", "(I)V"⟩ : MethodName) prog_24_method_7_code 4 none :: ws) ({ frames := 2, cells := 0, slots := 0, locals := 35 } : Room)) (fun a U => a = #[(.ref x0), (.int x1)] ∧ Z.Warmed39 U.vm ∧ U.heap = h0) (fun _ _ _ _ _ => True) (fun _ U o U' => ∃ vE LE, o = .returned vE ∧ Qrm4 Z x0 x1 aI aU aS kI kU kS LI LU LS mm val pres k h0 n0 vE U'.heap LE ∧ FrameEnd U o U' LE ({ frames := 2, cells := 0, slots := 0, locals := 35 } : Room).cells ({ frames := 2, cells := 0, slots := 0, locals := 35 } : Room).slots) := by
  refine MetFree.of_bodySF (plainFor_of_name pn_1) hisR ?_
  intro p e s m args below meth c s₁ Bd hml0 hP hK
  obtain ⟨rfl, hZ, hh⟩ := hP
  have hx := Bd.exec
  have hby := Bd.bytes
  have hml : c.maxLocals = 4 := hml0
  have hown : s.vm.findClass "com/example/folioseek/folioseek/UseOrder" = some m.cls := findClass_of_methodNamed Bd.named
  have hnm := (name_of_methodNamed Bd.named Bd.method).1
  have hlk : meth.locks = false := BodyLoose.notSynchronized Bd
  have X0 : Stand p l e ({ frames := 2, cells := 0, slots := 0, locals := 35 } : Room) s m #[(.ref x0), (.int x1)] below meth c s₁ [] 0 0 := Stand.of_body Bd
  have e0 : s₁.heap = h0 := by rw [← hh, Bd.state]; rfl
  have N0 := Fr.nil n0
  obtain ⟨sE, hsE⟩ : ∃ z, z = (s₁.setTop (entryFrame m #[(.ref x0), (.int x1)] 4)) := ⟨_, rfl⟩
  have st0 : Steps p.tables e below sE (s₁.setTop (mkF m 0 #[.val (.ref x0), .val (.int x1), .unset, .unset] [])) := by rw [hsE]; exact castTop (ef_rm4 m x0 x1) (Steps.refl _)
  obtain ⟨hkm, a, ha, hSa, hIa, hUa⟩ := own_where hP k hk
  have hm8 := hP.2.2.2.2.1
  have hxk : x1.toNatClampNeg = k := by rw [hx']; exact own_onn k (by omega)
  have hix : ¬ x1 < 0 ∧ x1 < mm := by rw [hx']; exact own_ib hkm hm8
  have hxl : x1.toNatClampNeg < LS.length := by rw [hxk, hP.2.2.1]; exact hkm
  have K0 : Keep h0 h0 [x0, aI, aU, aS] := Keep.refl _ _
  have st1 : Steps p.tables e below sE (s₁.setTop (mkF m 1 #[.val (.ref x0), .val (.int x1), .unset, .unset] [(.ref x0)])) := st0.trans (by
      show Steps _ _ _ (s₁.setTop (mkF m 0 #[.val (.ref x0), .val (.int x1), .unset, .unset] [])) _
      refine XS.aloadN X0.here hx rfl (hb hby d17_0) rfl rfl ?_
      exact Steps.refl _)
  obtain ⟨T2, X2, e2, sr2⟩ := getF X0 hx hZ hown (host := "") (Or.inl (hw _ (List.mem_of_getElem? (i := 15) rfl))) Via.refl e0 F_s (g := (mkF m 1 #[.val (.ref x0), .val (.int x1), .unset, .unset] [(.ref x0)])) rfl rfl (hb hby d17_1)
  have st3 : Steps p.tables e below sE (T2.setTop (mkF m 4 #[.val (.ref x0), .val (.int x1), .unset, .unset] [(.ref aS)])) := st1.trans (sr2 _ (Steps.refl _))
  obtain ⟨cl4, Ar4, q4, S4, N4, H4, G4⟩ := id A_s
  have hin4 : ¬ (x1 < 0 ∨ cl4.slots.size ≤ (x1).toNatClampNeg) := inb_of S4 hix
  have hat4 : cl4.slots[(x1).toNatClampNeg]? = some (.int (LS.getD (x1).toNatClampNeg 0)) := H4.at hin4 (own_getI LS _)
  have st5 : Steps p.tables e below sE (T2.setTop (mkF m 6 #[.val (.ref x0), .val (.int x1), .unset, .unset] [(.int (LS.getD (x1).toNatClampNeg 0))])) := st3.trans (by
      show Steps _ _ _ (T2.setTop (mkF m 4 #[.val (.ref x0), .val (.int x1), .unset, .unset] [(.ref aS)])) _
      refine XS.iloadN X2.here hx rfl (hb hby d17_4) rfl ?_
      show Steps _ _ _ (T2.setTop (mkF m 5 #[.val (.ref x0), .val (.int x1), .unset, .unset] [(.int x1), (.ref aS)])) _
      refine X2.iaload hx (j := x1) (v := (.int (LS.getD (x1).toNatClampNeg 0))) (by rw [e2]; exact Ar4.1) (State.isArrayOf_alike hZ.alike Ar4.2.1) Ar4.2.2 hin4 hat4 (g := (mkF m 5 #[.val (.ref x0), .val (.int x1), .unset, .unset] [(.int x1), (.ref aS)])) rfl rfl (hb hby d17_5) _ ?_
      exact Steps.refl _)
  by_cases hc6 : a = 0
  · have hsl : (LS.getD (x1).toNatClampNeg 0) = (0 : Int32) := by rw [hxk, hSa]; rw [hc6]; rfl
    rw [hsl] at st5
    have st7 : Steps p.tables e below sE (T2.setTop (mkF m 8 #[.val (.ref x0), .val (.int x1), .val (.int (0 : Int32)), .unset] [(.ref x0)])) := st5.trans (by
        show Steps _ _ _ (T2.setTop (mkF m 6 #[.val (.ref x0), .val (.int x1), .unset, .unset] [(.int (0 : Int32))])) _
        refine XS.istoreN X2.here hx rfl (hb hby d17_6) rfl (l' := #[.val (.ref x0), .val (.int x1), .val (.int (0 : Int32)), .unset]) rfl ?_
        show Steps _ _ _ (T2.setTop (mkF m 7 #[.val (.ref x0), .val (.int x1), .val (.int (0 : Int32)), .unset] [])) _
        refine XS.aloadN X2.here hx rfl (hb hby d17_7) rfl rfl ?_
        exact Steps.refl _)
    obtain ⟨T8, X8, e8, sr8⟩ := getF X2 hx hZ hown (host := "") (Or.inl (hw _ (List.mem_of_getElem? (i := 15) rfl))) Via.refl e2 F_s (g := (mkF m 8 #[.val (.ref x0), .val (.int x1), .val (.int (0 : Int32)), .unset] [(.ref x0)])) rfl rfl (hb hby d17_8)
    have st9 : Steps p.tables e below sE (T8.setTop (mkF m 11 #[.val (.ref x0), .val (.int x1), .val (.int (0 : Int32)), .unset] [(.ref aS)])) := st7.trans (sr8 _ (Steps.refl _))
    have st10 : Steps p.tables e below sE (T8.setTop (mkF m 13 #[.val (.ref x0), .val (.int x1), .val (.int (0 : Int32)), .unset] [(.int (-1 : Int32)), (.int x1), (.ref aS)])) := st9.trans (by
        show Steps _ _ _ (T8.setTop (mkF m 11 #[.val (.ref x0), .val (.int x1), .val (.int (0 : Int32)), .unset] [(.ref aS)])) _
        refine XS.iloadN X8.here hx rfl (hb hby d17_11) rfl ?_
        show Steps _ _ _ (T8.setTop (mkF m 12 #[.val (.ref x0), .val (.int x1), .val (.int (0 : Int32)), .unset] [(.int x1), (.ref aS)])) _
        refine XS.iconst X8.here hx rfl (hb hby d17_12) ?_
        exact Steps.refl _)
    obtain ⟨cl11, Ar11, q11, S11, N11, H11, G11⟩ := id A_s
    have hin11 : ¬ (x1 < 0 ∨ cl11.slots.size ≤ (x1).toNatClampNeg) := inb_of S11 hix
    obtain ⟨T12, h12, X12, e12, W12, sr12⟩ := stI X8 hx hZ e8 Ar11 (j := x1) hin11 (g := (mkF m 13 #[.val (.ref x0), .val (.int x1), .val (.int (0 : Int32)), .unset] [(.int (-1 : Int32)), (.int x1), (.ref aS)])) rfl rfl (hb hby d17_13)
    have f13 : Exa Z h12 x0 "com/example/folioseek/folioseek/UseOrder" := E_x.wr W12
    have f14 : Fld Z h12 x0 "com/example/folioseek/folioseek/UseOrder" "ids" "[I" (.ref aI) := F_i.other W12 (Or.inl ne_xs)
    have f15 : Fld Z h12 x0 "com/example/folioseek/folioseek/UseOrder" "uses" "[J" (.ref aU) := F_u.other W12 (Or.inl ne_xs)
    have f16 : Fld Z h12 x0 "com/example/folioseek/folioseek/UseOrder" "slots" "[I" (.ref aS) := F_s.other W12 (Or.inl ne_xs)
    have f17 : Fld Z h12 x0 "com/example/folioseek/folioseek/UseOrder" "size" "I" (.int (5 : Int32)) := F_z.other W12 (Or.inl ne_xs)
    have f18 : Arv Z h12 aI kI .int (16 : Int32) (List.map Value.int LI) (.int (0 : Int32)) := A_i.other W12 ne_is
    have f19 : Arv Z h12 aU kU .long (16 : Int32) (List.map Value.long LU) (.long (0 : Int64)) := A_u.other W12 ne_us
    have f20 : Arv Z h12 aS kS .int mm (List.map Value.int (LS.set (x1).toNatClampNeg (-1 : Int32))) (.int (0 : Int32)) := (by have q := Arv.set Ar11 q11 S11 N11 H11 G11 rfl W12 _ rfl (by rw [List.length_map]; exact hxl); rw [own_setI] at q; exact q)
    have K21 : Keep h0 h12 [x0, aI, aU, aS] := K0.wr W12 (Or.inl (List.mem_of_getElem? (i := 3) rfl))
    have Z12 : n0 ≤ h12.size := Nat.le_trans Z0 (Keep.of_wr W12).1
    have N12 := Fr.snoc X12 N0 g_s
    obtain ⟨LL12, X12, N12⟩ := own_hide X12 N12
    have st22 : Steps p.tables e below sE (T12.setTop (mkF m 14 #[.val (.ref x0), .val (.int x1), .val (.int (0 : Int32)), .unset] [])) := st10.trans (sr12 _ (Steps.refl _))
    have st23 : Steps p.tables e below sE (T12.setTop (mkF m 16 #[.val (.ref x0), .val (.int x1), .val (.int (0 : Int32)), .unset] [(.ref x0), (.ref x0)])) := st22.trans (by
        show Steps _ _ _ (T12.setTop (mkF m 14 #[.val (.ref x0), .val (.int x1), .val (.int (0 : Int32)), .unset] [])) _
        refine XS.aloadN X12.here hx rfl (hb hby d17_14) rfl rfl ?_
        show Steps _ _ _ (T12.setTop (mkF m 15 #[.val (.ref x0), .val (.int x1), .val (.int (0 : Int32)), .unset] [(.ref x0)])) _
        refine XS.dup X12.here hx rfl (hb hby d17_15) rfl rfl ?_
        exact Steps.refl _)
    obtain ⟨T24, X24, e24, sr24⟩ := getF X12 hx hZ hown (host := "") (Or.inl (hw _ (List.mem_of_getElem? (i := 22) rfl))) Via.refl e12 f17 (g := (mkF m 16 #[.val (.ref x0), .val (.int x1), .val (.int (0 : Int32)), .unset] [(.ref x0), (.ref x0)])) rfl rfl (hb hby d17_16)
    have st25 : Steps p.tables e below sE (T24.setTop (mkF m 19 #[.val (.ref x0), .val (.int x1), .val (.int (0 : Int32)), .unset] [(.int (5 : Int32)), (.ref x0)])) := st23.trans (sr24 _ (Steps.refl _))
    have st26 : Steps p.tables e below sE (T24.setTop (mkF m 21 #[.val (.ref x0), .val (.int x1), .val (.int (0 : Int32)), .unset] [(.int (4 : Int32)), (.ref x0)])) := st25.trans (by
        show Steps _ _ _ (T24.setTop (mkF m 19 #[.val (.ref x0), .val (.int x1), .val (.int (0 : Int32)), .unset] [(.int (5 : Int32)), (.ref x0)])) _
        refine XS.iconst X24.here hx rfl (hb hby d17_19) ?_
        show Steps _ _ _ (T24.setTop (mkF m 20 #[.val (.ref x0), .val (.int x1), .val (.int (0 : Int32)), .unset] [(.int (1 : Int32)), (.int (5 : Int32)), (.ref x0)])) _
        refine XS.isub X24.here hx rfl (hb hby d17_20) rfl ?_
        exact Steps.refl _)
    obtain ⟨T27, h27, X27, e27, W27, sr27⟩ := putF X24 hx hZ hown (host := "") (Or.inl (hw _ (List.mem_of_getElem? (i := 22) rfl))) Via.refl e24 f17 f13 (Or.inl (hw _ (List.mem_of_getElem? (i := 23) rfl))) (hw _ (List.mem_of_getElem? (i := 2) rfl)) (ty := .int) (by decide) rfl rfl (g := (mkF m 21 #[.val (.ref x0), .val (.int x1), .val (.int (0 : Int32)), .unset] [(.int (4 : Int32)), (.ref x0)])) rfl rfl (hb hby d17_21)
    have f28 : Exa Z h27 x0 "com/example/folioseek/folioseek/UseOrder" := f13.wr W27
    have f29 : Fld Z h27 x0 "com/example/folioseek/folioseek/UseOrder" "ids" "[I" (.ref aI) := f14.other W27 (Or.inr (slot_ne (Or.inl (hw _ (List.mem_of_getElem? (i := 12) rfl))) (Or.inl (hw _ (List.mem_of_getElem? (i := 23) rfl))) (by decide) (t := (.array .int)) (t' := .int) (by decide) (by decide)))
    have f30 : Fld Z h27 x0 "com/example/folioseek/folioseek/UseOrder" "uses" "[J" (.ref aU) := f15.other W27 (Or.inr (slot_ne (Or.inl (hw _ (List.mem_of_getElem? (i := 14) rfl))) (Or.inl (hw _ (List.mem_of_getElem? (i := 23) rfl))) (by decide) (t := (.array .long)) (t' := .int) (by decide) (by decide)))
    have f31 : Fld Z h27 x0 "com/example/folioseek/folioseek/UseOrder" "slots" "[I" (.ref aS) := f16.other W27 (Or.inr (slot_ne (Or.inl (hw _ (List.mem_of_getElem? (i := 16) rfl))) (Or.inl (hw _ (List.mem_of_getElem? (i := 23) rfl))) (by decide) (t := (.array .int)) (t' := .int) (by decide) (by decide)))
    have f32 : Arv Z h27 aI kI .int (16 : Int32) (List.map Value.int LI) (.int (0 : Int32)) := f18.other W27 (Ne.symm ne_xi)
    have f33 : Arv Z h27 aU kU .long (16 : Int32) (List.map Value.long LU) (.long (0 : Int64)) := f19.other W27 (Ne.symm ne_xu)
    have f34 : Arv Z h27 aS kS .int mm (List.map Value.int (LS.set (x1).toNatClampNeg (-1 : Int32))) (.int (0 : Int32)) := f20.other W27 (Ne.symm ne_xs)
    have f35 : Fld Z h27 x0 "com/example/folioseek/folioseek/UseOrder" "size" "I" (.int (4 : Int32)) := f17.same W27
    have K36 : Keep h0 h27 [x0, aI, aU, aS] := K21.wr W27 (Or.inl (List.mem_of_getElem? (i := 0) rfl))
    have Z27 : n0 ≤ h27.size := Nat.le_trans Z12 (Keep.of_wr W27).1
    have N27 := Fr.snoc X27 N12 g_x
    obtain ⟨LL27, X27, N27⟩ := own_hide X27 N27
    have st37 : Steps p.tables e below sE (T27.setTop (mkF m 24 #[.val (.ref x0), .val (.int x1), .val (.int (0 : Int32)), .unset] [])) := st26.trans (sr27 _ (Steps.refl _))
    have st38 : Steps p.tables e below sE (T27.setTop (mkF m 26 #[.val (.ref x0), .val (.int x1), .val (.int (0 : Int32)), .unset] [(.ref x0), (.int (0 : Int32))])) := st37.trans (by
        show Steps _ _ _ (T27.setTop (mkF m 24 #[.val (.ref x0), .val (.int x1), .val (.int (0 : Int32)), .unset] [])) _
        refine XS.iloadN X27.here hx rfl (hb hby d17_24) rfl ?_
        show Steps _ _ _ (T27.setTop (mkF m 25 #[.val (.ref x0), .val (.int x1), .val (.int (0 : Int32)), .unset] [(.int (0 : Int32))])) _
        refine XS.aloadN X27.here hx rfl (hb hby d17_25) rfl rfl ?_
        exact Steps.refl _)
    obtain ⟨T39, X39, e39, sr39⟩ := getF X27 hx hZ hown (host := "") (Or.inl (hw _ (List.mem_of_getElem? (i := 22) rfl))) Via.refl e27 f35 (g := (mkF m 26 #[.val (.ref x0), .val (.int x1), .val (.int (0 : Int32)), .unset] [(.ref x0), (.int (0 : Int32))])) rfl rfl (hb hby d17_26)
    have st40 : Steps p.tables e below sE (T39.setTop (mkF m 29 #[.val (.ref x0), .val (.int x1), .val (.int (0 : Int32)), .unset] [(.int (4 : Int32)), (.int (0 : Int32))])) := st38.trans (sr39 _ (Steps.refl _))
    have hf41 : (0 : Int32) < (4 : Int32) := by decide
    have st42 : Steps p.tables e below sE (T39.setTop (mkF m 32 #[.val (.ref x0), .val (.int x1), .val (.int (0 : Int32)), .unset] [])) := st40.trans (by
        show Steps _ _ _ (T39.setTop (mkF m 29 #[.val (.ref x0), .val (.int x1), .val (.int (0 : Int32)), .unset] [(.int (4 : Int32)), (.int (0 : Int32))])) _
        refine XS.icmpNo X39.here hx rfl (hb hby d17_29) rfl (tlt hf41).2.1 ?_
        exact Steps.refl _)
    have han : a < 4 := by omega
    have st43 : Steps p.tables e below sE (T39.setTop (mkF m 33 #[.val (.ref x0), .val (.int x1), .val (.int (0 : Int32)), .unset] [(.ref x0)])) := st42.trans (by
        show Steps _ _ _ (T39.setTop (mkF m 32 #[.val (.ref x0), .val (.int x1), .val (.int (0 : Int32)), .unset] [])) _
        refine XS.aloadN X39.here hx rfl (hb hby d17_32) rfl rfl ?_
        exact Steps.refl _)
    obtain ⟨T44, X44, e44, sr44⟩ := getF X39 hx hZ hown (host := "") (Or.inl (hw _ (List.mem_of_getElem? (i := 11) rfl))) Via.refl e39 f29 (g := (mkF m 33 #[.val (.ref x0), .val (.int x1), .val (.int (0 : Int32)), .unset] [(.ref x0)])) rfl rfl (hb hby d17_33)
    have st45 : Steps p.tables e below sE (T44.setTop (mkF m 36 #[.val (.ref x0), .val (.int x1), .val (.int (0 : Int32)), .unset] [(.ref aI)])) := st43.trans (sr44 _ (Steps.refl _))
    have st46 : Steps p.tables e below sE (T44.setTop (mkF m 37 #[.val (.ref x0), .val (.int x1), .val (.int (0 : Int32)), .unset] [(.ref x0), (.ref aI)])) := st45.trans (by
        show Steps _ _ _ (T44.setTop (mkF m 36 #[.val (.ref x0), .val (.int x1), .val (.int (0 : Int32)), .unset] [(.ref aI)])) _
        refine XS.aloadN X44.here hx rfl (hb hby d17_36) rfl rfl ?_
        exact Steps.refl _)
    obtain ⟨T47, X47, e47, sr47⟩ := getF X44 hx hZ hown (host := "") (Or.inl (hw _ (List.mem_of_getElem? (i := 22) rfl))) Via.refl e44 f35 (g := (mkF m 37 #[.val (.ref x0), .val (.int x1), .val (.int (0 : Int32)), .unset] [(.ref x0), (.ref aI)])) rfl rfl (hb hby d17_37)
    have st48 : Steps p.tables e below sE (T47.setTop (mkF m 40 #[.val (.ref x0), .val (.int x1), .val (.int (0 : Int32)), .unset] [(.int (4 : Int32)), (.ref aI)])) := st46.trans (sr47 _ (Steps.refl _))
    obtain ⟨cl49, Ar49, q49, S49, N49, H49, G49⟩ := id f32
    have hin49 : ¬ ((4 : Int32) < 0 ∨ cl49.slots.size ≤ ((4 : Int32)).toNatClampNeg) := inb_of S49 ⟨by decide, by decide⟩
    have hat49 : cl49.slots[((4 : Int32)).toNatClampNeg]? = some (.int (LI.getD ((4 : Int32)).toNatClampNeg 0)) := H49.at hin49 (own_getI LI _)
    have st50 : Steps p.tables e below sE (T47.setTop (mkF m 41 #[.val (.ref x0), .val (.int x1), .val (.int (0 : Int32)), .unset] [(.int (LI.getD ((4 : Int32)).toNatClampNeg 0))])) := st48.trans (by
        show Steps _ _ _ (T47.setTop (mkF m 40 #[.val (.ref x0), .val (.int x1), .val (.int (0 : Int32)), .unset] [(.int (4 : Int32)), (.ref aI)])) _
        refine X47.iaload hx (j := (4 : Int32)) (v := (.int (LI.getD ((4 : Int32)).toNatClampNeg 0))) (by rw [e47]; exact Ar49.1) (State.isArrayOf_alike hZ.alike Ar49.2.1) Ar49.2.2 hin49 hat49 (g := (mkF m 40 #[.val (.ref x0), .val (.int x1), .val (.int (0 : Int32)), .unset] [(.int (4 : Int32)), (.ref aI)])) rfl rfl (hb hby d17_40) _ ?_
        exact Steps.refl _)
    obtain ⟨mv, e_mv⟩ : ∃ z, z = (LI.getD ((4 : Int32)).toNatClampNeg 0) := ⟨_, rfl⟩
    rw [← e_mv] at st50
    have hmv := own_idb hP 4 (by decide)
    rw [show LI.getD 4 0 = mv from e_mv.symm] at hmv
    have st51 : Steps p.tables e below sE (T47.setTop (mkF m 45 #[.val (.ref x0), .val (.int x1), .val (.int (0 : Int32)), .val (.int mv)] [(.ref x0), (.int mv), (.ref x0)])) := st50.trans (by
        show Steps _ _ _ (T47.setTop (mkF m 41 #[.val (.ref x0), .val (.int x1), .val (.int (0 : Int32)), .unset] [(.int mv)])) _
        refine XS.istoreN X47.here hx rfl (hb hby d17_41) rfl (l' := #[.val (.ref x0), .val (.int x1), .val (.int (0 : Int32)), .val (.int mv)]) rfl ?_
        show Steps _ _ _ (T47.setTop (mkF m 42 #[.val (.ref x0), .val (.int x1), .val (.int (0 : Int32)), .val (.int mv)] [])) _
        refine XS.aloadN X47.here hx rfl (hb hby d17_42) rfl rfl ?_
        show Steps _ _ _ (T47.setTop (mkF m 43 #[.val (.ref x0), .val (.int x1), .val (.int (0 : Int32)), .val (.int mv)] [(.ref x0)])) _
        refine XS.iloadN X47.here hx rfl (hb hby d17_43) rfl ?_
        show Steps _ _ _ (T47.setTop (mkF m 44 #[.val (.ref x0), .val (.int x1), .val (.int (0 : Int32)), .val (.int mv)] [(.int mv), (.ref x0)])) _
        refine XS.aloadN X47.here hx rfl (hb hby d17_44) rfl rfl ?_
        exact Steps.refl _)
    obtain ⟨T52, X52, e52, sr52⟩ := getF X47 hx hZ hown (host := "") (Or.inl (hw _ (List.mem_of_getElem? (i := 13) rfl))) Via.refl e47 f30 (g := (mkF m 45 #[.val (.ref x0), .val (.int x1), .val (.int (0 : Int32)), .val (.int mv)] [(.ref x0), (.int mv), (.ref x0)])) rfl rfl (hb hby d17_45)
    have st53 : Steps p.tables e below sE (T52.setTop (mkF m 48 #[.val (.ref x0), .val (.int x1), .val (.int (0 : Int32)), .val (.int mv)] [(.ref aU), (.int mv), (.ref x0)])) := st51.trans (sr52 _ (Steps.refl _))
    have st54 : Steps p.tables e below sE (T52.setTop (mkF m 49 #[.val (.ref x0), .val (.int x1), .val (.int (0 : Int32)), .val (.int mv)] [(.ref x0), (.ref aU), (.int mv), (.ref x0)])) := st53.trans (by
        show Steps _ _ _ (T52.setTop (mkF m 48 #[.val (.ref x0), .val (.int x1), .val (.int (0 : Int32)), .val (.int mv)] [(.ref aU), (.int mv), (.ref x0)])) _
        refine XS.aloadN X52.here hx rfl (hb hby d17_48) rfl rfl ?_
        exact Steps.refl _)
    obtain ⟨T55, X55, e55, sr55⟩ := getF X52 hx hZ hown (host := "") (Or.inl (hw _ (List.mem_of_getElem? (i := 22) rfl))) Via.refl e52 f35 (g := (mkF m 49 #[.val (.ref x0), .val (.int x1), .val (.int (0 : Int32)), .val (.int mv)] [(.ref x0), (.ref aU), (.int mv), (.ref x0)])) rfl rfl (hb hby d17_49)
    have st56 : Steps p.tables e below sE (T55.setTop (mkF m 52 #[.val (.ref x0), .val (.int x1), .val (.int (0 : Int32)), .val (.int mv)] [(.int (4 : Int32)), (.ref aU), (.int mv), (.ref x0)])) := st54.trans (sr55 _ (Steps.refl _))
    obtain ⟨cl57, Ar57, q57, S57, N57, H57, G57⟩ := id f33
    have hin57 : ¬ ((4 : Int32) < 0 ∨ cl57.slots.size ≤ ((4 : Int32)).toNatClampNeg) := inb_of S57 ⟨by decide, by decide⟩
    have hat57 : cl57.slots[((4 : Int32)).toNatClampNeg]? = some (.long (LU.getD ((4 : Int32)).toNatClampNeg 0)) := H57.at hin57 (own_getJ LU _)
    have st58 : Steps p.tables e below sE (T55.setTop (mkF m 54 #[.val (.ref x0), .val (.int x1), .val (.int (0 : Int32)), .val (.int mv)] [(.int (0 : Int32)), (.long (LU.getD ((4 : Int32)).toNatClampNeg 0)), (.int mv), (.ref x0)])) := st56.trans (by
        show Steps _ _ _ (T55.setTop (mkF m 52 #[.val (.ref x0), .val (.int x1), .val (.int (0 : Int32)), .val (.int mv)] [(.int (4 : Int32)), (.ref aU), (.int mv), (.ref x0)])) _
        refine X55.laload hx (j := (4 : Int32)) (v := (.long (LU.getD ((4 : Int32)).toNatClampNeg 0))) (by rw [e55]; exact Ar57.1) (State.isArrayOf_alike hZ.alike Ar57.2.1) Ar57.2.2 hin57 hat57 (g := (mkF m 52 #[.val (.ref x0), .val (.int x1), .val (.int (0 : Int32)), .val (.int mv)] [(.int (4 : Int32)), (.ref aU), (.int mv), (.ref x0)])) rfl rfl (hb hby d17_52) _ ?_
        show Steps _ _ _ (T55.setTop (mkF m 53 #[.val (.ref x0), .val (.int x1), .val (.int (0 : Int32)), .val (.int mv)] [(.long (LU.getD ((4 : Int32)).toNatClampNeg 0)), (.int mv), (.ref x0)])) _
        refine XS.iloadN X55.here hx rfl (hb hby d17_53) rfl ?_
        exact Steps.refl _)
    obtain ⟨cq59, q59, q59'⟩ := f28.cell
    obtain ⟨_, _, ⟨T59, L59, k59, n59⟩, -, X59, ⟨Lc59, hQ59, l59, y59, z59⟩, sr59⟩ := X55.privateBack hx (y := (⟨"com/example/folioseek/folioseek/UseOrder", "place", "(IJI)V"⟩ : MethodName)) hown (mvT hZ (hw _ (List.mem_of_getElem? (i := 45) rfl))) (mvT hZ (hw _ (List.mem_of_getElem? (i := 46) rfl))) (own_selp (z := (⟨"com/example/folioseek/folioseek/UseOrder", "add", "(IJ)V"⟩ : MethodName)) rfl (notFace_of_selects (args := #[]) (mvT hZ (hw _ (List.mem_of_getElem? (i := 20) rfl)))) (args' := #[]) (mvT hZ (hw _ (List.mem_of_getElem? (i := 19) rfl))) (Cond.privateMethod_at (mvP hZ (hw _ (List.mem_of_getElem? (i := 47) rfl)) (args := #[]))) (mvT hZ (hw _ (List.mem_of_getElem? (i := 46) rfl))) (by decide)) (Cond.privateMethod_at (mvP hZ (hw _ (List.mem_of_getElem? (i := 47) rfl)) (args := #[]))) (mvT hZ (hw _ (List.mem_of_getElem? (i := 48) rfl))) (by decide) (backOf (W := 0) (rm9 l Z a0 hw [] x0 mv (LU.getD ((4 : Int32)).toNatClampNeg 0) (0 : Int32) aI aU aS kI kU kS LI LU (LS.set (x1).toNatClampNeg (-1 : Int32)) mm h27 n0 Z27 f29 f30 f31 f32 f33 f34 (by decide) hmv.1 ⟨hP.1, hP.2.1, by decide, by rw [List.length_set]; exact hmv.2⟩ g_i g_u g_s ne_iu ne_is ne_us ne_xi ne_xu ne_xs) hZ (hw _ (List.mem_of_getElem? (i := 48) rfl)) (hw _ (List.mem_of_getElem? (i := 3) rfl)) (by decide) (by decide)) (g := (mkF m 54 #[.val (.ref x0), .val (.int x1), .val (.int (0 : Int32)), .val (.int mv)] [(.int (0 : Int32)), (.long (LU.getD ((4 : Int32)).toNatClampNeg 0)), (.int mv), (.ref x0)])) rfl (by rw [hml]; rfl) (Steps.refl _) (a := x0) (by rw [e55]; exact q59) q59' (argsL := [(.int mv), (.long (LU.getD ((4 : Int32)).toNatClampNeg 0)), (.int (0 : Int32))]) (rest := []) (lenOf pd_0 rfl) rfl (by show 2 * 0 + _ ≤ _; exact Nat.le_of_eq rfl) (hb hby d17_54) (fun _ _ => ⟨rfl, e55, (by decide : 0 + 0 ≤ _), (by decide : 0 + 0 ≤ _)⟩)
    dsimp only [Pt.U, Pt.locs, Pt.cells, Pt.slots] at X59 l59 y59 z59 sr59 hQ59
    subst l59 y59 z59
    obtain ⟨rfl, N59q, K59c, f59_0, f59_1, f59_2⟩ := hQ59
    have N59 := Fr.app N27 N59q
    obtain ⟨LL59, X59, N59⟩ := own_hide X59 N59
    have f60 : Exa Z T59.heap x0 "com/example/folioseek/folioseek/UseOrder" := f28.keep K59c
    have f61 : Fld Z T59.heap x0 "com/example/folioseek/folioseek/UseOrder" "ids" "[I" (.ref aI) := f29.keep K59c (ninS ne_xi (ninS ne_xu (ninS ne_xs nin0)))
    have f62 : Fld Z T59.heap x0 "com/example/folioseek/folioseek/UseOrder" "uses" "[J" (.ref aU) := f30.keep K59c (ninS ne_xi (ninS ne_xu (ninS ne_xs nin0)))
    have f63 : Fld Z T59.heap x0 "com/example/folioseek/folioseek/UseOrder" "slots" "[I" (.ref aS) := f31.keep K59c (ninS ne_xi (ninS ne_xu (ninS ne_xs nin0)))
    have f64 : Fld Z T59.heap x0 "com/example/folioseek/folioseek/UseOrder" "size" "I" (.int (4 : Int32)) := f35.keep K59c (ninS ne_xi (ninS ne_xu (ninS ne_xs nin0)))
    have K65 : Keep h0 T59.heap [x0, aI, aU, aS] := K36.trans K59c (allS (Or.inl (List.mem_of_getElem? (i := 1) rfl)) (allS (Or.inl (List.mem_of_getElem? (i := 2) rfl)) (allS (Or.inl (List.mem_of_getElem? (i := 3) rfl)) all0)))
    have Z66 : n0 ≤ T59.heap.size := Nat.le_trans Z27 K59c.1
    have st67 : Steps p.tables e below sE (T59.setTop (mkF m 57 #[.val (.ref x0), .val (.int x1), .val (.int (0 : Int32)), .val (.int mv)] [])) := st58.trans (sr59)
    have st68 : Steps p.tables e below sE (T59.setTop (mkF m 59 #[.val (.ref x0), .val (.int x1), .val (.int (0 : Int32)), .val (.int mv)] [(.int (0 : Int32)), (.ref x0)])) := st67.trans (by
        show Steps _ _ _ (T59.setTop (mkF m 57 #[.val (.ref x0), .val (.int x1), .val (.int (0 : Int32)), .val (.int mv)] [])) _
        refine XS.aloadN X59.here hx rfl (hb hby d17_57) rfl rfl ?_
        show Steps _ _ _ (T59.setTop (mkF m 58 #[.val (.ref x0), .val (.int x1), .val (.int (0 : Int32)), .val (.int mv)] [(.ref x0)])) _
        refine XS.iloadN X59.here hx rfl (hb hby d17_58) rfl ?_
        exact Steps.refl _)
    have hP2 : own_P 4 mm.toNatClampNeg (LI.set ((0 : Int32)).toNatClampNeg mv) (LU.set ((0 : Int32)).toNatClampNeg (LU.getD ((4 : Int32)).toNatClampNeg 0)) ((LS.set (x1).toNatClampNeg (-1 : Int32)).set (mv).toNatClampNeg (0 : Int32)) val (fun i => pres i ∧ ¬ i = k) := by
      have q := own_rmP hP k a hkm han hIa
      rw [show LI.getD 4 0 = mv from e_mv.symm] at q
      rw [hxk]
      rw [hc6] at q
      exact q
    obtain ⟨cq69, q69, q69'⟩ := f60.cell
    obtain ⟨_, _, ⟨T69, L69, k69, n69⟩, -, X69, ⟨Lc69, hQ69, l69, y69, z69⟩, sr69⟩ := X59.privateBack hx (y := (⟨"com/example/folioseek/folioseek/UseOrder", "siftDown", "(I)V"⟩ : MethodName)) hown (mvT hZ (hw _ (List.mem_of_getElem? (i := 58) rfl))) (mvT hZ (hw _ (List.mem_of_getElem? (i := 59) rfl))) (own_selp (z := (⟨"com/example/folioseek/folioseek/UseOrder", "add", "(IJ)V"⟩ : MethodName)) rfl (notFace_of_selects (args := #[]) (mvT hZ (hw _ (List.mem_of_getElem? (i := 20) rfl)))) (args' := #[]) (mvT hZ (hw _ (List.mem_of_getElem? (i := 19) rfl))) (Cond.privateMethod_at (mvP hZ (hw _ (List.mem_of_getElem? (i := 60) rfl)) (args := #[]))) (mvT hZ (hw _ (List.mem_of_getElem? (i := 59) rfl))) (by decide)) (Cond.privateMethod_at (mvP hZ (hw _ (List.mem_of_getElem? (i := 60) rfl)) (args := #[]))) (mvT hZ (hw _ (List.mem_of_getElem? (i := 61) rfl))) (by decide) (backOf (W := 0) (rmdn4 l Z a0 hw [] x0 aI aU aS kI kU kS (LI.set ((0 : Int32)).toNatClampNeg mv) (LU.set ((0 : Int32)).toNatClampNeg (LU.getD ((4 : Int32)).toNatClampNeg 0)) ((LS.set (x1).toNatClampNeg (-1 : Int32)).set (mv).toNatClampNeg (0 : Int32)) mm val (fun i => pres i ∧ ¬ i = k) T59.heap n0 Z66 f60 f61 f62 f63 f64 f59_0 f59_1 f59_2 hP2 g_i g_u g_s ne_iu ne_is ne_us ne_xi ne_xu ne_xs) hZ (hw _ (List.mem_of_getElem? (i := 61) rfl)) (hw _ (List.mem_of_getElem? (i := 3) rfl)) (by decide) (by decide)) (g := (mkF m 59 #[.val (.ref x0), .val (.int x1), .val (.int (0 : Int32)), .val (.int mv)] [(.int (0 : Int32)), (.ref x0)])) rfl (by rw [hml]; rfl) (Steps.refl _) (a := x0) q69 q69' (argsL := [(.int (0 : Int32))]) (rest := []) (lenOf pd_5 rfl) rfl (by show 2 * 0 + _ ≤ _; exact Nat.le_of_eq rfl) (hb hby d17_59) (fun _ _ => ⟨rfl, rfl, (by decide : 0 + 0 ≤ _), (by decide : 0 + 0 ≤ _)⟩)
    dsimp only [Pt.U, Pt.locs, Pt.cells, Pt.slots] at X69 l69 y69 z69 sr69 hQ69
    subst l69 y69 z69
    obtain ⟨rfl, N69q, K69c, ⟨LI1, LU1, LS1, qI, qU, qS, hP3, hH3⟩⟩ := hQ69
    have N69 := Fr.app N59 N69q
    obtain ⟨LL69, X69, N69⟩ := own_hide X69 N69
    have f70 : Exa Z T69.heap x0 "com/example/folioseek/folioseek/UseOrder" := f60.keep K69c
    have f71 : Fld Z T69.heap x0 "com/example/folioseek/folioseek/UseOrder" "ids" "[I" (.ref aI) := f61.keep K69c (ninS ne_xi (ninS ne_xu (ninS ne_xs nin0)))
    have f72 : Fld Z T69.heap x0 "com/example/folioseek/folioseek/UseOrder" "uses" "[J" (.ref aU) := f62.keep K69c (ninS ne_xi (ninS ne_xu (ninS ne_xs nin0)))
    have f73 : Fld Z T69.heap x0 "com/example/folioseek/folioseek/UseOrder" "slots" "[I" (.ref aS) := f63.keep K69c (ninS ne_xi (ninS ne_xu (ninS ne_xs nin0)))
    have f74 : Fld Z T69.heap x0 "com/example/folioseek/folioseek/UseOrder" "size" "I" (.int (4 : Int32)) := f64.keep K69c (ninS ne_xi (ninS ne_xu (ninS ne_xs nin0)))
    have K75 : Keep h0 T69.heap [x0, aI, aU, aS] := K65.trans K69c (allS (Or.inl (List.mem_of_getElem? (i := 1) rfl)) (allS (Or.inl (List.mem_of_getElem? (i := 2) rfl)) (allS (Or.inl (List.mem_of_getElem? (i := 3) rfl)) all0)))
    have Z76 : n0 ≤ T69.heap.size := Nat.le_trans Z66 K69c.1
    have st77 : Steps p.tables e below sE (T69.setTop (mkF m 62 #[.val (.ref x0), .val (.int x1), .val (.int (0 : Int32)), .val (.int mv)] [])) := st68.trans (sr69)
    have st78 : Steps p.tables e below sE (T69.setTop (mkF m 64 #[.val (.ref x0), .val (.int x1), .val (.int (0 : Int32)), .val (.int mv)] [(.ref x0), (.ref x0)])) := st77.trans (by
        show Steps _ _ _ (T69.setTop (mkF m 62 #[.val (.ref x0), .val (.int x1), .val (.int (0 : Int32)), .val (.int mv)] [])) _
        refine XS.aloadN X69.here hx rfl (hb hby d17_62) rfl rfl ?_
        show Steps _ _ _ (T69.setTop (mkF m 63 #[.val (.ref x0), .val (.int x1), .val (.int (0 : Int32)), .val (.int mv)] [(.ref x0)])) _
        refine XS.aloadN X69.here hx rfl (hb hby d17_63) rfl rfl ?_
        exact Steps.refl _)
    obtain ⟨T79, X79, e79, sr79⟩ := getF X69 hx hZ hown (host := "") (Or.inl (hw _ (List.mem_of_getElem? (i := 15) rfl))) Via.refl rfl f73 (g := (mkF m 64 #[.val (.ref x0), .val (.int x1), .val (.int (0 : Int32)), .val (.int mv)] [(.ref x0), (.ref x0)])) rfl rfl (hb hby d17_64)
    have st80 : Steps p.tables e below sE (T79.setTop (mkF m 67 #[.val (.ref x0), .val (.int x1), .val (.int (0 : Int32)), .val (.int mv)] [(.ref aS), (.ref x0)])) := st78.trans (sr79 _ (Steps.refl _))
    obtain ⟨cl81, Ar81, q81, S81, N81, H81, G81⟩ := id qS
    have hin81 : ¬ (mv < 0 ∨ cl81.slots.size ≤ (mv).toNatClampNeg) := inb_of S81 hmv.1
    have hat81 : cl81.slots[(mv).toNatClampNeg]? = some (.int (LS1.getD (mv).toNatClampNeg 0)) := H81.at hin81 (own_getI LS1 _)
    have st82 : Steps p.tables e below sE (T79.setTop (mkF m 69 #[.val (.ref x0), .val (.int x1), .val (.int (0 : Int32)), .val (.int mv)] [(.int (LS1.getD (mv).toNatClampNeg 0)), (.ref x0)])) := st80.trans (by
        show Steps _ _ _ (T79.setTop (mkF m 67 #[.val (.ref x0), .val (.int x1), .val (.int (0 : Int32)), .val (.int mv)] [(.ref aS), (.ref x0)])) _
        refine XS.iloadN X79.here hx rfl (hb hby d17_67) rfl ?_
        show Steps _ _ _ (T79.setTop (mkF m 68 #[.val (.ref x0), .val (.int x1), .val (.int (0 : Int32)), .val (.int mv)] [(.int mv), (.ref aS), (.ref x0)])) _
        refine X79.iaload hx (j := mv) (v := (.int (LS1.getD (mv).toNatClampNeg 0))) (by rw [e79]; exact Ar81.1) (State.isArrayOf_alike hZ.alike Ar81.2.1) Ar81.2.2 hin81 hat81 (g := (mkF m 68 #[.val (.ref x0), .val (.int x1), .val (.int (0 : Int32)), .val (.int mv)] [(.int mv), (.ref aS), (.ref x0)])) rfl rfl (hb hby d17_68) _ ?_
        exact Steps.refl _)
    obtain ⟨il, b1, b2, b3, b4, b5⟩ := hP.2.2.2.2.2.1 4 (by decide)
    have hil : ¬ il = k := fun q => by subst q; have z := own_oni (by omega) (by omega) (hSa.symm.trans b4); omega
    obtain ⟨-, p', hp, hSp, -, -⟩ := own_where hP3 il ⟨b2, hil⟩
    have hmn : mv.toNatClampNeg = il := by rw [e_mv]; show (LI.getD 4 0).toNatClampNeg = il; rw [b3]; exact own_onn il (by omega)
    have hpv : (LS1.getD (mv).toNatClampNeg 0) = Int32.ofNat p' := by rw [← hmn] at hSp; exact hSp
    rw [hpv] at st82
    obtain ⟨cq83, q83, q83'⟩ := f70.cell
    obtain ⟨_, _, ⟨T83, L83, k83, n83⟩, -, X83, ⟨Lc83, hQ83, l83, y83, z83⟩, sr83⟩ := X79.privateBack hx (y := (⟨"com/example/folioseek/folioseek/UseOrder", "siftUp", "(I)V"⟩ : MethodName)) hown (mvT hZ (hw _ (List.mem_of_getElem? (i := 49) rfl))) (mvT hZ (hw _ (List.mem_of_getElem? (i := 50) rfl))) (own_selp (z := (⟨"com/example/folioseek/folioseek/UseOrder", "add", "(IJ)V"⟩ : MethodName)) rfl (notFace_of_selects (args := #[]) (mvT hZ (hw _ (List.mem_of_getElem? (i := 20) rfl)))) (args' := #[]) (mvT hZ (hw _ (List.mem_of_getElem? (i := 19) rfl))) (Cond.privateMethod_at (mvP hZ (hw _ (List.mem_of_getElem? (i := 51) rfl)) (args := #[]))) (mvT hZ (hw _ (List.mem_of_getElem? (i := 50) rfl))) (by decide)) (Cond.privateMethod_at (mvP hZ (hw _ (List.mem_of_getElem? (i := 51) rfl)) (args := #[]))) (mvT hZ (hw _ (List.mem_of_getElem? (i := 52) rfl))) (by decide) (backOf (W := 0) (rm10 l Z a0 hw [] x0 (Int32.ofNat p') aI aU aS kI kU kS LI1 LU1 LS1 mm 4 val (fun i => pres i ∧ ¬ i = k) T69.heap n0 Z76 f70 f71 f72 f73 qI qU qS hP3 (own_ofb p' 4 (by decide) hp) (fun j hj _ => hH3 j hj) g_i g_u g_s ne_iu ne_is ne_us ne_xi ne_xu ne_xs) hZ (hw _ (List.mem_of_getElem? (i := 52) rfl)) (hw _ (List.mem_of_getElem? (i := 3) rfl)) (by decide) (by decide)) (g := (mkF m 69 #[.val (.ref x0), .val (.int x1), .val (.int (0 : Int32)), .val (.int mv)] [(.int (Int32.ofNat p')), (.ref x0)])) rfl (by rw [hml]; rfl) (Steps.refl _) (a := x0) (by rw [e79]; exact q83) q83' (argsL := [(.int (Int32.ofNat p'))]) (rest := []) (lenOf pd_5 rfl) rfl (by show 2 * 0 + _ ≤ _; exact Nat.le_of_eq rfl) (hb hby d17_69) (fun _ _ => ⟨rfl, e79, (by decide : 0 + 0 ≤ _), (by decide : 0 + 0 ≤ _)⟩)
    dsimp only [Pt.U, Pt.locs, Pt.cells, Pt.slots] at X83 l83 y83 z83 sr83 hQ83
    subst l83 y83 z83
    obtain ⟨rfl, N83q, K83c, ⟨LI', LU', LS', rI, rU, rS, hP', hH'⟩⟩ := hQ83
    have N83 := Fr.app N69 N83q
    obtain ⟨LL83, X83, N83⟩ := own_hide X83 N83
    have f84 : Exa Z T83.heap x0 "com/example/folioseek/folioseek/UseOrder" := f70.keep K83c
    have f85 : Fld Z T83.heap x0 "com/example/folioseek/folioseek/UseOrder" "ids" "[I" (.ref aI) := f71.keep K83c (ninS ne_xi (ninS ne_xu (ninS ne_xs nin0)))
    have f86 : Fld Z T83.heap x0 "com/example/folioseek/folioseek/UseOrder" "uses" "[J" (.ref aU) := f72.keep K83c (ninS ne_xi (ninS ne_xu (ninS ne_xs nin0)))
    have f87 : Fld Z T83.heap x0 "com/example/folioseek/folioseek/UseOrder" "slots" "[I" (.ref aS) := f73.keep K83c (ninS ne_xi (ninS ne_xu (ninS ne_xs nin0)))
    have f88 : Fld Z T83.heap x0 "com/example/folioseek/folioseek/UseOrder" "size" "I" (.int (4 : Int32)) := f74.keep K83c (ninS ne_xi (ninS ne_xu (ninS ne_xs nin0)))
    have K89 : Keep h0 T83.heap [x0, aI, aU, aS] := K75.trans K83c (allS (Or.inl (List.mem_of_getElem? (i := 1) rfl)) (allS (Or.inl (List.mem_of_getElem? (i := 2) rfl)) (allS (Or.inl (List.mem_of_getElem? (i := 3) rfl)) all0)))
    have Z90 : n0 ≤ T83.heap.size := Nat.le_trans Z76 K83c.1
    have st91 : Steps p.tables e below sE (T83.setTop (mkF m 72 #[.val (.ref x0), .val (.int x1), .val (.int (0 : Int32)), .val (.int mv)] [])) := st82.trans (sr83)
    obtain ⟨fs, hr, hrun, hended, hW, hsame⟩ := X83.leave (v := none) (fun _ => rfl) hlk
    refine ⟨_, _, (own_ent hsE st91).trans ?_, hrun, hended, _, _, rfl, ?_, ⟨_, rfl⟩, hW, hsame.mono (by decide) (by decide)⟩
    · exact X83.returnOut hx Bd.returns (hb hby d17_72) hr
    · show Qrm4 Z x0 x1 aI aU aS kI kU kS LI LU LS mm val pres k h0 n0 _ T83.heap _
      exact ⟨rfl, N83, K89, f84, f85, f86, f87, f88, ⟨LI', LU', LS', rI, rU, rS, hP', hH'⟩⟩
  · have hsl : (LS.getD (x1).toNatClampNeg 0) = (Int32.ofNat a) := by rw [hxk, hSa]
    rw [hsl] at st5
    have st92 : Steps p.tables e below sE (T2.setTop (mkF m 8 #[.val (.ref x0), .val (.int x1), .val (.int (Int32.ofNat a)), .unset] [(.ref x0)])) := st5.trans (by
        show Steps _ _ _ (T2.setTop (mkF m 6 #[.val (.ref x0), .val (.int x1), .unset, .unset] [(.int (Int32.ofNat a))])) _
        refine XS.istoreN X2.here hx rfl (hb hby d17_6) rfl (l' := #[.val (.ref x0), .val (.int x1), .val (.int (Int32.ofNat a)), .unset]) rfl ?_
        show Steps _ _ _ (T2.setTop (mkF m 7 #[.val (.ref x0), .val (.int x1), .val (.int (Int32.ofNat a)), .unset] [])) _
        refine XS.aloadN X2.here hx rfl (hb hby d17_7) rfl rfl ?_
        exact Steps.refl _)
    obtain ⟨T93, X93, e93, sr93⟩ := getF X2 hx hZ hown (host := "") (Or.inl (hw _ (List.mem_of_getElem? (i := 15) rfl))) Via.refl e2 F_s (g := (mkF m 8 #[.val (.ref x0), .val (.int x1), .val (.int (Int32.ofNat a)), .unset] [(.ref x0)])) rfl rfl (hb hby d17_8)
    have st94 : Steps p.tables e below sE (T93.setTop (mkF m 11 #[.val (.ref x0), .val (.int x1), .val (.int (Int32.ofNat a)), .unset] [(.ref aS)])) := st92.trans (sr93 _ (Steps.refl _))
    have st95 : Steps p.tables e below sE (T93.setTop (mkF m 13 #[.val (.ref x0), .val (.int x1), .val (.int (Int32.ofNat a)), .unset] [(.int (-1 : Int32)), (.int x1), (.ref aS)])) := st94.trans (by
        show Steps _ _ _ (T93.setTop (mkF m 11 #[.val (.ref x0), .val (.int x1), .val (.int (Int32.ofNat a)), .unset] [(.ref aS)])) _
        refine XS.iloadN X93.here hx rfl (hb hby d17_11) rfl ?_
        show Steps _ _ _ (T93.setTop (mkF m 12 #[.val (.ref x0), .val (.int x1), .val (.int (Int32.ofNat a)), .unset] [(.int x1), (.ref aS)])) _
        refine XS.iconst X93.here hx rfl (hb hby d17_12) ?_
        exact Steps.refl _)
    obtain ⟨cl96, Ar96, q96, S96, N96, H96, G96⟩ := id A_s
    have hin96 : ¬ (x1 < 0 ∨ cl96.slots.size ≤ (x1).toNatClampNeg) := inb_of S96 hix
    obtain ⟨T97, h97, X97, e97, W97, sr97⟩ := stI X93 hx hZ e93 Ar96 (j := x1) hin96 (g := (mkF m 13 #[.val (.ref x0), .val (.int x1), .val (.int (Int32.ofNat a)), .unset] [(.int (-1 : Int32)), (.int x1), (.ref aS)])) rfl rfl (hb hby d17_13)
    have f98 : Exa Z h97 x0 "com/example/folioseek/folioseek/UseOrder" := E_x.wr W97
    have f99 : Fld Z h97 x0 "com/example/folioseek/folioseek/UseOrder" "ids" "[I" (.ref aI) := F_i.other W97 (Or.inl ne_xs)
    have f100 : Fld Z h97 x0 "com/example/folioseek/folioseek/UseOrder" "uses" "[J" (.ref aU) := F_u.other W97 (Or.inl ne_xs)
    have f101 : Fld Z h97 x0 "com/example/folioseek/folioseek/UseOrder" "slots" "[I" (.ref aS) := F_s.other W97 (Or.inl ne_xs)
    have f102 : Fld Z h97 x0 "com/example/folioseek/folioseek/UseOrder" "size" "I" (.int (5 : Int32)) := F_z.other W97 (Or.inl ne_xs)
    have f103 : Arv Z h97 aI kI .int (16 : Int32) (List.map Value.int LI) (.int (0 : Int32)) := A_i.other W97 ne_is
    have f104 : Arv Z h97 aU kU .long (16 : Int32) (List.map Value.long LU) (.long (0 : Int64)) := A_u.other W97 ne_us
    have f105 : Arv Z h97 aS kS .int mm (List.map Value.int (LS.set (x1).toNatClampNeg (-1 : Int32))) (.int (0 : Int32)) := (by have q := Arv.set Ar96 q96 S96 N96 H96 G96 rfl W97 _ rfl (by rw [List.length_map]; exact hxl); rw [own_setI] at q; exact q)
    have K106 : Keep h0 h97 [x0, aI, aU, aS] := K0.wr W97 (Or.inl (List.mem_of_getElem? (i := 3) rfl))
    have Z97 : n0 ≤ h97.size := Nat.le_trans Z0 (Keep.of_wr W97).1
    have N97 := Fr.snoc X97 N0 g_s
    obtain ⟨LL97, X97, N97⟩ := own_hide X97 N97
    have st107 : Steps p.tables e below sE (T97.setTop (mkF m 14 #[.val (.ref x0), .val (.int x1), .val (.int (Int32.ofNat a)), .unset] [])) := st95.trans (sr97 _ (Steps.refl _))
    have st108 : Steps p.tables e below sE (T97.setTop (mkF m 16 #[.val (.ref x0), .val (.int x1), .val (.int (Int32.ofNat a)), .unset] [(.ref x0), (.ref x0)])) := st107.trans (by
        show Steps _ _ _ (T97.setTop (mkF m 14 #[.val (.ref x0), .val (.int x1), .val (.int (Int32.ofNat a)), .unset] [])) _
        refine XS.aloadN X97.here hx rfl (hb hby d17_14) rfl rfl ?_
        show Steps _ _ _ (T97.setTop (mkF m 15 #[.val (.ref x0), .val (.int x1), .val (.int (Int32.ofNat a)), .unset] [(.ref x0)])) _
        refine XS.dup X97.here hx rfl (hb hby d17_15) rfl rfl ?_
        exact Steps.refl _)
    obtain ⟨T109, X109, e109, sr109⟩ := getF X97 hx hZ hown (host := "") (Or.inl (hw _ (List.mem_of_getElem? (i := 22) rfl))) Via.refl e97 f102 (g := (mkF m 16 #[.val (.ref x0), .val (.int x1), .val (.int (Int32.ofNat a)), .unset] [(.ref x0), (.ref x0)])) rfl rfl (hb hby d17_16)
    have st110 : Steps p.tables e below sE (T109.setTop (mkF m 19 #[.val (.ref x0), .val (.int x1), .val (.int (Int32.ofNat a)), .unset] [(.int (5 : Int32)), (.ref x0)])) := st108.trans (sr109 _ (Steps.refl _))
    have st111 : Steps p.tables e below sE (T109.setTop (mkF m 21 #[.val (.ref x0), .val (.int x1), .val (.int (Int32.ofNat a)), .unset] [(.int (4 : Int32)), (.ref x0)])) := st110.trans (by
        show Steps _ _ _ (T109.setTop (mkF m 19 #[.val (.ref x0), .val (.int x1), .val (.int (Int32.ofNat a)), .unset] [(.int (5 : Int32)), (.ref x0)])) _
        refine XS.iconst X109.here hx rfl (hb hby d17_19) ?_
        show Steps _ _ _ (T109.setTop (mkF m 20 #[.val (.ref x0), .val (.int x1), .val (.int (Int32.ofNat a)), .unset] [(.int (1 : Int32)), (.int (5 : Int32)), (.ref x0)])) _
        refine XS.isub X109.here hx rfl (hb hby d17_20) rfl ?_
        exact Steps.refl _)
    obtain ⟨T112, h112, X112, e112, W112, sr112⟩ := putF X109 hx hZ hown (host := "") (Or.inl (hw _ (List.mem_of_getElem? (i := 22) rfl))) Via.refl e109 f102 f98 (Or.inl (hw _ (List.mem_of_getElem? (i := 23) rfl))) (hw _ (List.mem_of_getElem? (i := 2) rfl)) (ty := .int) (by decide) rfl rfl (g := (mkF m 21 #[.val (.ref x0), .val (.int x1), .val (.int (Int32.ofNat a)), .unset] [(.int (4 : Int32)), (.ref x0)])) rfl rfl (hb hby d17_21)
    have f113 : Exa Z h112 x0 "com/example/folioseek/folioseek/UseOrder" := f98.wr W112
    have f114 : Fld Z h112 x0 "com/example/folioseek/folioseek/UseOrder" "ids" "[I" (.ref aI) := f99.other W112 (Or.inr (slot_ne (Or.inl (hw _ (List.mem_of_getElem? (i := 12) rfl))) (Or.inl (hw _ (List.mem_of_getElem? (i := 23) rfl))) (by decide) (t := (.array .int)) (t' := .int) (by decide) (by decide)))
    have f115 : Fld Z h112 x0 "com/example/folioseek/folioseek/UseOrder" "uses" "[J" (.ref aU) := f100.other W112 (Or.inr (slot_ne (Or.inl (hw _ (List.mem_of_getElem? (i := 14) rfl))) (Or.inl (hw _ (List.mem_of_getElem? (i := 23) rfl))) (by decide) (t := (.array .long)) (t' := .int) (by decide) (by decide)))
    have f116 : Fld Z h112 x0 "com/example/folioseek/folioseek/UseOrder" "slots" "[I" (.ref aS) := f101.other W112 (Or.inr (slot_ne (Or.inl (hw _ (List.mem_of_getElem? (i := 16) rfl))) (Or.inl (hw _ (List.mem_of_getElem? (i := 23) rfl))) (by decide) (t := (.array .int)) (t' := .int) (by decide) (by decide)))
    have f117 : Arv Z h112 aI kI .int (16 : Int32) (List.map Value.int LI) (.int (0 : Int32)) := f103.other W112 (Ne.symm ne_xi)
    have f118 : Arv Z h112 aU kU .long (16 : Int32) (List.map Value.long LU) (.long (0 : Int64)) := f104.other W112 (Ne.symm ne_xu)
    have f119 : Arv Z h112 aS kS .int mm (List.map Value.int (LS.set (x1).toNatClampNeg (-1 : Int32))) (.int (0 : Int32)) := f105.other W112 (Ne.symm ne_xs)
    have f120 : Fld Z h112 x0 "com/example/folioseek/folioseek/UseOrder" "size" "I" (.int (4 : Int32)) := f102.same W112
    have K121 : Keep h0 h112 [x0, aI, aU, aS] := K106.wr W112 (Or.inl (List.mem_of_getElem? (i := 0) rfl))
    have Z112 : n0 ≤ h112.size := Nat.le_trans Z97 (Keep.of_wr W112).1
    have N112 := Fr.snoc X112 N97 g_x
    obtain ⟨LL112, X112, N112⟩ := own_hide X112 N112
    have st122 : Steps p.tables e below sE (T112.setTop (mkF m 24 #[.val (.ref x0), .val (.int x1), .val (.int (Int32.ofNat a)), .unset] [])) := st111.trans (sr112 _ (Steps.refl _))
    have st123 : Steps p.tables e below sE (T112.setTop (mkF m 26 #[.val (.ref x0), .val (.int x1), .val (.int (Int32.ofNat a)), .unset] [(.ref x0), (.int (Int32.ofNat a))])) := st122.trans (by
        show Steps _ _ _ (T112.setTop (mkF m 24 #[.val (.ref x0), .val (.int x1), .val (.int (Int32.ofNat a)), .unset] [])) _
        refine XS.iloadN X112.here hx rfl (hb hby d17_24) rfl ?_
        show Steps _ _ _ (T112.setTop (mkF m 25 #[.val (.ref x0), .val (.int x1), .val (.int (Int32.ofNat a)), .unset] [(.int (Int32.ofNat a))])) _
        refine XS.aloadN X112.here hx rfl (hb hby d17_25) rfl rfl ?_
        exact Steps.refl _)
    obtain ⟨T124, X124, e124, sr124⟩ := getF X112 hx hZ hown (host := "") (Or.inl (hw _ (List.mem_of_getElem? (i := 22) rfl))) Via.refl e112 f120 (g := (mkF m 26 #[.val (.ref x0), .val (.int x1), .val (.int (Int32.ofNat a)), .unset] [(.ref x0), (.int (Int32.ofNat a))])) rfl rfl (hb hby d17_26)
    have st125 : Steps p.tables e below sE (T124.setTop (mkF m 29 #[.val (.ref x0), .val (.int x1), .val (.int (Int32.ofNat a)), .unset] [(.int (4 : Int32)), (.int (Int32.ofNat a))])) := st123.trans (sr124 _ (Steps.refl _))
    by_cases hc126 : (Int32.ofNat a) < (4 : Int32)
    · have st127 : Steps p.tables e below sE (T124.setTop (mkF m 32 #[.val (.ref x0), .val (.int x1), .val (.int (Int32.ofNat a)), .unset] [])) := st125.trans (by
          show Steps _ _ _ (T124.setTop (mkF m 29 #[.val (.ref x0), .val (.int x1), .val (.int (Int32.ofNat a)), .unset] [(.int (4 : Int32)), (.int (Int32.ofNat a))])) _
          refine XS.icmpNo X124.here hx rfl (hb hby d17_29) rfl (tlt hc126).2.1 ?_
          exact Steps.refl _)
      have han : a < 4 := by have q := Int32.lt_iff_toInt_lt.mp hc126; rw [own_on a (by omega), show ((4 : Int32)).toInt = 4 by decide] at q; omega
      have st128 : Steps p.tables e below sE (T124.setTop (mkF m 33 #[.val (.ref x0), .val (.int x1), .val (.int (Int32.ofNat a)), .unset] [(.ref x0)])) := st127.trans (by
          show Steps _ _ _ (T124.setTop (mkF m 32 #[.val (.ref x0), .val (.int x1), .val (.int (Int32.ofNat a)), .unset] [])) _
          refine XS.aloadN X124.here hx rfl (hb hby d17_32) rfl rfl ?_
          exact Steps.refl _)
      obtain ⟨T129, X129, e129, sr129⟩ := getF X124 hx hZ hown (host := "") (Or.inl (hw _ (List.mem_of_getElem? (i := 11) rfl))) Via.refl e124 f114 (g := (mkF m 33 #[.val (.ref x0), .val (.int x1), .val (.int (Int32.ofNat a)), .unset] [(.ref x0)])) rfl rfl (hb hby d17_33)
      have st130 : Steps p.tables e below sE (T129.setTop (mkF m 36 #[.val (.ref x0), .val (.int x1), .val (.int (Int32.ofNat a)), .unset] [(.ref aI)])) := st128.trans (sr129 _ (Steps.refl _))
      have st131 : Steps p.tables e below sE (T129.setTop (mkF m 37 #[.val (.ref x0), .val (.int x1), .val (.int (Int32.ofNat a)), .unset] [(.ref x0), (.ref aI)])) := st130.trans (by
          show Steps _ _ _ (T129.setTop (mkF m 36 #[.val (.ref x0), .val (.int x1), .val (.int (Int32.ofNat a)), .unset] [(.ref aI)])) _
          refine XS.aloadN X129.here hx rfl (hb hby d17_36) rfl rfl ?_
          exact Steps.refl _)
      obtain ⟨T132, X132, e132, sr132⟩ := getF X129 hx hZ hown (host := "") (Or.inl (hw _ (List.mem_of_getElem? (i := 22) rfl))) Via.refl e129 f120 (g := (mkF m 37 #[.val (.ref x0), .val (.int x1), .val (.int (Int32.ofNat a)), .unset] [(.ref x0), (.ref aI)])) rfl rfl (hb hby d17_37)
      have st133 : Steps p.tables e below sE (T132.setTop (mkF m 40 #[.val (.ref x0), .val (.int x1), .val (.int (Int32.ofNat a)), .unset] [(.int (4 : Int32)), (.ref aI)])) := st131.trans (sr132 _ (Steps.refl _))
      obtain ⟨cl134, Ar134, q134, S134, N134, H134, G134⟩ := id f117
      have hin134 : ¬ ((4 : Int32) < 0 ∨ cl134.slots.size ≤ ((4 : Int32)).toNatClampNeg) := inb_of S134 ⟨by decide, by decide⟩
      have hat134 : cl134.slots[((4 : Int32)).toNatClampNeg]? = some (.int (LI.getD ((4 : Int32)).toNatClampNeg 0)) := H134.at hin134 (own_getI LI _)
      have st135 : Steps p.tables e below sE (T132.setTop (mkF m 41 #[.val (.ref x0), .val (.int x1), .val (.int (Int32.ofNat a)), .unset] [(.int (LI.getD ((4 : Int32)).toNatClampNeg 0))])) := st133.trans (by
          show Steps _ _ _ (T132.setTop (mkF m 40 #[.val (.ref x0), .val (.int x1), .val (.int (Int32.ofNat a)), .unset] [(.int (4 : Int32)), (.ref aI)])) _
          refine X132.iaload hx (j := (4 : Int32)) (v := (.int (LI.getD ((4 : Int32)).toNatClampNeg 0))) (by rw [e132]; exact Ar134.1) (State.isArrayOf_alike hZ.alike Ar134.2.1) Ar134.2.2 hin134 hat134 (g := (mkF m 40 #[.val (.ref x0), .val (.int x1), .val (.int (Int32.ofNat a)), .unset] [(.int (4 : Int32)), (.ref aI)])) rfl rfl (hb hby d17_40) _ ?_
          exact Steps.refl _)
      obtain ⟨mv, e_mv⟩ : ∃ z, z = (LI.getD ((4 : Int32)).toNatClampNeg 0) := ⟨_, rfl⟩
      rw [← e_mv] at st135
      have hmv := own_idb hP 4 (by decide)
      rw [show LI.getD 4 0 = mv from e_mv.symm] at hmv
      have st136 : Steps p.tables e below sE (T132.setTop (mkF m 45 #[.val (.ref x0), .val (.int x1), .val (.int (Int32.ofNat a)), .val (.int mv)] [(.ref x0), (.int mv), (.ref x0)])) := st135.trans (by
          show Steps _ _ _ (T132.setTop (mkF m 41 #[.val (.ref x0), .val (.int x1), .val (.int (Int32.ofNat a)), .unset] [(.int mv)])) _
          refine XS.istoreN X132.here hx rfl (hb hby d17_41) rfl (l' := #[.val (.ref x0), .val (.int x1), .val (.int (Int32.ofNat a)), .val (.int mv)]) rfl ?_
          show Steps _ _ _ (T132.setTop (mkF m 42 #[.val (.ref x0), .val (.int x1), .val (.int (Int32.ofNat a)), .val (.int mv)] [])) _
          refine XS.aloadN X132.here hx rfl (hb hby d17_42) rfl rfl ?_
          show Steps _ _ _ (T132.setTop (mkF m 43 #[.val (.ref x0), .val (.int x1), .val (.int (Int32.ofNat a)), .val (.int mv)] [(.ref x0)])) _
          refine XS.iloadN X132.here hx rfl (hb hby d17_43) rfl ?_
          show Steps _ _ _ (T132.setTop (mkF m 44 #[.val (.ref x0), .val (.int x1), .val (.int (Int32.ofNat a)), .val (.int mv)] [(.int mv), (.ref x0)])) _
          refine XS.aloadN X132.here hx rfl (hb hby d17_44) rfl rfl ?_
          exact Steps.refl _)
      obtain ⟨T137, X137, e137, sr137⟩ := getF X132 hx hZ hown (host := "") (Or.inl (hw _ (List.mem_of_getElem? (i := 13) rfl))) Via.refl e132 f115 (g := (mkF m 45 #[.val (.ref x0), .val (.int x1), .val (.int (Int32.ofNat a)), .val (.int mv)] [(.ref x0), (.int mv), (.ref x0)])) rfl rfl (hb hby d17_45)
      have st138 : Steps p.tables e below sE (T137.setTop (mkF m 48 #[.val (.ref x0), .val (.int x1), .val (.int (Int32.ofNat a)), .val (.int mv)] [(.ref aU), (.int mv), (.ref x0)])) := st136.trans (sr137 _ (Steps.refl _))
      have st139 : Steps p.tables e below sE (T137.setTop (mkF m 49 #[.val (.ref x0), .val (.int x1), .val (.int (Int32.ofNat a)), .val (.int mv)] [(.ref x0), (.ref aU), (.int mv), (.ref x0)])) := st138.trans (by
          show Steps _ _ _ (T137.setTop (mkF m 48 #[.val (.ref x0), .val (.int x1), .val (.int (Int32.ofNat a)), .val (.int mv)] [(.ref aU), (.int mv), (.ref x0)])) _
          refine XS.aloadN X137.here hx rfl (hb hby d17_48) rfl rfl ?_
          exact Steps.refl _)
      obtain ⟨T140, X140, e140, sr140⟩ := getF X137 hx hZ hown (host := "") (Or.inl (hw _ (List.mem_of_getElem? (i := 22) rfl))) Via.refl e137 f120 (g := (mkF m 49 #[.val (.ref x0), .val (.int x1), .val (.int (Int32.ofNat a)), .val (.int mv)] [(.ref x0), (.ref aU), (.int mv), (.ref x0)])) rfl rfl (hb hby d17_49)
      have st141 : Steps p.tables e below sE (T140.setTop (mkF m 52 #[.val (.ref x0), .val (.int x1), .val (.int (Int32.ofNat a)), .val (.int mv)] [(.int (4 : Int32)), (.ref aU), (.int mv), (.ref x0)])) := st139.trans (sr140 _ (Steps.refl _))
      obtain ⟨cl142, Ar142, q142, S142, N142, H142, G142⟩ := id f118
      have hin142 : ¬ ((4 : Int32) < 0 ∨ cl142.slots.size ≤ ((4 : Int32)).toNatClampNeg) := inb_of S142 ⟨by decide, by decide⟩
      have hat142 : cl142.slots[((4 : Int32)).toNatClampNeg]? = some (.long (LU.getD ((4 : Int32)).toNatClampNeg 0)) := H142.at hin142 (own_getJ LU _)
      have st143 : Steps p.tables e below sE (T140.setTop (mkF m 54 #[.val (.ref x0), .val (.int x1), .val (.int (Int32.ofNat a)), .val (.int mv)] [(.int (Int32.ofNat a)), (.long (LU.getD ((4 : Int32)).toNatClampNeg 0)), (.int mv), (.ref x0)])) := st141.trans (by
          show Steps _ _ _ (T140.setTop (mkF m 52 #[.val (.ref x0), .val (.int x1), .val (.int (Int32.ofNat a)), .val (.int mv)] [(.int (4 : Int32)), (.ref aU), (.int mv), (.ref x0)])) _
          refine X140.laload hx (j := (4 : Int32)) (v := (.long (LU.getD ((4 : Int32)).toNatClampNeg 0))) (by rw [e140]; exact Ar142.1) (State.isArrayOf_alike hZ.alike Ar142.2.1) Ar142.2.2 hin142 hat142 (g := (mkF m 52 #[.val (.ref x0), .val (.int x1), .val (.int (Int32.ofNat a)), .val (.int mv)] [(.int (4 : Int32)), (.ref aU), (.int mv), (.ref x0)])) rfl rfl (hb hby d17_52) _ ?_
          show Steps _ _ _ (T140.setTop (mkF m 53 #[.val (.ref x0), .val (.int x1), .val (.int (Int32.ofNat a)), .val (.int mv)] [(.long (LU.getD ((4 : Int32)).toNatClampNeg 0)), (.int mv), (.ref x0)])) _
          refine XS.iloadN X140.here hx rfl (hb hby d17_53) rfl ?_
          exact Steps.refl _)
      obtain ⟨cq144, q144, q144'⟩ := f113.cell
      obtain ⟨_, _, ⟨T144, L144, k144, n144⟩, -, X144, ⟨Lc144, hQ144, l144, y144, z144⟩, sr144⟩ := X140.privateBack hx (y := (⟨"com/example/folioseek/folioseek/UseOrder", "place", "(IJI)V"⟩ : MethodName)) hown (mvT hZ (hw _ (List.mem_of_getElem? (i := 45) rfl))) (mvT hZ (hw _ (List.mem_of_getElem? (i := 46) rfl))) (own_selp (z := (⟨"com/example/folioseek/folioseek/UseOrder", "add", "(IJ)V"⟩ : MethodName)) rfl (notFace_of_selects (args := #[]) (mvT hZ (hw _ (List.mem_of_getElem? (i := 20) rfl)))) (args' := #[]) (mvT hZ (hw _ (List.mem_of_getElem? (i := 19) rfl))) (Cond.privateMethod_at (mvP hZ (hw _ (List.mem_of_getElem? (i := 47) rfl)) (args := #[]))) (mvT hZ (hw _ (List.mem_of_getElem? (i := 46) rfl))) (by decide)) (Cond.privateMethod_at (mvP hZ (hw _ (List.mem_of_getElem? (i := 47) rfl)) (args := #[]))) (mvT hZ (hw _ (List.mem_of_getElem? (i := 48) rfl))) (by decide) (backOf (W := 0) (rm9 l Z a0 hw [] x0 mv (LU.getD ((4 : Int32)).toNatClampNeg 0) (Int32.ofNat a) aI aU aS kI kU kS LI LU (LS.set (x1).toNatClampNeg (-1 : Int32)) mm h112 n0 Z112 f114 f115 f116 f117 f118 f119 (own_i16 _ 4 (by decide) (own_ofb a 4 (by decide) han)) hmv.1 ⟨hP.1, hP.2.1, own_l16 _ 4 (by decide) (own_ofb a 4 (by decide) han), by rw [List.length_set]; exact hmv.2⟩ g_i g_u g_s ne_iu ne_is ne_us ne_xi ne_xu ne_xs) hZ (hw _ (List.mem_of_getElem? (i := 48) rfl)) (hw _ (List.mem_of_getElem? (i := 3) rfl)) (by decide) (by decide)) (g := (mkF m 54 #[.val (.ref x0), .val (.int x1), .val (.int (Int32.ofNat a)), .val (.int mv)] [(.int (Int32.ofNat a)), (.long (LU.getD ((4 : Int32)).toNatClampNeg 0)), (.int mv), (.ref x0)])) rfl (by rw [hml]; rfl) (Steps.refl _) (a := x0) (by rw [e140]; exact q144) q144' (argsL := [(.int mv), (.long (LU.getD ((4 : Int32)).toNatClampNeg 0)), (.int (Int32.ofNat a))]) (rest := []) (lenOf pd_0 rfl) rfl (by show 2 * 0 + _ ≤ _; exact Nat.le_of_eq rfl) (hb hby d17_54) (fun _ _ => ⟨rfl, e140, (by decide : 0 + 0 ≤ _), (by decide : 0 + 0 ≤ _)⟩)
      dsimp only [Pt.U, Pt.locs, Pt.cells, Pt.slots] at X144 l144 y144 z144 sr144 hQ144
      subst l144 y144 z144
      obtain ⟨rfl, N144q, K144c, f144_0, f144_1, f144_2⟩ := hQ144
      have N144 := Fr.app N112 N144q
      obtain ⟨LL144, X144, N144⟩ := own_hide X144 N144
      have f145 : Exa Z T144.heap x0 "com/example/folioseek/folioseek/UseOrder" := f113.keep K144c
      have f146 : Fld Z T144.heap x0 "com/example/folioseek/folioseek/UseOrder" "ids" "[I" (.ref aI) := f114.keep K144c (ninS ne_xi (ninS ne_xu (ninS ne_xs nin0)))
      have f147 : Fld Z T144.heap x0 "com/example/folioseek/folioseek/UseOrder" "uses" "[J" (.ref aU) := f115.keep K144c (ninS ne_xi (ninS ne_xu (ninS ne_xs nin0)))
      have f148 : Fld Z T144.heap x0 "com/example/folioseek/folioseek/UseOrder" "slots" "[I" (.ref aS) := f116.keep K144c (ninS ne_xi (ninS ne_xu (ninS ne_xs nin0)))
      have f149 : Fld Z T144.heap x0 "com/example/folioseek/folioseek/UseOrder" "size" "I" (.int (4 : Int32)) := f120.keep K144c (ninS ne_xi (ninS ne_xu (ninS ne_xs nin0)))
      have K150 : Keep h0 T144.heap [x0, aI, aU, aS] := K121.trans K144c (allS (Or.inl (List.mem_of_getElem? (i := 1) rfl)) (allS (Or.inl (List.mem_of_getElem? (i := 2) rfl)) (allS (Or.inl (List.mem_of_getElem? (i := 3) rfl)) all0)))
      have Z151 : n0 ≤ T144.heap.size := Nat.le_trans Z112 K144c.1
      have st152 : Steps p.tables e below sE (T144.setTop (mkF m 57 #[.val (.ref x0), .val (.int x1), .val (.int (Int32.ofNat a)), .val (.int mv)] [])) := st143.trans (sr144)
      have st153 : Steps p.tables e below sE (T144.setTop (mkF m 59 #[.val (.ref x0), .val (.int x1), .val (.int (Int32.ofNat a)), .val (.int mv)] [(.int (Int32.ofNat a)), (.ref x0)])) := st152.trans (by
          show Steps _ _ _ (T144.setTop (mkF m 57 #[.val (.ref x0), .val (.int x1), .val (.int (Int32.ofNat a)), .val (.int mv)] [])) _
          refine XS.aloadN X144.here hx rfl (hb hby d17_57) rfl rfl ?_
          show Steps _ _ _ (T144.setTop (mkF m 58 #[.val (.ref x0), .val (.int x1), .val (.int (Int32.ofNat a)), .val (.int mv)] [(.ref x0)])) _
          refine XS.iloadN X144.here hx rfl (hb hby d17_58) rfl ?_
          exact Steps.refl _)
      have hP2 : own_P 4 mm.toNatClampNeg (LI.set ((Int32.ofNat a)).toNatClampNeg mv) (LU.set ((Int32.ofNat a)).toNatClampNeg (LU.getD ((4 : Int32)).toNatClampNeg 0)) ((LS.set (x1).toNatClampNeg (-1 : Int32)).set (mv).toNatClampNeg (Int32.ofNat a)) val (fun i => pres i ∧ ¬ i = k) := by
        have q := own_rmP hP k a hkm han hIa
        rw [show LI.getD 4 0 = mv from e_mv.symm] at q
        rw [hxk]
        rw [show a = (Int32.ofNat a).toNatClampNeg from (own_onn a (by omega)).symm] at q
        rw [own_onn a (by omega)] at q ⊢
        exact q
      obtain ⟨cq154, q154, q154'⟩ := f145.cell
      obtain ⟨_, _, ⟨T154, L154, k154, n154⟩, -, X154, ⟨Lc154, hQ154, l154, y154, z154⟩, sr154⟩ := X144.privateBack hx (y := (⟨"com/example/folioseek/folioseek/UseOrder", "siftDown", "(I)V"⟩ : MethodName)) hown (mvT hZ (hw _ (List.mem_of_getElem? (i := 58) rfl))) (mvT hZ (hw _ (List.mem_of_getElem? (i := 59) rfl))) (own_selp (z := (⟨"com/example/folioseek/folioseek/UseOrder", "add", "(IJ)V"⟩ : MethodName)) rfl (notFace_of_selects (args := #[]) (mvT hZ (hw _ (List.mem_of_getElem? (i := 20) rfl)))) (args' := #[]) (mvT hZ (hw _ (List.mem_of_getElem? (i := 19) rfl))) (Cond.privateMethod_at (mvP hZ (hw _ (List.mem_of_getElem? (i := 60) rfl)) (args := #[]))) (mvT hZ (hw _ (List.mem_of_getElem? (i := 59) rfl))) (by decide)) (Cond.privateMethod_at (mvP hZ (hw _ (List.mem_of_getElem? (i := 60) rfl)) (args := #[]))) (mvT hZ (hw _ (List.mem_of_getElem? (i := 61) rfl))) (by decide) (backOf (W := 0) (rmdnP l Z a0 hw [] x0 (Int32.ofNat a) aI aU aS kI kU kS (LI.set ((Int32.ofNat a)).toNatClampNeg mv) (LU.set ((Int32.ofNat a)).toNatClampNeg (LU.getD ((4 : Int32)).toNatClampNeg 0)) ((LS.set (x1).toNatClampNeg (-1 : Int32)).set (mv).toNatClampNeg (Int32.ofNat a)) mm 4 val (fun i => pres i ∧ ¬ i = k) T144.heap n0 Z151 f145 f146 f147 f148 f149 f144_0 f144_1 f144_2 hP2 (by rw [own_on a (by omega)]; have := hc6; omega) g_i g_u g_s ne_iu ne_is ne_us ne_xi ne_xu ne_xs) hZ (hw _ (List.mem_of_getElem? (i := 61) rfl)) (hw _ (List.mem_of_getElem? (i := 3) rfl)) (by decide) (by decide)) (g := (mkF m 59 #[.val (.ref x0), .val (.int x1), .val (.int (Int32.ofNat a)), .val (.int mv)] [(.int (Int32.ofNat a)), (.ref x0)])) rfl (by rw [hml]; rfl) (Steps.refl _) (a := x0) q154 q154' (argsL := [(.int (Int32.ofNat a))]) (rest := []) (lenOf pd_5 rfl) rfl (by show 2 * 0 + _ ≤ _; exact Nat.le_of_eq rfl) (hb hby d17_59) (fun _ _ => ⟨rfl, rfl, (by decide : 0 + 0 ≤ _), (by decide : 0 + 0 ≤ _)⟩)
      dsimp only [Pt.U, Pt.locs, Pt.cells, Pt.slots] at X154 l154 y154 z154 sr154 hQ154
      subst l154 y154 z154
      obtain ⟨rfl, N154q, K154c, f154_0, f154_1, f154_2⟩ := hQ154
      have N154 := Fr.app N144 N154q
      obtain ⟨LL154, X154, N154⟩ := own_hide X154 N154
      have f155 : Exa Z T154.heap x0 "com/example/folioseek/folioseek/UseOrder" := f145.keep K154c
      have f156 : Fld Z T154.heap x0 "com/example/folioseek/folioseek/UseOrder" "ids" "[I" (.ref aI) := f146.keep K154c (ninS ne_xi (ninS ne_xu (ninS ne_xs nin0)))
      have f157 : Fld Z T154.heap x0 "com/example/folioseek/folioseek/UseOrder" "uses" "[J" (.ref aU) := f147.keep K154c (ninS ne_xi (ninS ne_xu (ninS ne_xs nin0)))
      have f158 : Fld Z T154.heap x0 "com/example/folioseek/folioseek/UseOrder" "slots" "[I" (.ref aS) := f148.keep K154c (ninS ne_xi (ninS ne_xu (ninS ne_xs nin0)))
      have f159 : Fld Z T154.heap x0 "com/example/folioseek/folioseek/UseOrder" "size" "I" (.int (4 : Int32)) := f149.keep K154c (ninS ne_xi (ninS ne_xu (ninS ne_xs nin0)))
      have K160 : Keep h0 T154.heap [x0, aI, aU, aS] := K150.trans K154c (allS (Or.inl (List.mem_of_getElem? (i := 1) rfl)) (allS (Or.inl (List.mem_of_getElem? (i := 2) rfl)) (allS (Or.inl (List.mem_of_getElem? (i := 3) rfl)) all0)))
      have Z161 : n0 ≤ T154.heap.size := Nat.le_trans Z151 K154c.1
      have hP3 := hP2
      have hH3 : own_H 4 (LU.set ((Int32.ofNat a)).toNatClampNeg (LU.getD ((4 : Int32)).toNatClampNeg 0)) := by rw [own_onn a (by omega)]; exact own_rmH hP.2.1 (by decide) hH a han hc6
      have st162 : Steps p.tables e below sE (T154.setTop (mkF m 62 #[.val (.ref x0), .val (.int x1), .val (.int (Int32.ofNat a)), .val (.int mv)] [])) := st153.trans (sr154)
      have st163 : Steps p.tables e below sE (T154.setTop (mkF m 64 #[.val (.ref x0), .val (.int x1), .val (.int (Int32.ofNat a)), .val (.int mv)] [(.ref x0), (.ref x0)])) := st162.trans (by
          show Steps _ _ _ (T154.setTop (mkF m 62 #[.val (.ref x0), .val (.int x1), .val (.int (Int32.ofNat a)), .val (.int mv)] [])) _
          refine XS.aloadN X154.here hx rfl (hb hby d17_62) rfl rfl ?_
          show Steps _ _ _ (T154.setTop (mkF m 63 #[.val (.ref x0), .val (.int x1), .val (.int (Int32.ofNat a)), .val (.int mv)] [(.ref x0)])) _
          refine XS.aloadN X154.here hx rfl (hb hby d17_63) rfl rfl ?_
          exact Steps.refl _)
      obtain ⟨T164, X164, e164, sr164⟩ := getF X154 hx hZ hown (host := "") (Or.inl (hw _ (List.mem_of_getElem? (i := 15) rfl))) Via.refl rfl f158 (g := (mkF m 64 #[.val (.ref x0), .val (.int x1), .val (.int (Int32.ofNat a)), .val (.int mv)] [(.ref x0), (.ref x0)])) rfl rfl (hb hby d17_64)
      have st165 : Steps p.tables e below sE (T164.setTop (mkF m 67 #[.val (.ref x0), .val (.int x1), .val (.int (Int32.ofNat a)), .val (.int mv)] [(.ref aS), (.ref x0)])) := st163.trans (sr164 _ (Steps.refl _))
      obtain ⟨cl166, Ar166, q166, S166, N166, H166, G166⟩ := id f154_2
      have hin166 : ¬ (mv < 0 ∨ cl166.slots.size ≤ (mv).toNatClampNeg) := inb_of S166 hmv.1
      have hat166 : cl166.slots[(mv).toNatClampNeg]? = some (.int (((LS.set (x1).toNatClampNeg (-1 : Int32)).set (mv).toNatClampNeg (Int32.ofNat a)).getD (mv).toNatClampNeg 0)) := H166.at hin166 (own_getI ((LS.set (x1).toNatClampNeg (-1 : Int32)).set (mv).toNatClampNeg (Int32.ofNat a)) _)
      have st167 : Steps p.tables e below sE (T164.setTop (mkF m 69 #[.val (.ref x0), .val (.int x1), .val (.int (Int32.ofNat a)), .val (.int mv)] [(.int (((LS.set (x1).toNatClampNeg (-1 : Int32)).set (mv).toNatClampNeg (Int32.ofNat a)).getD (mv).toNatClampNeg 0)), (.ref x0)])) := st165.trans (by
          show Steps _ _ _ (T164.setTop (mkF m 67 #[.val (.ref x0), .val (.int x1), .val (.int (Int32.ofNat a)), .val (.int mv)] [(.ref aS), (.ref x0)])) _
          refine XS.iloadN X164.here hx rfl (hb hby d17_67) rfl ?_
          show Steps _ _ _ (T164.setTop (mkF m 68 #[.val (.ref x0), .val (.int x1), .val (.int (Int32.ofNat a)), .val (.int mv)] [(.int mv), (.ref aS), (.ref x0)])) _
          refine X164.iaload hx (j := mv) (v := (.int (((LS.set (x1).toNatClampNeg (-1 : Int32)).set (mv).toNatClampNeg (Int32.ofNat a)).getD (mv).toNatClampNeg 0))) (by rw [e164]; exact Ar166.1) (State.isArrayOf_alike hZ.alike Ar166.2.1) Ar166.2.2 hin166 hat166 (g := (mkF m 68 #[.val (.ref x0), .val (.int x1), .val (.int (Int32.ofNat a)), .val (.int mv)] [(.int mv), (.ref aS), (.ref x0)])) rfl rfl (hb hby d17_68) _ ?_
          exact Steps.refl _)
      obtain ⟨il, b1, b2, b3, b4, b5⟩ := hP.2.2.2.2.2.1 4 (by decide)
      have hil : ¬ il = k := fun q => by subst q; have z := own_oni (by omega) (by omega) (hSa.symm.trans b4); omega
      obtain ⟨-, p', hp, hSp, -, -⟩ := own_where hP3 il ⟨b2, hil⟩
      have hmn : mv.toNatClampNeg = il := by rw [e_mv]; show (LI.getD 4 0).toNatClampNeg = il; rw [b3]; exact own_onn il (by omega)
      have hpv : (((LS.set (x1).toNatClampNeg (-1 : Int32)).set (mv).toNatClampNeg (Int32.ofNat a)).getD (mv).toNatClampNeg 0) = Int32.ofNat p' := by rw [← hmn] at hSp; exact hSp
      rw [hpv] at st167
      obtain ⟨cq168, q168, q168'⟩ := f155.cell
      obtain ⟨_, _, ⟨T168, L168, k168, n168⟩, -, X168, ⟨Lc168, hQ168, l168, y168, z168⟩, sr168⟩ := X164.privateBack hx (y := (⟨"com/example/folioseek/folioseek/UseOrder", "siftUp", "(I)V"⟩ : MethodName)) hown (mvT hZ (hw _ (List.mem_of_getElem? (i := 49) rfl))) (mvT hZ (hw _ (List.mem_of_getElem? (i := 50) rfl))) (own_selp (z := (⟨"com/example/folioseek/folioseek/UseOrder", "add", "(IJ)V"⟩ : MethodName)) rfl (notFace_of_selects (args := #[]) (mvT hZ (hw _ (List.mem_of_getElem? (i := 20) rfl)))) (args' := #[]) (mvT hZ (hw _ (List.mem_of_getElem? (i := 19) rfl))) (Cond.privateMethod_at (mvP hZ (hw _ (List.mem_of_getElem? (i := 51) rfl)) (args := #[]))) (mvT hZ (hw _ (List.mem_of_getElem? (i := 50) rfl))) (by decide)) (Cond.privateMethod_at (mvP hZ (hw _ (List.mem_of_getElem? (i := 51) rfl)) (args := #[]))) (mvT hZ (hw _ (List.mem_of_getElem? (i := 52) rfl))) (by decide) (backOf (W := 0) (rm10 l Z a0 hw [] x0 (Int32.ofNat p') aI aU aS kI kU kS (LI.set ((Int32.ofNat a)).toNatClampNeg mv) (LU.set ((Int32.ofNat a)).toNatClampNeg (LU.getD ((4 : Int32)).toNatClampNeg 0)) ((LS.set (x1).toNatClampNeg (-1 : Int32)).set (mv).toNatClampNeg (Int32.ofNat a)) mm 4 val (fun i => pres i ∧ ¬ i = k) T154.heap n0 Z161 f155 f156 f157 f158 f154_0 f154_1 f154_2 hP3 (own_ofb p' 4 (by decide) hp) (fun j hj _ => hH3 j hj) g_i g_u g_s ne_iu ne_is ne_us ne_xi ne_xu ne_xs) hZ (hw _ (List.mem_of_getElem? (i := 52) rfl)) (hw _ (List.mem_of_getElem? (i := 3) rfl)) (by decide) (by decide)) (g := (mkF m 69 #[.val (.ref x0), .val (.int x1), .val (.int (Int32.ofNat a)), .val (.int mv)] [(.int (Int32.ofNat p')), (.ref x0)])) rfl (by rw [hml]; rfl) (Steps.refl _) (a := x0) (by rw [e164]; exact q168) q168' (argsL := [(.int (Int32.ofNat p'))]) (rest := []) (lenOf pd_5 rfl) rfl (by show 2 * 0 + _ ≤ _; exact Nat.le_of_eq rfl) (hb hby d17_69) (fun _ _ => ⟨rfl, e164, (by decide : 0 + 0 ≤ _), (by decide : 0 + 0 ≤ _)⟩)
      dsimp only [Pt.U, Pt.locs, Pt.cells, Pt.slots] at X168 l168 y168 z168 sr168 hQ168
      subst l168 y168 z168
      obtain ⟨rfl, N168q, K168c, ⟨LI', LU', LS', rI, rU, rS, hP', hH'⟩⟩ := hQ168
      have N168 := Fr.app N154 N168q
      obtain ⟨LL168, X168, N168⟩ := own_hide X168 N168
      have f169 : Exa Z T168.heap x0 "com/example/folioseek/folioseek/UseOrder" := f155.keep K168c
      have f170 : Fld Z T168.heap x0 "com/example/folioseek/folioseek/UseOrder" "ids" "[I" (.ref aI) := f156.keep K168c (ninS ne_xi (ninS ne_xu (ninS ne_xs nin0)))
      have f171 : Fld Z T168.heap x0 "com/example/folioseek/folioseek/UseOrder" "uses" "[J" (.ref aU) := f157.keep K168c (ninS ne_xi (ninS ne_xu (ninS ne_xs nin0)))
      have f172 : Fld Z T168.heap x0 "com/example/folioseek/folioseek/UseOrder" "slots" "[I" (.ref aS) := f158.keep K168c (ninS ne_xi (ninS ne_xu (ninS ne_xs nin0)))
      have f173 : Fld Z T168.heap x0 "com/example/folioseek/folioseek/UseOrder" "size" "I" (.int (4 : Int32)) := f159.keep K168c (ninS ne_xi (ninS ne_xu (ninS ne_xs nin0)))
      have K174 : Keep h0 T168.heap [x0, aI, aU, aS] := K160.trans K168c (allS (Or.inl (List.mem_of_getElem? (i := 1) rfl)) (allS (Or.inl (List.mem_of_getElem? (i := 2) rfl)) (allS (Or.inl (List.mem_of_getElem? (i := 3) rfl)) all0)))
      have Z175 : n0 ≤ T168.heap.size := Nat.le_trans Z161 K168c.1
      have st176 : Steps p.tables e below sE (T168.setTop (mkF m 72 #[.val (.ref x0), .val (.int x1), .val (.int (Int32.ofNat a)), .val (.int mv)] [])) := st167.trans (sr168)
      obtain ⟨fs, hr, hrun, hended, hW, hsame⟩ := X168.leave (v := none) (fun _ => rfl) hlk
      refine ⟨_, _, (own_ent hsE st176).trans ?_, hrun, hended, _, _, rfl, ?_, ⟨_, rfl⟩, hW, hsame.mono (by decide) (by decide)⟩
      · exact X168.returnOut hx Bd.returns (hb hby d17_72) hr
      · show Qrm4 Z x0 x1 aI aU aS kI kU kS LI LU LS mm val pres k h0 n0 _ T168.heap _
        exact ⟨rfl, N168, K174, f169, f170, f171, f172, f173, ⟨LI', LU', LS', rI, rU, rS, hP', hH'⟩⟩
    · have st177 : Steps p.tables e below sE (T124.setTop (mkF m 72 #[.val (.ref x0), .val (.int x1), .val (.int (Int32.ofNat a)), .unset] [])) := st125.trans (by
          show Steps _ _ _ (T124.setTop (mkF m 29 #[.val (.ref x0), .val (.int x1), .val (.int (Int32.ofNat a)), .unset] [(.int (4 : Int32)), (.int (Int32.ofNat a))])) _
          refine XS.icmpYes X124.here hx rfl (pc0 := 29) (pc' := 72) rfl (hb hby d17_29) rfl (flt hc126).2.1 (by decide) (by decide) ?_
          exact Steps.refl _)
      obtain ⟨fs, hr, hrun, hended, hW, hsame⟩ := X124.leave (v := none) (fun _ => rfl) hlk
      refine ⟨_, _, (own_ent hsE st177).trans ?_, hrun, hended, _, _, rfl, ?_, ⟨_, rfl⟩, hW, hsame.mono (by decide) (by decide)⟩
      · exact X124.returnOut hx Bd.returns (hb hby d17_72) hr
      · show Qrm4 Z x0 x1 aI aU aS kI kU kS LI LU LS mm val pres k h0 n0 _ T124.heap _
        rw [e124]
        have han : a = 4 := by have q : ¬ (Int32.ofNat a).toInt < ((4 : Int32)).toInt := fun q => hc126 (Int32.lt_iff_toInt_lt.mpr q); rw [own_on a (by omega), show ((4 : Int32)).toInt = 4 by decide] at q; omega
        exact ⟨rfl, N112, K121, f113, f114, f115, f116, f120, ⟨LI, LU, _, f117, f118, f119, by rw [hxk]; exact own_rmL hP k hkm (by rw [← han]; exact hIa), own_HL hH⟩⟩
theorem own_updH {n : Nat} {U : List Int64} (l2 : U.length = 16) (hn : n ≤ 5) (H : own_H n U) (a : Nat) (ha : a < n) (h0 : ¬ a = 0) (x : Int64) : ∀ j, j < n → ¬ j = (Int32.ofNat a).toNatClampNeg → ((U.set (Int32.ofNat a).toNatClampNeg x).getD 0 0).toInt ≤ ((U.set (Int32.ofNat a).toNatClampNeg x).getD j 0).toInt := fun j hj hne => by
  rw [own_onn a (by omega)] at hne ⊢
  rw [own_gsJ _ _ _ _ (by omega), own_gsJ _ _ _ _ (by omega), if_neg h0, if_neg (fun q => hne q.symm)]
  exact H j hj
theorem d11_0 : decode prog_24_method_6_code 0 = .ok (.aload_n 0, 1) := by decide +kernel
theorem d11_1 : decode prog_24_method_6_code 1 = .ok (.getfield 17, 3) := by decide +kernel
theorem d11_4 : decode prog_24_method_6_code 4 = .ok (.iload_n 1, 1) := by decide +kernel
theorem d11_5 : decode prog_24_method_6_code 5 = .ok (.iaload, 1) := by decide +kernel
theorem d11_6 : decode prog_24_method_6_code 6 = .ok (.istore 4, 2) := by decide +kernel
theorem d11_8 : decode prog_24_method_6_code 8 = .ok (.aload_n 0, 1) := by decide +kernel
theorem d11_9 : decode prog_24_method_6_code 9 = .ok (.getfield 13, 3) := by decide +kernel
theorem d11_12 : decode prog_24_method_6_code 12 = .ok (.iload 4, 2) := by decide +kernel
theorem d11_14 : decode prog_24_method_6_code 14 = .ok (.lload_n 2, 1) := by decide +kernel
theorem d11_15 : decode prog_24_method_6_code 15 = .ok (.lastore, 1) := by decide +kernel
theorem d11_16 : decode prog_24_method_6_code 16 = .ok (.aload_n 0, 1) := by decide +kernel
theorem d11_17 : decode prog_24_method_6_code 17 = .ok (.iload 4, 2) := by decide +kernel
theorem d11_19 : decode prog_24_method_6_code 19 = .ok (.invokevirtual 51, 3) := by decide +kernel
theorem d11_22 : decode prog_24_method_6_code 22 = .ok (.aload_n 0, 1) := by decide +kernel
theorem d11_23 : decode prog_24_method_6_code 23 = .ok (.aload_n 0, 1) := by decide +kernel
theorem d11_24 : decode prog_24_method_6_code 24 = .ok (.getfield 17, 3) := by decide +kernel
theorem d11_27 : decode prog_24_method_6_code 27 = .ok (.iload_n 1, 1) := by decide +kernel
theorem d11_28 : decode prog_24_method_6_code 28 = .ok (.iaload, 1) := by decide +kernel
theorem d11_29 : decode prog_24_method_6_code 29 = .ok (.invokevirtual 47, 3) := by decide +kernel
theorem d11_32 : decode prog_24_method_6_code 32 = .ok (.return_, 1) := by decide +kernel
theorem ef_11 (m : MethodId) (x0 : Addr) (x1 : Int32) (x2 : Int64)  : entryFrame m #[(.ref x0), (.int x1), (.long x2)] 5 = mkF m 0 #[.val (.ref x0), .val (.int x1), .val (.long x2), .second, .unset] [] := by first | (simp [entryFrame, mkF, argsToLocals, Value.category]; done) | rfl
def Q11 (Z : State) (x0 : Addr) (x1 : Int32) (x2 : Int64) (aI : Addr) (aU : Addr) (aS : Addr) (kI : ClassId) (kU : ClassId) (kS : ClassId) (LI : List Int32) (LU : List Int64) (LS : List Int32) (mm : Int32) (val : Nat → Int64) (pres : Nat → Prop) (k : Nat) (h0 : Heap) (n0 : Nat) (vE : Option Value) (hE : Heap) (LE : List Loc) : Prop := vE = none ∧ Fr n0 LE ∧ Keep h0 hE [aI, aU, aS] ∧ (∃ (LI' : List Int32) (LU' : List Int64) (LS' : List Int32), Arv Z hE aI kI .int (16 : Int32) (List.map Value.int LI') (.int (0 : Int32)) ∧ Arv Z hE aU kU .long (16 : Int32) (List.map Value.long LU') (.long (0 : Int64)) ∧ Arv Z hE aS kS .int mm (List.map Value.int LS') (.int (0 : Int32)) ∧ own_P 5 mm.toNatClampNeg LI' LU' LS' (fun i => if i = k then x2 else val i) pres ∧ own_H 5 LU')
set_option maxRecDepth 65536 in
set_option maxHeartbeats 40000000 in
theorem rm11 (l : Launch) (Z : State) (a0 : Array Value) (hw : ∀ d ∈ tables_1, d.before a0 Z = true) (ws : List Jvm.Cond) (x0 : Addr) (x1 : Int32) (x2 : Int64) (aI : Addr) (aU : Addr) (aS : Addr) (kI : ClassId) (kU : ClassId) (kS : ClassId) (LI : List Int32) (LU : List Int64) (LS : List Int32) (mm : Int32) (val : Nat → Int64) (pres : Nat → Prop) (k : Nat) (h0 : Heap) (n0 : Nat) (Z0 : n0 ≤ h0.size) (E_x : Exa Z h0 x0 "com/example/folioseek/folioseek/UseOrder") (F_i : Fld Z h0 x0 "com/example/folioseek/folioseek/UseOrder" "ids" "[I" (.ref aI)) (F_u : Fld Z h0 x0 "com/example/folioseek/folioseek/UseOrder" "uses" "[J" (.ref aU)) (F_s : Fld Z h0 x0 "com/example/folioseek/folioseek/UseOrder" "slots" "[I" (.ref aS)) (F_z : Fld Z h0 x0 "com/example/folioseek/folioseek/UseOrder" "size" "I" (.int (5 : Int32))) (A_i : Arv Z h0 aI kI .int (16 : Int32) (List.map Value.int LI) (.int (0 : Int32))) (A_u : Arv Z h0 aU kU .long (16 : Int32) (List.map Value.long LU) (.long (0 : Int64))) (A_s : Arv Z h0 aS kS .int mm (List.map Value.int LS) (.int (0 : Int32))) (hP : own_P 5 mm.toNatClampNeg LI LU LS val pres) (hH : own_H 5 LU) (hk : pres k) (hx' : x1 = Int32.ofNat k) (g_i : n0 ≤ aI) (g_u : n0 ≤ aU) (g_s : n0 ≤ aS) (ne_iu : aI ≠ aU) (ne_is : aI ≠ aS) (ne_us : aU ≠ aS) (ne_xi : x0 ≠ aI) (ne_xu : x0 ≠ aU) (ne_xs : x0 ≠ aS) :
    MetFree l (⟨"com/example/folioseek/folioseek/UseOrder", "update", "(IJ)V"⟩ : MethodName) (head1 (Jvm.Cond.code (⟨"com/example/folioseek/folioseek/UseOrder", "update", "(IJ)V"⟩ : MethodName) prog_24_method_6_code 5 none :: ws) ({ frames := 2, cells := 0, slots := 0, locals := 35 } : Room)) (fun a U => a = #[(.ref x0), (.int x1), (.long x2)] ∧ Z.Warmed39 U.vm ∧ U.heap = h0) (fun _ _ _ _ _ => True) (fun _ U o U' => ∃ vE LE, o = .returned vE ∧ Q11 Z x0 x1 x2 aI aU aS kI kU kS LI LU LS mm val pres k h0 n0 vE U'.heap LE ∧ FrameEnd U o U' LE ({ frames := 2, cells := 0, slots := 0, locals := 35 } : Room).cells ({ frames := 2, cells := 0, slots := 0, locals := 35 } : Room).slots) := by
  refine MetFree.of_bodySF (plainFor_of_name pn_1) hisR ?_
  intro p e s m args below meth c s₁ Bd hml0 hP hK
  obtain ⟨rfl, hZ, hh⟩ := hP
  have hx := Bd.exec
  have hby := Bd.bytes
  have hml : c.maxLocals = 5 := hml0
  have hown : s.vm.findClass "com/example/folioseek/folioseek/UseOrder" = some m.cls := findClass_of_methodNamed Bd.named
  have hnm := (name_of_methodNamed Bd.named Bd.method).1
  have hlk : meth.locks = false := BodyLoose.notSynchronized Bd
  have X0 : Stand p l e ({ frames := 2, cells := 0, slots := 0, locals := 35 } : Room) s m #[(.ref x0), (.int x1), (.long x2)] below meth c s₁ [] 0 0 := Stand.of_body Bd
  have e0 : s₁.heap = h0 := by rw [← hh, Bd.state]; rfl
  have N0 := Fr.nil n0
  obtain ⟨sE, hsE⟩ : ∃ z, z = (s₁.setTop (entryFrame m #[(.ref x0), (.int x1), (.long x2)] 5)) := ⟨_, rfl⟩
  have st0 : Steps p.tables e below sE (s₁.setTop (mkF m 0 #[.val (.ref x0), .val (.int x1), .val (.long x2), .second, .unset] [])) := by rw [hsE]; exact castTop (ef_11 m x0 x1 x2) (Steps.refl _)
  obtain ⟨hkm, a, ha, hSa, hIa, hUa⟩ := own_where hP k hk
  have hm8 := hP.2.2.2.2.1
  have hxk : x1.toNatClampNeg = k := by rw [hx']; exact own_onn k (by omega)
  have hix : ¬ x1 < 0 ∧ x1 < mm := by rw [hx']; exact own_ib hkm hm8
  have K0 : Keep h0 h0 [aI, aU, aS] := Keep.refl _ _
  have st1 : Steps p.tables e below sE (s₁.setTop (mkF m 1 #[.val (.ref x0), .val (.int x1), .val (.long x2), .second, .unset] [(.ref x0)])) := st0.trans (by
      show Steps _ _ _ (s₁.setTop (mkF m 0 #[.val (.ref x0), .val (.int x1), .val (.long x2), .second, .unset] [])) _
      refine XS.aloadN X0.here hx rfl (hb hby d11_0) rfl rfl ?_
      exact Steps.refl _)
  obtain ⟨T2, X2, e2, sr2⟩ := getF X0 hx hZ hown (host := "") (Or.inl (hw _ (List.mem_of_getElem? (i := 15) rfl))) Via.refl e0 F_s (g := (mkF m 1 #[.val (.ref x0), .val (.int x1), .val (.long x2), .second, .unset] [(.ref x0)])) rfl rfl (hb hby d11_1)
  have st3 : Steps p.tables e below sE (T2.setTop (mkF m 4 #[.val (.ref x0), .val (.int x1), .val (.long x2), .second, .unset] [(.ref aS)])) := st1.trans (sr2 _ (Steps.refl _))
  obtain ⟨cl4, Ar4, q4, S4, N4, H4, G4⟩ := id A_s
  have hin4 : ¬ (x1 < 0 ∨ cl4.slots.size ≤ (x1).toNatClampNeg) := inb_of S4 hix
  have hat4 : cl4.slots[(x1).toNatClampNeg]? = some (.int (LS.getD (x1).toNatClampNeg 0)) := H4.at hin4 (own_getI LS _)
  have st5 : Steps p.tables e below sE (T2.setTop (mkF m 6 #[.val (.ref x0), .val (.int x1), .val (.long x2), .second, .unset] [(.int (LS.getD (x1).toNatClampNeg 0))])) := st3.trans (by
      show Steps _ _ _ (T2.setTop (mkF m 4 #[.val (.ref x0), .val (.int x1), .val (.long x2), .second, .unset] [(.ref aS)])) _
      refine XS.iloadN X2.here hx rfl (hb hby d11_4) rfl ?_
      show Steps _ _ _ (T2.setTop (mkF m 5 #[.val (.ref x0), .val (.int x1), .val (.long x2), .second, .unset] [(.int x1), (.ref aS)])) _
      refine X2.iaload hx (j := x1) (v := (.int (LS.getD (x1).toNatClampNeg 0))) (by rw [e2]; exact Ar4.1) (State.isArrayOf_alike hZ.alike Ar4.2.1) Ar4.2.2 hin4 hat4 (g := (mkF m 5 #[.val (.ref x0), .val (.int x1), .val (.long x2), .second, .unset] [(.int x1), (.ref aS)])) rfl rfl (hb hby d11_5) _ ?_
      exact Steps.refl _)
  by_cases hc6 : a = 0
  · have hsl : (LS.getD (x1).toNatClampNeg 0) = (0 : Int32) := by rw [hxk, hSa]; rw [hc6]; rfl
    rw [hsl] at st5
    have st7 : Steps p.tables e below sE (T2.setTop (mkF m 9 #[.val (.ref x0), .val (.int x1), .val (.long x2), .second, .val (.int (0 : Int32))] [(.ref x0)])) := st5.trans (by
        show Steps _ _ _ (T2.setTop (mkF m 6 #[.val (.ref x0), .val (.int x1), .val (.long x2), .second, .unset] [(.int (0 : Int32))])) _
        refine XS.istore X2.here hx rfl (hb hby d11_6) rfl (l' := #[.val (.ref x0), .val (.int x1), .val (.long x2), .second, .val (.int (0 : Int32))]) rfl ?_
        show Steps _ _ _ (T2.setTop (mkF m 8 #[.val (.ref x0), .val (.int x1), .val (.long x2), .second, .val (.int (0 : Int32))] [])) _
        refine XS.aloadN X2.here hx rfl (hb hby d11_8) rfl rfl ?_
        exact Steps.refl _)
    obtain ⟨T8, X8, e8, sr8⟩ := getF X2 hx hZ hown (host := "") (Or.inl (hw _ (List.mem_of_getElem? (i := 13) rfl))) Via.refl e2 F_u (g := (mkF m 9 #[.val (.ref x0), .val (.int x1), .val (.long x2), .second, .val (.int (0 : Int32))] [(.ref x0)])) rfl rfl (hb hby d11_9)
    have st9 : Steps p.tables e below sE (T8.setTop (mkF m 12 #[.val (.ref x0), .val (.int x1), .val (.long x2), .second, .val (.int (0 : Int32))] [(.ref aU)])) := st7.trans (sr8 _ (Steps.refl _))
    have st10 : Steps p.tables e below sE (T8.setTop (mkF m 15 #[.val (.ref x0), .val (.int x1), .val (.long x2), .second, .val (.int (0 : Int32))] [(.long x2), (.int (0 : Int32)), (.ref aU)])) := st9.trans (by
        show Steps _ _ _ (T8.setTop (mkF m 12 #[.val (.ref x0), .val (.int x1), .val (.long x2), .second, .val (.int (0 : Int32))] [(.ref aU)])) _
        refine XS.iload X8.here hx rfl (hb hby d11_12) rfl ?_
        show Steps _ _ _ (T8.setTop (mkF m 14 #[.val (.ref x0), .val (.int x1), .val (.long x2), .second, .val (.int (0 : Int32))] [(.int (0 : Int32)), (.ref aU)])) _
        refine XS.lloadN X8.here hx rfl (hb hby d11_14) rfl ?_
        exact Steps.refl _)
    obtain ⟨cl11, Ar11, q11, S11, N11, H11, G11⟩ := id A_u
    have hin11 : ¬ ((0 : Int32) < 0 ∨ cl11.slots.size ≤ ((0 : Int32)).toNatClampNeg) := inb_of S11 (by decide)
    obtain ⟨T12, h12, X12, e12, W12, sr12⟩ := stJ X8 hx hZ e8 Ar11 (j := (0 : Int32)) hin11 (g := (mkF m 15 #[.val (.ref x0), .val (.int x1), .val (.long x2), .second, .val (.int (0 : Int32))] [(.long x2), (.int (0 : Int32)), (.ref aU)])) rfl rfl (hb hby d11_15)
    have f13 : Exa Z h12 x0 "com/example/folioseek/folioseek/UseOrder" := E_x.wr W12
    have f14 : Fld Z h12 x0 "com/example/folioseek/folioseek/UseOrder" "ids" "[I" (.ref aI) := F_i.other W12 (Or.inl ne_xu)
    have f15 : Fld Z h12 x0 "com/example/folioseek/folioseek/UseOrder" "uses" "[J" (.ref aU) := F_u.other W12 (Or.inl ne_xu)
    have f16 : Fld Z h12 x0 "com/example/folioseek/folioseek/UseOrder" "slots" "[I" (.ref aS) := F_s.other W12 (Or.inl ne_xu)
    have f17 : Fld Z h12 x0 "com/example/folioseek/folioseek/UseOrder" "size" "I" (.int (5 : Int32)) := F_z.other W12 (Or.inl ne_xu)
    have f18 : Arv Z h12 aI kI .int (16 : Int32) (List.map Value.int LI) (.int (0 : Int32)) := A_i.other W12 ne_iu
    have f19 : Arv Z h12 aS kS .int mm (List.map Value.int LS) (.int (0 : Int32)) := A_s.other W12 (Ne.symm ne_us)
    have f20 : Arv Z h12 aU kU .long (16 : Int32) (List.map Value.long (LU.set ((0 : Int32)).toNatClampNeg x2)) (.long (0 : Int64)) := (by have q := Arv.set Ar11 q11 S11 N11 H11 G11 rfl W12 _ rfl (by rw [List.length_map, hP.2.1]; decide); rw [own_setJ] at q; exact q)
    have K21 : Keep h0 h12 [aI, aU, aS] := K0.wr W12 (Or.inl (List.mem_of_getElem? (i := 1) rfl))
    have Z12 : n0 ≤ h12.size := Nat.le_trans Z0 (Keep.of_wr W12).1
    have N12 := Fr.snoc X12 N0 g_u
    obtain ⟨LL12, X12, N12⟩ := own_hide X12 N12
    have st22 : Steps p.tables e below sE (T12.setTop (mkF m 16 #[.val (.ref x0), .val (.int x1), .val (.long x2), .second, .val (.int (0 : Int32))] [])) := st10.trans (sr12 _ (Steps.refl _))
    have st23 : Steps p.tables e below sE (T12.setTop (mkF m 19 #[.val (.ref x0), .val (.int x1), .val (.long x2), .second, .val (.int (0 : Int32))] [(.int (0 : Int32)), (.ref x0)])) := st22.trans (by
        show Steps _ _ _ (T12.setTop (mkF m 16 #[.val (.ref x0), .val (.int x1), .val (.long x2), .second, .val (.int (0 : Int32))] [])) _
        refine XS.aloadN X12.here hx rfl (hb hby d11_16) rfl rfl ?_
        show Steps _ _ _ (T12.setTop (mkF m 17 #[.val (.ref x0), .val (.int x1), .val (.long x2), .second, .val (.int (0 : Int32))] [(.ref x0)])) _
        refine XS.iload X12.here hx rfl (hb hby d11_17) rfl ?_
        exact Steps.refl _)
    have hP2 : own_P 5 mm.toNatClampNeg LI (LU.set ((0 : Int32)).toNatClampNeg x2) LS (fun i => if i = k then x2 else val i) pres := by
      have q := own_upd hP k a ha hkm hIa x2
      rw [hc6] at q
      exact q
    obtain ⟨cq24, q24, q24'⟩ := f13.cell
    obtain ⟨_, _, ⟨T24, L24, k24, n24⟩, -, X24, ⟨Lc24, hQ24, l24, y24, z24⟩, sr24⟩ := X12.privateBack hx (y := (⟨"com/example/folioseek/folioseek/UseOrder", "siftDown", "(I)V"⟩ : MethodName)) hown (mvT hZ (hw _ (List.mem_of_getElem? (i := 58) rfl))) (mvT hZ (hw _ (List.mem_of_getElem? (i := 59) rfl))) (own_selp (z := (⟨"com/example/folioseek/folioseek/UseOrder", "add", "(IJ)V"⟩ : MethodName)) rfl (notFace_of_selects (args := #[]) (mvT hZ (hw _ (List.mem_of_getElem? (i := 20) rfl)))) (args' := #[]) (mvT hZ (hw _ (List.mem_of_getElem? (i := 19) rfl))) (Cond.privateMethod_at (mvP hZ (hw _ (List.mem_of_getElem? (i := 60) rfl)) (args := #[]))) (mvT hZ (hw _ (List.mem_of_getElem? (i := 59) rfl))) (by decide)) (Cond.privateMethod_at (mvP hZ (hw _ (List.mem_of_getElem? (i := 60) rfl)) (args := #[]))) (mvT hZ (hw _ (List.mem_of_getElem? (i := 61) rfl))) (by decide) (backOf (W := 0) (rmdn5 l Z a0 hw [] x0 aI aU aS kI kU kS LI (LU.set ((0 : Int32)).toNatClampNeg x2) LS mm (fun i => if i = k then x2 else val i) pres h12 n0 Z12 f13 f14 f15 f16 f17 f18 f20 f19 hP2 g_i g_u g_s ne_iu ne_is ne_us ne_xi ne_xu ne_xs) hZ (hw _ (List.mem_of_getElem? (i := 61) rfl)) (hw _ (List.mem_of_getElem? (i := 3) rfl)) (by decide) (by decide)) (g := (mkF m 19 #[.val (.ref x0), .val (.int x1), .val (.long x2), .second, .val (.int (0 : Int32))] [(.int (0 : Int32)), (.ref x0)])) rfl (by rw [hml]; rfl) (Steps.refl _) (a := x0) (by rw [e12]; exact q24) q24' (argsL := [(.int (0 : Int32))]) (rest := []) (lenOf pd_5 rfl) rfl (by show 2 * 0 + _ ≤ _; exact Nat.le_of_eq rfl) (hb hby d11_19) (fun _ _ => ⟨rfl, e12, (by decide : 0 + 0 ≤ _), (by decide : 0 + 0 ≤ _)⟩)
    dsimp only [Pt.U, Pt.locs, Pt.cells, Pt.slots] at X24 l24 y24 z24 sr24 hQ24
    subst l24 y24 z24
    obtain ⟨rfl, N24q, K24c, ⟨LI1, LU1, LS1, qI, qU, qS, hP3, hH3⟩⟩ := hQ24
    have N24 := Fr.app N12 N24q
    obtain ⟨LL24, X24, N24⟩ := own_hide X24 N24
    have f25 : Exa Z T24.heap x0 "com/example/folioseek/folioseek/UseOrder" := f13.keep K24c
    have f26 : Fld Z T24.heap x0 "com/example/folioseek/folioseek/UseOrder" "ids" "[I" (.ref aI) := f14.keep K24c (ninS ne_xi (ninS ne_xu (ninS ne_xs nin0)))
    have f27 : Fld Z T24.heap x0 "com/example/folioseek/folioseek/UseOrder" "uses" "[J" (.ref aU) := f15.keep K24c (ninS ne_xi (ninS ne_xu (ninS ne_xs nin0)))
    have f28 : Fld Z T24.heap x0 "com/example/folioseek/folioseek/UseOrder" "slots" "[I" (.ref aS) := f16.keep K24c (ninS ne_xi (ninS ne_xu (ninS ne_xs nin0)))
    have f29 : Fld Z T24.heap x0 "com/example/folioseek/folioseek/UseOrder" "size" "I" (.int (5 : Int32)) := f17.keep K24c (ninS ne_xi (ninS ne_xu (ninS ne_xs nin0)))
    have K30 : Keep h0 T24.heap [aI, aU, aS] := K21.trans K24c (allS (Or.inl (List.mem_of_getElem? (i := 0) rfl)) (allS (Or.inl (List.mem_of_getElem? (i := 1) rfl)) (allS (Or.inl (List.mem_of_getElem? (i := 2) rfl)) all0)))
    have Z31 : n0 ≤ T24.heap.size := Nat.le_trans Z12 K24c.1
    have st32 : Steps p.tables e below sE (T24.setTop (mkF m 22 #[.val (.ref x0), .val (.int x1), .val (.long x2), .second, .val (.int (0 : Int32))] [])) := st23.trans (sr24)
    have st33 : Steps p.tables e below sE (T24.setTop (mkF m 24 #[.val (.ref x0), .val (.int x1), .val (.long x2), .second, .val (.int (0 : Int32))] [(.ref x0), (.ref x0)])) := st32.trans (by
        show Steps _ _ _ (T24.setTop (mkF m 22 #[.val (.ref x0), .val (.int x1), .val (.long x2), .second, .val (.int (0 : Int32))] [])) _
        refine XS.aloadN X24.here hx rfl (hb hby d11_22) rfl rfl ?_
        show Steps _ _ _ (T24.setTop (mkF m 23 #[.val (.ref x0), .val (.int x1), .val (.long x2), .second, .val (.int (0 : Int32))] [(.ref x0)])) _
        refine XS.aloadN X24.here hx rfl (hb hby d11_23) rfl rfl ?_
        exact Steps.refl _)
    obtain ⟨T34, X34, e34, sr34⟩ := getF X24 hx hZ hown (host := "") (Or.inl (hw _ (List.mem_of_getElem? (i := 15) rfl))) Via.refl rfl f28 (g := (mkF m 24 #[.val (.ref x0), .val (.int x1), .val (.long x2), .second, .val (.int (0 : Int32))] [(.ref x0), (.ref x0)])) rfl rfl (hb hby d11_24)
    have st35 : Steps p.tables e below sE (T34.setTop (mkF m 27 #[.val (.ref x0), .val (.int x1), .val (.long x2), .second, .val (.int (0 : Int32))] [(.ref aS), (.ref x0)])) := st33.trans (sr34 _ (Steps.refl _))
    obtain ⟨cl36, Ar36, q36, S36, N36, H36, G36⟩ := id qS
    have hin36 : ¬ (x1 < 0 ∨ cl36.slots.size ≤ (x1).toNatClampNeg) := inb_of S36 hix
    have hat36 : cl36.slots[(x1).toNatClampNeg]? = some (.int (LS1.getD (x1).toNatClampNeg 0)) := H36.at hin36 (own_getI LS1 _)
    have st37 : Steps p.tables e below sE (T34.setTop (mkF m 29 #[.val (.ref x0), .val (.int x1), .val (.long x2), .second, .val (.int (0 : Int32))] [(.int (LS1.getD (x1).toNatClampNeg 0)), (.ref x0)])) := st35.trans (by
        show Steps _ _ _ (T34.setTop (mkF m 27 #[.val (.ref x0), .val (.int x1), .val (.long x2), .second, .val (.int (0 : Int32))] [(.ref aS), (.ref x0)])) _
        refine XS.iloadN X34.here hx rfl (hb hby d11_27) rfl ?_
        show Steps _ _ _ (T34.setTop (mkF m 28 #[.val (.ref x0), .val (.int x1), .val (.long x2), .second, .val (.int (0 : Int32))] [(.int x1), (.ref aS), (.ref x0)])) _
        refine X34.iaload hx (j := x1) (v := (.int (LS1.getD (x1).toNatClampNeg 0))) (by rw [e34]; exact Ar36.1) (State.isArrayOf_alike hZ.alike Ar36.2.1) Ar36.2.2 hin36 hat36 (g := (mkF m 28 #[.val (.ref x0), .val (.int x1), .val (.long x2), .second, .val (.int (0 : Int32))] [(.int x1), (.ref aS), (.ref x0)])) rfl rfl (hb hby d11_28) _ ?_
        exact Steps.refl _)
    obtain ⟨-, p', hp, hSp, -, -⟩ := own_where hP3 k hk
    have hpv : (LS1.getD (x1).toNatClampNeg 0) = Int32.ofNat p' := by rw [hxk]; exact hSp
    rw [hpv] at st37
    obtain ⟨cq38, q38, q38'⟩ := f25.cell
    obtain ⟨_, _, ⟨T38, L38, k38, n38⟩, -, X38, ⟨Lc38, hQ38, l38, y38, z38⟩, sr38⟩ := X34.privateBack hx (y := (⟨"com/example/folioseek/folioseek/UseOrder", "siftUp", "(I)V"⟩ : MethodName)) hown (mvT hZ (hw _ (List.mem_of_getElem? (i := 49) rfl))) (mvT hZ (hw _ (List.mem_of_getElem? (i := 50) rfl))) (own_selp (z := (⟨"com/example/folioseek/folioseek/UseOrder", "add", "(IJ)V"⟩ : MethodName)) rfl (notFace_of_selects (args := #[]) (mvT hZ (hw _ (List.mem_of_getElem? (i := 20) rfl)))) (args' := #[]) (mvT hZ (hw _ (List.mem_of_getElem? (i := 19) rfl))) (Cond.privateMethod_at (mvP hZ (hw _ (List.mem_of_getElem? (i := 51) rfl)) (args := #[]))) (mvT hZ (hw _ (List.mem_of_getElem? (i := 50) rfl))) (by decide)) (Cond.privateMethod_at (mvP hZ (hw _ (List.mem_of_getElem? (i := 51) rfl)) (args := #[]))) (mvT hZ (hw _ (List.mem_of_getElem? (i := 52) rfl))) (by decide) (backOf (W := 0) (rm10 l Z a0 hw [] x0 (Int32.ofNat p') aI aU aS kI kU kS LI1 LU1 LS1 mm 5 (fun i => if i = k then x2 else val i) pres T24.heap n0 Z31 f25 f26 f27 f28 qI qU qS hP3 (own_ofb p' 5 (by decide) hp) (fun j hj _ => hH3 j hj) g_i g_u g_s ne_iu ne_is ne_us ne_xi ne_xu ne_xs) hZ (hw _ (List.mem_of_getElem? (i := 52) rfl)) (hw _ (List.mem_of_getElem? (i := 3) rfl)) (by decide) (by decide)) (g := (mkF m 29 #[.val (.ref x0), .val (.int x1), .val (.long x2), .second, .val (.int (0 : Int32))] [(.int (Int32.ofNat p')), (.ref x0)])) rfl (by rw [hml]; rfl) (Steps.refl _) (a := x0) (by rw [e34]; exact q38) q38' (argsL := [(.int (Int32.ofNat p'))]) (rest := []) (lenOf pd_5 rfl) rfl (by show 2 * 0 + _ ≤ _; exact Nat.le_of_eq rfl) (hb hby d11_29) (fun _ _ => ⟨rfl, e34, (by decide : 0 + 0 ≤ _), (by decide : 0 + 0 ≤ _)⟩)
    dsimp only [Pt.U, Pt.locs, Pt.cells, Pt.slots] at X38 l38 y38 z38 sr38 hQ38
    subst l38 y38 z38
    obtain ⟨rfl, N38q, K38c, ⟨LI', LU', LS', rI, rU, rS, hP', hH'⟩⟩ := hQ38
    have N38 := Fr.app N24 N38q
    obtain ⟨LL38, X38, N38⟩ := own_hide X38 N38
    have f39 : Exa Z T38.heap x0 "com/example/folioseek/folioseek/UseOrder" := f25.keep K38c
    have f40 : Fld Z T38.heap x0 "com/example/folioseek/folioseek/UseOrder" "ids" "[I" (.ref aI) := f26.keep K38c (ninS ne_xi (ninS ne_xu (ninS ne_xs nin0)))
    have f41 : Fld Z T38.heap x0 "com/example/folioseek/folioseek/UseOrder" "uses" "[J" (.ref aU) := f27.keep K38c (ninS ne_xi (ninS ne_xu (ninS ne_xs nin0)))
    have f42 : Fld Z T38.heap x0 "com/example/folioseek/folioseek/UseOrder" "slots" "[I" (.ref aS) := f28.keep K38c (ninS ne_xi (ninS ne_xu (ninS ne_xs nin0)))
    have f43 : Fld Z T38.heap x0 "com/example/folioseek/folioseek/UseOrder" "size" "I" (.int (5 : Int32)) := f29.keep K38c (ninS ne_xi (ninS ne_xu (ninS ne_xs nin0)))
    have K44 : Keep h0 T38.heap [aI, aU, aS] := K30.trans K38c (allS (Or.inl (List.mem_of_getElem? (i := 0) rfl)) (allS (Or.inl (List.mem_of_getElem? (i := 1) rfl)) (allS (Or.inl (List.mem_of_getElem? (i := 2) rfl)) all0)))
    have Z45 : n0 ≤ T38.heap.size := Nat.le_trans Z31 K38c.1
    have st46 : Steps p.tables e below sE (T38.setTop (mkF m 32 #[.val (.ref x0), .val (.int x1), .val (.long x2), .second, .val (.int (0 : Int32))] [])) := st37.trans (sr38)
    obtain ⟨fs, hr, hrun, hended, hW, hsame⟩ := X38.leave (v := none) (fun _ => rfl) hlk
    refine ⟨_, _, (own_ent hsE st46).trans ?_, hrun, hended, _, _, rfl, ?_, ⟨_, rfl⟩, hW, hsame.mono (by decide) (by decide)⟩
    · exact X38.returnOut hx Bd.returns (hb hby d11_32) hr
    · show Q11 Z x0 x1 x2 aI aU aS kI kU kS LI LU LS mm val pres k h0 n0 _ T38.heap _
      exact ⟨rfl, N38, K44, ⟨LI', LU', LS', rI, rU, rS, hP', hH'⟩⟩
  · have hsl : (LS.getD (x1).toNatClampNeg 0) = (Int32.ofNat a) := by rw [hxk, hSa]
    rw [hsl] at st5
    have st47 : Steps p.tables e below sE (T2.setTop (mkF m 9 #[.val (.ref x0), .val (.int x1), .val (.long x2), .second, .val (.int (Int32.ofNat a))] [(.ref x0)])) := st5.trans (by
        show Steps _ _ _ (T2.setTop (mkF m 6 #[.val (.ref x0), .val (.int x1), .val (.long x2), .second, .unset] [(.int (Int32.ofNat a))])) _
        refine XS.istore X2.here hx rfl (hb hby d11_6) rfl (l' := #[.val (.ref x0), .val (.int x1), .val (.long x2), .second, .val (.int (Int32.ofNat a))]) rfl ?_
        show Steps _ _ _ (T2.setTop (mkF m 8 #[.val (.ref x0), .val (.int x1), .val (.long x2), .second, .val (.int (Int32.ofNat a))] [])) _
        refine XS.aloadN X2.here hx rfl (hb hby d11_8) rfl rfl ?_
        exact Steps.refl _)
    obtain ⟨T48, X48, e48, sr48⟩ := getF X2 hx hZ hown (host := "") (Or.inl (hw _ (List.mem_of_getElem? (i := 13) rfl))) Via.refl e2 F_u (g := (mkF m 9 #[.val (.ref x0), .val (.int x1), .val (.long x2), .second, .val (.int (Int32.ofNat a))] [(.ref x0)])) rfl rfl (hb hby d11_9)
    have st49 : Steps p.tables e below sE (T48.setTop (mkF m 12 #[.val (.ref x0), .val (.int x1), .val (.long x2), .second, .val (.int (Int32.ofNat a))] [(.ref aU)])) := st47.trans (sr48 _ (Steps.refl _))
    have st50 : Steps p.tables e below sE (T48.setTop (mkF m 15 #[.val (.ref x0), .val (.int x1), .val (.long x2), .second, .val (.int (Int32.ofNat a))] [(.long x2), (.int (Int32.ofNat a)), (.ref aU)])) := st49.trans (by
        show Steps _ _ _ (T48.setTop (mkF m 12 #[.val (.ref x0), .val (.int x1), .val (.long x2), .second, .val (.int (Int32.ofNat a))] [(.ref aU)])) _
        refine XS.iload X48.here hx rfl (hb hby d11_12) rfl ?_
        show Steps _ _ _ (T48.setTop (mkF m 14 #[.val (.ref x0), .val (.int x1), .val (.long x2), .second, .val (.int (Int32.ofNat a))] [(.int (Int32.ofNat a)), (.ref aU)])) _
        refine XS.lloadN X48.here hx rfl (hb hby d11_14) rfl ?_
        exact Steps.refl _)
    obtain ⟨cl51, Ar51, q51, S51, N51, H51, G51⟩ := id A_u
    have hin51 : ¬ ((Int32.ofNat a) < 0 ∨ cl51.slots.size ≤ ((Int32.ofNat a)).toNatClampNeg) := inb_of S51 (own_i16 _ 5 (by decide) (own_ofb a 5 (by decide) ha))
    obtain ⟨T52, h52, X52, e52, W52, sr52⟩ := stJ X48 hx hZ e48 Ar51 (j := (Int32.ofNat a)) hin51 (g := (mkF m 15 #[.val (.ref x0), .val (.int x1), .val (.long x2), .second, .val (.int (Int32.ofNat a))] [(.long x2), (.int (Int32.ofNat a)), (.ref aU)])) rfl rfl (hb hby d11_15)
    have f53 : Exa Z h52 x0 "com/example/folioseek/folioseek/UseOrder" := E_x.wr W52
    have f54 : Fld Z h52 x0 "com/example/folioseek/folioseek/UseOrder" "ids" "[I" (.ref aI) := F_i.other W52 (Or.inl ne_xu)
    have f55 : Fld Z h52 x0 "com/example/folioseek/folioseek/UseOrder" "uses" "[J" (.ref aU) := F_u.other W52 (Or.inl ne_xu)
    have f56 : Fld Z h52 x0 "com/example/folioseek/folioseek/UseOrder" "slots" "[I" (.ref aS) := F_s.other W52 (Or.inl ne_xu)
    have f57 : Fld Z h52 x0 "com/example/folioseek/folioseek/UseOrder" "size" "I" (.int (5 : Int32)) := F_z.other W52 (Or.inl ne_xu)
    have f58 : Arv Z h52 aI kI .int (16 : Int32) (List.map Value.int LI) (.int (0 : Int32)) := A_i.other W52 ne_iu
    have f59 : Arv Z h52 aS kS .int mm (List.map Value.int LS) (.int (0 : Int32)) := A_s.other W52 (Ne.symm ne_us)
    have f60 : Arv Z h52 aU kU .long (16 : Int32) (List.map Value.long (LU.set ((Int32.ofNat a)).toNatClampNeg x2)) (.long (0 : Int64)) := (by have q := Arv.set Ar51 q51 S51 N51 H51 G51 rfl W52 _ rfl (by rw [List.length_map, hP.2.1]; exact own_l16 _ 5 (by decide) (own_ofb a 5 (by decide) ha)); rw [own_setJ] at q; exact q)
    have K61 : Keep h0 h52 [aI, aU, aS] := K0.wr W52 (Or.inl (List.mem_of_getElem? (i := 1) rfl))
    have Z52 : n0 ≤ h52.size := Nat.le_trans Z0 (Keep.of_wr W52).1
    have N52 := Fr.snoc X52 N0 g_u
    obtain ⟨LL52, X52, N52⟩ := own_hide X52 N52
    have st62 : Steps p.tables e below sE (T52.setTop (mkF m 16 #[.val (.ref x0), .val (.int x1), .val (.long x2), .second, .val (.int (Int32.ofNat a))] [])) := st50.trans (sr52 _ (Steps.refl _))
    have st63 : Steps p.tables e below sE (T52.setTop (mkF m 19 #[.val (.ref x0), .val (.int x1), .val (.long x2), .second, .val (.int (Int32.ofNat a))] [(.int (Int32.ofNat a)), (.ref x0)])) := st62.trans (by
        show Steps _ _ _ (T52.setTop (mkF m 16 #[.val (.ref x0), .val (.int x1), .val (.long x2), .second, .val (.int (Int32.ofNat a))] [])) _
        refine XS.aloadN X52.here hx rfl (hb hby d11_16) rfl rfl ?_
        show Steps _ _ _ (T52.setTop (mkF m 17 #[.val (.ref x0), .val (.int x1), .val (.long x2), .second, .val (.int (Int32.ofNat a))] [(.ref x0)])) _
        refine XS.iload X52.here hx rfl (hb hby d11_17) rfl ?_
        exact Steps.refl _)
    have hP2 : own_P 5 mm.toNatClampNeg LI (LU.set ((Int32.ofNat a)).toNatClampNeg x2) LS (fun i => if i = k then x2 else val i) pres := by
      have q := own_upd hP k a ha hkm hIa x2
      rw [own_onn a (by omega)]
      exact q
    obtain ⟨cq64, q64, q64'⟩ := f53.cell
    obtain ⟨_, _, ⟨T64, L64, k64, n64⟩, -, X64, ⟨Lc64, hQ64, l64, y64, z64⟩, sr64⟩ := X52.privateBack hx (y := (⟨"com/example/folioseek/folioseek/UseOrder", "siftDown", "(I)V"⟩ : MethodName)) hown (mvT hZ (hw _ (List.mem_of_getElem? (i := 58) rfl))) (mvT hZ (hw _ (List.mem_of_getElem? (i := 59) rfl))) (own_selp (z := (⟨"com/example/folioseek/folioseek/UseOrder", "add", "(IJ)V"⟩ : MethodName)) rfl (notFace_of_selects (args := #[]) (mvT hZ (hw _ (List.mem_of_getElem? (i := 20) rfl)))) (args' := #[]) (mvT hZ (hw _ (List.mem_of_getElem? (i := 19) rfl))) (Cond.privateMethod_at (mvP hZ (hw _ (List.mem_of_getElem? (i := 60) rfl)) (args := #[]))) (mvT hZ (hw _ (List.mem_of_getElem? (i := 59) rfl))) (by decide)) (Cond.privateMethod_at (mvP hZ (hw _ (List.mem_of_getElem? (i := 60) rfl)) (args := #[]))) (mvT hZ (hw _ (List.mem_of_getElem? (i := 61) rfl))) (by decide) (backOf (W := 0) (rmdnP l Z a0 hw [] x0 (Int32.ofNat a) aI aU aS kI kU kS LI (LU.set ((Int32.ofNat a)).toNatClampNeg x2) LS mm 5 (fun i => if i = k then x2 else val i) pres h52 n0 Z52 f53 f54 f55 f56 f57 f58 f60 f59 hP2 (by rw [own_on a (by omega)]; have := hc6; omega) g_i g_u g_s ne_iu ne_is ne_us ne_xi ne_xu ne_xs) hZ (hw _ (List.mem_of_getElem? (i := 61) rfl)) (hw _ (List.mem_of_getElem? (i := 3) rfl)) (by decide) (by decide)) (g := (mkF m 19 #[.val (.ref x0), .val (.int x1), .val (.long x2), .second, .val (.int (Int32.ofNat a))] [(.int (Int32.ofNat a)), (.ref x0)])) rfl (by rw [hml]; rfl) (Steps.refl _) (a := x0) (by rw [e52]; exact q64) q64' (argsL := [(.int (Int32.ofNat a))]) (rest := []) (lenOf pd_5 rfl) rfl (by show 2 * 0 + _ ≤ _; exact Nat.le_of_eq rfl) (hb hby d11_19) (fun _ _ => ⟨rfl, e52, (by decide : 0 + 0 ≤ _), (by decide : 0 + 0 ≤ _)⟩)
    dsimp only [Pt.U, Pt.locs, Pt.cells, Pt.slots] at X64 l64 y64 z64 sr64 hQ64
    subst l64 y64 z64
    obtain ⟨rfl, N64q, K64c, f64_0, f64_1, f64_2⟩ := hQ64
    have N64 := Fr.app N52 N64q
    obtain ⟨LL64, X64, N64⟩ := own_hide X64 N64
    have f65 : Exa Z T64.heap x0 "com/example/folioseek/folioseek/UseOrder" := f53.keep K64c
    have f66 : Fld Z T64.heap x0 "com/example/folioseek/folioseek/UseOrder" "ids" "[I" (.ref aI) := f54.keep K64c (ninS ne_xi (ninS ne_xu (ninS ne_xs nin0)))
    have f67 : Fld Z T64.heap x0 "com/example/folioseek/folioseek/UseOrder" "uses" "[J" (.ref aU) := f55.keep K64c (ninS ne_xi (ninS ne_xu (ninS ne_xs nin0)))
    have f68 : Fld Z T64.heap x0 "com/example/folioseek/folioseek/UseOrder" "slots" "[I" (.ref aS) := f56.keep K64c (ninS ne_xi (ninS ne_xu (ninS ne_xs nin0)))
    have f69 : Fld Z T64.heap x0 "com/example/folioseek/folioseek/UseOrder" "size" "I" (.int (5 : Int32)) := f57.keep K64c (ninS ne_xi (ninS ne_xu (ninS ne_xs nin0)))
    have K70 : Keep h0 T64.heap [aI, aU, aS] := K61.trans K64c (allS (Or.inl (List.mem_of_getElem? (i := 0) rfl)) (allS (Or.inl (List.mem_of_getElem? (i := 1) rfl)) (allS (Or.inl (List.mem_of_getElem? (i := 2) rfl)) all0)))
    have Z71 : n0 ≤ T64.heap.size := Nat.le_trans Z52 K64c.1
    have st72 : Steps p.tables e below sE (T64.setTop (mkF m 22 #[.val (.ref x0), .val (.int x1), .val (.long x2), .second, .val (.int (Int32.ofNat a))] [])) := st63.trans (sr64)
    have st73 : Steps p.tables e below sE (T64.setTop (mkF m 24 #[.val (.ref x0), .val (.int x1), .val (.long x2), .second, .val (.int (Int32.ofNat a))] [(.ref x0), (.ref x0)])) := st72.trans (by
        show Steps _ _ _ (T64.setTop (mkF m 22 #[.val (.ref x0), .val (.int x1), .val (.long x2), .second, .val (.int (Int32.ofNat a))] [])) _
        refine XS.aloadN X64.here hx rfl (hb hby d11_22) rfl rfl ?_
        show Steps _ _ _ (T64.setTop (mkF m 23 #[.val (.ref x0), .val (.int x1), .val (.long x2), .second, .val (.int (Int32.ofNat a))] [(.ref x0)])) _
        refine XS.aloadN X64.here hx rfl (hb hby d11_23) rfl rfl ?_
        exact Steps.refl _)
    obtain ⟨T74, X74, e74, sr74⟩ := getF X64 hx hZ hown (host := "") (Or.inl (hw _ (List.mem_of_getElem? (i := 15) rfl))) Via.refl rfl f68 (g := (mkF m 24 #[.val (.ref x0), .val (.int x1), .val (.long x2), .second, .val (.int (Int32.ofNat a))] [(.ref x0), (.ref x0)])) rfl rfl (hb hby d11_24)
    have st75 : Steps p.tables e below sE (T74.setTop (mkF m 27 #[.val (.ref x0), .val (.int x1), .val (.long x2), .second, .val (.int (Int32.ofNat a))] [(.ref aS), (.ref x0)])) := st73.trans (sr74 _ (Steps.refl _))
    obtain ⟨cl76, Ar76, q76, S76, N76, H76, G76⟩ := id f64_2
    have hin76 : ¬ (x1 < 0 ∨ cl76.slots.size ≤ (x1).toNatClampNeg) := inb_of S76 hix
    have hat76 : cl76.slots[(x1).toNatClampNeg]? = some (.int (LS.getD (x1).toNatClampNeg 0)) := H76.at hin76 (own_getI LS _)
    have st77 : Steps p.tables e below sE (T74.setTop (mkF m 29 #[.val (.ref x0), .val (.int x1), .val (.long x2), .second, .val (.int (Int32.ofNat a))] [(.int (LS.getD (x1).toNatClampNeg 0)), (.ref x0)])) := st75.trans (by
        show Steps _ _ _ (T74.setTop (mkF m 27 #[.val (.ref x0), .val (.int x1), .val (.long x2), .second, .val (.int (Int32.ofNat a))] [(.ref aS), (.ref x0)])) _
        refine XS.iloadN X74.here hx rfl (hb hby d11_27) rfl ?_
        show Steps _ _ _ (T74.setTop (mkF m 28 #[.val (.ref x0), .val (.int x1), .val (.long x2), .second, .val (.int (Int32.ofNat a))] [(.int x1), (.ref aS), (.ref x0)])) _
        refine X74.iaload hx (j := x1) (v := (.int (LS.getD (x1).toNatClampNeg 0))) (by rw [e74]; exact Ar76.1) (State.isArrayOf_alike hZ.alike Ar76.2.1) Ar76.2.2 hin76 hat76 (g := (mkF m 28 #[.val (.ref x0), .val (.int x1), .val (.long x2), .second, .val (.int (Int32.ofNat a))] [(.int x1), (.ref aS), (.ref x0)])) rfl rfl (hb hby d11_28) _ ?_
        exact Steps.refl _)
    have hpv : (LS.getD (x1).toNatClampNeg 0) = Int32.ofNat a := by rw [hxk]; exact hSa
    rw [hpv] at st77
    obtain ⟨cq78, q78, q78'⟩ := f65.cell
    obtain ⟨_, _, ⟨T78, L78, k78, n78⟩, -, X78, ⟨Lc78, hQ78, l78, y78, z78⟩, sr78⟩ := X74.privateBack hx (y := (⟨"com/example/folioseek/folioseek/UseOrder", "siftUp", "(I)V"⟩ : MethodName)) hown (mvT hZ (hw _ (List.mem_of_getElem? (i := 49) rfl))) (mvT hZ (hw _ (List.mem_of_getElem? (i := 50) rfl))) (own_selp (z := (⟨"com/example/folioseek/folioseek/UseOrder", "add", "(IJ)V"⟩ : MethodName)) rfl (notFace_of_selects (args := #[]) (mvT hZ (hw _ (List.mem_of_getElem? (i := 20) rfl)))) (args' := #[]) (mvT hZ (hw _ (List.mem_of_getElem? (i := 19) rfl))) (Cond.privateMethod_at (mvP hZ (hw _ (List.mem_of_getElem? (i := 51) rfl)) (args := #[]))) (mvT hZ (hw _ (List.mem_of_getElem? (i := 50) rfl))) (by decide)) (Cond.privateMethod_at (mvP hZ (hw _ (List.mem_of_getElem? (i := 51) rfl)) (args := #[]))) (mvT hZ (hw _ (List.mem_of_getElem? (i := 52) rfl))) (by decide) (backOf (W := 0) (rm10 l Z a0 hw [] x0 (Int32.ofNat a) aI aU aS kI kU kS LI (LU.set ((Int32.ofNat a)).toNatClampNeg x2) LS mm 5 (fun i => if i = k then x2 else val i) pres T64.heap n0 Z71 f65 f66 f67 f68 f64_0 f64_1 f64_2 hP2 (own_ofb a 5 (by decide) ha) (own_updH hP.2.1 (by decide) hH a ha hc6 x2) g_i g_u g_s ne_iu ne_is ne_us ne_xi ne_xu ne_xs) hZ (hw _ (List.mem_of_getElem? (i := 52) rfl)) (hw _ (List.mem_of_getElem? (i := 3) rfl)) (by decide) (by decide)) (g := (mkF m 29 #[.val (.ref x0), .val (.int x1), .val (.long x2), .second, .val (.int (Int32.ofNat a))] [(.int (Int32.ofNat a)), (.ref x0)])) rfl (by rw [hml]; rfl) (Steps.refl _) (a := x0) (by rw [e74]; exact q78) q78' (argsL := [(.int (Int32.ofNat a))]) (rest := []) (lenOf pd_5 rfl) rfl (by show 2 * 0 + _ ≤ _; exact Nat.le_of_eq rfl) (hb hby d11_29) (fun _ _ => ⟨rfl, e74, (by decide : 0 + 0 ≤ _), (by decide : 0 + 0 ≤ _)⟩)
    dsimp only [Pt.U, Pt.locs, Pt.cells, Pt.slots] at X78 l78 y78 z78 sr78 hQ78
    subst l78 y78 z78
    obtain ⟨rfl, N78q, K78c, ⟨LI', LU', LS', rI, rU, rS, hP', hH'⟩⟩ := hQ78
    have N78 := Fr.app N64 N78q
    obtain ⟨LL78, X78, N78⟩ := own_hide X78 N78
    have f79 : Exa Z T78.heap x0 "com/example/folioseek/folioseek/UseOrder" := f65.keep K78c
    have f80 : Fld Z T78.heap x0 "com/example/folioseek/folioseek/UseOrder" "ids" "[I" (.ref aI) := f66.keep K78c (ninS ne_xi (ninS ne_xu (ninS ne_xs nin0)))
    have f81 : Fld Z T78.heap x0 "com/example/folioseek/folioseek/UseOrder" "uses" "[J" (.ref aU) := f67.keep K78c (ninS ne_xi (ninS ne_xu (ninS ne_xs nin0)))
    have f82 : Fld Z T78.heap x0 "com/example/folioseek/folioseek/UseOrder" "slots" "[I" (.ref aS) := f68.keep K78c (ninS ne_xi (ninS ne_xu (ninS ne_xs nin0)))
    have f83 : Fld Z T78.heap x0 "com/example/folioseek/folioseek/UseOrder" "size" "I" (.int (5 : Int32)) := f69.keep K78c (ninS ne_xi (ninS ne_xu (ninS ne_xs nin0)))
    have K84 : Keep h0 T78.heap [aI, aU, aS] := K70.trans K78c (allS (Or.inl (List.mem_of_getElem? (i := 0) rfl)) (allS (Or.inl (List.mem_of_getElem? (i := 1) rfl)) (allS (Or.inl (List.mem_of_getElem? (i := 2) rfl)) all0)))
    have Z85 : n0 ≤ T78.heap.size := Nat.le_trans Z71 K78c.1
    have st86 : Steps p.tables e below sE (T78.setTop (mkF m 32 #[.val (.ref x0), .val (.int x1), .val (.long x2), .second, .val (.int (Int32.ofNat a))] [])) := st77.trans (sr78)
    obtain ⟨fs, hr, hrun, hended, hW, hsame⟩ := X78.leave (v := none) (fun _ => rfl) hlk
    refine ⟨_, _, (own_ent hsE st86).trans ?_, hrun, hended, _, _, rfl, ?_, ⟨_, rfl⟩, hW, hsame.mono (by decide) (by decide)⟩
    · exact X78.returnOut hx Bd.returns (hb hby d11_32) hr
    · show Q11 Z x0 x1 x2 aI aU aS kI kU kS LI LU LS mm val pres k h0 n0 _ T78.heap _
      exact ⟨rfl, N78, K84, ⟨LI', LU', LS', rI, rU, rS, hP', hH'⟩⟩
def own_me (k i : Int32) (m s : Int64) : Int64 := if k = i then m else (F14 m s)
theorem pd_6 : parseMethodDescriptor "(JJ)J" = some ⟨[.long, .long], some .long⟩ := by decide +kernel
theorem d13_0 : decode method_2_code 0 = .ok (.ldc2_w 9, 3) := by decide +kernel
theorem d13_3 : decode method_2_code 3 = .ok (.lstore_n 2, 1) := by decide +kernel
theorem d13_4 : decode method_2_code 4 = .ok (.iload_n 1, 1) := by decide +kernel
theorem d13_5 : decode method_2_code 5 = .ok (.ifCond .eq 11, 3) := by decide +kernel
theorem d13_8 : decode method_2_code 8 = .ok (.lload_n 2, 1) := by decide +kernel
theorem d13_9 : decode method_2_code 9 = .ok (.aload_n 0, 1) := by decide +kernel
theorem d13_10 : decode method_2_code 10 = .ok (.iconst 0, 1) := by decide +kernel
theorem d13_11 : decode method_2_code 11 = .ok (.laload, 1) := by decide +kernel
theorem d13_12 : decode method_2_code 12 = .ok (.invokestatic 11, 3) := by decide +kernel
theorem d13_15 : decode method_2_code 15 = .ok (.lstore_n 2, 1) := by decide +kernel
theorem d13_16 : decode method_2_code 16 = .ok (.iload_n 1, 1) := by decide +kernel
theorem d13_17 : decode method_2_code 17 = .ok (.iconst 1, 1) := by decide +kernel
theorem d13_18 : decode method_2_code 18 = .ok (.if_icmp .eq 11, 3) := by decide +kernel
theorem d13_21 : decode method_2_code 21 = .ok (.lload_n 2, 1) := by decide +kernel
theorem d13_22 : decode method_2_code 22 = .ok (.aload_n 0, 1) := by decide +kernel
theorem d13_23 : decode method_2_code 23 = .ok (.iconst 1, 1) := by decide +kernel
theorem d13_24 : decode method_2_code 24 = .ok (.laload, 1) := by decide +kernel
theorem d13_25 : decode method_2_code 25 = .ok (.invokestatic 11, 3) := by decide +kernel
theorem d13_28 : decode method_2_code 28 = .ok (.lstore_n 2, 1) := by decide +kernel
theorem d13_29 : decode method_2_code 29 = .ok (.iload_n 1, 1) := by decide +kernel
theorem d13_30 : decode method_2_code 30 = .ok (.iconst 2, 1) := by decide +kernel
theorem d13_31 : decode method_2_code 31 = .ok (.if_icmp .eq 11, 3) := by decide +kernel
theorem d13_34 : decode method_2_code 34 = .ok (.lload_n 2, 1) := by decide +kernel
theorem d13_35 : decode method_2_code 35 = .ok (.aload_n 0, 1) := by decide +kernel
theorem d13_36 : decode method_2_code 36 = .ok (.iconst 2, 1) := by decide +kernel
theorem d13_37 : decode method_2_code 37 = .ok (.laload, 1) := by decide +kernel
theorem d13_38 : decode method_2_code 38 = .ok (.invokestatic 11, 3) := by decide +kernel
theorem d13_41 : decode method_2_code 41 = .ok (.lstore_n 2, 1) := by decide +kernel
theorem d13_42 : decode method_2_code 42 = .ok (.iload_n 1, 1) := by decide +kernel
theorem d13_43 : decode method_2_code 43 = .ok (.iconst 3, 1) := by decide +kernel
theorem d13_44 : decode method_2_code 44 = .ok (.if_icmp .eq 11, 3) := by decide +kernel
theorem d13_47 : decode method_2_code 47 = .ok (.lload_n 2, 1) := by decide +kernel
theorem d13_48 : decode method_2_code 48 = .ok (.aload_n 0, 1) := by decide +kernel
theorem d13_49 : decode method_2_code 49 = .ok (.iconst 3, 1) := by decide +kernel
theorem d13_50 : decode method_2_code 50 = .ok (.laload, 1) := by decide +kernel
theorem d13_51 : decode method_2_code 51 = .ok (.invokestatic 11, 3) := by decide +kernel
theorem d13_54 : decode method_2_code 54 = .ok (.lstore_n 2, 1) := by decide +kernel
theorem d13_55 : decode method_2_code 55 = .ok (.iload_n 1, 1) := by decide +kernel
theorem d13_56 : decode method_2_code 56 = .ok (.iconst 4, 1) := by decide +kernel
theorem d13_57 : decode method_2_code 57 = .ok (.if_icmp .eq 11, 3) := by decide +kernel
theorem d13_60 : decode method_2_code 60 = .ok (.lload_n 2, 1) := by decide +kernel
theorem d13_61 : decode method_2_code 61 = .ok (.aload_n 0, 1) := by decide +kernel
theorem d13_62 : decode method_2_code 62 = .ok (.iconst 4, 1) := by decide +kernel
theorem d13_63 : decode method_2_code 63 = .ok (.laload, 1) := by decide +kernel
theorem d13_64 : decode method_2_code 64 = .ok (.invokestatic 11, 3) := by decide +kernel
theorem d13_67 : decode method_2_code 67 = .ok (.lstore_n 2, 1) := by decide +kernel
theorem d13_68 : decode method_2_code 68 = .ok (.lload_n 2, 1) := by decide +kernel
theorem d13_69 : decode method_2_code 69 = .ok (.lreturn, 1) := by decide +kernel
theorem pn_2 : plainName "com/example/folioseek/folioseek/UseOrderUpdatePinLaw" = true := by first | (simp [plainName, overriddenIn]; done) | decide +kernel
theorem ef_13 (m : MethodId) (x0 : Addr) (x1 : Int32)  : entryFrame m #[(.ref x0), (.int x1)] 4 = mkF m 0 #[.val (.ref x0), .val (.int x1), .unset, .unset] [] := by first | (simp [entryFrame, mkF, argsToLocals, Value.category]; done) | rfl
def Q13 (Z : State) (x0 : Addr) (x1 : Int32) (ka : ClassId) (L : List Int64) (h0 : Heap) (n0 : Nat) (vE : Option Value) (hE : Heap) (LE : List Loc) : Prop := vE = some (.long (own_me x1 (4 : Int32) (own_me x1 (3 : Int32) (own_me x1 (2 : Int32) (own_me x1 (1 : Int32) (own_me x1 (0 : Int32) (9223372036854775807 : Int64) (L.getD ((0 : Int32)).toNatClampNeg 0)) (L.getD ((1 : Int32)).toNatClampNeg 0)) (L.getD ((2 : Int32)).toNatClampNeg 0)) (L.getD ((3 : Int32)).toNatClampNeg 0)) (L.getD ((4 : Int32)).toNatClampNeg 0))) ∧ Fr n0 LE ∧ hE = h0
set_option maxRecDepth 65536 in
set_option maxHeartbeats 40000000 in
theorem rm13 (l : Launch) (Z : State) (a0 : Array Value) (hw : ∀ d ∈ tables_1, d.before a0 Z = true) (ws : List Jvm.Cond) (x0 : Addr) (x1 : Int32) (ka : ClassId) (L : List Int64) (h0 : Heap) (n0 : Nat) (Z0 : n0 ≤ h0.size) (A_x : Arv Z h0 x0 ka .long (5 : Int32) (List.map Value.long L) (.long (0 : Int64))) :
    MetFree l (⟨"com/example/folioseek/folioseek/UseOrderUpdatePinLaw", "minExcept", "([JI)J"⟩ : MethodName) (head1 (Jvm.Cond.code (⟨"com/example/folioseek/folioseek/UseOrderUpdatePinLaw", "minExcept", "([JI)J"⟩ : MethodName) method_2_code 4 (some .long) :: ws) ({ frames := 1, cells := 0, slots := 0, locals := 15 } : Room)) (fun a U => a = #[(.ref x0), (.int x1)] ∧ Z.Warmed39 U.vm ∧ U.heap = h0) (fun _ _ _ _ _ => True) (fun _ U o U' => ∃ vE LE, o = .returned vE ∧ Q13 Z x0 x1 ka L h0 n0 vE U'.heap LE ∧ FrameEnd U o U' LE ({ frames := 1, cells := 0, slots := 0, locals := 15 } : Room).cells ({ frames := 1, cells := 0, slots := 0, locals := 15 } : Room).slots) := by
  refine MetFree.of_bodySF (plainFor_of_name pn_2) hisR ?_
  intro p e s m args below meth c s₁ Bd hml0 hP hK
  obtain ⟨rfl, hZ, hh⟩ := hP
  have hx := Bd.exec
  have hby := Bd.bytes
  have hml : c.maxLocals = 4 := hml0
  have hown : s.vm.findClass "com/example/folioseek/folioseek/UseOrderUpdatePinLaw" = some m.cls := findClass_of_methodNamed Bd.named
  have hnm := (name_of_methodNamed Bd.named Bd.method).1
  have hlk : meth.locks = false := BodyLoose.notSynchronized Bd
  have X0 : Stand p l e ({ frames := 1, cells := 0, slots := 0, locals := 15 } : Room) s m #[(.ref x0), (.int x1)] below meth c s₁ [] 0 0 := Stand.of_body Bd
  have e0 : s₁.heap = h0 := by rw [← hh, Bd.state]; rfl
  have N0 := Fr.nil n0
  obtain ⟨sE, hsE⟩ : ∃ z, z = (s₁.setTop (entryFrame m #[(.ref x0), (.int x1)] 4)) := ⟨_, rfl⟩
  have st0 : Steps p.tables e below sE (s₁.setTop (mkF m 0 #[.val (.ref x0), .val (.int x1), .unset, .unset] [])) := by rw [hsE]; exact castTop (ef_13 m x0 x1) (Steps.refl _)
  have st1 : Steps p.tables e below sE (s₁.setTop (mkF m 5 #[.val (.ref x0), .val (.int x1), .val (.long (9223372036854775807 : Int64)), .second] [(.int x1)])) := st0.trans (by
      show Steps _ _ _ (s₁.setTop (mkF m 0 #[.val (.ref x0), .val (.int x1), .unset, .unset] [])) _
      refine X0.ldc2Long hx hown (mvT hZ (hw _ (List.mem_of_getElem? (i := 67) rfl))) (g := (mkF m 0 #[.val (.ref x0), .val (.int x1), .unset, .unset] [])) rfl (hb hby d13_0) _ ?_
      show Steps _ _ _ (s₁.setTop (mkF m 3 #[.val (.ref x0), .val (.int x1), .unset, .unset] [(.long (9223372036854775807 : Int64))])) _
      refine XS.lstoreN X0.here hx rfl (hb hby d13_3) rfl (l' := #[.val (.ref x0), .val (.int x1), .val (.long (9223372036854775807 : Int64)), .second]) rfl ?_
      show Steps _ _ _ (s₁.setTop (mkF m 4 #[.val (.ref x0), .val (.int x1), .val (.long (9223372036854775807 : Int64)), .second] [])) _
      refine XS.iloadN X0.here hx rfl (hb hby d13_4) rfl ?_
      exact Steps.refl _)
  obtain ⟨T9, L9, v1, X9, N9, e9, e_v1, st9⟩ : ∃ (T' : State) (L' : List Loc) (v1 : Int64), Stand p l e ({ frames := 1, cells := 0, slots := 0, locals := 15 } : Room) s m #[(.ref x0), (.int x1)] below meth c T' L' 0 0 ∧ Fr n0 L' ∧ T'.heap = h0 ∧ v1 = (if x1 = (0 : Int32) then (9223372036854775807 : Int64) else (F14 (9223372036854775807 : Int64) (L.getD ((0 : Int32)).toNatClampNeg 0))) ∧ Steps p.tables e below sE (T'.setTop (mkF m 16 #[.val (.ref x0), .val (.int x1), .val (.long v1), .second] [])) := by
    by_cases hc2 : x1 = (0 : Int32)
    · have st3 : Steps p.tables e below sE (s₁.setTop (mkF m 16 #[.val (.ref x0), .val (.int x1), .val (.long (9223372036854775807 : Int64)), .second] [])) := st1.trans (by
          show Steps _ _ _ (s₁.setTop (mkF m 5 #[.val (.ref x0), .val (.int x1), .val (.long (9223372036854775807 : Int64)), .second] [(.int x1)])) _
          refine XS.ifYes X0.here hx rfl (pc0 := 5) (pc' := 16) rfl (hb hby d13_5) rfl ((if0 _ _).trans (teq hc2).1) (by decide) (by decide) ?_
          exact Steps.refl _)
      exact ⟨s₁, _, _, X0, N0, e0, (by rw [if_pos hc2]), st3⟩
    · obtain ⟨cl4, Ar4, q4, S4, N4, H4, G4⟩ := id A_x
      have hin4 : ¬ ((0 : Int32) < 0 ∨ cl4.slots.size ≤ ((0 : Int32)).toNatClampNeg) := inb_of S4 ⟨by decide, by decide⟩
      have hat4 : cl4.slots[((0 : Int32)).toNatClampNeg]? = some (.long (L.getD ((0 : Int32)).toNatClampNeg 0)) := H4.at hin4 (own_getJ L _)
      have st5 : Steps p.tables e below sE (s₁.setTop (mkF m 12 #[.val (.ref x0), .val (.int x1), .val (.long (9223372036854775807 : Int64)), .second] [(.long (L.getD ((0 : Int32)).toNatClampNeg 0)), (.long (9223372036854775807 : Int64))])) := st1.trans (by
          show Steps _ _ _ (s₁.setTop (mkF m 5 #[.val (.ref x0), .val (.int x1), .val (.long (9223372036854775807 : Int64)), .second] [(.int x1)])) _
          refine XS.ifNo X0.here hx rfl (hb hby d13_5) rfl ((if0 _ _).trans (feq hc2).1) ?_
          show Steps _ _ _ (s₁.setTop (mkF m 8 #[.val (.ref x0), .val (.int x1), .val (.long (9223372036854775807 : Int64)), .second] [])) _
          refine XS.lloadN X0.here hx rfl (hb hby d13_8) rfl ?_
          show Steps _ _ _ (s₁.setTop (mkF m 9 #[.val (.ref x0), .val (.int x1), .val (.long (9223372036854775807 : Int64)), .second] [(.long (9223372036854775807 : Int64))])) _
          refine XS.aloadN X0.here hx rfl (hb hby d13_9) rfl rfl ?_
          show Steps _ _ _ (s₁.setTop (mkF m 10 #[.val (.ref x0), .val (.int x1), .val (.long (9223372036854775807 : Int64)), .second] [(.ref x0), (.long (9223372036854775807 : Int64))])) _
          refine XS.iconst X0.here hx rfl (hb hby d13_10) ?_
          show Steps _ _ _ (s₁.setTop (mkF m 11 #[.val (.ref x0), .val (.int x1), .val (.long (9223372036854775807 : Int64)), .second] [(.int (0 : Int32)), (.ref x0), (.long (9223372036854775807 : Int64))])) _
          refine X0.laload hx (j := (0 : Int32)) (v := (.long (L.getD ((0 : Int32)).toNatClampNeg 0))) (by rw [e0]; exact Ar4.1) (State.isArrayOf_alike hZ.alike Ar4.2.1) Ar4.2.2 hin4 hat4 (g := (mkF m 11 #[.val (.ref x0), .val (.int x1), .val (.long (9223372036854775807 : Int64)), .second] [(.int (0 : Int32)), (.ref x0), (.long (9223372036854775807 : Int64))])) rfl rfl (hb hby d13_11) _ ?_
          exact Steps.refl _)
      obtain ⟨_, _, ⟨T6, L6, k6, n6⟩, -, X6, ⟨Lc6, hQ6, l6, y6, z6⟩, sr6⟩ := Jvm.LawKit.callS X0 hx (y := (⟨"java/lang/Math", "min", "(JJ)J"⟩ : MethodName)) hown (mvT hZ (hw _ (List.mem_of_getElem? (i := 68) rfl))) (mvT hZ (hw _ (List.mem_of_getElem? (i := 69) rfl))) (mvT hZ (hw _ (List.mem_of_getElem? (i := 26) rfl))) (mvT hZ (hw _ (List.mem_of_getElem? (i := 70) rfl))) (by decide) (backOf (W := 0) (rm14 l Z a0 hw [] (9223372036854775807 : Int64) (L.getD ((0 : Int32)).toNatClampNeg 0)  h0 n0 Z0 ) hZ (hw _ (List.mem_of_getElem? (i := 70) rfl)) (hw _ (List.mem_of_getElem? (i := 26) rfl)) (by decide) (by decide)) (g := (mkF m 12 #[.val (.ref x0), .val (.int x1), .val (.long (9223372036854775807 : Int64)), .second] [(.long (L.getD ((0 : Int32)).toNatClampNeg 0)), (.long (9223372036854775807 : Int64))])) rfl (by rw [hml]; rfl) (argsL := [(.long (9223372036854775807 : Int64)), (.long (L.getD ((0 : Int32)).toNatClampNeg 0))]) (rest := []) (lenOf pd_6 rfl) rfl (by show 2 * 0 + _ ≤ _; exact Nat.le_of_eq rfl) (hb hby d13_12) (fun _ _ => ⟨rfl, e0, (by decide : 0 + 0 ≤ _), (by decide : 0 + 0 ≤ _)⟩)
      dsimp only [Pt.U, Pt.locs, Pt.cells, Pt.slots] at X6 l6 y6 z6 sr6 hQ6
      subst l6 y6 z6
      obtain ⟨rfl, N6q, hh6⟩ := hQ6
      have N6 := Fr.app N0 N6q
      obtain ⟨LL6, X6, N6⟩ := own_hide X6 N6
      have st7 : Steps p.tables e below sE (T6.setTop (mkF m 15 #[.val (.ref x0), .val (.int x1), .val (.long (9223372036854775807 : Int64)), .second] [(.long (F14 (9223372036854775807 : Int64) (L.getD ((0 : Int32)).toNatClampNeg 0)))])) := st5.trans (sr6 _ (Steps.refl _))
      have st8 : Steps p.tables e below sE (T6.setTop (mkF m 16 #[.val (.ref x0), .val (.int x1), .val (.long (F14 (9223372036854775807 : Int64) (L.getD ((0 : Int32)).toNatClampNeg 0))), .second] [])) := st7.trans (by
          show Steps _ _ _ (T6.setTop (mkF m 15 #[.val (.ref x0), .val (.int x1), .val (.long (9223372036854775807 : Int64)), .second] [(.long (F14 (9223372036854775807 : Int64) (L.getD ((0 : Int32)).toNatClampNeg 0)))])) _
          refine XS.lstoreN X6.here hx rfl (hb hby d13_15) rfl (l' := #[.val (.ref x0), .val (.int x1), .val (.long (F14 (9223372036854775807 : Int64) (L.getD ((0 : Int32)).toNatClampNeg 0))), .second]) rfl ?_
          exact Steps.refl _)
      exact ⟨T6, _, _, X6, N6, hh6, (by rw [if_neg hc2]), st8⟩
  have st10 : Steps p.tables e below sE (T9.setTop (mkF m 18 #[.val (.ref x0), .val (.int x1), .val (.long v1), .second] [(.int (1 : Int32)), (.int x1)])) := st9.trans (by
      show Steps _ _ _ (T9.setTop (mkF m 16 #[.val (.ref x0), .val (.int x1), .val (.long v1), .second] [])) _
      refine XS.iloadN X9.here hx rfl (hb hby d13_16) rfl ?_
      show Steps _ _ _ (T9.setTop (mkF m 17 #[.val (.ref x0), .val (.int x1), .val (.long v1), .second] [(.int x1)])) _
      refine XS.iconst X9.here hx rfl (hb hby d13_17) ?_
      exact Steps.refl _)
  obtain ⟨T18, L18, v2, X18, N18, e18, e_v2, st18⟩ : ∃ (T' : State) (L' : List Loc) (v2 : Int64), Stand p l e ({ frames := 1, cells := 0, slots := 0, locals := 15 } : Room) s m #[(.ref x0), (.int x1)] below meth c T' L' 0 0 ∧ Fr n0 L' ∧ T'.heap = h0 ∧ v2 = (if x1 = (1 : Int32) then v1 else (F14 v1 (L.getD ((1 : Int32)).toNatClampNeg 0))) ∧ Steps p.tables e below sE (T'.setTop (mkF m 29 #[.val (.ref x0), .val (.int x1), .val (.long v2), .second] [])) := by
    by_cases hc11 : x1 = (1 : Int32)
    · have st12 : Steps p.tables e below sE (T9.setTop (mkF m 29 #[.val (.ref x0), .val (.int x1), .val (.long v1), .second] [])) := st10.trans (by
          show Steps _ _ _ (T9.setTop (mkF m 18 #[.val (.ref x0), .val (.int x1), .val (.long v1), .second] [(.int (1 : Int32)), (.int x1)])) _
          refine XS.icmpYes X9.here hx rfl (pc0 := 18) (pc' := 29) rfl (hb hby d13_18) rfl (teq hc11).1 (by decide) (by decide) ?_
          exact Steps.refl _)
      exact ⟨T9, _, _, X9, N9, e9, (by rw [if_pos hc11]), st12⟩
    · obtain ⟨cl13, Ar13, q13, S13, N13, H13, G13⟩ := id A_x
      have hin13 : ¬ ((1 : Int32) < 0 ∨ cl13.slots.size ≤ ((1 : Int32)).toNatClampNeg) := inb_of S13 ⟨by decide, by decide⟩
      have hat13 : cl13.slots[((1 : Int32)).toNatClampNeg]? = some (.long (L.getD ((1 : Int32)).toNatClampNeg 0)) := H13.at hin13 (own_getJ L _)
      have st14 : Steps p.tables e below sE (T9.setTop (mkF m 25 #[.val (.ref x0), .val (.int x1), .val (.long v1), .second] [(.long (L.getD ((1 : Int32)).toNatClampNeg 0)), (.long v1)])) := st10.trans (by
          show Steps _ _ _ (T9.setTop (mkF m 18 #[.val (.ref x0), .val (.int x1), .val (.long v1), .second] [(.int (1 : Int32)), (.int x1)])) _
          refine XS.icmpNo X9.here hx rfl (hb hby d13_18) rfl (feq hc11).1 ?_
          show Steps _ _ _ (T9.setTop (mkF m 21 #[.val (.ref x0), .val (.int x1), .val (.long v1), .second] [])) _
          refine XS.lloadN X9.here hx rfl (hb hby d13_21) rfl ?_
          show Steps _ _ _ (T9.setTop (mkF m 22 #[.val (.ref x0), .val (.int x1), .val (.long v1), .second] [(.long v1)])) _
          refine XS.aloadN X9.here hx rfl (hb hby d13_22) rfl rfl ?_
          show Steps _ _ _ (T9.setTop (mkF m 23 #[.val (.ref x0), .val (.int x1), .val (.long v1), .second] [(.ref x0), (.long v1)])) _
          refine XS.iconst X9.here hx rfl (hb hby d13_23) ?_
          show Steps _ _ _ (T9.setTop (mkF m 24 #[.val (.ref x0), .val (.int x1), .val (.long v1), .second] [(.int (1 : Int32)), (.ref x0), (.long v1)])) _
          refine X9.laload hx (j := (1 : Int32)) (v := (.long (L.getD ((1 : Int32)).toNatClampNeg 0))) (by rw [e9]; exact Ar13.1) (State.isArrayOf_alike hZ.alike Ar13.2.1) Ar13.2.2 hin13 hat13 (g := (mkF m 24 #[.val (.ref x0), .val (.int x1), .val (.long v1), .second] [(.int (1 : Int32)), (.ref x0), (.long v1)])) rfl rfl (hb hby d13_24) _ ?_
          exact Steps.refl _)
      obtain ⟨_, _, ⟨T15, L15, k15, n15⟩, -, X15, ⟨Lc15, hQ15, l15, y15, z15⟩, sr15⟩ := Jvm.LawKit.callS X9 hx (y := (⟨"java/lang/Math", "min", "(JJ)J"⟩ : MethodName)) hown (mvT hZ (hw _ (List.mem_of_getElem? (i := 68) rfl))) (mvT hZ (hw _ (List.mem_of_getElem? (i := 69) rfl))) (mvT hZ (hw _ (List.mem_of_getElem? (i := 26) rfl))) (mvT hZ (hw _ (List.mem_of_getElem? (i := 70) rfl))) (by decide) (backOf (W := 0) (rm14 l Z a0 hw [] v1 (L.getD ((1 : Int32)).toNatClampNeg 0)  h0 n0 Z0 ) hZ (hw _ (List.mem_of_getElem? (i := 70) rfl)) (hw _ (List.mem_of_getElem? (i := 26) rfl)) (by decide) (by decide)) (g := (mkF m 25 #[.val (.ref x0), .val (.int x1), .val (.long v1), .second] [(.long (L.getD ((1 : Int32)).toNatClampNeg 0)), (.long v1)])) rfl (by rw [hml]; rfl) (argsL := [(.long v1), (.long (L.getD ((1 : Int32)).toNatClampNeg 0))]) (rest := []) (lenOf pd_6 rfl) rfl (by show 2 * 0 + _ ≤ _; exact Nat.le_of_eq rfl) (hb hby d13_25) (fun _ _ => ⟨rfl, e9, (by decide : 0 + 0 ≤ _), (by decide : 0 + 0 ≤ _)⟩)
      dsimp only [Pt.U, Pt.locs, Pt.cells, Pt.slots] at X15 l15 y15 z15 sr15 hQ15
      subst l15 y15 z15
      obtain ⟨rfl, N15q, hh15⟩ := hQ15
      have N15 := Fr.app N9 N15q
      obtain ⟨LL15, X15, N15⟩ := own_hide X15 N15
      have st16 : Steps p.tables e below sE (T15.setTop (mkF m 28 #[.val (.ref x0), .val (.int x1), .val (.long v1), .second] [(.long (F14 v1 (L.getD ((1 : Int32)).toNatClampNeg 0)))])) := st14.trans (sr15 _ (Steps.refl _))
      have st17 : Steps p.tables e below sE (T15.setTop (mkF m 29 #[.val (.ref x0), .val (.int x1), .val (.long (F14 v1 (L.getD ((1 : Int32)).toNatClampNeg 0))), .second] [])) := st16.trans (by
          show Steps _ _ _ (T15.setTop (mkF m 28 #[.val (.ref x0), .val (.int x1), .val (.long v1), .second] [(.long (F14 v1 (L.getD ((1 : Int32)).toNatClampNeg 0)))])) _
          refine XS.lstoreN X15.here hx rfl (hb hby d13_28) rfl (l' := #[.val (.ref x0), .val (.int x1), .val (.long (F14 v1 (L.getD ((1 : Int32)).toNatClampNeg 0))), .second]) rfl ?_
          exact Steps.refl _)
      exact ⟨T15, _, _, X15, N15, hh15, (by rw [if_neg hc11]), st17⟩
  have st19 : Steps p.tables e below sE (T18.setTop (mkF m 31 #[.val (.ref x0), .val (.int x1), .val (.long v2), .second] [(.int (2 : Int32)), (.int x1)])) := st18.trans (by
      show Steps _ _ _ (T18.setTop (mkF m 29 #[.val (.ref x0), .val (.int x1), .val (.long v2), .second] [])) _
      refine XS.iloadN X18.here hx rfl (hb hby d13_29) rfl ?_
      show Steps _ _ _ (T18.setTop (mkF m 30 #[.val (.ref x0), .val (.int x1), .val (.long v2), .second] [(.int x1)])) _
      refine XS.iconst X18.here hx rfl (hb hby d13_30) ?_
      exact Steps.refl _)
  obtain ⟨T27, L27, v3, X27, N27, e27, e_v3, st27⟩ : ∃ (T' : State) (L' : List Loc) (v3 : Int64), Stand p l e ({ frames := 1, cells := 0, slots := 0, locals := 15 } : Room) s m #[(.ref x0), (.int x1)] below meth c T' L' 0 0 ∧ Fr n0 L' ∧ T'.heap = h0 ∧ v3 = (if x1 = (2 : Int32) then v2 else (F14 v2 (L.getD ((2 : Int32)).toNatClampNeg 0))) ∧ Steps p.tables e below sE (T'.setTop (mkF m 42 #[.val (.ref x0), .val (.int x1), .val (.long v3), .second] [])) := by
    by_cases hc20 : x1 = (2 : Int32)
    · have st21 : Steps p.tables e below sE (T18.setTop (mkF m 42 #[.val (.ref x0), .val (.int x1), .val (.long v2), .second] [])) := st19.trans (by
          show Steps _ _ _ (T18.setTop (mkF m 31 #[.val (.ref x0), .val (.int x1), .val (.long v2), .second] [(.int (2 : Int32)), (.int x1)])) _
          refine XS.icmpYes X18.here hx rfl (pc0 := 31) (pc' := 42) rfl (hb hby d13_31) rfl (teq hc20).1 (by decide) (by decide) ?_
          exact Steps.refl _)
      exact ⟨T18, _, _, X18, N18, e18, (by rw [if_pos hc20]), st21⟩
    · obtain ⟨cl22, Ar22, q22, S22, N22, H22, G22⟩ := id A_x
      have hin22 : ¬ ((2 : Int32) < 0 ∨ cl22.slots.size ≤ ((2 : Int32)).toNatClampNeg) := inb_of S22 ⟨by decide, by decide⟩
      have hat22 : cl22.slots[((2 : Int32)).toNatClampNeg]? = some (.long (L.getD ((2 : Int32)).toNatClampNeg 0)) := H22.at hin22 (own_getJ L _)
      have st23 : Steps p.tables e below sE (T18.setTop (mkF m 38 #[.val (.ref x0), .val (.int x1), .val (.long v2), .second] [(.long (L.getD ((2 : Int32)).toNatClampNeg 0)), (.long v2)])) := st19.trans (by
          show Steps _ _ _ (T18.setTop (mkF m 31 #[.val (.ref x0), .val (.int x1), .val (.long v2), .second] [(.int (2 : Int32)), (.int x1)])) _
          refine XS.icmpNo X18.here hx rfl (hb hby d13_31) rfl (feq hc20).1 ?_
          show Steps _ _ _ (T18.setTop (mkF m 34 #[.val (.ref x0), .val (.int x1), .val (.long v2), .second] [])) _
          refine XS.lloadN X18.here hx rfl (hb hby d13_34) rfl ?_
          show Steps _ _ _ (T18.setTop (mkF m 35 #[.val (.ref x0), .val (.int x1), .val (.long v2), .second] [(.long v2)])) _
          refine XS.aloadN X18.here hx rfl (hb hby d13_35) rfl rfl ?_
          show Steps _ _ _ (T18.setTop (mkF m 36 #[.val (.ref x0), .val (.int x1), .val (.long v2), .second] [(.ref x0), (.long v2)])) _
          refine XS.iconst X18.here hx rfl (hb hby d13_36) ?_
          show Steps _ _ _ (T18.setTop (mkF m 37 #[.val (.ref x0), .val (.int x1), .val (.long v2), .second] [(.int (2 : Int32)), (.ref x0), (.long v2)])) _
          refine X18.laload hx (j := (2 : Int32)) (v := (.long (L.getD ((2 : Int32)).toNatClampNeg 0))) (by rw [e18]; exact Ar22.1) (State.isArrayOf_alike hZ.alike Ar22.2.1) Ar22.2.2 hin22 hat22 (g := (mkF m 37 #[.val (.ref x0), .val (.int x1), .val (.long v2), .second] [(.int (2 : Int32)), (.ref x0), (.long v2)])) rfl rfl (hb hby d13_37) _ ?_
          exact Steps.refl _)
      obtain ⟨_, _, ⟨T24, L24, k24, n24⟩, -, X24, ⟨Lc24, hQ24, l24, y24, z24⟩, sr24⟩ := Jvm.LawKit.callS X18 hx (y := (⟨"java/lang/Math", "min", "(JJ)J"⟩ : MethodName)) hown (mvT hZ (hw _ (List.mem_of_getElem? (i := 68) rfl))) (mvT hZ (hw _ (List.mem_of_getElem? (i := 69) rfl))) (mvT hZ (hw _ (List.mem_of_getElem? (i := 26) rfl))) (mvT hZ (hw _ (List.mem_of_getElem? (i := 70) rfl))) (by decide) (backOf (W := 0) (rm14 l Z a0 hw [] v2 (L.getD ((2 : Int32)).toNatClampNeg 0)  h0 n0 Z0 ) hZ (hw _ (List.mem_of_getElem? (i := 70) rfl)) (hw _ (List.mem_of_getElem? (i := 26) rfl)) (by decide) (by decide)) (g := (mkF m 38 #[.val (.ref x0), .val (.int x1), .val (.long v2), .second] [(.long (L.getD ((2 : Int32)).toNatClampNeg 0)), (.long v2)])) rfl (by rw [hml]; rfl) (argsL := [(.long v2), (.long (L.getD ((2 : Int32)).toNatClampNeg 0))]) (rest := []) (lenOf pd_6 rfl) rfl (by show 2 * 0 + _ ≤ _; exact Nat.le_of_eq rfl) (hb hby d13_38) (fun _ _ => ⟨rfl, e18, (by decide : 0 + 0 ≤ _), (by decide : 0 + 0 ≤ _)⟩)
      dsimp only [Pt.U, Pt.locs, Pt.cells, Pt.slots] at X24 l24 y24 z24 sr24 hQ24
      subst l24 y24 z24
      obtain ⟨rfl, N24q, hh24⟩ := hQ24
      have N24 := Fr.app N18 N24q
      obtain ⟨LL24, X24, N24⟩ := own_hide X24 N24
      have st25 : Steps p.tables e below sE (T24.setTop (mkF m 41 #[.val (.ref x0), .val (.int x1), .val (.long v2), .second] [(.long (F14 v2 (L.getD ((2 : Int32)).toNatClampNeg 0)))])) := st23.trans (sr24 _ (Steps.refl _))
      have st26 : Steps p.tables e below sE (T24.setTop (mkF m 42 #[.val (.ref x0), .val (.int x1), .val (.long (F14 v2 (L.getD ((2 : Int32)).toNatClampNeg 0))), .second] [])) := st25.trans (by
          show Steps _ _ _ (T24.setTop (mkF m 41 #[.val (.ref x0), .val (.int x1), .val (.long v2), .second] [(.long (F14 v2 (L.getD ((2 : Int32)).toNatClampNeg 0)))])) _
          refine XS.lstoreN X24.here hx rfl (hb hby d13_41) rfl (l' := #[.val (.ref x0), .val (.int x1), .val (.long (F14 v2 (L.getD ((2 : Int32)).toNatClampNeg 0))), .second]) rfl ?_
          exact Steps.refl _)
      exact ⟨T24, _, _, X24, N24, hh24, (by rw [if_neg hc20]), st26⟩
  have st28 : Steps p.tables e below sE (T27.setTop (mkF m 44 #[.val (.ref x0), .val (.int x1), .val (.long v3), .second] [(.int (3 : Int32)), (.int x1)])) := st27.trans (by
      show Steps _ _ _ (T27.setTop (mkF m 42 #[.val (.ref x0), .val (.int x1), .val (.long v3), .second] [])) _
      refine XS.iloadN X27.here hx rfl (hb hby d13_42) rfl ?_
      show Steps _ _ _ (T27.setTop (mkF m 43 #[.val (.ref x0), .val (.int x1), .val (.long v3), .second] [(.int x1)])) _
      refine XS.iconst X27.here hx rfl (hb hby d13_43) ?_
      exact Steps.refl _)
  obtain ⟨T36, L36, v4, X36, N36, e36, e_v4, st36⟩ : ∃ (T' : State) (L' : List Loc) (v4 : Int64), Stand p l e ({ frames := 1, cells := 0, slots := 0, locals := 15 } : Room) s m #[(.ref x0), (.int x1)] below meth c T' L' 0 0 ∧ Fr n0 L' ∧ T'.heap = h0 ∧ v4 = (if x1 = (3 : Int32) then v3 else (F14 v3 (L.getD ((3 : Int32)).toNatClampNeg 0))) ∧ Steps p.tables e below sE (T'.setTop (mkF m 55 #[.val (.ref x0), .val (.int x1), .val (.long v4), .second] [])) := by
    by_cases hc29 : x1 = (3 : Int32)
    · have st30 : Steps p.tables e below sE (T27.setTop (mkF m 55 #[.val (.ref x0), .val (.int x1), .val (.long v3), .second] [])) := st28.trans (by
          show Steps _ _ _ (T27.setTop (mkF m 44 #[.val (.ref x0), .val (.int x1), .val (.long v3), .second] [(.int (3 : Int32)), (.int x1)])) _
          refine XS.icmpYes X27.here hx rfl (pc0 := 44) (pc' := 55) rfl (hb hby d13_44) rfl (teq hc29).1 (by decide) (by decide) ?_
          exact Steps.refl _)
      exact ⟨T27, _, _, X27, N27, e27, (by rw [if_pos hc29]), st30⟩
    · obtain ⟨cl31, Ar31, q31, S31, N31, H31, G31⟩ := id A_x
      have hin31 : ¬ ((3 : Int32) < 0 ∨ cl31.slots.size ≤ ((3 : Int32)).toNatClampNeg) := inb_of S31 ⟨by decide, by decide⟩
      have hat31 : cl31.slots[((3 : Int32)).toNatClampNeg]? = some (.long (L.getD ((3 : Int32)).toNatClampNeg 0)) := H31.at hin31 (own_getJ L _)
      have st32 : Steps p.tables e below sE (T27.setTop (mkF m 51 #[.val (.ref x0), .val (.int x1), .val (.long v3), .second] [(.long (L.getD ((3 : Int32)).toNatClampNeg 0)), (.long v3)])) := st28.trans (by
          show Steps _ _ _ (T27.setTop (mkF m 44 #[.val (.ref x0), .val (.int x1), .val (.long v3), .second] [(.int (3 : Int32)), (.int x1)])) _
          refine XS.icmpNo X27.here hx rfl (hb hby d13_44) rfl (feq hc29).1 ?_
          show Steps _ _ _ (T27.setTop (mkF m 47 #[.val (.ref x0), .val (.int x1), .val (.long v3), .second] [])) _
          refine XS.lloadN X27.here hx rfl (hb hby d13_47) rfl ?_
          show Steps _ _ _ (T27.setTop (mkF m 48 #[.val (.ref x0), .val (.int x1), .val (.long v3), .second] [(.long v3)])) _
          refine XS.aloadN X27.here hx rfl (hb hby d13_48) rfl rfl ?_
          show Steps _ _ _ (T27.setTop (mkF m 49 #[.val (.ref x0), .val (.int x1), .val (.long v3), .second] [(.ref x0), (.long v3)])) _
          refine XS.iconst X27.here hx rfl (hb hby d13_49) ?_
          show Steps _ _ _ (T27.setTop (mkF m 50 #[.val (.ref x0), .val (.int x1), .val (.long v3), .second] [(.int (3 : Int32)), (.ref x0), (.long v3)])) _
          refine X27.laload hx (j := (3 : Int32)) (v := (.long (L.getD ((3 : Int32)).toNatClampNeg 0))) (by rw [e27]; exact Ar31.1) (State.isArrayOf_alike hZ.alike Ar31.2.1) Ar31.2.2 hin31 hat31 (g := (mkF m 50 #[.val (.ref x0), .val (.int x1), .val (.long v3), .second] [(.int (3 : Int32)), (.ref x0), (.long v3)])) rfl rfl (hb hby d13_50) _ ?_
          exact Steps.refl _)
      obtain ⟨_, _, ⟨T33, L33, k33, n33⟩, -, X33, ⟨Lc33, hQ33, l33, y33, z33⟩, sr33⟩ := Jvm.LawKit.callS X27 hx (y := (⟨"java/lang/Math", "min", "(JJ)J"⟩ : MethodName)) hown (mvT hZ (hw _ (List.mem_of_getElem? (i := 68) rfl))) (mvT hZ (hw _ (List.mem_of_getElem? (i := 69) rfl))) (mvT hZ (hw _ (List.mem_of_getElem? (i := 26) rfl))) (mvT hZ (hw _ (List.mem_of_getElem? (i := 70) rfl))) (by decide) (backOf (W := 0) (rm14 l Z a0 hw [] v3 (L.getD ((3 : Int32)).toNatClampNeg 0)  h0 n0 Z0 ) hZ (hw _ (List.mem_of_getElem? (i := 70) rfl)) (hw _ (List.mem_of_getElem? (i := 26) rfl)) (by decide) (by decide)) (g := (mkF m 51 #[.val (.ref x0), .val (.int x1), .val (.long v3), .second] [(.long (L.getD ((3 : Int32)).toNatClampNeg 0)), (.long v3)])) rfl (by rw [hml]; rfl) (argsL := [(.long v3), (.long (L.getD ((3 : Int32)).toNatClampNeg 0))]) (rest := []) (lenOf pd_6 rfl) rfl (by show 2 * 0 + _ ≤ _; exact Nat.le_of_eq rfl) (hb hby d13_51) (fun _ _ => ⟨rfl, e27, (by decide : 0 + 0 ≤ _), (by decide : 0 + 0 ≤ _)⟩)
      dsimp only [Pt.U, Pt.locs, Pt.cells, Pt.slots] at X33 l33 y33 z33 sr33 hQ33
      subst l33 y33 z33
      obtain ⟨rfl, N33q, hh33⟩ := hQ33
      have N33 := Fr.app N27 N33q
      obtain ⟨LL33, X33, N33⟩ := own_hide X33 N33
      have st34 : Steps p.tables e below sE (T33.setTop (mkF m 54 #[.val (.ref x0), .val (.int x1), .val (.long v3), .second] [(.long (F14 v3 (L.getD ((3 : Int32)).toNatClampNeg 0)))])) := st32.trans (sr33 _ (Steps.refl _))
      have st35 : Steps p.tables e below sE (T33.setTop (mkF m 55 #[.val (.ref x0), .val (.int x1), .val (.long (F14 v3 (L.getD ((3 : Int32)).toNatClampNeg 0))), .second] [])) := st34.trans (by
          show Steps _ _ _ (T33.setTop (mkF m 54 #[.val (.ref x0), .val (.int x1), .val (.long v3), .second] [(.long (F14 v3 (L.getD ((3 : Int32)).toNatClampNeg 0)))])) _
          refine XS.lstoreN X33.here hx rfl (hb hby d13_54) rfl (l' := #[.val (.ref x0), .val (.int x1), .val (.long (F14 v3 (L.getD ((3 : Int32)).toNatClampNeg 0))), .second]) rfl ?_
          exact Steps.refl _)
      exact ⟨T33, _, _, X33, N33, hh33, (by rw [if_neg hc29]), st35⟩
  have st37 : Steps p.tables e below sE (T36.setTop (mkF m 57 #[.val (.ref x0), .val (.int x1), .val (.long v4), .second] [(.int (4 : Int32)), (.int x1)])) := st36.trans (by
      show Steps _ _ _ (T36.setTop (mkF m 55 #[.val (.ref x0), .val (.int x1), .val (.long v4), .second] [])) _
      refine XS.iloadN X36.here hx rfl (hb hby d13_55) rfl ?_
      show Steps _ _ _ (T36.setTop (mkF m 56 #[.val (.ref x0), .val (.int x1), .val (.long v4), .second] [(.int x1)])) _
      refine XS.iconst X36.here hx rfl (hb hby d13_56) ?_
      exact Steps.refl _)
  obtain ⟨T45, L45, v5, X45, N45, e45, e_v5, st45⟩ : ∃ (T' : State) (L' : List Loc) (v5 : Int64), Stand p l e ({ frames := 1, cells := 0, slots := 0, locals := 15 } : Room) s m #[(.ref x0), (.int x1)] below meth c T' L' 0 0 ∧ Fr n0 L' ∧ T'.heap = h0 ∧ v5 = (if x1 = (4 : Int32) then v4 else (F14 v4 (L.getD ((4 : Int32)).toNatClampNeg 0))) ∧ Steps p.tables e below sE (T'.setTop (mkF m 68 #[.val (.ref x0), .val (.int x1), .val (.long v5), .second] [])) := by
    by_cases hc38 : x1 = (4 : Int32)
    · have st39 : Steps p.tables e below sE (T36.setTop (mkF m 68 #[.val (.ref x0), .val (.int x1), .val (.long v4), .second] [])) := st37.trans (by
          show Steps _ _ _ (T36.setTop (mkF m 57 #[.val (.ref x0), .val (.int x1), .val (.long v4), .second] [(.int (4 : Int32)), (.int x1)])) _
          refine XS.icmpYes X36.here hx rfl (pc0 := 57) (pc' := 68) rfl (hb hby d13_57) rfl (teq hc38).1 (by decide) (by decide) ?_
          exact Steps.refl _)
      exact ⟨T36, _, _, X36, N36, e36, (by rw [if_pos hc38]), st39⟩
    · obtain ⟨cl40, Ar40, q40, S40, N40, H40, G40⟩ := id A_x
      have hin40 : ¬ ((4 : Int32) < 0 ∨ cl40.slots.size ≤ ((4 : Int32)).toNatClampNeg) := inb_of S40 ⟨by decide, by decide⟩
      have hat40 : cl40.slots[((4 : Int32)).toNatClampNeg]? = some (.long (L.getD ((4 : Int32)).toNatClampNeg 0)) := H40.at hin40 (own_getJ L _)
      have st41 : Steps p.tables e below sE (T36.setTop (mkF m 64 #[.val (.ref x0), .val (.int x1), .val (.long v4), .second] [(.long (L.getD ((4 : Int32)).toNatClampNeg 0)), (.long v4)])) := st37.trans (by
          show Steps _ _ _ (T36.setTop (mkF m 57 #[.val (.ref x0), .val (.int x1), .val (.long v4), .second] [(.int (4 : Int32)), (.int x1)])) _
          refine XS.icmpNo X36.here hx rfl (hb hby d13_57) rfl (feq hc38).1 ?_
          show Steps _ _ _ (T36.setTop (mkF m 60 #[.val (.ref x0), .val (.int x1), .val (.long v4), .second] [])) _
          refine XS.lloadN X36.here hx rfl (hb hby d13_60) rfl ?_
          show Steps _ _ _ (T36.setTop (mkF m 61 #[.val (.ref x0), .val (.int x1), .val (.long v4), .second] [(.long v4)])) _
          refine XS.aloadN X36.here hx rfl (hb hby d13_61) rfl rfl ?_
          show Steps _ _ _ (T36.setTop (mkF m 62 #[.val (.ref x0), .val (.int x1), .val (.long v4), .second] [(.ref x0), (.long v4)])) _
          refine XS.iconst X36.here hx rfl (hb hby d13_62) ?_
          show Steps _ _ _ (T36.setTop (mkF m 63 #[.val (.ref x0), .val (.int x1), .val (.long v4), .second] [(.int (4 : Int32)), (.ref x0), (.long v4)])) _
          refine X36.laload hx (j := (4 : Int32)) (v := (.long (L.getD ((4 : Int32)).toNatClampNeg 0))) (by rw [e36]; exact Ar40.1) (State.isArrayOf_alike hZ.alike Ar40.2.1) Ar40.2.2 hin40 hat40 (g := (mkF m 63 #[.val (.ref x0), .val (.int x1), .val (.long v4), .second] [(.int (4 : Int32)), (.ref x0), (.long v4)])) rfl rfl (hb hby d13_63) _ ?_
          exact Steps.refl _)
      obtain ⟨_, _, ⟨T42, L42, k42, n42⟩, -, X42, ⟨Lc42, hQ42, l42, y42, z42⟩, sr42⟩ := Jvm.LawKit.callS X36 hx (y := (⟨"java/lang/Math", "min", "(JJ)J"⟩ : MethodName)) hown (mvT hZ (hw _ (List.mem_of_getElem? (i := 68) rfl))) (mvT hZ (hw _ (List.mem_of_getElem? (i := 69) rfl))) (mvT hZ (hw _ (List.mem_of_getElem? (i := 26) rfl))) (mvT hZ (hw _ (List.mem_of_getElem? (i := 70) rfl))) (by decide) (backOf (W := 0) (rm14 l Z a0 hw [] v4 (L.getD ((4 : Int32)).toNatClampNeg 0)  h0 n0 Z0 ) hZ (hw _ (List.mem_of_getElem? (i := 70) rfl)) (hw _ (List.mem_of_getElem? (i := 26) rfl)) (by decide) (by decide)) (g := (mkF m 64 #[.val (.ref x0), .val (.int x1), .val (.long v4), .second] [(.long (L.getD ((4 : Int32)).toNatClampNeg 0)), (.long v4)])) rfl (by rw [hml]; rfl) (argsL := [(.long v4), (.long (L.getD ((4 : Int32)).toNatClampNeg 0))]) (rest := []) (lenOf pd_6 rfl) rfl (by show 2 * 0 + _ ≤ _; exact Nat.le_of_eq rfl) (hb hby d13_64) (fun _ _ => ⟨rfl, e36, (by decide : 0 + 0 ≤ _), (by decide : 0 + 0 ≤ _)⟩)
      dsimp only [Pt.U, Pt.locs, Pt.cells, Pt.slots] at X42 l42 y42 z42 sr42 hQ42
      subst l42 y42 z42
      obtain ⟨rfl, N42q, hh42⟩ := hQ42
      have N42 := Fr.app N36 N42q
      obtain ⟨LL42, X42, N42⟩ := own_hide X42 N42
      have st43 : Steps p.tables e below sE (T42.setTop (mkF m 67 #[.val (.ref x0), .val (.int x1), .val (.long v4), .second] [(.long (F14 v4 (L.getD ((4 : Int32)).toNatClampNeg 0)))])) := st41.trans (sr42 _ (Steps.refl _))
      have st44 : Steps p.tables e below sE (T42.setTop (mkF m 68 #[.val (.ref x0), .val (.int x1), .val (.long (F14 v4 (L.getD ((4 : Int32)).toNatClampNeg 0))), .second] [])) := st43.trans (by
          show Steps _ _ _ (T42.setTop (mkF m 67 #[.val (.ref x0), .val (.int x1), .val (.long v4), .second] [(.long (F14 v4 (L.getD ((4 : Int32)).toNatClampNeg 0)))])) _
          refine XS.lstoreN X42.here hx rfl (hb hby d13_67) rfl (l' := #[.val (.ref x0), .val (.int x1), .val (.long (F14 v4 (L.getD ((4 : Int32)).toNatClampNeg 0))), .second]) rfl ?_
          exact Steps.refl _)
      exact ⟨T42, _, _, X42, N42, hh42, (by rw [if_neg hc38]), st44⟩
  have st46 : Steps p.tables e below sE (T45.setTop (mkF m 69 #[.val (.ref x0), .val (.int x1), .val (.long v5), .second] [(.long v5)])) := st45.trans (by
      show Steps _ _ _ (T45.setTop (mkF m 68 #[.val (.ref x0), .val (.int x1), .val (.long v5), .second] [])) _
      refine XS.lloadN X45.here hx rfl (hb hby d13_68) rfl ?_
      exact Steps.refl _)
  obtain ⟨fs, hr, hrun, hended, hW, hsame⟩ := X45.leave (v := some (.long v5)) (fun h => by rw [Bd.returns] at h; cases h) hlk
  refine ⟨_, _, (own_ent hsE st46).trans ?_, hrun, hended, _, _, rfl, ?_, ⟨_, rfl⟩, hW, hsame.mono (by decide) (by decide)⟩
  · exact retOut X45 hx (t := .long) Bd.returns rfl (Or.inr (Or.inl ⟨rfl, rfl, _, rfl⟩)) (hb hby d13_69) hr
  · show Q13 Z x0 x1 ka L h0 n0 _ T45.heap _
    rw [e45]
    exact ⟨by rw [e_v5, e_v4, e_v3, e_v2, e_v1]; rfl, N45, rfl⟩
def own_vl (a b c d e : Int64) (i : Nat) : Int64 := ([a, b, c, d, e] : List Int64).getD i 0
def own_vu (a b c d e u : Int64) (k i : Nat) : Int64 := if i = k then u else own_vl a b c d e i
theorem own_vg (a b c d e u : Int64) (k i : Nat) (hk : k < 5) : (([a, b, c, d, e] : List Int64).set k u).getD i 0 = own_vu a b c d e u k i := by
  rw [own_gsJ _ _ _ _ (by exact hk)]
  unfold own_vu own_vl
  by_cases h : k = i
  · rw [if_pos h, if_pos h.symm]
  · rw [if_neg h, if_neg (fun q => h q.symm)]
theorem own_mj (m s : Int64) : (F14 m s).toInt ≤ m.toInt ∧ (F14 m s).toInt ≤ s.toInt ∧ (F14 m s = m ∨ F14 m s = s) := by
  unfold F14
  split
  · rename_i h; rw [Int64.lt_iff_toInt_lt] at h; exact ⟨by omega, by omega, Or.inr rfl⟩
  · rename_i h; rw [Int64.lt_iff_toInt_lt] at h; exact ⟨by omega, by omega, Or.inl rfl⟩
theorem own_ms (k i : Int32) (m s : Int64) : (own_me k i m s).toInt ≤ m.toInt ∧ (¬ k = i → (own_me k i m s).toInt ≤ s.toInt) ∧ (own_me k i m s = m ∨ (¬ k = i ∧ own_me k i m s = s)) := by
  unfold own_me
  by_cases h1 : k = i
  · rw [if_pos h1]; exact ⟨Int.le_refl _, fun q => absurd h1 q, Or.inl rfl⟩
  · rw [if_neg h1]
    have q := own_mj m s
    exact ⟨q.1, fun _ => q.2.1, q.2.2.elim Or.inl (fun z => Or.inr ⟨h1, z⟩)⟩
/- the least of what is left -/
theorem own_least (k : Int32) (L : List Int64) (v : Nat → Int64) (hL : ∀ i, L.getD i 0 = v i) (g : Nat) (hg : g < 5) (hk : ¬ k = Int32.ofNat g) (h : ∀ i, i < 5 → ¬ k = Int32.ofNat i → (v g).toInt ≤ (v i).toInt) :
    own_me k 4 (own_me k 3 (own_me k 2 (own_me k 1 (own_me k 0 (9223372036854775807 : Int64) (L.getD 0 0)) (L.getD 1 0)) (L.getD 2 0)) (L.getD 3 0)) (L.getD 4 0) = v g := by
  rw [hL 0, hL 1, hL 2, hL 3, hL 4]
  have q0 := own_ms k 0 (9223372036854775807 : Int64) (v 0)
  generalize own_me k 0 (9223372036854775807 : Int64) (v 0) = m0 at *
  have q1 := own_ms k 1 m0 (v 1)
  generalize own_me k 1 m0 (v 1) = m1 at *
  have q2 := own_ms k 2 m1 (v 2)
  generalize own_me k 2 m1 (v 2) = m2 at *
  have q3 := own_ms k 3 m2 (v 3)
  generalize own_me k 3 m2 (v 3) = m3 at *
  have q4 := own_ms k 4 m3 (v 4)
  generalize own_me k 4 m3 (v 4) = m4 at *
  have h0 : ¬ k = 0 → (v g).toInt ≤ (v 0).toInt := h 0 (by decide)
  have h1 : ¬ k = 1 → (v g).toInt ≤ (v 1).toInt := h 1 (by decide)
  have h2 : ¬ k = 2 → (v g).toInt ≤ (v 2).toInt := h 2 (by decide)
  have h3 : ¬ k = 3 → (v g).toInt ≤ (v 3).toInt := h 3 (by decide)
  have h4 : ¬ k = 4 → (v g).toInt ≤ (v 4).toInt := h 4 (by decide)
  have hmx : (v g).toInt ≤ ((9223372036854775807 : Int64)).toInt := by have := rng64 (v g); rw [show ((9223372036854775807 : Int64)).toInt = 9223372036854775807 by decide]; omega
  have le : m4.toInt ≤ (v g).toInt := by
    have hg' : g = 0 ∨ g = 1 ∨ g = 2 ∨ g = 3 ∨ g = 4 := by omega
    rcases hg' with rfl | rfl | rfl | rfl | rfl
    · have := q0.2.1 hk; omega
    · have := q1.2.1 hk; omega
    · have := q2.2.1 hk; omega
    · have := q3.2.1 hk; omega
    · have := q4.2.1 hk; omega
  have ge : (v g).toInt ≤ m4.toInt := by
    rcases q4.2.2 with e4 | ⟨x4, e4⟩
    · rw [e4]
      rcases q3.2.2 with e3 | ⟨x3, e3⟩
      · rw [e3]
        rcases q2.2.2 with e2 | ⟨x2, e2⟩
        · rw [e2]
          rcases q1.2.2 with e1 | ⟨x1, e1⟩
          · rw [e1]
            rcases q0.2.2 with e0 | ⟨x0, e0⟩
            · rw [e0]; exact hmx
            · rw [e0]; exact h0 x0
          · rw [e1]; exact h1 x1
        · rw [e2]; exact h2 x2
      · rw [e3]; exact h3 x3
    · rw [e4]; exact h4 x4
  exact Int64.toInt_inj.mp (by omega)
theorem own_id (x : Int32) : 0 ≤ ((x &&& (7 : Int32)) % (5 : Int32)).toInt ∧ ((x &&& (7 : Int32)) % (5 : Int32)).toInt < 5 := by
  have e1 : (x &&& 7).toInt = x.toInt % (2 ^ 3 : Nat) := c_mask x 7 3 (by decide) (by decide)
  have e2 := (c_irem (x &&& 7) 5 5 (by decide)).1 (by omega)
  omega
theorem own_fb (f : Nat) (h : f < 5) : ¬ Int32.ofNat f < (0 : Int32) ∧ ¬ (4 : Int32) < Int32.ofNat f ∧ ¬ Int32.ofNat f < 0 ∧ Int32.ofNat f < (5 : Int32) := by
  rw [Int32.lt_iff_toInt_lt, Int32.lt_iff_toInt_lt, Int32.lt_iff_toInt_lt, own_on f (by omega), show (0 : Int32).toInt = 0 by decide, show (4 : Int32).toInt = 4 by decide, show (5 : Int32).toInt = 5 by decide]; omega
theorem own_ne4 {k g : Nat} (hk : k < 5) (hg : g < 5) (h : ¬ g = k) : ¬ Int32.ofNat k = Int32.ofNat g := fun q => h (own_oni (by omega) (by omega) q).symm
theorem own_m1 (g : Nat) (h : g < 5) : ¬ (-1 : Int32) = Int32.ofNat g := fun q => by have := congrArg Int32.toInt q; rw [own_on g (by omega), show (-1 : Int32).toInt = -1 by decide] at this; omega
theorem own_hmin {n m : Nat} {I : List Int32} {U : List Int64} {S : List Int32} {val : Nat → Int64} {pres : Nat → Prop} (P : own_P n m I U S val pres) (H : own_H n U) (hn : 0 < n) {g : Nat} (hU : U.getD 0 0 = val g) (i : Nat) (hi : pres i) : (val g).toInt ≤ (val i).toInt := by
  obtain ⟨-, a, ha, -, -, hUa⟩ := own_where P i hi
  have q := H a ha
  rw [hU, hUa] at q; exact q
theorem pd_7 : parseMethodDescriptor "()V" = some ⟨[], none⟩ := by decide +kernel
theorem pd_8 : parseMethodDescriptor "(IJ)V" = some ⟨[.int, .long], none⟩ := by decide +kernel
theorem pd_9 : parseMethodDescriptor "([JI)J" = some ⟨[(.array .long), .int], some .long⟩ := by decide +kernel
theorem pd_10 : parseMethodDescriptor "()I" = some ⟨[], some .int⟩ := by decide +kernel
theorem pd_11 : parseMethodDescriptor "()J" = some ⟨[], some .long⟩ := by decide +kernel
theorem ef_0 (m : MethodId) (x0 : Int64) (x1 : Int64) (x2 : Int64) (x3 : Int64) (x4 : Int64) (x5 : Int32)  : entryFrame m #[(.long x0), (.long x1), (.long x2), (.long x3), (.long x4), (.int x5)] maxLocals = mkF m 0 #[.val (.long x0), .second, .val (.long x1), .second, .val (.long x2), .second, .val (.long x3), .second, .val (.long x4), .second, .val (.int x5), .unset, .unset, .unset, .unset, .unset, .unset, .unset, .unset, .unset, .unset, .unset] [] := by first | (simp [entryFrame, mkF, argsToLocals, Value.category, maxLocals]; done) | rfl
def Q0 (Z : State) (x0 : Int64) (x1 : Int64) (x2 : Int64) (x3 : Int64) (x4 : Int64) (x5 : Int32) (h0 : Heap) (n0 : Nat) (vE : Option Value) (hE : Heap) (LE : List Loc) : Prop := vE = some (.int (1 : Int32)) ∧ Fr n0 LE
set_option maxRecDepth 65536 in
set_option maxHeartbeats 40000000 in
theorem rm0 (l : Launch) (Z : State) (a0 : Array Value) (hw : ∀ d ∈ tables_1, d.before a0 Z = true) (ws : List Jvm.Cond) (x0 : Int64) (x1 : Int64) (x2 : Int64) (x3 : Int64) (x4 : Int64) (x5 : Int32) (h0 : Heap) (n0 : Nat) (Z0 : n0 ≤ h0.size) :
    MetFree l x (head1 (Jvm.Cond.code x code maxLocals ret :: ws) room_1) (fun a U => a = #[(.long x0), (.long x1), (.long x2), (.long x3), (.long x4), (.int x5)] ∧ Z.Warmed39 U.vm ∧ U.heap = h0) (fun _ _ _ _ _ => True) (fun _ U o U' => ∃ vE LE, o = .returned vE ∧ Q0 Z x0 x1 x2 x3 x4 x5 h0 n0 vE U'.heap LE ∧ FrameEnd U o U' LE room_1.cells room_1.slots) := by
  refine MetFree.of_bodySF (plainFor_of_name pn_2) hisR ?_
  intro p e s m args below meth c s₁ Bd hml0 hP hK
  obtain ⟨rfl, hZ, hh⟩ := hP
  have hx := Bd.exec
  have hby := Bd.bytes
  have hml : c.maxLocals = 22 := hml0
  have hown : s.vm.findClass "com/example/folioseek/folioseek/UseOrderUpdatePinLaw" = some m.cls := findClass_of_methodNamed Bd.named
  have hnm := (name_of_methodNamed Bd.named Bd.method).1
  have hlk : meth.locks = false := BodyLoose.notSynchronized Bd
  have X0 : Stand p l e room_1 s m #[(.long x0), (.long x1), (.long x2), (.long x3), (.long x4), (.int x5)] below meth c s₁ [] 0 0 := Stand.of_body Bd
  have e0 : s₁.heap = h0 := by rw [← hh, Bd.state]; rfl
  have N0 := Fr.nil n0
  obtain ⟨sE, hsE⟩ : ∃ z, z = (s₁.setTop (entryFrame m #[(.long x0), (.long x1), (.long x2), (.long x3), (.long x4), (.int x5)] maxLocals)) := ⟨_, rfl⟩
  have st0 : Steps p.tables e below sE (s₁.setTop (mkF m 0 #[.val (.long x0), .second, .val (.long x1), .second, .val (.long x2), .second, .val (.long x3), .second, .val (.long x4), .second, .val (.int x5), .unset, .unset, .unset, .unset, .unset, .unset, .unset, .unset, .unset, .unset, .unset] [])) := by rw [hsE]; exact castTop (ef_0 m x0 x1 x2 x3 x4 x5) (Steps.refl _)
  have st1 : Steps p.tables e below sE (s₁.setTop (mkF m 7 #[.val (.long x0), .second, .val (.long x1), .second, .val (.long x2), .second, .val (.long x3), .second, .val (.long x4), .second, .val (.int x5), .unset, .unset, .unset, .unset, .unset, .unset, .unset, .unset, .unset, .unset, .unset] [(.int ((x5 &&& (7 : Int32)) % (5 : Int32)))])) := st0.trans (by
      show Steps _ _ _ (s₁.setTop (mkF m 0 #[.val (.long x0), .second, .val (.long x1), .second, .val (.long x2), .second, .val (.long x3), .second, .val (.long x4), .second, .val (.int x5), .unset, .unset, .unset, .unset, .unset, .unset, .unset, .unset, .unset, .unset, .unset] [])) _
      refine XS.iload X0.here hx rfl (hb hby at_0) rfl ?_
      show Steps _ _ _ (s₁.setTop (mkF m 2 #[.val (.long x0), .second, .val (.long x1), .second, .val (.long x2), .second, .val (.long x3), .second, .val (.long x4), .second, .val (.int x5), .unset, .unset, .unset, .unset, .unset, .unset, .unset, .unset, .unset, .unset, .unset] [(.int x5)])) _
      refine XS.bipush X0.here hx rfl (hb hby at_2) ?_
      show Steps _ _ _ (s₁.setTop (mkF m 4 #[.val (.long x0), .second, .val (.long x1), .second, .val (.long x2), .second, .val (.long x3), .second, .val (.long x4), .second, .val (.int x5), .unset, .unset, .unset, .unset, .unset, .unset, .unset, .unset, .unset, .unset, .unset] [(.int (7 : Int32)), (.int x5)])) _
      refine XS.iand X0.here hx rfl (hb hby at_4) rfl ?_
      show Steps _ _ _ (s₁.setTop (mkF m 5 #[.val (.long x0), .second, .val (.long x1), .second, .val (.long x2), .second, .val (.long x3), .second, .val (.long x4), .second, .val (.int x5), .unset, .unset, .unset, .unset, .unset, .unset, .unset, .unset, .unset, .unset, .unset] [(.int (x5 &&& (7 : Int32)))])) _
      refine XS.iconst X0.here hx rfl (hb hby at_5) ?_
      show Steps _ _ _ (s₁.setTop (mkF m 6 #[.val (.long x0), .second, .val (.long x1), .second, .val (.long x2), .second, .val (.long x3), .second, .val (.long x4), .second, .val (.int x5), .unset, .unset, .unset, .unset, .unset, .unset, .unset, .unset, .unset, .unset, .unset] [(.int (5 : Int32)), (.int (x5 &&& (7 : Int32)))])) _
      refine iremM X0 hx rfl (hb hby at_6) rfl (by decide) ?_
      exact Steps.refl _)
  have hid5 := own_id x5
  obtain ⟨idk, e_idk⟩ : ∃ z, z = ((x5 &&& (7 : Int32)) % (5 : Int32)) := ⟨_, rfl⟩
  rw [← e_idk] at st1
  rw [show (x5 &&& (7 : Int32)) % (5 : Int32) = idk from e_idk.symm] at hid5
  obtain ⟨idn, eidn⟩ : ∃ z, z = idk.toNatClampNeg := ⟨_, rfl⟩
  have hidn : idk = Int32.ofNat idn := by rw [eidn]; exact (own_ofn idk hid5.1).symm
  have hidn5 : idn < 5 := by rw [eidn]; exact own_nb idk 5 hid5
  have st2 : Steps p.tables e below sE (s₁.setTop (mkF m 14 #[.val (.long x0), .second, .val (.long x1), .second, .val (.long x2), .second, .val (.long x3), .second, .val (.long x4), .second, .val (.int x5), .val (.int idk), .unset, .unset, .unset, .unset, .unset, .unset, .unset, .unset, .unset, .unset] [(.long ((x5 >>> ((3 : Int32) &&& 31)).toInt64))])) := st1.trans (by
      show Steps _ _ _ (s₁.setTop (mkF m 7 #[.val (.long x0), .second, .val (.long x1), .second, .val (.long x2), .second, .val (.long x3), .second, .val (.long x4), .second, .val (.int x5), .unset, .unset, .unset, .unset, .unset, .unset, .unset, .unset, .unset, .unset, .unset] [(.int idk)])) _
      refine XS.istore X0.here hx rfl (hb hby at_7) rfl (l' := #[.val (.long x0), .second, .val (.long x1), .second, .val (.long x2), .second, .val (.long x3), .second, .val (.long x4), .second, .val (.int x5), .val (.int idk), .unset, .unset, .unset, .unset, .unset, .unset, .unset, .unset, .unset, .unset]) rfl ?_
      show Steps _ _ _ (s₁.setTop (mkF m 9 #[.val (.long x0), .second, .val (.long x1), .second, .val (.long x2), .second, .val (.long x3), .second, .val (.long x4), .second, .val (.int x5), .val (.int idk), .unset, .unset, .unset, .unset, .unset, .unset, .unset, .unset, .unset, .unset] [])) _
      refine XS.iload X0.here hx rfl (hb hby at_9) rfl ?_
      show Steps _ _ _ (s₁.setTop (mkF m 11 #[.val (.long x0), .second, .val (.long x1), .second, .val (.long x2), .second, .val (.long x3), .second, .val (.long x4), .second, .val (.int x5), .val (.int idk), .unset, .unset, .unset, .unset, .unset, .unset, .unset, .unset, .unset, .unset] [(.int x5)])) _
      refine XS.iconst X0.here hx rfl (hb hby at_11) ?_
      show Steps _ _ _ (s₁.setTop (mkF m 12 #[.val (.long x0), .second, .val (.long x1), .second, .val (.long x2), .second, .val (.long x3), .second, .val (.long x4), .second, .val (.int x5), .val (.int idk), .unset, .unset, .unset, .unset, .unset, .unset, .unset, .unset, .unset, .unset] [(.int (3 : Int32)), (.int x5)])) _
      refine XS.ishr X0.here hx rfl (hb hby at_12) rfl ?_
      show Steps _ _ _ (s₁.setTop (mkF m 13 #[.val (.long x0), .second, .val (.long x1), .second, .val (.long x2), .second, .val (.long x3), .second, .val (.long x4), .second, .val (.int x5), .val (.int idk), .unset, .unset, .unset, .unset, .unset, .unset, .unset, .unset, .unset, .unset] [(.int (x5 >>> ((3 : Int32) &&& 31)))])) _
      refine XS.i2l X0.here hx rfl (hb hby at_13) rfl ?_
      exact Steps.refl _)
  obtain ⟨ev, e_ev⟩ : ∃ z, z = ((x5 >>> ((3 : Int32) &&& 31)).toInt64) := ⟨_, rfl⟩
  rw [← e_ev] at st2
  have st3 : Steps p.tables e below sE (s₁.setTop (mkF m 17 #[.val (.long x0), .second, .val (.long x1), .second, .val (.long x2), .second, .val (.long x3), .second, .val (.long x4), .second, .val (.int x5), .val (.int idk), .val (.long ev), .second, .unset, .unset, .unset, .unset, .unset, .unset, .unset, .unset] [(.int (5 : Int32))])) := st2.trans (by
      show Steps _ _ _ (s₁.setTop (mkF m 14 #[.val (.long x0), .second, .val (.long x1), .second, .val (.long x2), .second, .val (.long x3), .second, .val (.long x4), .second, .val (.int x5), .val (.int idk), .unset, .unset, .unset, .unset, .unset, .unset, .unset, .unset, .unset, .unset] [(.long ev)])) _
      refine XS.lstore X0.here hx rfl (hb hby at_14) rfl (l' := #[.val (.long x0), .second, .val (.long x1), .second, .val (.long x2), .second, .val (.long x3), .second, .val (.long x4), .second, .val (.int x5), .val (.int idk), .val (.long ev), .second, .unset, .unset, .unset, .unset, .unset, .unset, .unset, .unset]) rfl ?_
      show Steps _ _ _ (s₁.setTop (mkF m 16 #[.val (.long x0), .second, .val (.long x1), .second, .val (.long x2), .second, .val (.long x3), .second, .val (.long x4), .second, .val (.int x5), .val (.int idk), .val (.long ev), .second, .unset, .unset, .unset, .unset, .unset, .unset, .unset, .unset] [])) _
      refine XS.iconst X0.here hx rfl (hb hby at_16) ?_
      exact Steps.refl _)
  obtain ⟨T4, h4, k4, X4, e4, E4, A4, sr4⟩ := newP X0 hx hZ (hw _ (List.mem_of_getElem? (i := 0) rfl)) e0 (g := (mkF m 17 #[.val (.long x0), .second, .val (.long x1), .second, .val (.long x2), .second, .val (.long x3), .second, .val (.long x4), .second, .val (.int x5), .val (.int idk), .val (.long ev), .second, .unset, .unset, .unset, .unset, .unset, .unset, .unset, .unset] [(.int (5 : Int32))])) rfl (hb hby at_17) rfl (by decide) (cap := 5) (by decide) (by decide) (by decide) (by decide)
  obtain ⟨b4, g4⟩ : ∃ z, z = h0.size := ⟨_, rfl⟩
  rw [← g4] at A4 sr4
  have g_b4 : n0 ≤ b4 := Nat.le_trans Z0 (Nat.le_of_eq g4.symm)
  have f5 : Arv Z h4 b4 k4 .long (5 : Int32) [(.long (0 : Int64)), (.long (0 : Int64)), (.long (0 : Int64)), (.long (0 : Int64)), (.long (0 : Int64))] (.long (0 : Int64)) := (Arv.new A4 (by decide)).pad (pad_rep [] (.long (0 : Int64)) 5)
  have Z4 : n0 ≤ h4.size := Nat.le_trans Z0 E4.1
  have st6 : Steps p.tables e below sE (T4.setTop (mkF m 19 #[.val (.long x0), .second, .val (.long x1), .second, .val (.long x2), .second, .val (.long x3), .second, .val (.long x4), .second, .val (.int x5), .val (.int idk), .val (.long ev), .second, .unset, .unset, .unset, .unset, .unset, .unset, .unset, .unset] [(.ref b4)])) := st3.trans (sr4 _ (Steps.refl _))
  have st7 : Steps p.tables e below sE (T4.setTop (mkF m 25 #[.val (.long x0), .second, .val (.long x1), .second, .val (.long x2), .second, .val (.long x3), .second, .val (.long x4), .second, .val (.int x5), .val (.int idk), .val (.long ev), .second, .val (.ref b4), .unset, .unset, .unset, .unset, .unset, .unset, .unset] [(.long x0), (.int (0 : Int32)), (.ref b4)])) := st6.trans (by
      show Steps _ _ _ (T4.setTop (mkF m 19 #[.val (.long x0), .second, .val (.long x1), .second, .val (.long x2), .second, .val (.long x3), .second, .val (.long x4), .second, .val (.int x5), .val (.int idk), .val (.long ev), .second, .unset, .unset, .unset, .unset, .unset, .unset, .unset, .unset] [(.ref b4)])) _
      refine XS.astore X4.here hx rfl (hb hby at_19) rfl rfl (l' := #[.val (.long x0), .second, .val (.long x1), .second, .val (.long x2), .second, .val (.long x3), .second, .val (.long x4), .second, .val (.int x5), .val (.int idk), .val (.long ev), .second, .val (.ref b4), .unset, .unset, .unset, .unset, .unset, .unset, .unset]) rfl ?_
      show Steps _ _ _ (T4.setTop (mkF m 21 #[.val (.long x0), .second, .val (.long x1), .second, .val (.long x2), .second, .val (.long x3), .second, .val (.long x4), .second, .val (.int x5), .val (.int idk), .val (.long ev), .second, .val (.ref b4), .unset, .unset, .unset, .unset, .unset, .unset, .unset] [])) _
      refine XS.aload X4.here hx rfl (hb hby at_21) rfl rfl ?_
      show Steps _ _ _ (T4.setTop (mkF m 23 #[.val (.long x0), .second, .val (.long x1), .second, .val (.long x2), .second, .val (.long x3), .second, .val (.long x4), .second, .val (.int x5), .val (.int idk), .val (.long ev), .second, .val (.ref b4), .unset, .unset, .unset, .unset, .unset, .unset, .unset] [(.ref b4)])) _
      refine XS.iconst X4.here hx rfl (hb hby at_23) ?_
      show Steps _ _ _ (T4.setTop (mkF m 24 #[.val (.long x0), .second, .val (.long x1), .second, .val (.long x2), .second, .val (.long x3), .second, .val (.long x4), .second, .val (.int x5), .val (.int idk), .val (.long ev), .second, .val (.ref b4), .unset, .unset, .unset, .unset, .unset, .unset, .unset] [(.int (0 : Int32)), (.ref b4)])) _
      refine XS.lloadN X4.here hx rfl (hb hby at_24) rfl ?_
      exact Steps.refl _)
  obtain ⟨cl8, Ar8, q8, S8, N8, H8, G8⟩ := id f5
  have hin8 : ¬ ((0 : Int32) < 0 ∨ cl8.slots.size ≤ ((0 : Int32)).toNatClampNeg) := inb_of S8 ⟨by decide, by decide⟩
  obtain ⟨T9, h9, X9, e9, W9, sr9⟩ := stJ X4 hx hZ e4 Ar8 (j := (0 : Int32)) hin8 (g := (mkF m 25 #[.val (.long x0), .second, .val (.long x1), .second, .val (.long x2), .second, .val (.long x3), .second, .val (.long x4), .second, .val (.int x5), .val (.int idk), .val (.long ev), .second, .val (.ref b4), .unset, .unset, .unset, .unset, .unset, .unset, .unset] [(.long x0), (.int (0 : Int32)), (.ref b4)])) rfl rfl (hb hby at_25)
  have f10 : Arv Z h9 b4 k4 .long (5 : Int32) [(.long x0), (.long (0 : Int64)), (.long (0 : Int64)), (.long (0 : Int64)), (.long (0 : Int64))] (.long (0 : Int64)) := Arv.set Ar8 q8 S8 N8 H8 G8 rfl W9 0 rfl (Nat.le_of_ble_eq_true rfl)
  have Z9 : n0 ≤ h9.size := Nat.le_trans Z4 (Keep.of_wr W9).1
  have N9 := Fr.snoc X9 N0 g_b4
  obtain ⟨LL9, X9, N9⟩ := own_hide X9 N9
  have st11 : Steps p.tables e below sE (T9.setTop (mkF m 26 #[.val (.long x0), .second, .val (.long x1), .second, .val (.long x2), .second, .val (.long x3), .second, .val (.long x4), .second, .val (.int x5), .val (.int idk), .val (.long ev), .second, .val (.ref b4), .unset, .unset, .unset, .unset, .unset, .unset, .unset] [])) := st7.trans (sr9 _ (Steps.refl _))
  have st12 : Steps p.tables e below sE (T9.setTop (mkF m 30 #[.val (.long x0), .second, .val (.long x1), .second, .val (.long x2), .second, .val (.long x3), .second, .val (.long x4), .second, .val (.int x5), .val (.int idk), .val (.long ev), .second, .val (.ref b4), .unset, .unset, .unset, .unset, .unset, .unset, .unset] [(.long x1), (.int (1 : Int32)), (.ref b4)])) := st11.trans (by
      show Steps _ _ _ (T9.setTop (mkF m 26 #[.val (.long x0), .second, .val (.long x1), .second, .val (.long x2), .second, .val (.long x3), .second, .val (.long x4), .second, .val (.int x5), .val (.int idk), .val (.long ev), .second, .val (.ref b4), .unset, .unset, .unset, .unset, .unset, .unset, .unset] [])) _
      refine XS.aload X9.here hx rfl (hb hby at_26) rfl rfl ?_
      show Steps _ _ _ (T9.setTop (mkF m 28 #[.val (.long x0), .second, .val (.long x1), .second, .val (.long x2), .second, .val (.long x3), .second, .val (.long x4), .second, .val (.int x5), .val (.int idk), .val (.long ev), .second, .val (.ref b4), .unset, .unset, .unset, .unset, .unset, .unset, .unset] [(.ref b4)])) _
      refine XS.iconst X9.here hx rfl (hb hby at_28) ?_
      show Steps _ _ _ (T9.setTop (mkF m 29 #[.val (.long x0), .second, .val (.long x1), .second, .val (.long x2), .second, .val (.long x3), .second, .val (.long x4), .second, .val (.int x5), .val (.int idk), .val (.long ev), .second, .val (.ref b4), .unset, .unset, .unset, .unset, .unset, .unset, .unset] [(.int (1 : Int32)), (.ref b4)])) _
      refine XS.lloadN X9.here hx rfl (hb hby at_29) rfl ?_
      exact Steps.refl _)
  obtain ⟨cl13, Ar13, q13, S13, N13, H13, G13⟩ := id f10
  have hin13 : ¬ ((1 : Int32) < 0 ∨ cl13.slots.size ≤ ((1 : Int32)).toNatClampNeg) := inb_of S13 ⟨by decide, by decide⟩
  obtain ⟨T14, h14, X14, e14, W14, sr14⟩ := stJ X9 hx hZ e9 Ar13 (j := (1 : Int32)) hin13 (g := (mkF m 30 #[.val (.long x0), .second, .val (.long x1), .second, .val (.long x2), .second, .val (.long x3), .second, .val (.long x4), .second, .val (.int x5), .val (.int idk), .val (.long ev), .second, .val (.ref b4), .unset, .unset, .unset, .unset, .unset, .unset, .unset] [(.long x1), (.int (1 : Int32)), (.ref b4)])) rfl rfl (hb hby at_30)
  have f15 : Arv Z h14 b4 k4 .long (5 : Int32) [(.long x0), (.long x1), (.long (0 : Int64)), (.long (0 : Int64)), (.long (0 : Int64))] (.long (0 : Int64)) := Arv.set Ar13 q13 S13 N13 H13 G13 rfl W14 1 rfl (Nat.le_of_ble_eq_true rfl)
  have Z14 : n0 ≤ h14.size := Nat.le_trans Z9 (Keep.of_wr W14).1
  have N14 := Fr.snoc X14 N9 g_b4
  obtain ⟨LL14, X14, N14⟩ := own_hide X14 N14
  have st16 : Steps p.tables e below sE (T14.setTop (mkF m 31 #[.val (.long x0), .second, .val (.long x1), .second, .val (.long x2), .second, .val (.long x3), .second, .val (.long x4), .second, .val (.int x5), .val (.int idk), .val (.long ev), .second, .val (.ref b4), .unset, .unset, .unset, .unset, .unset, .unset, .unset] [])) := st12.trans (sr14 _ (Steps.refl _))
  have st17 : Steps p.tables e below sE (T14.setTop (mkF m 36 #[.val (.long x0), .second, .val (.long x1), .second, .val (.long x2), .second, .val (.long x3), .second, .val (.long x4), .second, .val (.int x5), .val (.int idk), .val (.long ev), .second, .val (.ref b4), .unset, .unset, .unset, .unset, .unset, .unset, .unset] [(.long x2), (.int (2 : Int32)), (.ref b4)])) := st16.trans (by
      show Steps _ _ _ (T14.setTop (mkF m 31 #[.val (.long x0), .second, .val (.long x1), .second, .val (.long x2), .second, .val (.long x3), .second, .val (.long x4), .second, .val (.int x5), .val (.int idk), .val (.long ev), .second, .val (.ref b4), .unset, .unset, .unset, .unset, .unset, .unset, .unset] [])) _
      refine XS.aload X14.here hx rfl (hb hby at_31) rfl rfl ?_
      show Steps _ _ _ (T14.setTop (mkF m 33 #[.val (.long x0), .second, .val (.long x1), .second, .val (.long x2), .second, .val (.long x3), .second, .val (.long x4), .second, .val (.int x5), .val (.int idk), .val (.long ev), .second, .val (.ref b4), .unset, .unset, .unset, .unset, .unset, .unset, .unset] [(.ref b4)])) _
      refine XS.iconst X14.here hx rfl (hb hby at_33) ?_
      show Steps _ _ _ (T14.setTop (mkF m 34 #[.val (.long x0), .second, .val (.long x1), .second, .val (.long x2), .second, .val (.long x3), .second, .val (.long x4), .second, .val (.int x5), .val (.int idk), .val (.long ev), .second, .val (.ref b4), .unset, .unset, .unset, .unset, .unset, .unset, .unset] [(.int (2 : Int32)), (.ref b4)])) _
      refine XS.lload X14.here hx rfl (hb hby at_34) rfl ?_
      exact Steps.refl _)
  obtain ⟨cl18, Ar18, q18, S18, N18, H18, G18⟩ := id f15
  have hin18 : ¬ ((2 : Int32) < 0 ∨ cl18.slots.size ≤ ((2 : Int32)).toNatClampNeg) := inb_of S18 ⟨by decide, by decide⟩
  obtain ⟨T19, h19, X19, e19, W19, sr19⟩ := stJ X14 hx hZ e14 Ar18 (j := (2 : Int32)) hin18 (g := (mkF m 36 #[.val (.long x0), .second, .val (.long x1), .second, .val (.long x2), .second, .val (.long x3), .second, .val (.long x4), .second, .val (.int x5), .val (.int idk), .val (.long ev), .second, .val (.ref b4), .unset, .unset, .unset, .unset, .unset, .unset, .unset] [(.long x2), (.int (2 : Int32)), (.ref b4)])) rfl rfl (hb hby at_36)
  have f20 : Arv Z h19 b4 k4 .long (5 : Int32) [(.long x0), (.long x1), (.long x2), (.long (0 : Int64)), (.long (0 : Int64))] (.long (0 : Int64)) := Arv.set Ar18 q18 S18 N18 H18 G18 rfl W19 2 rfl (Nat.le_of_ble_eq_true rfl)
  have Z19 : n0 ≤ h19.size := Nat.le_trans Z14 (Keep.of_wr W19).1
  have N19 := Fr.snoc X19 N14 g_b4
  obtain ⟨LL19, X19, N19⟩ := own_hide X19 N19
  have st21 : Steps p.tables e below sE (T19.setTop (mkF m 37 #[.val (.long x0), .second, .val (.long x1), .second, .val (.long x2), .second, .val (.long x3), .second, .val (.long x4), .second, .val (.int x5), .val (.int idk), .val (.long ev), .second, .val (.ref b4), .unset, .unset, .unset, .unset, .unset, .unset, .unset] [])) := st17.trans (sr19 _ (Steps.refl _))
  have st22 : Steps p.tables e below sE (T19.setTop (mkF m 42 #[.val (.long x0), .second, .val (.long x1), .second, .val (.long x2), .second, .val (.long x3), .second, .val (.long x4), .second, .val (.int x5), .val (.int idk), .val (.long ev), .second, .val (.ref b4), .unset, .unset, .unset, .unset, .unset, .unset, .unset] [(.long x3), (.int (3 : Int32)), (.ref b4)])) := st21.trans (by
      show Steps _ _ _ (T19.setTop (mkF m 37 #[.val (.long x0), .second, .val (.long x1), .second, .val (.long x2), .second, .val (.long x3), .second, .val (.long x4), .second, .val (.int x5), .val (.int idk), .val (.long ev), .second, .val (.ref b4), .unset, .unset, .unset, .unset, .unset, .unset, .unset] [])) _
      refine XS.aload X19.here hx rfl (hb hby at_37) rfl rfl ?_
      show Steps _ _ _ (T19.setTop (mkF m 39 #[.val (.long x0), .second, .val (.long x1), .second, .val (.long x2), .second, .val (.long x3), .second, .val (.long x4), .second, .val (.int x5), .val (.int idk), .val (.long ev), .second, .val (.ref b4), .unset, .unset, .unset, .unset, .unset, .unset, .unset] [(.ref b4)])) _
      refine XS.iconst X19.here hx rfl (hb hby at_39) ?_
      show Steps _ _ _ (T19.setTop (mkF m 40 #[.val (.long x0), .second, .val (.long x1), .second, .val (.long x2), .second, .val (.long x3), .second, .val (.long x4), .second, .val (.int x5), .val (.int idk), .val (.long ev), .second, .val (.ref b4), .unset, .unset, .unset, .unset, .unset, .unset, .unset] [(.int (3 : Int32)), (.ref b4)])) _
      refine XS.lload X19.here hx rfl (hb hby at_40) rfl ?_
      exact Steps.refl _)
  obtain ⟨cl23, Ar23, q23, S23, N23, H23, G23⟩ := id f20
  have hin23 : ¬ ((3 : Int32) < 0 ∨ cl23.slots.size ≤ ((3 : Int32)).toNatClampNeg) := inb_of S23 ⟨by decide, by decide⟩
  obtain ⟨T24, h24, X24, e24, W24, sr24⟩ := stJ X19 hx hZ e19 Ar23 (j := (3 : Int32)) hin23 (g := (mkF m 42 #[.val (.long x0), .second, .val (.long x1), .second, .val (.long x2), .second, .val (.long x3), .second, .val (.long x4), .second, .val (.int x5), .val (.int idk), .val (.long ev), .second, .val (.ref b4), .unset, .unset, .unset, .unset, .unset, .unset, .unset] [(.long x3), (.int (3 : Int32)), (.ref b4)])) rfl rfl (hb hby at_42)
  have f25 : Arv Z h24 b4 k4 .long (5 : Int32) [(.long x0), (.long x1), (.long x2), (.long x3), (.long (0 : Int64))] (.long (0 : Int64)) := Arv.set Ar23 q23 S23 N23 H23 G23 rfl W24 3 rfl (Nat.le_of_ble_eq_true rfl)
  have Z24 : n0 ≤ h24.size := Nat.le_trans Z19 (Keep.of_wr W24).1
  have N24 := Fr.snoc X24 N19 g_b4
  obtain ⟨LL24, X24, N24⟩ := own_hide X24 N24
  have st26 : Steps p.tables e below sE (T24.setTop (mkF m 43 #[.val (.long x0), .second, .val (.long x1), .second, .val (.long x2), .second, .val (.long x3), .second, .val (.long x4), .second, .val (.int x5), .val (.int idk), .val (.long ev), .second, .val (.ref b4), .unset, .unset, .unset, .unset, .unset, .unset, .unset] [])) := st22.trans (sr24 _ (Steps.refl _))
  have st27 : Steps p.tables e below sE (T24.setTop (mkF m 48 #[.val (.long x0), .second, .val (.long x1), .second, .val (.long x2), .second, .val (.long x3), .second, .val (.long x4), .second, .val (.int x5), .val (.int idk), .val (.long ev), .second, .val (.ref b4), .unset, .unset, .unset, .unset, .unset, .unset, .unset] [(.long ev), (.int (4 : Int32)), (.ref b4)])) := st26.trans (by
      show Steps _ _ _ (T24.setTop (mkF m 43 #[.val (.long x0), .second, .val (.long x1), .second, .val (.long x2), .second, .val (.long x3), .second, .val (.long x4), .second, .val (.int x5), .val (.int idk), .val (.long ev), .second, .val (.ref b4), .unset, .unset, .unset, .unset, .unset, .unset, .unset] [])) _
      refine XS.aload X24.here hx rfl (hb hby at_43) rfl rfl ?_
      show Steps _ _ _ (T24.setTop (mkF m 45 #[.val (.long x0), .second, .val (.long x1), .second, .val (.long x2), .second, .val (.long x3), .second, .val (.long x4), .second, .val (.int x5), .val (.int idk), .val (.long ev), .second, .val (.ref b4), .unset, .unset, .unset, .unset, .unset, .unset, .unset] [(.ref b4)])) _
      refine XS.iconst X24.here hx rfl (hb hby at_45) ?_
      show Steps _ _ _ (T24.setTop (mkF m 46 #[.val (.long x0), .second, .val (.long x1), .second, .val (.long x2), .second, .val (.long x3), .second, .val (.long x4), .second, .val (.int x5), .val (.int idk), .val (.long ev), .second, .val (.ref b4), .unset, .unset, .unset, .unset, .unset, .unset, .unset] [(.int (4 : Int32)), (.ref b4)])) _
      refine XS.lload X24.here hx rfl (hb hby at_46) rfl ?_
      exact Steps.refl _)
  obtain ⟨cl28, Ar28, q28, S28, N28, H28, G28⟩ := id f25
  have hin28 : ¬ ((4 : Int32) < 0 ∨ cl28.slots.size ≤ ((4 : Int32)).toNatClampNeg) := inb_of S28 ⟨by decide, by decide⟩
  obtain ⟨T29, h29, X29, e29, W29, sr29⟩ := stJ X24 hx hZ e24 Ar28 (j := (4 : Int32)) hin28 (g := (mkF m 48 #[.val (.long x0), .second, .val (.long x1), .second, .val (.long x2), .second, .val (.long x3), .second, .val (.long x4), .second, .val (.int x5), .val (.int idk), .val (.long ev), .second, .val (.ref b4), .unset, .unset, .unset, .unset, .unset, .unset, .unset] [(.long ev), (.int (4 : Int32)), (.ref b4)])) rfl rfl (hb hby at_48)
  have f30 : Arv Z h29 b4 k4 .long (5 : Int32) [(.long x0), (.long x1), (.long x2), (.long x3), (.long ev)] (.long (0 : Int64)) := Arv.set Ar28 q28 S28 N28 H28 G28 rfl W29 4 rfl (Nat.le_of_ble_eq_true rfl)
  have Z29 : n0 ≤ h29.size := Nat.le_trans Z24 (Keep.of_wr W29).1
  have N29 := Fr.snoc X29 N24 g_b4
  obtain ⟨LL29, X29, N29⟩ := own_hide X29 N29
  have st31 : Steps p.tables e below sE (T29.setTop (mkF m 49 #[.val (.long x0), .second, .val (.long x1), .second, .val (.long x2), .second, .val (.long x3), .second, .val (.long x4), .second, .val (.int x5), .val (.int idk), .val (.long ev), .second, .val (.ref b4), .unset, .unset, .unset, .unset, .unset, .unset, .unset] [])) := st27.trans (sr29 _ (Steps.refl _))
  obtain ⟨T32, h32, X32, e32, E32, A32, D32, -, sr32⟩ := newO X29 hx hZ hown (hw _ (List.mem_of_getElem? (i := 1) rfl)) (hw _ (List.mem_of_getElem? (i := 2) rfl)) (hw _ (List.mem_of_getElem? (i := 3) rfl)) e29 (g := (mkF m 49 #[.val (.long x0), .second, .val (.long x1), .second, .val (.long x2), .second, .val (.long x3), .second, .val (.long x4), .second, .val (.int x5), .val (.int idk), .val (.long ev), .second, .val (.ref b4), .unset, .unset, .unset, .unset, .unset, .unset, .unset] [])) rfl (hb hby at_49) (by decide) (by decide)
  obtain ⟨b32, g32⟩ : ∃ z, z = h29.size := ⟨_, rfl⟩
  rw [← g32] at A32 D32 sr32
  have g_b32 : n0 ≤ b32 := Nat.le_trans Z29 (Nat.le_of_eq g32.symm)
  have ne_b4_b32 : b4 ≠ b32 := Nat.ne_of_lt (Nat.lt_of_lt_of_le f30.lt (Nat.le_of_eq g32.symm))
  have f33 : Arv Z h32 b4 k4 .long (5 : Int32) [(.long x0), (.long x1), (.long x2), (.long x3), (.long ev)] (.long (0 : Int64)) := f30.ext E32
  have f34 : Fld Z h32 b32 "com/example/folioseek/folioseek/UseOrder" "ids" "[I" .null := D32 (Or.inl (hw _ (List.mem_of_getElem? (i := 12) rfl))) (ty := (.array .int)) (by decide)
  have f35 : Fld Z h32 b32 "com/example/folioseek/folioseek/UseOrder" "uses" "[J" .null := D32 (Or.inl (hw _ (List.mem_of_getElem? (i := 14) rfl))) (ty := (.array .long)) (by decide)
  have f36 : Fld Z h32 b32 "com/example/folioseek/folioseek/UseOrder" "slots" "[I" .null := D32 (Or.inl (hw _ (List.mem_of_getElem? (i := 16) rfl))) (ty := (.array .int)) (by decide)
  have f37 : Fld Z h32 b32 "com/example/folioseek/folioseek/UseOrder" "size" "I" (.int (0 : Int32)) := D32 (Or.inl (hw _ (List.mem_of_getElem? (i := 23) rfl))) (ty := .int) (by decide)
  have Z32 : n0 ≤ h32.size := Nat.le_trans Z29 E32.1
  have st38 : Steps p.tables e below sE (T32.setTop (mkF m 52 #[.val (.long x0), .second, .val (.long x1), .second, .val (.long x2), .second, .val (.long x3), .second, .val (.long x4), .second, .val (.int x5), .val (.int idk), .val (.long ev), .second, .val (.ref b4), .unset, .unset, .unset, .unset, .unset, .unset, .unset] [(.ref b32)])) := st31.trans (sr32 _ (Steps.refl _))
  have st39 : Steps p.tables e below sE (T32.setTop (mkF m 53 #[.val (.long x0), .second, .val (.long x1), .second, .val (.long x2), .second, .val (.long x3), .second, .val (.long x4), .second, .val (.int x5), .val (.int idk), .val (.long ev), .second, .val (.ref b4), .unset, .unset, .unset, .unset, .unset, .unset, .unset] [(.ref b32), (.ref b32)])) := st38.trans (by
      show Steps _ _ _ (T32.setTop (mkF m 52 #[.val (.long x0), .second, .val (.long x1), .second, .val (.long x2), .second, .val (.long x3), .second, .val (.long x4), .second, .val (.int x5), .val (.int idk), .val (.long ev), .second, .val (.ref b4), .unset, .unset, .unset, .unset, .unset, .unset, .unset] [(.ref b32)])) _
      refine XS.dup X32.here hx rfl (hb hby at_52) rfl rfl ?_
      exact Steps.refl _)
  obtain ⟨_, _, ⟨T40, L40, k40, n40⟩, -, X40, ⟨Lc40, hQ40, l40, y40, z40⟩, sr40⟩ := X32.specialBack hx (y := (⟨"com/example/folioseek/folioseek/UseOrder", "<init>", "()V"⟩ : MethodName)) rfl hown (mvT hZ (hw _ (List.mem_of_getElem? (i := 4) rfl))) (mvT hZ (hw _ (List.mem_of_getElem? (i := 5) rfl))) (mvT hZ (hw _ (List.mem_of_getElem? (i := 6) rfl))) (by decide) (backOf (W := 1) (rm1 l Z a0 hw [] b32  h32 n0 Z32 A32 f34 f35 f36 f37 g_b32) hZ (hw _ (List.mem_of_getElem? (i := 6) rfl)) (hw _ (List.mem_of_getElem? (i := 3) rfl)) (by decide) (by decide)) (g := (mkF m 53 #[.val (.long x0), .second, .val (.long x1), .second, .val (.long x2), .second, .val (.long x3), .second, .val (.long x4), .second, .val (.int x5), .val (.int idk), .val (.long ev), .second, .val (.ref b4), .unset, .unset, .unset, .unset, .unset, .unset, .unset] [(.ref b32), (.ref b32)])) rfl (by rw [hml]; rfl) (Steps.refl _) (a := b32) (argsL := []) (rest := [(.ref b32)]) (lenOf pd_7 rfl) rfl (by show 2 * 0 + _ ≤ _; exact Nat.le_of_eq rfl) (hb hby at_53) (fun _ _ => ⟨rfl, e32, (by decide : 2 + 3 ≤ _), (by decide : 9 + 32 ≤ _)⟩)
  dsimp only [Pt.U, Pt.locs, Pt.cells, Pt.slots] at X40 l40 y40 z40 sr40 hQ40
  subst l40 y40 z40
  obtain ⟨rfl, N40q, K40c, f40_0, f40_1, ⟨aI, aU, aS, kI, kU, kS, qi, qu, qs, qai, qau, qas, gai, gau, gas, nau, nas, nus, nxi, nxu, nxs, szi, szu, szs⟩⟩ := hQ40
  have N40 := Fr.app N29 N40q
  obtain ⟨LL40, X40, N40⟩ := own_hide X40 N40
  have f41 : Arv Z T40.heap b4 k4 .long (5 : Int32) [(.long x0), (.long x1), (.long x2), (.long x3), (.long ev)] (.long (0 : Int64)) := f33.keep K40c (ninS ne_b4_b32 nin0)
  have f42 : Exa Z T40.heap b32 "com/example/folioseek/folioseek/UseOrder" := A32.keep K40c
  have Z43 : n0 ≤ T40.heap.size := Nat.le_trans Z32 K40c.1
  have ne_s_aI : b4 ≠ aI := Nat.ne_of_lt (Nat.lt_of_lt_of_le f33.lt szi)
  have ne_s_aU : b4 ≠ aU := Nat.ne_of_lt (Nat.lt_of_lt_of_le f33.lt szu)
  have ne_s_aS : b4 ≠ aS := Nat.ne_of_lt (Nat.lt_of_lt_of_le f33.lt szs)
  have st44 : Steps p.tables e below sE (T40.setTop (mkF m 56 #[.val (.long x0), .second, .val (.long x1), .second, .val (.long x2), .second, .val (.long x3), .second, .val (.long x4), .second, .val (.int x5), .val (.int idk), .val (.long ev), .second, .val (.ref b4), .unset, .unset, .unset, .unset, .unset, .unset, .unset] [(.ref b32)])) := st39.trans (sr40)
  have st45 : Steps p.tables e below sE (T40.setTop (mkF m 62 #[.val (.long x0), .second, .val (.long x1), .second, .val (.long x2), .second, .val (.long x3), .second, .val (.long x4), .second, .val (.int x5), .val (.int idk), .val (.long ev), .second, .val (.ref b4), .val (.ref b32), .unset, .unset, .unset, .unset, .unset, .unset] [(.long x0), (.int (0 : Int32)), (.ref b32)])) := st44.trans (by
      show Steps _ _ _ (T40.setTop (mkF m 56 #[.val (.long x0), .second, .val (.long x1), .second, .val (.long x2), .second, .val (.long x3), .second, .val (.long x4), .second, .val (.int x5), .val (.int idk), .val (.long ev), .second, .val (.ref b4), .unset, .unset, .unset, .unset, .unset, .unset, .unset] [(.ref b32)])) _
      refine XS.astore X40.here hx rfl (hb hby at_56) rfl rfl (l' := #[.val (.long x0), .second, .val (.long x1), .second, .val (.long x2), .second, .val (.long x3), .second, .val (.long x4), .second, .val (.int x5), .val (.int idk), .val (.long ev), .second, .val (.ref b4), .val (.ref b32), .unset, .unset, .unset, .unset, .unset, .unset]) rfl ?_
      show Steps _ _ _ (T40.setTop (mkF m 58 #[.val (.long x0), .second, .val (.long x1), .second, .val (.long x2), .second, .val (.long x3), .second, .val (.long x4), .second, .val (.int x5), .val (.int idk), .val (.long ev), .second, .val (.ref b4), .val (.ref b32), .unset, .unset, .unset, .unset, .unset, .unset] [])) _
      refine XS.aload X40.here hx rfl (hb hby at_58) rfl rfl ?_
      show Steps _ _ _ (T40.setTop (mkF m 60 #[.val (.long x0), .second, .val (.long x1), .second, .val (.long x2), .second, .val (.long x3), .second, .val (.long x4), .second, .val (.int x5), .val (.int idk), .val (.long ev), .second, .val (.ref b4), .val (.ref b32), .unset, .unset, .unset, .unset, .unset, .unset] [(.ref b32)])) _
      refine XS.iconst X40.here hx rfl (hb hby at_60) ?_
      show Steps _ _ _ (T40.setTop (mkF m 61 #[.val (.long x0), .second, .val (.long x1), .second, .val (.long x2), .second, .val (.long x3), .second, .val (.long x4), .second, .val (.int x5), .val (.int idk), .val (.long ev), .second, .val (.ref b4), .val (.ref b32), .unset, .unset, .unset, .unset, .unset, .unset] [(.int (0 : Int32)), (.ref b32)])) _
      refine XS.lloadN X40.here hx rfl (hb hby at_61) rfl ?_
      exact Steps.refl _)
  obtain ⟨cq46, kq46, q46a, q46b, q46c⟩ := isOf hZ rfl f40_0
  obtain ⟨_, _, ⟨T46, L46, k46, n46⟩, -, X46, ⟨Lc46, hQ46, l46, y46, z46⟩, sr46⟩ := X40.virtualBack hx (y := (⟨"com/example/folioseek/folioseek/UseOrder", "add", "(IJ)V"⟩ : MethodName)) (z := (⟨"com/example/folioseek/folioseek/UseOrder", "add", "(IJ)V"⟩ : MethodName)) hown (mvT hZ (hw _ (List.mem_of_getElem? (i := 17) rfl))) (mvT hZ (hw _ (List.mem_of_getElem? (i := 18) rfl))) (notFace_of_selects (args := #[]) (mvT hZ (hw _ (List.mem_of_getElem? (i := 20) rfl)))) (mvT hZ (hw _ (List.mem_of_getElem? (i := 20) rfl))) (mvT hZ (hw _ (List.mem_of_getElem? (i := 19) rfl))) (by decide) (backOf (W := 0) (rmad0 l Z a0 hw [] b32 x0 aI aU aS kI kU kS own_I0 own_U0 [] (own_vl x0 x1 x2 x3 ev) T40.heap n0 Z43 f40_0 qi qu qs f40_1 qai qau qas (own_P0 (own_vl x0 x1 x2 x3 ev)) (own_H0 _) rfl g_b32 gai gau gas nau nas nus nxi nxu nxs) hZ (hw _ (List.mem_of_getElem? (i := 21) rfl)) (hw _ (List.mem_of_getElem? (i := 3) rfl)) (by decide) (by decide)) q46a q46c (g := (mkF m 62 #[.val (.long x0), .second, .val (.long x1), .second, .val (.long x2), .second, .val (.long x3), .second, .val (.long x4), .second, .val (.int x5), .val (.int idk), .val (.long ev), .second, .val (.ref b4), .val (.ref b32), .unset, .unset, .unset, .unset, .unset, .unset] [(.long x0), (.int (0 : Int32)), (.ref b32)])) rfl (by rw [hml]; rfl) (Steps.refl _) (argsL := [(.int (0 : Int32)), (.long x0)]) (rest := []) (lenOf pd_8 rfl) rfl (by show 2 * 0 + _ ≤ _; exact Nat.le_of_eq rfl) (hb hby at_62) (fun _ _ => ⟨rfl, rfl, (by decide : 5 + 1 ≤ _), (by decide : 41 + 1 ≤ _)⟩)
  dsimp only [Pt.U, Pt.locs, Pt.cells, Pt.slots] at X46 l46 y46 z46 sr46 hQ46
  subst l46 y46 z46
  obtain ⟨rfl, N46q, K46c, f46_0, f46_1, f46_2, f46_3, ⟨aT0, kT0, LI0a, LU0a, LS0a, qs0a, qi0a, qu0a, qt0a, hP0a, hH0a, gt0a, ni0a, nu0a, nx0a, ho0a⟩⟩ := hQ46
  have N46 := Fr.app N40 N46q
  obtain ⟨LL46, X46, N46⟩ := own_hide X46 N46
  have f47 : Arv Z T46.heap b4 k4 .long (5 : Int32) [(.long x0), (.long x1), (.long x2), (.long x3), (.long ev)] (.long (0 : Int64)) := f41.keep K46c (ninS ne_b4_b32 (ninS ne_s_aI (ninS ne_s_aU (ninS ne_s_aS nin0))))
  have f48 : Exa Z T46.heap b32 "com/example/folioseek/folioseek/UseOrder" := f40_0.keep K46c
  have Z49 : n0 ≤ T46.heap.size := Nat.le_trans Z43 K46c.1
  have ne_s_aT0 : b4 ≠ aT0 := ho0a.elim (fun q => by rw [q]; exact ne_s_aS) (fun q => Nat.ne_of_lt (Nat.lt_of_lt_of_le f41.lt q))
  have st50 : Steps p.tables e below sE (T46.setTop (mkF m 65 #[.val (.long x0), .second, .val (.long x1), .second, .val (.long x2), .second, .val (.long x3), .second, .val (.long x4), .second, .val (.int x5), .val (.int idk), .val (.long ev), .second, .val (.ref b4), .val (.ref b32), .unset, .unset, .unset, .unset, .unset, .unset] [])) := st45.trans (sr46)
  have st51 : Steps p.tables e below sE (T46.setTop (mkF m 69 #[.val (.long x0), .second, .val (.long x1), .second, .val (.long x2), .second, .val (.long x3), .second, .val (.long x4), .second, .val (.int x5), .val (.int idk), .val (.long ev), .second, .val (.ref b4), .val (.ref b32), .unset, .unset, .unset, .unset, .unset, .unset] [(.long x1), (.int (1 : Int32)), (.ref b32)])) := st50.trans (by
      show Steps _ _ _ (T46.setTop (mkF m 65 #[.val (.long x0), .second, .val (.long x1), .second, .val (.long x2), .second, .val (.long x3), .second, .val (.long x4), .second, .val (.int x5), .val (.int idk), .val (.long ev), .second, .val (.ref b4), .val (.ref b32), .unset, .unset, .unset, .unset, .unset, .unset] [])) _
      refine XS.aload X46.here hx rfl (hb hby at_65) rfl rfl ?_
      show Steps _ _ _ (T46.setTop (mkF m 67 #[.val (.long x0), .second, .val (.long x1), .second, .val (.long x2), .second, .val (.long x3), .second, .val (.long x4), .second, .val (.int x5), .val (.int idk), .val (.long ev), .second, .val (.ref b4), .val (.ref b32), .unset, .unset, .unset, .unset, .unset, .unset] [(.ref b32)])) _
      refine XS.iconst X46.here hx rfl (hb hby at_67) ?_
      show Steps _ _ _ (T46.setTop (mkF m 68 #[.val (.long x0), .second, .val (.long x1), .second, .val (.long x2), .second, .val (.long x3), .second, .val (.long x4), .second, .val (.int x5), .val (.int idk), .val (.long ev), .second, .val (.ref b4), .val (.ref b32), .unset, .unset, .unset, .unset, .unset, .unset] [(.int (1 : Int32)), (.ref b32)])) _
      refine XS.lloadN X46.here hx rfl (hb hby at_68) rfl ?_
      exact Steps.refl _)
  obtain ⟨cq52, kq52, q52a, q52b, q52c⟩ := isOf hZ rfl f46_0
  obtain ⟨_, _, ⟨T52, L52, k52, n52⟩, -, X52, ⟨Lc52, hQ52, l52, y52, z52⟩, sr52⟩ := X46.virtualBack hx (y := (⟨"com/example/folioseek/folioseek/UseOrder", "add", "(IJ)V"⟩ : MethodName)) (z := (⟨"com/example/folioseek/folioseek/UseOrder", "add", "(IJ)V"⟩ : MethodName)) hown (mvT hZ (hw _ (List.mem_of_getElem? (i := 17) rfl))) (mvT hZ (hw _ (List.mem_of_getElem? (i := 18) rfl))) (notFace_of_selects (args := #[]) (mvT hZ (hw _ (List.mem_of_getElem? (i := 20) rfl)))) (mvT hZ (hw _ (List.mem_of_getElem? (i := 20) rfl))) (mvT hZ (hw _ (List.mem_of_getElem? (i := 19) rfl))) (by decide) (backOf (W := 0) (rmad1 l Z a0 hw [] b32 x1 aI aU aT0 kI kU kT0 LI0a LU0a LS0a (own_vl x0 x1 x2 x3 ev) T46.heap n0 Z49 f46_0 f46_1 f46_2 qs0a f46_3 qi0a qu0a qt0a hP0a hH0a rfl g_b32 gai gau gt0a nau ni0a nu0a nxi nxu nx0a) hZ (hw _ (List.mem_of_getElem? (i := 21) rfl)) (hw _ (List.mem_of_getElem? (i := 3) rfl)) (by decide) (by decide)) q52a q52c (g := (mkF m 69 #[.val (.long x0), .second, .val (.long x1), .second, .val (.long x2), .second, .val (.long x3), .second, .val (.long x4), .second, .val (.int x5), .val (.int idk), .val (.long ev), .second, .val (.ref b4), .val (.ref b32), .unset, .unset, .unset, .unset, .unset, .unset] [(.long x1), (.int (1 : Int32)), (.ref b32)])) rfl (by rw [hml]; rfl) (Steps.refl _) (argsL := [(.int (1 : Int32)), (.long x1)]) (rest := []) (lenOf pd_8 rfl) rfl (by show 2 * 0 + _ ≤ _; exact Nat.le_of_eq rfl) (hb hby at_69) (fun _ _ => ⟨rfl, rfl, (by decide : 6 + 1 ≤ _), (by decide : 42 + 2 ≤ _)⟩)
  dsimp only [Pt.U, Pt.locs, Pt.cells, Pt.slots] at X52 l52 y52 z52 sr52 hQ52
  subst l52 y52 z52
  obtain ⟨rfl, N52q, K52c, f52_0, f52_1, f52_2, f52_3, ⟨aT1, kT1, LI1a, LU1a, LS1a, qs1a, qi1a, qu1a, qt1a, hP1a, hH1a, gt1a, ni1a, nu1a, nx1a, ho1a⟩⟩ := hQ52
  have N52 := Fr.app N46 N52q
  obtain ⟨LL52, X52, N52⟩ := own_hide X52 N52
  have f53 : Arv Z T52.heap b4 k4 .long (5 : Int32) [(.long x0), (.long x1), (.long x2), (.long x3), (.long ev)] (.long (0 : Int64)) := f47.keep K52c (ninS ne_b4_b32 (ninS ne_s_aI (ninS ne_s_aU (ninS ne_s_aT0 nin0))))
  have f54 : Exa Z T52.heap b32 "com/example/folioseek/folioseek/UseOrder" := f46_0.keep K52c
  have Z55 : n0 ≤ T52.heap.size := Nat.le_trans Z49 K52c.1
  have ne_s_aT1 : b4 ≠ aT1 := ho1a.elim (fun q => by rw [q]; exact ne_s_aT0) (fun q => Nat.ne_of_lt (Nat.lt_of_lt_of_le f47.lt q))
  have st56 : Steps p.tables e below sE (T52.setTop (mkF m 72 #[.val (.long x0), .second, .val (.long x1), .second, .val (.long x2), .second, .val (.long x3), .second, .val (.long x4), .second, .val (.int x5), .val (.int idk), .val (.long ev), .second, .val (.ref b4), .val (.ref b32), .unset, .unset, .unset, .unset, .unset, .unset] [])) := st51.trans (sr52)
  have st57 : Steps p.tables e below sE (T52.setTop (mkF m 77 #[.val (.long x0), .second, .val (.long x1), .second, .val (.long x2), .second, .val (.long x3), .second, .val (.long x4), .second, .val (.int x5), .val (.int idk), .val (.long ev), .second, .val (.ref b4), .val (.ref b32), .unset, .unset, .unset, .unset, .unset, .unset] [(.long x2), (.int (2 : Int32)), (.ref b32)])) := st56.trans (by
      show Steps _ _ _ (T52.setTop (mkF m 72 #[.val (.long x0), .second, .val (.long x1), .second, .val (.long x2), .second, .val (.long x3), .second, .val (.long x4), .second, .val (.int x5), .val (.int idk), .val (.long ev), .second, .val (.ref b4), .val (.ref b32), .unset, .unset, .unset, .unset, .unset, .unset] [])) _
      refine XS.aload X52.here hx rfl (hb hby at_72) rfl rfl ?_
      show Steps _ _ _ (T52.setTop (mkF m 74 #[.val (.long x0), .second, .val (.long x1), .second, .val (.long x2), .second, .val (.long x3), .second, .val (.long x4), .second, .val (.int x5), .val (.int idk), .val (.long ev), .second, .val (.ref b4), .val (.ref b32), .unset, .unset, .unset, .unset, .unset, .unset] [(.ref b32)])) _
      refine XS.iconst X52.here hx rfl (hb hby at_74) ?_
      show Steps _ _ _ (T52.setTop (mkF m 75 #[.val (.long x0), .second, .val (.long x1), .second, .val (.long x2), .second, .val (.long x3), .second, .val (.long x4), .second, .val (.int x5), .val (.int idk), .val (.long ev), .second, .val (.ref b4), .val (.ref b32), .unset, .unset, .unset, .unset, .unset, .unset] [(.int (2 : Int32)), (.ref b32)])) _
      refine XS.lload X52.here hx rfl (hb hby at_75) rfl ?_
      exact Steps.refl _)
  obtain ⟨cq58, kq58, q58a, q58b, q58c⟩ := isOf hZ rfl f52_0
  obtain ⟨_, _, ⟨T58, L58, k58, n58⟩, -, X58, ⟨Lc58, hQ58, l58, y58, z58⟩, sr58⟩ := X52.virtualBack hx (y := (⟨"com/example/folioseek/folioseek/UseOrder", "add", "(IJ)V"⟩ : MethodName)) (z := (⟨"com/example/folioseek/folioseek/UseOrder", "add", "(IJ)V"⟩ : MethodName)) hown (mvT hZ (hw _ (List.mem_of_getElem? (i := 17) rfl))) (mvT hZ (hw _ (List.mem_of_getElem? (i := 18) rfl))) (notFace_of_selects (args := #[]) (mvT hZ (hw _ (List.mem_of_getElem? (i := 20) rfl)))) (mvT hZ (hw _ (List.mem_of_getElem? (i := 20) rfl))) (mvT hZ (hw _ (List.mem_of_getElem? (i := 19) rfl))) (by decide) (backOf (W := 0) (rmad2 l Z a0 hw [] b32 x2 aI aU aT1 kI kU kT1 LI1a LU1a LS1a (own_vl x0 x1 x2 x3 ev) T52.heap n0 Z55 f52_0 f52_1 f52_2 qs1a f52_3 qi1a qu1a qt1a hP1a hH1a rfl g_b32 gai gau gt1a nau ni1a nu1a nxi nxu nx1a) hZ (hw _ (List.mem_of_getElem? (i := 21) rfl)) (hw _ (List.mem_of_getElem? (i := 3) rfl)) (by decide) (by decide)) q58a q58c (g := (mkF m 77 #[.val (.long x0), .second, .val (.long x1), .second, .val (.long x2), .second, .val (.long x3), .second, .val (.long x4), .second, .val (.int x5), .val (.int idk), .val (.long ev), .second, .val (.ref b4), .val (.ref b32), .unset, .unset, .unset, .unset, .unset, .unset] [(.long x2), (.int (2 : Int32)), (.ref b32)])) rfl (by rw [hml]; rfl) (Steps.refl _) (argsL := [(.int (2 : Int32)), (.long x2)]) (rest := []) (lenOf pd_8 rfl) rfl (by show 2 * 0 + _ ≤ _; exact Nat.le_of_eq rfl) (hb hby at_77) (fun _ _ => ⟨rfl, rfl, (by decide : 7 + 1 ≤ _), (by decide : 44 + 4 ≤ _)⟩)
  dsimp only [Pt.U, Pt.locs, Pt.cells, Pt.slots] at X58 l58 y58 z58 sr58 hQ58
  subst l58 y58 z58
  obtain ⟨rfl, N58q, K58c, f58_0, f58_1, f58_2, f58_3, ⟨aT2, kT2, LI2a, LU2a, LS2a, qs2a, qi2a, qu2a, qt2a, hP2a, hH2a, gt2a, ni2a, nu2a, nx2a, ho2a⟩⟩ := hQ58
  have N58 := Fr.app N52 N58q
  obtain ⟨LL58, X58, N58⟩ := own_hide X58 N58
  have f59 : Arv Z T58.heap b4 k4 .long (5 : Int32) [(.long x0), (.long x1), (.long x2), (.long x3), (.long ev)] (.long (0 : Int64)) := f53.keep K58c (ninS ne_b4_b32 (ninS ne_s_aI (ninS ne_s_aU (ninS ne_s_aT1 nin0))))
  have f60 : Exa Z T58.heap b32 "com/example/folioseek/folioseek/UseOrder" := f52_0.keep K58c
  have Z61 : n0 ≤ T58.heap.size := Nat.le_trans Z55 K58c.1
  have ne_s_aT2 : b4 ≠ aT2 := ho2a.elim (fun q => by rw [q]; exact ne_s_aT1) (fun q => Nat.ne_of_lt (Nat.lt_of_lt_of_le f53.lt q))
  have st62 : Steps p.tables e below sE (T58.setTop (mkF m 80 #[.val (.long x0), .second, .val (.long x1), .second, .val (.long x2), .second, .val (.long x3), .second, .val (.long x4), .second, .val (.int x5), .val (.int idk), .val (.long ev), .second, .val (.ref b4), .val (.ref b32), .unset, .unset, .unset, .unset, .unset, .unset] [])) := st57.trans (sr58)
  have st63 : Steps p.tables e below sE (T58.setTop (mkF m 85 #[.val (.long x0), .second, .val (.long x1), .second, .val (.long x2), .second, .val (.long x3), .second, .val (.long x4), .second, .val (.int x5), .val (.int idk), .val (.long ev), .second, .val (.ref b4), .val (.ref b32), .unset, .unset, .unset, .unset, .unset, .unset] [(.long x3), (.int (3 : Int32)), (.ref b32)])) := st62.trans (by
      show Steps _ _ _ (T58.setTop (mkF m 80 #[.val (.long x0), .second, .val (.long x1), .second, .val (.long x2), .second, .val (.long x3), .second, .val (.long x4), .second, .val (.int x5), .val (.int idk), .val (.long ev), .second, .val (.ref b4), .val (.ref b32), .unset, .unset, .unset, .unset, .unset, .unset] [])) _
      refine XS.aload X58.here hx rfl (hb hby at_80) rfl rfl ?_
      show Steps _ _ _ (T58.setTop (mkF m 82 #[.val (.long x0), .second, .val (.long x1), .second, .val (.long x2), .second, .val (.long x3), .second, .val (.long x4), .second, .val (.int x5), .val (.int idk), .val (.long ev), .second, .val (.ref b4), .val (.ref b32), .unset, .unset, .unset, .unset, .unset, .unset] [(.ref b32)])) _
      refine XS.iconst X58.here hx rfl (hb hby at_82) ?_
      show Steps _ _ _ (T58.setTop (mkF m 83 #[.val (.long x0), .second, .val (.long x1), .second, .val (.long x2), .second, .val (.long x3), .second, .val (.long x4), .second, .val (.int x5), .val (.int idk), .val (.long ev), .second, .val (.ref b4), .val (.ref b32), .unset, .unset, .unset, .unset, .unset, .unset] [(.int (3 : Int32)), (.ref b32)])) _
      refine XS.lload X58.here hx rfl (hb hby at_83) rfl ?_
      exact Steps.refl _)
  obtain ⟨cq64, kq64, q64a, q64b, q64c⟩ := isOf hZ rfl f58_0
  obtain ⟨_, _, ⟨T64, L64, k64, n64⟩, -, X64, ⟨Lc64, hQ64, l64, y64, z64⟩, sr64⟩ := X58.virtualBack hx (y := (⟨"com/example/folioseek/folioseek/UseOrder", "add", "(IJ)V"⟩ : MethodName)) (z := (⟨"com/example/folioseek/folioseek/UseOrder", "add", "(IJ)V"⟩ : MethodName)) hown (mvT hZ (hw _ (List.mem_of_getElem? (i := 17) rfl))) (mvT hZ (hw _ (List.mem_of_getElem? (i := 18) rfl))) (notFace_of_selects (args := #[]) (mvT hZ (hw _ (List.mem_of_getElem? (i := 20) rfl)))) (mvT hZ (hw _ (List.mem_of_getElem? (i := 20) rfl))) (mvT hZ (hw _ (List.mem_of_getElem? (i := 19) rfl))) (by decide) (backOf (W := 0) (rmad3 l Z a0 hw [] b32 x3 aI aU aT2 kI kU kT2 LI2a LU2a LS2a (own_vl x0 x1 x2 x3 ev) T58.heap n0 Z61 f58_0 f58_1 f58_2 qs2a f58_3 qi2a qu2a qt2a hP2a hH2a rfl g_b32 gai gau gt2a nau ni2a nu2a nxi nxu nx2a) hZ (hw _ (List.mem_of_getElem? (i := 21) rfl)) (hw _ (List.mem_of_getElem? (i := 3) rfl)) (by decide) (by decide)) q64a q64c (g := (mkF m 85 #[.val (.long x0), .second, .val (.long x1), .second, .val (.long x2), .second, .val (.long x3), .second, .val (.long x4), .second, .val (.int x5), .val (.int idk), .val (.long ev), .second, .val (.ref b4), .val (.ref b32), .unset, .unset, .unset, .unset, .unset, .unset] [(.long x3), (.int (3 : Int32)), (.ref b32)])) rfl (by rw [hml]; rfl) (Steps.refl _) (argsL := [(.int (3 : Int32)), (.long x3)]) (rest := []) (lenOf pd_8 rfl) rfl (by show 2 * 0 + _ ≤ _; exact Nat.le_of_eq rfl) (hb hby at_85) (fun _ _ => ⟨rfl, rfl, (by decide : 8 + 0 ≤ _), (by decide : 48 + 0 ≤ _)⟩)
  dsimp only [Pt.U, Pt.locs, Pt.cells, Pt.slots] at X64 l64 y64 z64 sr64 hQ64
  subst l64 y64 z64
  obtain ⟨rfl, N64q, K64c, f64_0, f64_1, f64_2, f64_3, ⟨aT3, kT3, LI3a, LU3a, LS3a, qs3a, qi3a, qu3a, qt3a, hP3a, hH3a, gt3a, ni3a, nu3a, nx3a, ho3a⟩⟩ := hQ64
  have N64 := Fr.app N58 N64q
  obtain ⟨LL64, X64, N64⟩ := own_hide X64 N64
  have f65 : Arv Z T64.heap b4 k4 .long (5 : Int32) [(.long x0), (.long x1), (.long x2), (.long x3), (.long ev)] (.long (0 : Int64)) := f59.keep K64c (ninS ne_b4_b32 (ninS ne_s_aI (ninS ne_s_aU (ninS ne_s_aT2 nin0))))
  have f66 : Exa Z T64.heap b32 "com/example/folioseek/folioseek/UseOrder" := f58_0.keep K64c
  have Z67 : n0 ≤ T64.heap.size := Nat.le_trans Z61 K64c.1
  have ne_s_aT3 : b4 ≠ aT3 := ho3a.elim (fun q => by rw [q]; exact ne_s_aT2) (fun q => Nat.ne_of_lt (Nat.lt_of_lt_of_le f59.lt q))
  have st68 : Steps p.tables e below sE (T64.setTop (mkF m 88 #[.val (.long x0), .second, .val (.long x1), .second, .val (.long x2), .second, .val (.long x3), .second, .val (.long x4), .second, .val (.int x5), .val (.int idk), .val (.long ev), .second, .val (.ref b4), .val (.ref b32), .unset, .unset, .unset, .unset, .unset, .unset] [])) := st63.trans (sr64)
  have st69 : Steps p.tables e below sE (T64.setTop (mkF m 93 #[.val (.long x0), .second, .val (.long x1), .second, .val (.long x2), .second, .val (.long x3), .second, .val (.long x4), .second, .val (.int x5), .val (.int idk), .val (.long ev), .second, .val (.ref b4), .val (.ref b32), .unset, .unset, .unset, .unset, .unset, .unset] [(.long ev), (.int (4 : Int32)), (.ref b32)])) := st68.trans (by
      show Steps _ _ _ (T64.setTop (mkF m 88 #[.val (.long x0), .second, .val (.long x1), .second, .val (.long x2), .second, .val (.long x3), .second, .val (.long x4), .second, .val (.int x5), .val (.int idk), .val (.long ev), .second, .val (.ref b4), .val (.ref b32), .unset, .unset, .unset, .unset, .unset, .unset] [])) _
      refine XS.aload X64.here hx rfl (hb hby at_88) rfl rfl ?_
      show Steps _ _ _ (T64.setTop (mkF m 90 #[.val (.long x0), .second, .val (.long x1), .second, .val (.long x2), .second, .val (.long x3), .second, .val (.long x4), .second, .val (.int x5), .val (.int idk), .val (.long ev), .second, .val (.ref b4), .val (.ref b32), .unset, .unset, .unset, .unset, .unset, .unset] [(.ref b32)])) _
      refine XS.iconst X64.here hx rfl (hb hby at_90) ?_
      show Steps _ _ _ (T64.setTop (mkF m 91 #[.val (.long x0), .second, .val (.long x1), .second, .val (.long x2), .second, .val (.long x3), .second, .val (.long x4), .second, .val (.int x5), .val (.int idk), .val (.long ev), .second, .val (.ref b4), .val (.ref b32), .unset, .unset, .unset, .unset, .unset, .unset] [(.int (4 : Int32)), (.ref b32)])) _
      refine XS.lload X64.here hx rfl (hb hby at_91) rfl ?_
      exact Steps.refl _)
  obtain ⟨cq70, kq70, q70a, q70b, q70c⟩ := isOf hZ rfl f64_0
  obtain ⟨_, _, ⟨T70, L70, k70, n70⟩, -, X70, ⟨Lc70, hQ70, l70, y70, z70⟩, sr70⟩ := X64.virtualBack hx (y := (⟨"com/example/folioseek/folioseek/UseOrder", "add", "(IJ)V"⟩ : MethodName)) (z := (⟨"com/example/folioseek/folioseek/UseOrder", "add", "(IJ)V"⟩ : MethodName)) hown (mvT hZ (hw _ (List.mem_of_getElem? (i := 17) rfl))) (mvT hZ (hw _ (List.mem_of_getElem? (i := 18) rfl))) (notFace_of_selects (args := #[]) (mvT hZ (hw _ (List.mem_of_getElem? (i := 20) rfl)))) (mvT hZ (hw _ (List.mem_of_getElem? (i := 20) rfl))) (mvT hZ (hw _ (List.mem_of_getElem? (i := 19) rfl))) (by decide) (backOf (W := 0) (rmad4 l Z a0 hw [] b32 ev aI aU aT3 kI kU kT3 LI3a LU3a LS3a (own_vl x0 x1 x2 x3 ev) T64.heap n0 Z67 f64_0 f64_1 f64_2 qs3a f64_3 qi3a qu3a qt3a hP3a hH3a rfl g_b32 gai gau gt3a nau ni3a nu3a nxi nxu nx3a) hZ (hw _ (List.mem_of_getElem? (i := 21) rfl)) (hw _ (List.mem_of_getElem? (i := 3) rfl)) (by decide) (by decide)) q70a q70c (g := (mkF m 93 #[.val (.long x0), .second, .val (.long x1), .second, .val (.long x2), .second, .val (.long x3), .second, .val (.long x4), .second, .val (.int x5), .val (.int idk), .val (.long ev), .second, .val (.ref b4), .val (.ref b32), .unset, .unset, .unset, .unset, .unset, .unset] [(.long ev), (.int (4 : Int32)), (.ref b32)])) rfl (by rw [hml]; rfl) (Steps.refl _) (argsL := [(.int (4 : Int32)), (.long ev)]) (rest := []) (lenOf pd_8 rfl) rfl (by show 2 * 0 + _ ≤ _; exact Nat.le_of_eq rfl) (hb hby at_93) (fun _ _ => ⟨rfl, rfl, (by decide : 8 + 1 ≤ _), (by decide : 48 + 8 ≤ _)⟩)
  dsimp only [Pt.U, Pt.locs, Pt.cells, Pt.slots] at X70 l70 y70 z70 sr70 hQ70
  subst l70 y70 z70
  obtain ⟨rfl, N70q, K70c, f70_0, f70_1, f70_2, f70_3, ⟨aT4, kT4, LI4a, LU4a, LS4a, qs4a, qi4a, qu4a, qt4a, hP4a, hH4a, gt4a, ni4a, nu4a, nx4a, ho4a⟩⟩ := hQ70
  have N70 := Fr.app N64 N70q
  obtain ⟨LL70, X70, N70⟩ := own_hide X70 N70
  have f71 : Arv Z T70.heap b4 k4 .long (5 : Int32) [(.long x0), (.long x1), (.long x2), (.long x3), (.long ev)] (.long (0 : Int64)) := f65.keep K70c (ninS ne_b4_b32 (ninS ne_s_aI (ninS ne_s_aU (ninS ne_s_aT3 nin0))))
  have f72 : Exa Z T70.heap b32 "com/example/folioseek/folioseek/UseOrder" := f64_0.keep K70c
  have Z73 : n0 ≤ T70.heap.size := Nat.le_trans Z67 K70c.1
  have ne_s_aT4 : b4 ≠ aT4 := ho4a.elim (fun q => by rw [q]; exact ne_s_aT3) (fun q => Nat.ne_of_lt (Nat.lt_of_lt_of_le f65.lt q))
  have st74 : Steps p.tables e below sE (T70.setTop (mkF m 96 #[.val (.long x0), .second, .val (.long x1), .second, .val (.long x2), .second, .val (.long x3), .second, .val (.long x4), .second, .val (.int x5), .val (.int idk), .val (.long ev), .second, .val (.ref b4), .val (.ref b32), .unset, .unset, .unset, .unset, .unset, .unset] [])) := st69.trans (sr70)
  have st75 : Steps p.tables e below sE (T70.setTop (mkF m 102 #[.val (.long x0), .second, .val (.long x1), .second, .val (.long x2), .second, .val (.long x3), .second, .val (.long x4), .second, .val (.int x5), .val (.int idk), .val (.long ev), .second, .val (.ref b4), .val (.ref b32), .unset, .unset, .unset, .unset, .unset, .unset] [(.long x4), (.int idk), (.ref b32)])) := st74.trans (by
      show Steps _ _ _ (T70.setTop (mkF m 96 #[.val (.long x0), .second, .val (.long x1), .second, .val (.long x2), .second, .val (.long x3), .second, .val (.long x4), .second, .val (.int x5), .val (.int idk), .val (.long ev), .second, .val (.ref b4), .val (.ref b32), .unset, .unset, .unset, .unset, .unset, .unset] [])) _
      refine XS.aload X70.here hx rfl (hb hby at_96) rfl rfl ?_
      show Steps _ _ _ (T70.setTop (mkF m 98 #[.val (.long x0), .second, .val (.long x1), .second, .val (.long x2), .second, .val (.long x3), .second, .val (.long x4), .second, .val (.int x5), .val (.int idk), .val (.long ev), .second, .val (.ref b4), .val (.ref b32), .unset, .unset, .unset, .unset, .unset, .unset] [(.ref b32)])) _
      refine XS.iload X70.here hx rfl (hb hby at_98) rfl ?_
      show Steps _ _ _ (T70.setTop (mkF m 100 #[.val (.long x0), .second, .val (.long x1), .second, .val (.long x2), .second, .val (.long x3), .second, .val (.long x4), .second, .val (.int x5), .val (.int idk), .val (.long ev), .second, .val (.ref b4), .val (.ref b32), .unset, .unset, .unset, .unset, .unset, .unset] [(.int idk), (.ref b32)])) _
      refine XS.lload X70.here hx rfl (hb hby at_100) rfl ?_
      exact Steps.refl _)
  obtain ⟨cq76, kq76, q76a, q76b, q76c⟩ := isOf hZ rfl f70_0
  obtain ⟨_, _, ⟨T76, L76, k76, n76⟩, -, X76, ⟨Lc76, hQ76, l76, y76, z76⟩, sr76⟩ := X70.virtualBack hx (y := (⟨"com/example/folioseek/folioseek/UseOrder", "update", "(IJ)V"⟩ : MethodName)) (z := (⟨"com/example/folioseek/folioseek/UseOrder", "update", "(IJ)V"⟩ : MethodName)) hown (mvT hZ (hw _ (List.mem_of_getElem? (i := 53) rfl))) (mvT hZ (hw _ (List.mem_of_getElem? (i := 54) rfl))) (notFace_of_selects (args := #[]) (mvT hZ (hw _ (List.mem_of_getElem? (i := 56) rfl)))) (mvT hZ (hw _ (List.mem_of_getElem? (i := 56) rfl))) (mvT hZ (hw _ (List.mem_of_getElem? (i := 55) rfl))) (by decide) (backOf (W := 0) (rm11 l Z a0 hw [] b32 idk x4 aI aU aT4 kI kU kT4 LI4a LU4a LS4a (8 : Int32) (own_vl x0 x1 x2 x3 ev) (fun i => i < 5) idn T70.heap n0 Z73 f70_0 f70_1 f70_2 qs4a f70_3 qi4a qu4a qt4a hP4a hH4a hidn5 hidn gai gau gt4a nau ni4a nu4a nxi nxu nx4a) hZ (hw _ (List.mem_of_getElem? (i := 57) rfl)) (hw _ (List.mem_of_getElem? (i := 3) rfl)) (by decide) (by decide)) q76a q76c (g := (mkF m 102 #[.val (.long x0), .second, .val (.long x1), .second, .val (.long x2), .second, .val (.long x3), .second, .val (.long x4), .second, .val (.int x5), .val (.int idk), .val (.long ev), .second, .val (.ref b4), .val (.ref b32), .unset, .unset, .unset, .unset, .unset, .unset] [(.long x4), (.int idk), (.ref b32)])) rfl (by rw [hml]; rfl) (Steps.refl _) (argsL := [(.int idk), (.long x4)]) (rest := []) (lenOf pd_8 rfl) rfl (by show 2 * 0 + _ ≤ _; exact Nat.le_of_eq rfl) (hb hby at_102) (fun _ _ => ⟨rfl, rfl, (by decide : 9 + 0 ≤ _), (by decide : 56 + 0 ≤ _)⟩)
  dsimp only [Pt.U, Pt.locs, Pt.cells, Pt.slots] at X76 l76 y76 z76 sr76 hQ76
  subst l76 y76 z76
  obtain ⟨rfl, N76q, K76c, ⟨LIu, LUu, LSu, ui, uu, us, hPu0, hHu⟩⟩ := hQ76
  have N76 := Fr.app N70 N76q
  obtain ⟨LL76, X76, N76⟩ := own_hide X76 N76
  have f77 : Arv Z T76.heap b4 k4 .long (5 : Int32) [(.long x0), (.long x1), (.long x2), (.long x3), (.long ev)] (.long (0 : Int64)) := f71.keep K76c (ninS ne_s_aI (ninS ne_s_aU (ninS ne_s_aT4 nin0)))
  have f78 : Exa Z T76.heap b32 "com/example/folioseek/folioseek/UseOrder" := f70_0.keep K76c
  have f79 : Fld Z T76.heap b32 "com/example/folioseek/folioseek/UseOrder" "ids" "[I" (.ref aI) := f70_1.keep K76c (ninS nxi (ninS nxu (ninS nx4a nin0)))
  have f80 : Fld Z T76.heap b32 "com/example/folioseek/folioseek/UseOrder" "uses" "[J" (.ref aU) := f70_2.keep K76c (ninS nxi (ninS nxu (ninS nx4a nin0)))
  have f81 : Fld Z T76.heap b32 "com/example/folioseek/folioseek/UseOrder" "size" "I" (.int (5 : Int32)) := f70_3.keep K76c (ninS nxi (ninS nxu (ninS nx4a nin0)))
  have f82 : Fld Z T76.heap b32 "com/example/folioseek/folioseek/UseOrder" "slots" "[I" (.ref aT4) := qs4a.keep K76c (ninS nxi (ninS nxu (ninS nx4a nin0)))
  have Z83 : n0 ≤ T76.heap.size := Nat.le_trans Z73 K76c.1
  have hPu : own_P 5 ((8 : Int32)).toNatClampNeg LIu LUu LSu (own_vu x0 x1 x2 x3 ev x4 idn) (fun i => i < 5) := hPu0
  have st84 : Steps p.tables e below sE (T76.setTop (mkF m 105 #[.val (.long x0), .second, .val (.long x1), .second, .val (.long x2), .second, .val (.long x3), .second, .val (.long x4), .second, .val (.int x5), .val (.int idk), .val (.long ev), .second, .val (.ref b4), .val (.ref b32), .unset, .unset, .unset, .unset, .unset, .unset] [])) := st75.trans (sr76)
  have st85 : Steps p.tables e below sE (T76.setTop (mkF m 111 #[.val (.long x0), .second, .val (.long x1), .second, .val (.long x2), .second, .val (.long x3), .second, .val (.long x4), .second, .val (.int x5), .val (.int idk), .val (.long ev), .second, .val (.ref b4), .val (.ref b32), .unset, .unset, .unset, .unset, .unset, .unset] [(.long x4), (.int idk), (.ref b4)])) := st84.trans (by
      show Steps _ _ _ (T76.setTop (mkF m 105 #[.val (.long x0), .second, .val (.long x1), .second, .val (.long x2), .second, .val (.long x3), .second, .val (.long x4), .second, .val (.int x5), .val (.int idk), .val (.long ev), .second, .val (.ref b4), .val (.ref b32), .unset, .unset, .unset, .unset, .unset, .unset] [])) _
      refine XS.aload X76.here hx rfl (hb hby at_105) rfl rfl ?_
      show Steps _ _ _ (T76.setTop (mkF m 107 #[.val (.long x0), .second, .val (.long x1), .second, .val (.long x2), .second, .val (.long x3), .second, .val (.long x4), .second, .val (.int x5), .val (.int idk), .val (.long ev), .second, .val (.ref b4), .val (.ref b32), .unset, .unset, .unset, .unset, .unset, .unset] [(.ref b4)])) _
      refine XS.iload X76.here hx rfl (hb hby at_107) rfl ?_
      show Steps _ _ _ (T76.setTop (mkF m 109 #[.val (.long x0), .second, .val (.long x1), .second, .val (.long x2), .second, .val (.long x3), .second, .val (.long x4), .second, .val (.int x5), .val (.int idk), .val (.long ev), .second, .val (.ref b4), .val (.ref b32), .unset, .unset, .unset, .unset, .unset, .unset] [(.int idk), (.ref b4)])) _
      refine XS.lload X76.here hx rfl (hb hby at_109) rfl ?_
      exact Steps.refl _)
  obtain ⟨cl86, Ar86, q86, S86, N86, H86, G86⟩ := id f77
  have hin86 : ¬ (idk < 0 ∨ cl86.slots.size ≤ (idk).toNatClampNeg) := inb_of S86 (by rw [hidn]; exact (own_fb idn hidn5).2.2)
  obtain ⟨T87, h87, X87, e87, W87, sr87⟩ := stJ X76 hx hZ rfl Ar86 (j := idk) hin86 (g := (mkF m 111 #[.val (.long x0), .second, .val (.long x1), .second, .val (.long x2), .second, .val (.long x3), .second, .val (.long x4), .second, .val (.int x5), .val (.int idk), .val (.long ev), .second, .val (.ref b4), .val (.ref b32), .unset, .unset, .unset, .unset, .unset, .unset] [(.long x4), (.int idk), (.ref b4)])) rfl rfl (hb hby at_111)
  have f88 : Exa Z h87 b32 "com/example/folioseek/folioseek/UseOrder" := f78.wr W87
  have f89 : Fld Z h87 b32 "com/example/folioseek/folioseek/UseOrder" "ids" "[I" (.ref aI) := f79.other W87 (Or.inl (Ne.symm ne_b4_b32))
  have f90 : Fld Z h87 b32 "com/example/folioseek/folioseek/UseOrder" "uses" "[J" (.ref aU) := f80.other W87 (Or.inl (Ne.symm ne_b4_b32))
  have f91 : Fld Z h87 b32 "com/example/folioseek/folioseek/UseOrder" "size" "I" (.int (5 : Int32)) := f81.other W87 (Or.inl (Ne.symm ne_b4_b32))
  have f92 : Fld Z h87 b32 "com/example/folioseek/folioseek/UseOrder" "slots" "[I" (.ref aT4) := f82.other W87 (Or.inl (Ne.symm ne_b4_b32))
  have f93 : Arv Z h87 aI kI .int (16 : Int32) (List.map Value.int LIu) (.int (0 : Int32)) := ui.other W87 (Ne.symm ne_s_aI)
  have f94 : Arv Z h87 aU kU .long (16 : Int32) (List.map Value.long LUu) (.long (0 : Int64)) := uu.other W87 (Ne.symm ne_s_aU)
  have f95 : Arv Z h87 aT4 kT4 .int (8 : Int32) (List.map Value.int LSu) (.int (0 : Int32)) := us.other W87 (Ne.symm ne_s_aT4)
  have f96 : Arv Z h87 b4 k4 .long (5 : Int32) (List.map Value.long (([x0, x1, x2, x3, ev] : List Int64).set (idk).toNatClampNeg x4)) (.long (0 : Int64)) := (by rw [← own_setJ]; exact Arv.set Ar86 q86 S86 N86 H86 G86 rfl W87 _ rfl (by rw [← eidn]; exact hidn5))
  have Z87 : n0 ≤ h87.size := Nat.le_trans Z83 (Keep.of_wr W87).1
  have N87 := Fr.snoc X87 N76 g_b4
  obtain ⟨LL87, X87, N87⟩ := own_hide X87 N87
  have st97 : Steps p.tables e below sE (T87.setTop (mkF m 112 #[.val (.long x0), .second, .val (.long x1), .second, .val (.long x2), .second, .val (.long x3), .second, .val (.long x4), .second, .val (.int x5), .val (.int idk), .val (.long ev), .second, .val (.ref b4), .val (.ref b32), .unset, .unset, .unset, .unset, .unset, .unset] [])) := st85.trans (sr87 _ (Steps.refl _))
  have st98 : Steps p.tables e below sE (T87.setTop (mkF m 115 #[.val (.long x0), .second, .val (.long x1), .second, .val (.long x2), .second, .val (.long x3), .second, .val (.long x4), .second, .val (.int x5), .val (.int idk), .val (.long ev), .second, .val (.ref b4), .val (.ref b32), .unset, .unset, .unset, .unset, .unset, .unset] [(.int (-1 : Int32)), (.ref b4)])) := st97.trans (by
      show Steps _ _ _ (T87.setTop (mkF m 112 #[.val (.long x0), .second, .val (.long x1), .second, .val (.long x2), .second, .val (.long x3), .second, .val (.long x4), .second, .val (.int x5), .val (.int idk), .val (.long ev), .second, .val (.ref b4), .val (.ref b32), .unset, .unset, .unset, .unset, .unset, .unset] [])) _
      refine XS.aload X87.here hx rfl (hb hby at_112) rfl rfl ?_
      show Steps _ _ _ (T87.setTop (mkF m 114 #[.val (.long x0), .second, .val (.long x1), .second, .val (.long x2), .second, .val (.long x3), .second, .val (.long x4), .second, .val (.int x5), .val (.int idk), .val (.long ev), .second, .val (.ref b4), .val (.ref b32), .unset, .unset, .unset, .unset, .unset, .unset] [(.ref b4)])) _
      refine XS.iconst X87.here hx rfl (hb hby at_114) ?_
      exact Steps.refl _)
  obtain ⟨_, _, ⟨T99, L99, k99, n99⟩, -, X99, ⟨Lc99, hQ99, l99, y99, z99⟩, sr99⟩ := Jvm.LawKit.callS X87 hx (y := (⟨"com/example/folioseek/folioseek/UseOrderUpdatePinLaw", "minExcept", "([JI)J"⟩ : MethodName)) hown (mvT hZ (hw _ (List.mem_of_getElem? (i := 63) rfl))) (mvT hZ (hw _ (List.mem_of_getElem? (i := 64) rfl))) (mvT hZ (hw _ (List.mem_of_getElem? (i := 65) rfl))) (mvT hZ (hw _ (List.mem_of_getElem? (i := 66) rfl))) (by decide) (backOf (W := 0) (rm13 l Z a0 hw [] b4 (-1 : Int32) k4 (([x0, x1, x2, x3, ev] : List Int64).set (idk).toNatClampNeg x4) h87 n0 Z87 f96) hZ (hw _ (List.mem_of_getElem? (i := 66) rfl)) (hw _ (List.mem_of_getElem? (i := 65) rfl)) (by decide) (by decide)) (g := (mkF m 115 #[.val (.long x0), .second, .val (.long x1), .second, .val (.long x2), .second, .val (.long x3), .second, .val (.long x4), .second, .val (.int x5), .val (.int idk), .val (.long ev), .second, .val (.ref b4), .val (.ref b32), .unset, .unset, .unset, .unset, .unset, .unset] [(.int (-1 : Int32)), (.ref b4)])) rfl (by rw [hml]; rfl) (argsL := [(.ref b4), (.int (-1 : Int32))]) (rest := []) (lenOf pd_9 rfl) rfl (by show 2 * 0 + _ ≤ _; exact Nat.le_of_eq rfl) (hb hby at_115) (fun _ _ => ⟨rfl, e87, (by decide : 9 + 0 ≤ _), (by decide : 56 + 0 ≤ _)⟩)
  dsimp only [Pt.U, Pt.locs, Pt.cells, Pt.slots] at X99 l99 y99 z99 sr99 hQ99
  subst l99 y99 z99
  obtain ⟨rfl, N99q, hh99⟩ := hQ99
  have N99 := Fr.app N87 N99q
  obtain ⟨LL99, X99, N99⟩ := own_hide X99 N99
  have st100 : Steps p.tables e below sE (T99.setTop (mkF m 118 #[.val (.long x0), .second, .val (.long x1), .second, .val (.long x2), .second, .val (.long x3), .second, .val (.long x4), .second, .val (.int x5), .val (.int idk), .val (.long ev), .second, .val (.ref b4), .val (.ref b32), .unset, .unset, .unset, .unset, .unset, .unset] [(.long (own_me (-1 : Int32) (4 : Int32) (own_me (-1 : Int32) (3 : Int32) (own_me (-1 : Int32) (2 : Int32) (own_me (-1 : Int32) (1 : Int32) (own_me (-1 : Int32) (0 : Int32) (9223372036854775807 : Int64) ((([x0, x1, x2, x3, ev] : List Int64).set (idk).toNatClampNeg x4).getD ((0 : Int32)).toNatClampNeg 0)) ((([x0, x1, x2, x3, ev] : List Int64).set (idk).toNatClampNeg x4).getD ((1 : Int32)).toNatClampNeg 0)) ((([x0, x1, x2, x3, ev] : List Int64).set (idk).toNatClampNeg x4).getD ((2 : Int32)).toNatClampNeg 0)) ((([x0, x1, x2, x3, ev] : List Int64).set (idk).toNatClampNeg x4).getD ((3 : Int32)).toNatClampNeg 0)) ((([x0, x1, x2, x3, ev] : List Int64).set (idk).toNatClampNeg x4).getD ((4 : Int32)).toNatClampNeg 0)))])) := st98.trans (sr99 _ (Steps.refl _))
  obtain ⟨m1v, e_m1v⟩ : ∃ z, z = (own_me (-1 : Int32) (4 : Int32) (own_me (-1 : Int32) (3 : Int32) (own_me (-1 : Int32) (2 : Int32) (own_me (-1 : Int32) (1 : Int32) (own_me (-1 : Int32) (0 : Int32) (9223372036854775807 : Int64) ((([x0, x1, x2, x3, ev] : List Int64).set (idk).toNatClampNeg x4).getD ((0 : Int32)).toNatClampNeg 0)) ((([x0, x1, x2, x3, ev] : List Int64).set (idk).toNatClampNeg x4).getD ((1 : Int32)).toNatClampNeg 0)) ((([x0, x1, x2, x3, ev] : List Int64).set (idk).toNatClampNeg x4).getD ((2 : Int32)).toNatClampNeg 0)) ((([x0, x1, x2, x3, ev] : List Int64).set (idk).toNatClampNeg x4).getD ((3 : Int32)).toNatClampNeg 0)) ((([x0, x1, x2, x3, ev] : List Int64).set (idk).toNatClampNeg x4).getD ((4 : Int32)).toNatClampNeg 0)) := ⟨_, rfl⟩
  rw [← e_m1v] at st100
  have st101 : Steps p.tables e below sE (T99.setTop (mkF m 122 #[.val (.long x0), .second, .val (.long x1), .second, .val (.long x2), .second, .val (.long x3), .second, .val (.long x4), .second, .val (.int x5), .val (.int idk), .val (.long ev), .second, .val (.ref b4), .val (.ref b32), .val (.long m1v), .second, .unset, .unset, .unset, .unset] [(.ref b32)])) := st100.trans (by
      show Steps _ _ _ (T99.setTop (mkF m 118 #[.val (.long x0), .second, .val (.long x1), .second, .val (.long x2), .second, .val (.long x3), .second, .val (.long x4), .second, .val (.int x5), .val (.int idk), .val (.long ev), .second, .val (.ref b4), .val (.ref b32), .unset, .unset, .unset, .unset, .unset, .unset] [(.long m1v)])) _
      refine XS.lstore X99.here hx rfl (hb hby at_118) rfl (l' := #[.val (.long x0), .second, .val (.long x1), .second, .val (.long x2), .second, .val (.long x3), .second, .val (.long x4), .second, .val (.int x5), .val (.int idk), .val (.long ev), .second, .val (.ref b4), .val (.ref b32), .val (.long m1v), .second, .unset, .unset, .unset, .unset]) rfl ?_
      show Steps _ _ _ (T99.setTop (mkF m 120 #[.val (.long x0), .second, .val (.long x1), .second, .val (.long x2), .second, .val (.long x3), .second, .val (.long x4), .second, .val (.int x5), .val (.int idk), .val (.long ev), .second, .val (.ref b4), .val (.ref b32), .val (.long m1v), .second, .unset, .unset, .unset, .unset] [])) _
      refine XS.aload X99.here hx rfl (hb hby at_120) rfl rfl ?_
      exact Steps.refl _)
  obtain ⟨cq102, kq102, q102a, q102b, q102c⟩ := isOf hZ hh99 f88
  obtain ⟨_, _, ⟨T102, L102, k102, n102⟩, -, X102, ⟨Lc102, hQ102, l102, y102, z102⟩, sr102⟩ := X99.virtualBack hx (y := (⟨"com/example/folioseek/folioseek/UseOrder", "first", "()I"⟩ : MethodName)) (z := (⟨"com/example/folioseek/folioseek/UseOrder", "first", "()I"⟩ : MethodName)) hown (mvT hZ (hw _ (List.mem_of_getElem? (i := 71) rfl))) (mvT hZ (hw _ (List.mem_of_getElem? (i := 72) rfl))) (notFace_of_selects (args := #[]) (mvT hZ (hw _ (List.mem_of_getElem? (i := 74) rfl)))) (mvT hZ (hw _ (List.mem_of_getElem? (i := 74) rfl))) (mvT hZ (hw _ (List.mem_of_getElem? (i := 73) rfl))) (by decide) (backOf (W := 0) (rm15 l Z a0 hw [] b32 aI kI LIu h87 n0 Z87 f89 f93) hZ (hw _ (List.mem_of_getElem? (i := 75) rfl)) (hw _ (List.mem_of_getElem? (i := 3) rfl)) (by decide) (by decide)) q102a q102c (g := (mkF m 122 #[.val (.long x0), .second, .val (.long x1), .second, .val (.long x2), .second, .val (.long x3), .second, .val (.long x4), .second, .val (.int x5), .val (.int idk), .val (.long ev), .second, .val (.ref b4), .val (.ref b32), .val (.long m1v), .second, .unset, .unset, .unset, .unset] [(.ref b32)])) rfl (by rw [hml]; rfl) (Steps.refl _) (argsL := []) (rest := []) (lenOf pd_10 rfl) rfl (by show 2 * 0 + _ ≤ _; exact Nat.le_of_eq rfl) (hb hby at_122) (fun _ _ => ⟨rfl, hh99, (by decide : 9 + 0 ≤ _), (by decide : 56 + 0 ≤ _)⟩)
  dsimp only [Pt.U, Pt.locs, Pt.cells, Pt.slots] at X102 l102 y102 z102 sr102 hQ102
  subst l102 y102 z102
  obtain ⟨rfl, N102q, hh102⟩ := hQ102
  have N102 := Fr.app N99 N102q
  obtain ⟨LL102, X102, N102⟩ := own_hide X102 N102
  have st103 : Steps p.tables e below sE (T102.setTop (mkF m 125 #[.val (.long x0), .second, .val (.long x1), .second, .val (.long x2), .second, .val (.long x3), .second, .val (.long x4), .second, .val (.int x5), .val (.int idk), .val (.long ev), .second, .val (.ref b4), .val (.ref b32), .val (.long m1v), .second, .unset, .unset, .unset, .unset] [(.int (LIu.getD ((0 : Int32)).toNatClampNeg 0))])) := st101.trans (sr102)
  obtain ⟨fid, f1, f2, f3, -, f5⟩ := hPu.2.2.2.2.2.1 0 (by decide)
  have f2 : fid < 5 := f2
  have ff := own_fb fid f2
  have hLs : ∀ i, (([x0, x1, x2, x3, ev] : List Int64).set (idk).toNatClampNeg x4).getD i 0 = (own_vu x0 x1 x2 x3 ev x4 idn) i := fun i => by rw [← eidn]; exact own_vg x0 x1 x2 x3 ev x4 idn i hidn5
  have hm1 : m1v = (own_vu x0 x1 x2 x3 ev x4 idn) fid := by rw [e_m1v]; exact own_least (-1) _ (own_vu x0 x1 x2 x3 ev x4 idn) hLs fid f2 (own_m1 fid f2) (fun i hi _ => own_hmin hPu hHu (by decide) f5 i hi)
  have hfe : (LIu.getD ((0 : Int32)).toNatClampNeg 0) = Int32.ofNat fid := f3
  rw [hfe] at st103
  have st104 : Steps p.tables e below sE (T102.setTop (mkF m 129 #[.val (.long x0), .second, .val (.long x1), .second, .val (.long x2), .second, .val (.long x3), .second, .val (.long x4), .second, .val (.int x5), .val (.int idk), .val (.long ev), .second, .val (.ref b4), .val (.ref b32), .val (.long m1v), .second, .val (.int (Int32.ofNat fid)), .unset, .unset, .unset] [(.int (Int32.ofNat fid))])) := st103.trans (by
      show Steps _ _ _ (T102.setTop (mkF m 125 #[.val (.long x0), .second, .val (.long x1), .second, .val (.long x2), .second, .val (.long x3), .second, .val (.long x4), .second, .val (.int x5), .val (.int idk), .val (.long ev), .second, .val (.ref b4), .val (.ref b32), .val (.long m1v), .second, .unset, .unset, .unset, .unset] [(.int (Int32.ofNat fid))])) _
      refine XS.istore X102.here hx rfl (hb hby at_125) rfl (l' := #[.val (.long x0), .second, .val (.long x1), .second, .val (.long x2), .second, .val (.long x3), .second, .val (.long x4), .second, .val (.int x5), .val (.int idk), .val (.long ev), .second, .val (.ref b4), .val (.ref b32), .val (.long m1v), .second, .val (.int (Int32.ofNat fid)), .unset, .unset, .unset]) rfl ?_
      show Steps _ _ _ (T102.setTop (mkF m 127 #[.val (.long x0), .second, .val (.long x1), .second, .val (.long x2), .second, .val (.long x3), .second, .val (.long x4), .second, .val (.int x5), .val (.int idk), .val (.long ev), .second, .val (.ref b4), .val (.ref b32), .val (.long m1v), .second, .val (.int (Int32.ofNat fid)), .unset, .unset, .unset] [])) _
      refine XS.iload X102.here hx rfl (hb hby at_127) rfl ?_
      exact Steps.refl _)
  have hf105 : ¬ ((Int32.ofNat fid) < (0 : Int32)) := ff.1
  have st106 : Steps p.tables e below sE (T102.setTop (mkF m 135 #[.val (.long x0), .second, .val (.long x1), .second, .val (.long x2), .second, .val (.long x3), .second, .val (.long x4), .second, .val (.int x5), .val (.int idk), .val (.long ev), .second, .val (.ref b4), .val (.ref b32), .val (.long m1v), .second, .val (.int (Int32.ofNat fid)), .unset, .unset, .unset] [(.int (4 : Int32)), (.int (Int32.ofNat fid))])) := st104.trans (by
      show Steps _ _ _ (T102.setTop (mkF m 129 #[.val (.long x0), .second, .val (.long x1), .second, .val (.long x2), .second, .val (.long x3), .second, .val (.long x4), .second, .val (.int x5), .val (.int idk), .val (.long ev), .second, .val (.ref b4), .val (.ref b32), .val (.long m1v), .second, .val (.int (Int32.ofNat fid)), .unset, .unset, .unset] [(.int (Int32.ofNat fid))])) _
      refine XS.ifNo X102.here hx rfl (hb hby at_129) rfl ((if0 _ _).trans (flt hf105).1) ?_
      show Steps _ _ _ (T102.setTop (mkF m 132 #[.val (.long x0), .second, .val (.long x1), .second, .val (.long x2), .second, .val (.long x3), .second, .val (.long x4), .second, .val (.int x5), .val (.int idk), .val (.long ev), .second, .val (.ref b4), .val (.ref b32), .val (.long m1v), .second, .val (.int (Int32.ofNat fid)), .unset, .unset, .unset] [])) _
      refine XS.iload X102.here hx rfl (hb hby at_132) rfl ?_
      show Steps _ _ _ (T102.setTop (mkF m 134 #[.val (.long x0), .second, .val (.long x1), .second, .val (.long x2), .second, .val (.long x3), .second, .val (.long x4), .second, .val (.int x5), .val (.int idk), .val (.long ev), .second, .val (.ref b4), .val (.ref b32), .val (.long m1v), .second, .val (.int (Int32.ofNat fid)), .unset, .unset, .unset] [(.int (Int32.ofNat fid))])) _
      refine XS.iconst X102.here hx rfl (hb hby at_134) ?_
      exact Steps.refl _)
  have hf107 : ¬ ((4 : Int32) < (Int32.ofNat fid)) := ff.2.1
  have st108 : Steps p.tables e below sE (T102.setTop (mkF m 142 #[.val (.long x0), .second, .val (.long x1), .second, .val (.long x2), .second, .val (.long x3), .second, .val (.long x4), .second, .val (.int x5), .val (.int idk), .val (.long ev), .second, .val (.ref b4), .val (.ref b32), .val (.long m1v), .second, .val (.int (Int32.ofNat fid)), .unset, .unset, .unset] [(.ref b32)])) := st106.trans (by
      show Steps _ _ _ (T102.setTop (mkF m 135 #[.val (.long x0), .second, .val (.long x1), .second, .val (.long x2), .second, .val (.long x3), .second, .val (.long x4), .second, .val (.int x5), .val (.int idk), .val (.long ev), .second, .val (.ref b4), .val (.ref b32), .val (.long m1v), .second, .val (.int (Int32.ofNat fid)), .unset, .unset, .unset] [(.int (4 : Int32)), (.int (Int32.ofNat fid))])) _
      refine XS.icmpYes X102.here hx rfl (pc0 := 135) (pc' := 140) rfl (hb hby at_135) rfl (flt hf107).2.2.2 (by decide) (by decide) ?_
      show Steps _ _ _ (T102.setTop (mkF m 140 #[.val (.long x0), .second, .val (.long x1), .second, .val (.long x2), .second, .val (.long x3), .second, .val (.long x4), .second, .val (.int x5), .val (.int idk), .val (.long ev), .second, .val (.ref b4), .val (.ref b32), .val (.long m1v), .second, .val (.int (Int32.ofNat fid)), .unset, .unset, .unset] [])) _
      refine XS.aload X102.here hx rfl (hb hby at_140) rfl rfl ?_
      exact Steps.refl _)
  obtain ⟨cq109, kq109, q109a, q109b, q109c⟩ := isOf hZ hh102 f88
  obtain ⟨_, _, ⟨T109, L109, k109, n109⟩, -, X109, ⟨Lc109, hQ109, l109, y109, z109⟩, sr109⟩ := X102.virtualBack hx (y := (⟨"com/example/folioseek/folioseek/UseOrder", "firstUse", "()J"⟩ : MethodName)) (z := (⟨"com/example/folioseek/folioseek/UseOrder", "firstUse", "()J"⟩ : MethodName)) hown (mvT hZ (hw _ (List.mem_of_getElem? (i := 76) rfl))) (mvT hZ (hw _ (List.mem_of_getElem? (i := 77) rfl))) (notFace_of_selects (args := #[]) (mvT hZ (hw _ (List.mem_of_getElem? (i := 79) rfl)))) (mvT hZ (hw _ (List.mem_of_getElem? (i := 79) rfl))) (mvT hZ (hw _ (List.mem_of_getElem? (i := 78) rfl))) (by decide) (backOf (W := 0) (rm16 l Z a0 hw [] b32 aU kU LUu h87 n0 Z87 f90 f94) hZ (hw _ (List.mem_of_getElem? (i := 80) rfl)) (hw _ (List.mem_of_getElem? (i := 3) rfl)) (by decide) (by decide)) q109a q109c (g := (mkF m 142 #[.val (.long x0), .second, .val (.long x1), .second, .val (.long x2), .second, .val (.long x3), .second, .val (.long x4), .second, .val (.int x5), .val (.int idk), .val (.long ev), .second, .val (.ref b4), .val (.ref b32), .val (.long m1v), .second, .val (.int (Int32.ofNat fid)), .unset, .unset, .unset] [(.ref b32)])) rfl (by rw [hml]; rfl) (Steps.refl _) (argsL := []) (rest := []) (lenOf pd_11 rfl) rfl (by show 2 * 0 + _ ≤ _; exact Nat.le_of_eq rfl) (hb hby at_142) (fun _ _ => ⟨rfl, hh102, (by decide : 9 + 0 ≤ _), (by decide : 56 + 0 ≤ _)⟩)
  dsimp only [Pt.U, Pt.locs, Pt.cells, Pt.slots] at X109 l109 y109 z109 sr109 hQ109
  subst l109 y109 z109
  obtain ⟨rfl, N109q, hh109⟩ := hQ109
  have N109 := Fr.app N102 N109q
  obtain ⟨LL109, X109, N109⟩ := own_hide X109 N109
  have st110 : Steps p.tables e below sE (T109.setTop (mkF m 145 #[.val (.long x0), .second, .val (.long x1), .second, .val (.long x2), .second, .val (.long x3), .second, .val (.long x4), .second, .val (.int x5), .val (.int idk), .val (.long ev), .second, .val (.ref b4), .val (.ref b32), .val (.long m1v), .second, .val (.int (Int32.ofNat fid)), .unset, .unset, .unset] [(.long (LUu.getD ((0 : Int32)).toNatClampNeg 0))])) := st108.trans (sr109)
  have hufid : (LUu.getD ((0 : Int32)).toNatClampNeg 0) = (own_vu x0 x1 x2 x3 ev x4 idn) fid := f5
  rw [hufid] at st110
  have st111 : Steps p.tables e below sE (T109.setTop (mkF m 148 #[.val (.long x0), .second, .val (.long x1), .second, .val (.long x2), .second, .val (.long x3), .second, .val (.long x4), .second, .val (.int x5), .val (.int idk), .val (.long ev), .second, .val (.ref b4), .val (.ref b32), .val (.long m1v), .second, .val (.int (Int32.ofNat fid)), .unset, .unset, .unset] [(.int (lcmpW ((own_vu x0 x1 x2 x3 ev x4 idn) fid) m1v))])) := st110.trans (by
      show Steps _ _ _ (T109.setTop (mkF m 145 #[.val (.long x0), .second, .val (.long x1), .second, .val (.long x2), .second, .val (.long x3), .second, .val (.long x4), .second, .val (.int x5), .val (.int idk), .val (.long ev), .second, .val (.ref b4), .val (.ref b32), .val (.long m1v), .second, .val (.int (Int32.ofNat fid)), .unset, .unset, .unset] [(.long ((own_vu x0 x1 x2 x3 ev x4 idn) fid))])) _
      refine XS.lload X109.here hx rfl (hb hby at_145) rfl ?_
      show Steps _ _ _ (T109.setTop (mkF m 147 #[.val (.long x0), .second, .val (.long x1), .second, .val (.long x2), .second, .val (.long x3), .second, .val (.long x4), .second, .val (.int x5), .val (.int idk), .val (.long ev), .second, .val (.ref b4), .val (.ref b32), .val (.long m1v), .second, .val (.int (Int32.ofNat fid)), .unset, .unset, .unset] [(.long m1v), (.long ((own_vu x0 x1 x2 x3 ev x4 idn) fid))])) _
      refine XS.lcmp X109.here hx rfl (hb hby at_147) rfl ?_
      exact Steps.refl _)
  have hf112 : ((own_vu x0 x1 x2 x3 ev x4 idn) fid) = m1v := hm1.symm
  obtain ⟨cl113, Ar113, q113, S113, N113, H113, G113⟩ := id f96
  have hin113 : ¬ ((Int32.ofNat fid) < 0 ∨ cl113.slots.size ≤ ((Int32.ofNat fid)).toNatClampNeg) := inb_of S113 ff.2.2
  have hat113 : cl113.slots[((Int32.ofNat fid)).toNatClampNeg]? = some (.long ((([x0, x1, x2, x3, ev] : List Int64).set (idk).toNatClampNeg x4).getD ((Int32.ofNat fid)).toNatClampNeg 0)) := H113.at hin113 (own_getJ (([x0, x1, x2, x3, ev] : List Int64).set (idk).toNatClampNeg x4) _)
  have st114 : Steps p.tables e below sE (T109.setTop (mkF m 159 #[.val (.long x0), .second, .val (.long x1), .second, .val (.long x2), .second, .val (.long x3), .second, .val (.long x4), .second, .val (.int x5), .val (.int idk), .val (.long ev), .second, .val (.ref b4), .val (.ref b32), .val (.long m1v), .second, .val (.int (Int32.ofNat fid)), .unset, .unset, .unset] [(.int (lcmpW ((([x0, x1, x2, x3, ev] : List Int64).set (idk).toNatClampNeg x4).getD ((Int32.ofNat fid)).toNatClampNeg 0) m1v))])) := st111.trans (by
      show Steps _ _ _ (T109.setTop (mkF m 148 #[.val (.long x0), .second, .val (.long x1), .second, .val (.long x2), .second, .val (.long x3), .second, .val (.long x4), .second, .val (.int x5), .val (.int idk), .val (.long ev), .second, .val (.ref b4), .val (.ref b32), .val (.long m1v), .second, .val (.int (Int32.ofNat fid)), .unset, .unset, .unset] [(.int (lcmpW ((own_vu x0 x1 x2 x3 ev x4 idn) fid) m1v))])) _
      refine XS.ifNo X109.here hx rfl (hb hby at_148) rfl ((if0 _ _).trans (teq ((lw_eq _ _).mpr hf112)).2) ?_
      show Steps _ _ _ (T109.setTop (mkF m 151 #[.val (.long x0), .second, .val (.long x1), .second, .val (.long x2), .second, .val (.long x3), .second, .val (.long x4), .second, .val (.int x5), .val (.int idk), .val (.long ev), .second, .val (.ref b4), .val (.ref b32), .val (.long m1v), .second, .val (.int (Int32.ofNat fid)), .unset, .unset, .unset] [])) _
      refine XS.aload X109.here hx rfl (hb hby at_151) rfl rfl ?_
      show Steps _ _ _ (T109.setTop (mkF m 153 #[.val (.long x0), .second, .val (.long x1), .second, .val (.long x2), .second, .val (.long x3), .second, .val (.long x4), .second, .val (.int x5), .val (.int idk), .val (.long ev), .second, .val (.ref b4), .val (.ref b32), .val (.long m1v), .second, .val (.int (Int32.ofNat fid)), .unset, .unset, .unset] [(.ref b4)])) _
      refine XS.iload X109.here hx rfl (hb hby at_153) rfl ?_
      show Steps _ _ _ (T109.setTop (mkF m 155 #[.val (.long x0), .second, .val (.long x1), .second, .val (.long x2), .second, .val (.long x3), .second, .val (.long x4), .second, .val (.int x5), .val (.int idk), .val (.long ev), .second, .val (.ref b4), .val (.ref b32), .val (.long m1v), .second, .val (.int (Int32.ofNat fid)), .unset, .unset, .unset] [(.int (Int32.ofNat fid)), (.ref b4)])) _
      refine X109.laload hx (j := (Int32.ofNat fid)) (v := (.long ((([x0, x1, x2, x3, ev] : List Int64).set (idk).toNatClampNeg x4).getD ((Int32.ofNat fid)).toNatClampNeg 0))) (by rw [hh109]; exact Ar113.1) (State.isArrayOf_alike hZ.alike Ar113.2.1) Ar113.2.2 hin113 hat113 (g := (mkF m 155 #[.val (.long x0), .second, .val (.long x1), .second, .val (.long x2), .second, .val (.long x3), .second, .val (.long x4), .second, .val (.int x5), .val (.int idk), .val (.long ev), .second, .val (.ref b4), .val (.ref b32), .val (.long m1v), .second, .val (.int (Int32.ofNat fid)), .unset, .unset, .unset] [(.int (Int32.ofNat fid)), (.ref b4)])) rfl rfl (hb hby at_155) _ ?_
      show Steps _ _ _ (T109.setTop (mkF m 156 #[.val (.long x0), .second, .val (.long x1), .second, .val (.long x2), .second, .val (.long x3), .second, .val (.long x4), .second, .val (.int x5), .val (.int idk), .val (.long ev), .second, .val (.ref b4), .val (.ref b32), .val (.long m1v), .second, .val (.int (Int32.ofNat fid)), .unset, .unset, .unset] [(.long ((([x0, x1, x2, x3, ev] : List Int64).set (idk).toNatClampNeg x4).getD ((Int32.ofNat fid)).toNatClampNeg 0))])) _
      refine XS.lload X109.here hx rfl (hb hby at_156) rfl ?_
      show Steps _ _ _ (T109.setTop (mkF m 158 #[.val (.long x0), .second, .val (.long x1), .second, .val (.long x2), .second, .val (.long x3), .second, .val (.long x4), .second, .val (.int x5), .val (.int idk), .val (.long ev), .second, .val (.ref b4), .val (.ref b32), .val (.long m1v), .second, .val (.int (Int32.ofNat fid)), .unset, .unset, .unset] [(.long m1v), (.long ((([x0, x1, x2, x3, ev] : List Int64).set (idk).toNatClampNeg x4).getD ((Int32.ofNat fid)).toNatClampNeg 0))])) _
      refine XS.lcmp X109.here hx rfl (hb hby at_158) rfl ?_
      exact Steps.refl _)
  have hf115 : ((([x0, x1, x2, x3, ev] : List Int64).set (idk).toNatClampNeg x4).getD ((Int32.ofNat fid)).toNatClampNeg 0) = m1v := by rw [own_onn fid (by omega), hLs fid]; exact hm1.symm
  have st116 : Steps p.tables e below sE (T109.setTop (mkF m 168 #[.val (.long x0), .second, .val (.long x1), .second, .val (.long x2), .second, .val (.long x3), .second, .val (.long x4), .second, .val (.int x5), .val (.int idk), .val (.long ev), .second, .val (.ref b4), .val (.ref b32), .val (.long m1v), .second, .val (.int (Int32.ofNat fid)), .unset, .unset, .unset] [(.int (Int32.ofNat fid)), (.ref b32)])) := st114.trans (by
      show Steps _ _ _ (T109.setTop (mkF m 159 #[.val (.long x0), .second, .val (.long x1), .second, .val (.long x2), .second, .val (.long x3), .second, .val (.long x4), .second, .val (.int x5), .val (.int idk), .val (.long ev), .second, .val (.ref b4), .val (.ref b32), .val (.long m1v), .second, .val (.int (Int32.ofNat fid)), .unset, .unset, .unset] [(.int (lcmpW ((([x0, x1, x2, x3, ev] : List Int64).set (idk).toNatClampNeg x4).getD ((Int32.ofNat fid)).toNatClampNeg 0) m1v))])) _
      refine XS.ifYes X109.here hx rfl (pc0 := 159) (pc' := 164) rfl (hb hby at_159) rfl ((if0 _ _).trans (teq ((lw_eq _ _).mpr hf115)).1) (by decide) (by decide) ?_
      show Steps _ _ _ (T109.setTop (mkF m 164 #[.val (.long x0), .second, .val (.long x1), .second, .val (.long x2), .second, .val (.long x3), .second, .val (.long x4), .second, .val (.int x5), .val (.int idk), .val (.long ev), .second, .val (.ref b4), .val (.ref b32), .val (.long m1v), .second, .val (.int (Int32.ofNat fid)), .unset, .unset, .unset] [])) _
      refine XS.aload X109.here hx rfl (hb hby at_164) rfl rfl ?_
      show Steps _ _ _ (T109.setTop (mkF m 166 #[.val (.long x0), .second, .val (.long x1), .second, .val (.long x2), .second, .val (.long x3), .second, .val (.long x4), .second, .val (.int x5), .val (.int idk), .val (.long ev), .second, .val (.ref b4), .val (.ref b32), .val (.long m1v), .second, .val (.int (Int32.ofNat fid)), .unset, .unset, .unset] [(.ref b32)])) _
      refine XS.iload X109.here hx rfl (hb hby at_166) rfl ?_
      exact Steps.refl _)
  obtain ⟨cq117, kq117, q117a, q117b, q117c⟩ := isOf hZ hh109 f88
  obtain ⟨_, _, ⟨T117, L117, k117, n117⟩, -, X117, ⟨Lc117, hQ117, l117, y117, z117⟩, sr117⟩ := X109.virtualBack hx (y := (⟨"com/example/folioseek/folioseek/UseOrder", "remove", "(I)V"⟩ : MethodName)) (z := (⟨"com/example/folioseek/folioseek/UseOrder", "remove", "(I)V"⟩ : MethodName)) hown (mvT hZ (hw _ (List.mem_of_getElem? (i := 81) rfl))) (mvT hZ (hw _ (List.mem_of_getElem? (i := 82) rfl))) (notFace_of_selects (args := #[]) (mvT hZ (hw _ (List.mem_of_getElem? (i := 84) rfl)))) (mvT hZ (hw _ (List.mem_of_getElem? (i := 84) rfl))) (mvT hZ (hw _ (List.mem_of_getElem? (i := 83) rfl))) (by decide) (backOf (W := 0) (rmrm4 l Z a0 hw [] b32 (Int32.ofNat fid) aI aU aT4 kI kU kT4 LIu LUu LSu (8 : Int32) (own_vu x0 x1 x2 x3 ev x4 idn) (fun i => i < 5) fid h87 n0 Z87 f88 f89 f90 f92 f91 f93 f94 f95 hPu hHu f2 rfl g_b32 gai gau gt4a nau ni4a nu4a nxi nxu nx4a) hZ (hw _ (List.mem_of_getElem? (i := 85) rfl)) (hw _ (List.mem_of_getElem? (i := 3) rfl)) (by decide) (by decide)) q117a q117c (g := (mkF m 168 #[.val (.long x0), .second, .val (.long x1), .second, .val (.long x2), .second, .val (.long x3), .second, .val (.long x4), .second, .val (.int x5), .val (.int idk), .val (.long ev), .second, .val (.ref b4), .val (.ref b32), .val (.long m1v), .second, .val (.int (Int32.ofNat fid)), .unset, .unset, .unset] [(.int (Int32.ofNat fid)), (.ref b32)])) rfl (by rw [hml]; rfl) (Steps.refl _) (argsL := [(.int (Int32.ofNat fid))]) (rest := []) (lenOf pd_5 rfl) rfl (by show 2 * 0 + _ ≤ _; exact Nat.le_of_eq rfl) (hb hby at_168) (fun _ _ => ⟨rfl, hh109, (by decide : 9 + 0 ≤ _), (by decide : 56 + 0 ≤ _)⟩)
  dsimp only [Pt.U, Pt.locs, Pt.cells, Pt.slots] at X117 l117 y117 z117 sr117 hQ117
  subst l117 y117 z117
  obtain ⟨rfl, N117q, K117c, f117_0, f117_1, f117_2, f117_3, f117_4, ⟨LIr, LUr, LSr, ri, ru, rs, hPr, hHr⟩⟩ := hQ117
  have N117 := Fr.app N109 N117q
  obtain ⟨LL117, X117, N117⟩ := own_hide X117 N117
  have f118 : Exa Z T117.heap b32 "com/example/folioseek/folioseek/UseOrder" := f88.keep K117c
  have f119 : Arv Z T117.heap b4 k4 .long (5 : Int32) (List.map Value.long (([x0, x1, x2, x3, ev] : List Int64).set (idk).toNatClampNeg x4)) (.long (0 : Int64)) := f96.keep K117c (ninS ne_b4_b32 (ninS ne_s_aI (ninS ne_s_aU (ninS ne_s_aT4 nin0))))
  have Z120 : n0 ≤ T117.heap.size := Nat.le_trans Z87 K117c.1
  have st121 : Steps p.tables e below sE (T117.setTop (mkF m 171 #[.val (.long x0), .second, .val (.long x1), .second, .val (.long x2), .second, .val (.long x3), .second, .val (.long x4), .second, .val (.int x5), .val (.int idk), .val (.long ev), .second, .val (.ref b4), .val (.ref b32), .val (.long m1v), .second, .val (.int (Int32.ofNat fid)), .unset, .unset, .unset] [])) := st116.trans (sr117)
  have st122 : Steps p.tables e below sE (T117.setTop (mkF m 175 #[.val (.long x0), .second, .val (.long x1), .second, .val (.long x2), .second, .val (.long x3), .second, .val (.long x4), .second, .val (.int x5), .val (.int idk), .val (.long ev), .second, .val (.ref b4), .val (.ref b32), .val (.long m1v), .second, .val (.int (Int32.ofNat fid)), .unset, .unset, .unset] [(.int (Int32.ofNat fid)), (.ref b4)])) := st121.trans (by
      show Steps _ _ _ (T117.setTop (mkF m 171 #[.val (.long x0), .second, .val (.long x1), .second, .val (.long x2), .second, .val (.long x3), .second, .val (.long x4), .second, .val (.int x5), .val (.int idk), .val (.long ev), .second, .val (.ref b4), .val (.ref b32), .val (.long m1v), .second, .val (.int (Int32.ofNat fid)), .unset, .unset, .unset] [])) _
      refine XS.aload X117.here hx rfl (hb hby at_171) rfl rfl ?_
      show Steps _ _ _ (T117.setTop (mkF m 173 #[.val (.long x0), .second, .val (.long x1), .second, .val (.long x2), .second, .val (.long x3), .second, .val (.long x4), .second, .val (.int x5), .val (.int idk), .val (.long ev), .second, .val (.ref b4), .val (.ref b32), .val (.long m1v), .second, .val (.int (Int32.ofNat fid)), .unset, .unset, .unset] [(.ref b4)])) _
      refine XS.iload X117.here hx rfl (hb hby at_173) rfl ?_
      exact Steps.refl _)
  obtain ⟨_, _, ⟨T123, L123, k123, n123⟩, -, X123, ⟨Lc123, hQ123, l123, y123, z123⟩, sr123⟩ := Jvm.LawKit.callS X117 hx (y := (⟨"com/example/folioseek/folioseek/UseOrderUpdatePinLaw", "minExcept", "([JI)J"⟩ : MethodName)) hown (mvT hZ (hw _ (List.mem_of_getElem? (i := 63) rfl))) (mvT hZ (hw _ (List.mem_of_getElem? (i := 64) rfl))) (mvT hZ (hw _ (List.mem_of_getElem? (i := 65) rfl))) (mvT hZ (hw _ (List.mem_of_getElem? (i := 66) rfl))) (by decide) (backOf (W := 0) (rm13 l Z a0 hw [] b4 (Int32.ofNat fid) k4 (([x0, x1, x2, x3, ev] : List Int64).set (idk).toNatClampNeg x4) T117.heap n0 Z120 f119) hZ (hw _ (List.mem_of_getElem? (i := 66) rfl)) (hw _ (List.mem_of_getElem? (i := 65) rfl)) (by decide) (by decide)) (g := (mkF m 175 #[.val (.long x0), .second, .val (.long x1), .second, .val (.long x2), .second, .val (.long x3), .second, .val (.long x4), .second, .val (.int x5), .val (.int idk), .val (.long ev), .second, .val (.ref b4), .val (.ref b32), .val (.long m1v), .second, .val (.int (Int32.ofNat fid)), .unset, .unset, .unset] [(.int (Int32.ofNat fid)), (.ref b4)])) rfl (by rw [hml]; rfl) (argsL := [(.ref b4), (.int (Int32.ofNat fid))]) (rest := []) (lenOf pd_9 rfl) rfl (by show 2 * 0 + _ ≤ _; exact Nat.le_of_eq rfl) (hb hby at_175) (fun _ _ => ⟨rfl, rfl, (by decide : 9 + 0 ≤ _), (by decide : 56 + 0 ≤ _)⟩)
  dsimp only [Pt.U, Pt.locs, Pt.cells, Pt.slots] at X123 l123 y123 z123 sr123 hQ123
  subst l123 y123 z123
  obtain ⟨rfl, N123q, hh123⟩ := hQ123
  have N123 := Fr.app N117 N123q
  obtain ⟨LL123, X123, N123⟩ := own_hide X123 N123
  have st124 : Steps p.tables e below sE (T123.setTop (mkF m 178 #[.val (.long x0), .second, .val (.long x1), .second, .val (.long x2), .second, .val (.long x3), .second, .val (.long x4), .second, .val (.int x5), .val (.int idk), .val (.long ev), .second, .val (.ref b4), .val (.ref b32), .val (.long m1v), .second, .val (.int (Int32.ofNat fid)), .unset, .unset, .unset] [(.long (own_me (Int32.ofNat fid) (4 : Int32) (own_me (Int32.ofNat fid) (3 : Int32) (own_me (Int32.ofNat fid) (2 : Int32) (own_me (Int32.ofNat fid) (1 : Int32) (own_me (Int32.ofNat fid) (0 : Int32) (9223372036854775807 : Int64) ((([x0, x1, x2, x3, ev] : List Int64).set (idk).toNatClampNeg x4).getD ((0 : Int32)).toNatClampNeg 0)) ((([x0, x1, x2, x3, ev] : List Int64).set (idk).toNatClampNeg x4).getD ((1 : Int32)).toNatClampNeg 0)) ((([x0, x1, x2, x3, ev] : List Int64).set (idk).toNatClampNeg x4).getD ((2 : Int32)).toNatClampNeg 0)) ((([x0, x1, x2, x3, ev] : List Int64).set (idk).toNatClampNeg x4).getD ((3 : Int32)).toNatClampNeg 0)) ((([x0, x1, x2, x3, ev] : List Int64).set (idk).toNatClampNeg x4).getD ((4 : Int32)).toNatClampNeg 0)))])) := st122.trans (sr123 _ (Steps.refl _))
  obtain ⟨m2v, e_m2v⟩ : ∃ z, z = (own_me (Int32.ofNat fid) (4 : Int32) (own_me (Int32.ofNat fid) (3 : Int32) (own_me (Int32.ofNat fid) (2 : Int32) (own_me (Int32.ofNat fid) (1 : Int32) (own_me (Int32.ofNat fid) (0 : Int32) (9223372036854775807 : Int64) ((([x0, x1, x2, x3, ev] : List Int64).set (idk).toNatClampNeg x4).getD ((0 : Int32)).toNatClampNeg 0)) ((([x0, x1, x2, x3, ev] : List Int64).set (idk).toNatClampNeg x4).getD ((1 : Int32)).toNatClampNeg 0)) ((([x0, x1, x2, x3, ev] : List Int64).set (idk).toNatClampNeg x4).getD ((2 : Int32)).toNatClampNeg 0)) ((([x0, x1, x2, x3, ev] : List Int64).set (idk).toNatClampNeg x4).getD ((3 : Int32)).toNatClampNeg 0)) ((([x0, x1, x2, x3, ev] : List Int64).set (idk).toNatClampNeg x4).getD ((4 : Int32)).toNatClampNeg 0)) := ⟨_, rfl⟩
  rw [← e_m2v] at st124
  have st125 : Steps p.tables e below sE (T123.setTop (mkF m 182 #[.val (.long x0), .second, .val (.long x1), .second, .val (.long x2), .second, .val (.long x3), .second, .val (.long x4), .second, .val (.int x5), .val (.int idk), .val (.long ev), .second, .val (.ref b4), .val (.ref b32), .val (.long m1v), .second, .val (.int (Int32.ofNat fid)), .val (.long m2v), .second, .unset] [(.ref b32)])) := st124.trans (by
      show Steps _ _ _ (T123.setTop (mkF m 178 #[.val (.long x0), .second, .val (.long x1), .second, .val (.long x2), .second, .val (.long x3), .second, .val (.long x4), .second, .val (.int x5), .val (.int idk), .val (.long ev), .second, .val (.ref b4), .val (.ref b32), .val (.long m1v), .second, .val (.int (Int32.ofNat fid)), .unset, .unset, .unset] [(.long m2v)])) _
      refine XS.lstore X123.here hx rfl (hb hby at_178) rfl (l' := #[.val (.long x0), .second, .val (.long x1), .second, .val (.long x2), .second, .val (.long x3), .second, .val (.long x4), .second, .val (.int x5), .val (.int idk), .val (.long ev), .second, .val (.ref b4), .val (.ref b32), .val (.long m1v), .second, .val (.int (Int32.ofNat fid)), .val (.long m2v), .second, .unset]) rfl ?_
      show Steps _ _ _ (T123.setTop (mkF m 180 #[.val (.long x0), .second, .val (.long x1), .second, .val (.long x2), .second, .val (.long x3), .second, .val (.long x4), .second, .val (.int x5), .val (.int idk), .val (.long ev), .second, .val (.ref b4), .val (.ref b32), .val (.long m1v), .second, .val (.int (Int32.ofNat fid)), .val (.long m2v), .second, .unset] [])) _
      refine XS.aload X123.here hx rfl (hb hby at_180) rfl rfl ?_
      exact Steps.refl _)
  obtain ⟨cq126, kq126, q126a, q126b, q126c⟩ := isOf hZ hh123 f117_0
  obtain ⟨_, _, ⟨T126, L126, k126, n126⟩, -, X126, ⟨Lc126, hQ126, l126, y126, z126⟩, sr126⟩ := X123.virtualBack hx (y := (⟨"com/example/folioseek/folioseek/UseOrder", "first", "()I"⟩ : MethodName)) (z := (⟨"com/example/folioseek/folioseek/UseOrder", "first", "()I"⟩ : MethodName)) hown (mvT hZ (hw _ (List.mem_of_getElem? (i := 71) rfl))) (mvT hZ (hw _ (List.mem_of_getElem? (i := 72) rfl))) (notFace_of_selects (args := #[]) (mvT hZ (hw _ (List.mem_of_getElem? (i := 74) rfl)))) (mvT hZ (hw _ (List.mem_of_getElem? (i := 74) rfl))) (mvT hZ (hw _ (List.mem_of_getElem? (i := 73) rfl))) (by decide) (backOf (W := 0) (rm15 l Z a0 hw [] b32 aI kI LIr T117.heap n0 Z120 f117_1 ri) hZ (hw _ (List.mem_of_getElem? (i := 75) rfl)) (hw _ (List.mem_of_getElem? (i := 3) rfl)) (by decide) (by decide)) q126a q126c (g := (mkF m 182 #[.val (.long x0), .second, .val (.long x1), .second, .val (.long x2), .second, .val (.long x3), .second, .val (.long x4), .second, .val (.int x5), .val (.int idk), .val (.long ev), .second, .val (.ref b4), .val (.ref b32), .val (.long m1v), .second, .val (.int (Int32.ofNat fid)), .val (.long m2v), .second, .unset] [(.ref b32)])) rfl (by rw [hml]; rfl) (Steps.refl _) (argsL := []) (rest := []) (lenOf pd_10 rfl) rfl (by show 2 * 0 + _ ≤ _; exact Nat.le_of_eq rfl) (hb hby at_182) (fun _ _ => ⟨rfl, hh123, (by decide : 9 + 0 ≤ _), (by decide : 56 + 0 ≤ _)⟩)
  dsimp only [Pt.U, Pt.locs, Pt.cells, Pt.slots] at X126 l126 y126 z126 sr126 hQ126
  subst l126 y126 z126
  obtain ⟨rfl, N126q, hh126⟩ := hQ126
  have N126 := Fr.app N123 N126q
  obtain ⟨LL126, X126, N126⟩ := own_hide X126 N126
  have st127 : Steps p.tables e below sE (T126.setTop (mkF m 185 #[.val (.long x0), .second, .val (.long x1), .second, .val (.long x2), .second, .val (.long x3), .second, .val (.long x4), .second, .val (.int x5), .val (.int idk), .val (.long ev), .second, .val (.ref b4), .val (.ref b32), .val (.long m1v), .second, .val (.int (Int32.ofNat fid)), .val (.long m2v), .second, .unset] [(.int (LIr.getD ((0 : Int32)).toNatClampNeg 0))])) := st125.trans (sr126)
  obtain ⟨gid, g1, g2, g3, -, g5⟩ := hPr.2.2.2.2.2.1 0 (by decide)
  have g2 : gid < 5 ∧ ¬ gid = fid := g2
  have gg := own_fb gid g2.1
  have hm2 : m2v = (own_vu x0 x1 x2 x3 ev x4 idn) gid := by rw [e_m2v]; exact own_least (Int32.ofNat fid) _ (own_vu x0 x1 x2 x3 ev x4 idn) hLs gid g2.1 (own_ne4 f2 g2.1 g2.2) (fun i hi h1 => own_hmin hPr hHr (by decide) g5 i ⟨hi, fun q => h1 (by rw [q])⟩)
  have hge : (LIr.getD ((0 : Int32)).toNatClampNeg 0) = Int32.ofNat gid := g3
  rw [hge] at st127
  have st128 : Steps p.tables e below sE (T126.setTop (mkF m 189 #[.val (.long x0), .second, .val (.long x1), .second, .val (.long x2), .second, .val (.long x3), .second, .val (.long x4), .second, .val (.int x5), .val (.int idk), .val (.long ev), .second, .val (.ref b4), .val (.ref b32), .val (.long m1v), .second, .val (.int (Int32.ofNat fid)), .val (.long m2v), .second, .val (.int (Int32.ofNat gid))] [(.int (Int32.ofNat gid))])) := st127.trans (by
      show Steps _ _ _ (T126.setTop (mkF m 185 #[.val (.long x0), .second, .val (.long x1), .second, .val (.long x2), .second, .val (.long x3), .second, .val (.long x4), .second, .val (.int x5), .val (.int idk), .val (.long ev), .second, .val (.ref b4), .val (.ref b32), .val (.long m1v), .second, .val (.int (Int32.ofNat fid)), .val (.long m2v), .second, .unset] [(.int (Int32.ofNat gid))])) _
      refine XS.istore X126.here hx rfl (hb hby at_185) rfl (l' := #[.val (.long x0), .second, .val (.long x1), .second, .val (.long x2), .second, .val (.long x3), .second, .val (.long x4), .second, .val (.int x5), .val (.int idk), .val (.long ev), .second, .val (.ref b4), .val (.ref b32), .val (.long m1v), .second, .val (.int (Int32.ofNat fid)), .val (.long m2v), .second, .val (.int (Int32.ofNat gid))]) rfl ?_
      show Steps _ _ _ (T126.setTop (mkF m 187 #[.val (.long x0), .second, .val (.long x1), .second, .val (.long x2), .second, .val (.long x3), .second, .val (.long x4), .second, .val (.int x5), .val (.int idk), .val (.long ev), .second, .val (.ref b4), .val (.ref b32), .val (.long m1v), .second, .val (.int (Int32.ofNat fid)), .val (.long m2v), .second, .val (.int (Int32.ofNat gid))] [])) _
      refine XS.iload X126.here hx rfl (hb hby at_187) rfl ?_
      exact Steps.refl _)
  have hf129 : ¬ ((Int32.ofNat gid) < (0 : Int32)) := gg.1
  have st130 : Steps p.tables e below sE (T126.setTop (mkF m 195 #[.val (.long x0), .second, .val (.long x1), .second, .val (.long x2), .second, .val (.long x3), .second, .val (.long x4), .second, .val (.int x5), .val (.int idk), .val (.long ev), .second, .val (.ref b4), .val (.ref b32), .val (.long m1v), .second, .val (.int (Int32.ofNat fid)), .val (.long m2v), .second, .val (.int (Int32.ofNat gid))] [(.int (4 : Int32)), (.int (Int32.ofNat gid))])) := st128.trans (by
      show Steps _ _ _ (T126.setTop (mkF m 189 #[.val (.long x0), .second, .val (.long x1), .second, .val (.long x2), .second, .val (.long x3), .second, .val (.long x4), .second, .val (.int x5), .val (.int idk), .val (.long ev), .second, .val (.ref b4), .val (.ref b32), .val (.long m1v), .second, .val (.int (Int32.ofNat fid)), .val (.long m2v), .second, .val (.int (Int32.ofNat gid))] [(.int (Int32.ofNat gid))])) _
      refine XS.ifNo X126.here hx rfl (hb hby at_189) rfl ((if0 _ _).trans (flt hf129).1) ?_
      show Steps _ _ _ (T126.setTop (mkF m 192 #[.val (.long x0), .second, .val (.long x1), .second, .val (.long x2), .second, .val (.long x3), .second, .val (.long x4), .second, .val (.int x5), .val (.int idk), .val (.long ev), .second, .val (.ref b4), .val (.ref b32), .val (.long m1v), .second, .val (.int (Int32.ofNat fid)), .val (.long m2v), .second, .val (.int (Int32.ofNat gid))] [])) _
      refine XS.iload X126.here hx rfl (hb hby at_192) rfl ?_
      show Steps _ _ _ (T126.setTop (mkF m 194 #[.val (.long x0), .second, .val (.long x1), .second, .val (.long x2), .second, .val (.long x3), .second, .val (.long x4), .second, .val (.int x5), .val (.int idk), .val (.long ev), .second, .val (.ref b4), .val (.ref b32), .val (.long m1v), .second, .val (.int (Int32.ofNat fid)), .val (.long m2v), .second, .val (.int (Int32.ofNat gid))] [(.int (Int32.ofNat gid))])) _
      refine XS.iconst X126.here hx rfl (hb hby at_194) ?_
      exact Steps.refl _)
  have hf131 : ¬ ((4 : Int32) < (Int32.ofNat gid)) := gg.2.1
  have st132 : Steps p.tables e below sE (T126.setTop (mkF m 202 #[.val (.long x0), .second, .val (.long x1), .second, .val (.long x2), .second, .val (.long x3), .second, .val (.long x4), .second, .val (.int x5), .val (.int idk), .val (.long ev), .second, .val (.ref b4), .val (.ref b32), .val (.long m1v), .second, .val (.int (Int32.ofNat fid)), .val (.long m2v), .second, .val (.int (Int32.ofNat gid))] [(.int (Int32.ofNat fid)), (.int (Int32.ofNat gid))])) := st130.trans (by
      show Steps _ _ _ (T126.setTop (mkF m 195 #[.val (.long x0), .second, .val (.long x1), .second, .val (.long x2), .second, .val (.long x3), .second, .val (.long x4), .second, .val (.int x5), .val (.int idk), .val (.long ev), .second, .val (.ref b4), .val (.ref b32), .val (.long m1v), .second, .val (.int (Int32.ofNat fid)), .val (.long m2v), .second, .val (.int (Int32.ofNat gid))] [(.int (4 : Int32)), (.int (Int32.ofNat gid))])) _
      refine XS.icmpNo X126.here hx rfl (hb hby at_195) rfl (flt hf131).2.2.1 ?_
      show Steps _ _ _ (T126.setTop (mkF m 198 #[.val (.long x0), .second, .val (.long x1), .second, .val (.long x2), .second, .val (.long x3), .second, .val (.long x4), .second, .val (.int x5), .val (.int idk), .val (.long ev), .second, .val (.ref b4), .val (.ref b32), .val (.long m1v), .second, .val (.int (Int32.ofNat fid)), .val (.long m2v), .second, .val (.int (Int32.ofNat gid))] [])) _
      refine XS.iload X126.here hx rfl (hb hby at_198) rfl ?_
      show Steps _ _ _ (T126.setTop (mkF m 200 #[.val (.long x0), .second, .val (.long x1), .second, .val (.long x2), .second, .val (.long x3), .second, .val (.long x4), .second, .val (.int x5), .val (.int idk), .val (.long ev), .second, .val (.ref b4), .val (.ref b32), .val (.long m1v), .second, .val (.int (Int32.ofNat fid)), .val (.long m2v), .second, .val (.int (Int32.ofNat gid))] [(.int (Int32.ofNat gid))])) _
      refine XS.iload X126.here hx rfl (hb hby at_200) rfl ?_
      exact Steps.refl _)
  have hf133 : ¬ ((Int32.ofNat gid) = (Int32.ofNat fid)) := fun q => own_ne4 f2 g2.1 g2.2 q.symm
  have st134 : Steps p.tables e below sE (T126.setTop (mkF m 209 #[.val (.long x0), .second, .val (.long x1), .second, .val (.long x2), .second, .val (.long x3), .second, .val (.long x4), .second, .val (.int x5), .val (.int idk), .val (.long ev), .second, .val (.ref b4), .val (.ref b32), .val (.long m1v), .second, .val (.int (Int32.ofNat fid)), .val (.long m2v), .second, .val (.int (Int32.ofNat gid))] [(.ref b32)])) := st132.trans (by
      show Steps _ _ _ (T126.setTop (mkF m 202 #[.val (.long x0), .second, .val (.long x1), .second, .val (.long x2), .second, .val (.long x3), .second, .val (.long x4), .second, .val (.int x5), .val (.int idk), .val (.long ev), .second, .val (.ref b4), .val (.ref b32), .val (.long m1v), .second, .val (.int (Int32.ofNat fid)), .val (.long m2v), .second, .val (.int (Int32.ofNat gid))] [(.int (Int32.ofNat fid)), (.int (Int32.ofNat gid))])) _
      refine XS.icmpYes X126.here hx rfl (pc0 := 202) (pc' := 207) rfl (hb hby at_202) rfl (feq hf133).2 (by decide) (by decide) ?_
      show Steps _ _ _ (T126.setTop (mkF m 207 #[.val (.long x0), .second, .val (.long x1), .second, .val (.long x2), .second, .val (.long x3), .second, .val (.long x4), .second, .val (.int x5), .val (.int idk), .val (.long ev), .second, .val (.ref b4), .val (.ref b32), .val (.long m1v), .second, .val (.int (Int32.ofNat fid)), .val (.long m2v), .second, .val (.int (Int32.ofNat gid))] [])) _
      refine XS.aload X126.here hx rfl (hb hby at_207) rfl rfl ?_
      exact Steps.refl _)
  obtain ⟨cq135, kq135, q135a, q135b, q135c⟩ := isOf hZ hh126 f117_0
  obtain ⟨_, _, ⟨T135, L135, k135, n135⟩, -, X135, ⟨Lc135, hQ135, l135, y135, z135⟩, sr135⟩ := X126.virtualBack hx (y := (⟨"com/example/folioseek/folioseek/UseOrder", "firstUse", "()J"⟩ : MethodName)) (z := (⟨"com/example/folioseek/folioseek/UseOrder", "firstUse", "()J"⟩ : MethodName)) hown (mvT hZ (hw _ (List.mem_of_getElem? (i := 76) rfl))) (mvT hZ (hw _ (List.mem_of_getElem? (i := 77) rfl))) (notFace_of_selects (args := #[]) (mvT hZ (hw _ (List.mem_of_getElem? (i := 79) rfl)))) (mvT hZ (hw _ (List.mem_of_getElem? (i := 79) rfl))) (mvT hZ (hw _ (List.mem_of_getElem? (i := 78) rfl))) (by decide) (backOf (W := 0) (rm16 l Z a0 hw [] b32 aU kU LUr T117.heap n0 Z120 f117_2 ru) hZ (hw _ (List.mem_of_getElem? (i := 80) rfl)) (hw _ (List.mem_of_getElem? (i := 3) rfl)) (by decide) (by decide)) q135a q135c (g := (mkF m 209 #[.val (.long x0), .second, .val (.long x1), .second, .val (.long x2), .second, .val (.long x3), .second, .val (.long x4), .second, .val (.int x5), .val (.int idk), .val (.long ev), .second, .val (.ref b4), .val (.ref b32), .val (.long m1v), .second, .val (.int (Int32.ofNat fid)), .val (.long m2v), .second, .val (.int (Int32.ofNat gid))] [(.ref b32)])) rfl (by rw [hml]; rfl) (Steps.refl _) (argsL := []) (rest := []) (lenOf pd_11 rfl) rfl (by show 2 * 0 + _ ≤ _; exact Nat.le_of_eq rfl) (hb hby at_209) (fun _ _ => ⟨rfl, hh126, (by decide : 9 + 0 ≤ _), (by decide : 56 + 0 ≤ _)⟩)
  dsimp only [Pt.U, Pt.locs, Pt.cells, Pt.slots] at X135 l135 y135 z135 sr135 hQ135
  subst l135 y135 z135
  obtain ⟨rfl, N135q, hh135⟩ := hQ135
  have N135 := Fr.app N126 N135q
  obtain ⟨LL135, X135, N135⟩ := own_hide X135 N135
  have st136 : Steps p.tables e below sE (T135.setTop (mkF m 212 #[.val (.long x0), .second, .val (.long x1), .second, .val (.long x2), .second, .val (.long x3), .second, .val (.long x4), .second, .val (.int x5), .val (.int idk), .val (.long ev), .second, .val (.ref b4), .val (.ref b32), .val (.long m1v), .second, .val (.int (Int32.ofNat fid)), .val (.long m2v), .second, .val (.int (Int32.ofNat gid))] [(.long (LUr.getD ((0 : Int32)).toNatClampNeg 0))])) := st134.trans (sr135)
  have hugid : (LUr.getD ((0 : Int32)).toNatClampNeg 0) = (own_vu x0 x1 x2 x3 ev x4 idn) gid := g5
  rw [hugid] at st136
  have st137 : Steps p.tables e below sE (T135.setTop (mkF m 215 #[.val (.long x0), .second, .val (.long x1), .second, .val (.long x2), .second, .val (.long x3), .second, .val (.long x4), .second, .val (.int x5), .val (.int idk), .val (.long ev), .second, .val (.ref b4), .val (.ref b32), .val (.long m1v), .second, .val (.int (Int32.ofNat fid)), .val (.long m2v), .second, .val (.int (Int32.ofNat gid))] [(.int (lcmpW ((own_vu x0 x1 x2 x3 ev x4 idn) gid) m2v))])) := st136.trans (by
      show Steps _ _ _ (T135.setTop (mkF m 212 #[.val (.long x0), .second, .val (.long x1), .second, .val (.long x2), .second, .val (.long x3), .second, .val (.long x4), .second, .val (.int x5), .val (.int idk), .val (.long ev), .second, .val (.ref b4), .val (.ref b32), .val (.long m1v), .second, .val (.int (Int32.ofNat fid)), .val (.long m2v), .second, .val (.int (Int32.ofNat gid))] [(.long ((own_vu x0 x1 x2 x3 ev x4 idn) gid))])) _
      refine XS.lload X135.here hx rfl (hb hby at_212) rfl ?_
      show Steps _ _ _ (T135.setTop (mkF m 214 #[.val (.long x0), .second, .val (.long x1), .second, .val (.long x2), .second, .val (.long x3), .second, .val (.long x4), .second, .val (.int x5), .val (.int idk), .val (.long ev), .second, .val (.ref b4), .val (.ref b32), .val (.long m1v), .second, .val (.int (Int32.ofNat fid)), .val (.long m2v), .second, .val (.int (Int32.ofNat gid))] [(.long m2v), (.long ((own_vu x0 x1 x2 x3 ev x4 idn) gid))])) _
      refine XS.lcmp X135.here hx rfl (hb hby at_214) rfl ?_
      exact Steps.refl _)
  have hf138 : ((own_vu x0 x1 x2 x3 ev x4 idn) gid) = m2v := hm2.symm
  obtain ⟨cl139, Ar139, q139, S139, N139, H139, G139⟩ := id f119
  have hin139 : ¬ ((Int32.ofNat gid) < 0 ∨ cl139.slots.size ≤ ((Int32.ofNat gid)).toNatClampNeg) := inb_of S139 gg.2.2
  have hat139 : cl139.slots[((Int32.ofNat gid)).toNatClampNeg]? = some (.long ((([x0, x1, x2, x3, ev] : List Int64).set (idk).toNatClampNeg x4).getD ((Int32.ofNat gid)).toNatClampNeg 0)) := H139.at hin139 (own_getJ (([x0, x1, x2, x3, ev] : List Int64).set (idk).toNatClampNeg x4) _)
  have st140 : Steps p.tables e below sE (T135.setTop (mkF m 226 #[.val (.long x0), .second, .val (.long x1), .second, .val (.long x2), .second, .val (.long x3), .second, .val (.long x4), .second, .val (.int x5), .val (.int idk), .val (.long ev), .second, .val (.ref b4), .val (.ref b32), .val (.long m1v), .second, .val (.int (Int32.ofNat fid)), .val (.long m2v), .second, .val (.int (Int32.ofNat gid))] [(.int (lcmpW ((([x0, x1, x2, x3, ev] : List Int64).set (idk).toNatClampNeg x4).getD ((Int32.ofNat gid)).toNatClampNeg 0) m2v))])) := st137.trans (by
      show Steps _ _ _ (T135.setTop (mkF m 215 #[.val (.long x0), .second, .val (.long x1), .second, .val (.long x2), .second, .val (.long x3), .second, .val (.long x4), .second, .val (.int x5), .val (.int idk), .val (.long ev), .second, .val (.ref b4), .val (.ref b32), .val (.long m1v), .second, .val (.int (Int32.ofNat fid)), .val (.long m2v), .second, .val (.int (Int32.ofNat gid))] [(.int (lcmpW ((own_vu x0 x1 x2 x3 ev x4 idn) gid) m2v))])) _
      refine XS.ifNo X135.here hx rfl (hb hby at_215) rfl ((if0 _ _).trans (teq ((lw_eq _ _).mpr hf138)).2) ?_
      show Steps _ _ _ (T135.setTop (mkF m 218 #[.val (.long x0), .second, .val (.long x1), .second, .val (.long x2), .second, .val (.long x3), .second, .val (.long x4), .second, .val (.int x5), .val (.int idk), .val (.long ev), .second, .val (.ref b4), .val (.ref b32), .val (.long m1v), .second, .val (.int (Int32.ofNat fid)), .val (.long m2v), .second, .val (.int (Int32.ofNat gid))] [])) _
      refine XS.aload X135.here hx rfl (hb hby at_218) rfl rfl ?_
      show Steps _ _ _ (T135.setTop (mkF m 220 #[.val (.long x0), .second, .val (.long x1), .second, .val (.long x2), .second, .val (.long x3), .second, .val (.long x4), .second, .val (.int x5), .val (.int idk), .val (.long ev), .second, .val (.ref b4), .val (.ref b32), .val (.long m1v), .second, .val (.int (Int32.ofNat fid)), .val (.long m2v), .second, .val (.int (Int32.ofNat gid))] [(.ref b4)])) _
      refine XS.iload X135.here hx rfl (hb hby at_220) rfl ?_
      show Steps _ _ _ (T135.setTop (mkF m 222 #[.val (.long x0), .second, .val (.long x1), .second, .val (.long x2), .second, .val (.long x3), .second, .val (.long x4), .second, .val (.int x5), .val (.int idk), .val (.long ev), .second, .val (.ref b4), .val (.ref b32), .val (.long m1v), .second, .val (.int (Int32.ofNat fid)), .val (.long m2v), .second, .val (.int (Int32.ofNat gid))] [(.int (Int32.ofNat gid)), (.ref b4)])) _
      refine X135.laload hx (j := (Int32.ofNat gid)) (v := (.long ((([x0, x1, x2, x3, ev] : List Int64).set (idk).toNatClampNeg x4).getD ((Int32.ofNat gid)).toNatClampNeg 0))) (by rw [hh135]; exact Ar139.1) (State.isArrayOf_alike hZ.alike Ar139.2.1) Ar139.2.2 hin139 hat139 (g := (mkF m 222 #[.val (.long x0), .second, .val (.long x1), .second, .val (.long x2), .second, .val (.long x3), .second, .val (.long x4), .second, .val (.int x5), .val (.int idk), .val (.long ev), .second, .val (.ref b4), .val (.ref b32), .val (.long m1v), .second, .val (.int (Int32.ofNat fid)), .val (.long m2v), .second, .val (.int (Int32.ofNat gid))] [(.int (Int32.ofNat gid)), (.ref b4)])) rfl rfl (hb hby at_222) _ ?_
      show Steps _ _ _ (T135.setTop (mkF m 223 #[.val (.long x0), .second, .val (.long x1), .second, .val (.long x2), .second, .val (.long x3), .second, .val (.long x4), .second, .val (.int x5), .val (.int idk), .val (.long ev), .second, .val (.ref b4), .val (.ref b32), .val (.long m1v), .second, .val (.int (Int32.ofNat fid)), .val (.long m2v), .second, .val (.int (Int32.ofNat gid))] [(.long ((([x0, x1, x2, x3, ev] : List Int64).set (idk).toNatClampNeg x4).getD ((Int32.ofNat gid)).toNatClampNeg 0))])) _
      refine XS.lload X135.here hx rfl (hb hby at_223) rfl ?_
      show Steps _ _ _ (T135.setTop (mkF m 225 #[.val (.long x0), .second, .val (.long x1), .second, .val (.long x2), .second, .val (.long x3), .second, .val (.long x4), .second, .val (.int x5), .val (.int idk), .val (.long ev), .second, .val (.ref b4), .val (.ref b32), .val (.long m1v), .second, .val (.int (Int32.ofNat fid)), .val (.long m2v), .second, .val (.int (Int32.ofNat gid))] [(.long m2v), (.long ((([x0, x1, x2, x3, ev] : List Int64).set (idk).toNatClampNeg x4).getD ((Int32.ofNat gid)).toNatClampNeg 0))])) _
      refine XS.lcmp X135.here hx rfl (hb hby at_225) rfl ?_
      exact Steps.refl _)
  have hf141 : ((([x0, x1, x2, x3, ev] : List Int64).set (idk).toNatClampNeg x4).getD ((Int32.ofNat gid)).toNatClampNeg 0) = m2v := by rw [own_onn gid (by have := g2.1; omega), hLs gid]; exact hm2.symm
  have st142 : Steps p.tables e below sE (T135.setTop (mkF m 234 #[.val (.long x0), .second, .val (.long x1), .second, .val (.long x2), .second, .val (.long x3), .second, .val (.long x4), .second, .val (.int x5), .val (.int idk), .val (.long ev), .second, .val (.ref b4), .val (.ref b32), .val (.long m1v), .second, .val (.int (Int32.ofNat fid)), .val (.long m2v), .second, .val (.int (Int32.ofNat gid))] [(.int (1 : Int32))])) := st140.trans (by
      show Steps _ _ _ (T135.setTop (mkF m 226 #[.val (.long x0), .second, .val (.long x1), .second, .val (.long x2), .second, .val (.long x3), .second, .val (.long x4), .second, .val (.int x5), .val (.int idk), .val (.long ev), .second, .val (.ref b4), .val (.ref b32), .val (.long m1v), .second, .val (.int (Int32.ofNat fid)), .val (.long m2v), .second, .val (.int (Int32.ofNat gid))] [(.int (lcmpW ((([x0, x1, x2, x3, ev] : List Int64).set (idk).toNatClampNeg x4).getD ((Int32.ofNat gid)).toNatClampNeg 0) m2v))])) _
      refine XS.ifNo X135.here hx rfl (hb hby at_226) rfl ((if0 _ _).trans (teq ((lw_eq _ _).mpr hf141)).2) ?_
      show Steps _ _ _ (T135.setTop (mkF m 229 #[.val (.long x0), .second, .val (.long x1), .second, .val (.long x2), .second, .val (.long x3), .second, .val (.long x4), .second, .val (.int x5), .val (.int idk), .val (.long ev), .second, .val (.ref b4), .val (.ref b32), .val (.long m1v), .second, .val (.int (Int32.ofNat fid)), .val (.long m2v), .second, .val (.int (Int32.ofNat gid))] [])) _
      refine XS.iconst X135.here hx rfl (hb hby at_229) ?_
      show Steps _ _ _ (T135.setTop (mkF m 230 #[.val (.long x0), .second, .val (.long x1), .second, .val (.long x2), .second, .val (.long x3), .second, .val (.long x4), .second, .val (.int x5), .val (.int idk), .val (.long ev), .second, .val (.ref b4), .val (.ref b32), .val (.long m1v), .second, .val (.int (Int32.ofNat fid)), .val (.long m2v), .second, .val (.int (Int32.ofNat gid))] [(.int (1 : Int32))])) _
      refine XS.goto X135.here hx rfl (pc0 := 230) (pc' := 234) rfl (hb hby at_230) (by decide) (by decide) ?_
      exact Steps.refl _)
  obtain ⟨fs, hr, hrun, hended, hW, hsame⟩ := X135.leave (v := some (.int (1 : Int32))) (fun h => by rw [Bd.returns] at h; cases h) hlk
  refine ⟨_, _, (own_ent hsE st142).trans ?_, hrun, hended, _, _, rfl, ?_, ⟨_, rfl⟩, hW, hsame.mono (by decide) (by decide)⟩
  · exact retN X135 hx (t := .boolean) Bd.returns (by simp) (hb hby at_234) hr
  · show Q0 Z x0 x1 x2 x3 x4 x5 h0 n0 _ T135.heap _
    rw [hh135]
    exact ⟨rfl, N135⟩
set_option maxRecDepth 65536 in
set_option maxHeartbeats 40000000 in
theorem comes_1 {Post : Tables → Env → Array Value → State → Outcome → State → Prop} (hpost : ∀ tb e args s v u, (limb_1_1.after args s (.returned v) u = true ∧ limb_1_2.after args s (.returned v) u = true ∧ True) → FrameEnd s (.returned v) u (Jvm.fieldLocs frame_1_writes args s ++ Jvm.arrayLocs frame_1_arrays args s ++ Jvm.staticLocs frame_1_statics s) 32 192 → Post tb e args s (.returned v) u) :
    ArmFor flags0 classFile x code maxLocals ret World_1 tables_1 room_1 Calls_1 rest_1 Pre_1 Post := by
  intro l hfl _ _ p e ha hc hk s m args below hf hA hF happ hP
  obtain ⟨hcalls, hrest, hpre⟩ := hP
  obtain ⟨-, -, -, hnamed, -, -, -, hat⟩ := (Spec.applies_iff hf).mp happ
  obtain ⟨hg, hn⟩ := and_e (Cond.before_iff.mp (show (Jvm.Cond.and given_1 narrow_1).before args s = true from hpre))
  obtain ⟨g1, g2⟩ := and_e hg
  obtain ⟨g3, g4⟩ := and_e g2
  obtain ⟨g5, g6⟩ := and_e g4
  obtain ⟨g7, g8⟩ := and_e g6
  obtain ⟨g9, g10⟩ := and_e g8
  obtain ⟨g11, g12⟩ := and_e g10
  obtain ⟨w0, w1, w2, w3, w4, w5, rfl⟩ : ∃ w0 w1 w2 w3 w4 w5 : Value, args = #[w0, w1, w2, w3, w4, w5] := by
    have hs : args.size = 6 := by simpa [Cond.value, given_1] using g1
    obtain ⟨L⟩ := args
    match L, hs with
    | [w0, w1, w2, w3, w4, w5], _ => exact ⟨w0, w1, w2, w3, w4, w5, rfl⟩
  have hw := fun d (hd : d ∈ tables_1) => atoms_spec (ws := Jvm.Cond.code x code maxLocals ret :: tables_1) hat d (List.mem_cons_of_mem _ hd)
  have hfit : Fit s := fun {y c} hc i hi => by
    obtain ⟨ha, rfl⟩ := Array.getElem?_eq_some_iff.mp hc
    have q := List.all_eq_true.mp ((Array.all_eq_true_iff_forall_mem.mp hF) _ (Array.getElem_mem ha)) i (List.mem_range.mpr hi)
    simpa [Array.getElem?_eq_getElem hi] using q
  obtain ⟨i0, ei0⟩ := isL_v g3
  obtain rfl : w0 = (.long i0) := Option.some.inj ei0
  obtain ⟨i1, ei1⟩ := isL_v g5
  obtain rfl : w1 = (.long i1) := Option.some.inj ei1
  obtain ⟨i2, ei2⟩ := isL_v g7
  obtain rfl : w2 = (.long i2) := Option.some.inj ei2
  obtain ⟨i3, ei3⟩ := isL_v g9
  obtain rfl : w3 = (.long i3) := Option.some.inj ei3
  obtain ⟨i4, ei4⟩ := isL_v g11
  obtain rfl : w4 = (.long i4) := Option.some.inj ei4
  obtain ⟨i5, ei5⟩ := is_v g12
  obtain rfl : w5 = (.int i5) := Option.some.inj ei5
  obtain ⟨n, o, h1, h2, h3, _, L, rfl, ⟨hv, N⟩, hq⟩ := rm0 l s _ hw tables_1 i0 i1 i2 i3 i4 i5  s.heap s.heap.size (Nat.le_refl _)  p e ha hc hk s m _ below hf ((Spec.applies_iff_loose hf).mp happ).1 ⟨rfl, State.Warmed39.refl s, rfl⟩ trivial
  subst hv
  refine ⟨n, _, h1, h2, h3, hpost _ _ _ _ _ _ ⟨Cond.after_iff.mpr rfl, Cond.after_iff.mpr (eq_i res_at (Term.int_eval (1)) rfl), trivial⟩ ⟨hq.1, hq.2.1, (hq.2.2.sift fun y hy => Or.inr (N y hy)).mono (by decide) (by decide)⟩⟩
theorem main_1_1 : Claimed_1_1 := comes_1 fun _ _ _ _ _ _ h hF => ⟨h.1, hF⟩
theorem main_1_2 : Claimed_1_2 := comes_1 fun _ _ _ _ _ _ h hF => ⟨h.2.1, hF⟩
end Jvm.Pilot.@@N@@
namespace Jvm.Pilot.@@N@@
open Jvm Jvm.ClassFile Sem Op Lib Jvm.Free Jvm.Stand Jvm.Pilot.@@N@@.Jvm.D
/-! MADE BY PROGRAM (witnessworld.py) out of the Statement's table words and the real class files: 14 classes; the members and pool entries that the words name. The judged class is class 1, her method 2. -/
namespace start1
open Jvm.ClassFile
def u (s : String) : CpInfo := .utf8 (stringToUtf16 s)
/-- a pool by its gaps: so many unusable entries, then the entry; so many at the end -/
def gap : Nat → List CpInfo → List CpInfo
  | 0, r => r
  | n + 1, r => .unusable :: gap n r
def poolList (es : List (Nat × CpInfo)) (last : Nat) : List CpInfo := es.foldr (fun e r => gap e.1 (e.2 :: r)) (gap last [])
def pool (es : List (Nat × CpInfo)) (last : Nat) : Array CpInfo := ⟨poolList es last⟩
def fileOf (pool : Array CpInfo) (this : Nat) (attrs : Array Attribute := #[]) (ms : Array MethodInfo := #[]) (fl : Nat := 33) (sup : Nat := 0) (ifs : Array Nat := #[]) (fds : Array FieldInfo := #[]) : ClassFile where
  minorVersion := 0
  majorVersion := 65
  constantPool := pool
  accessFlags := fl
  thisClass := this
  superClass := sup
  interfaces := ifs
  fields := fds
  methods := ms
  attributes := attrs
def plain (name : String) (sup : Option ClassId) : Class where
  name := name
  kind := .ordinary
  loader := none
  accessFlags := 33
  super := sup
  interfaces := #[]
  cf := none
  fields := #[]
  methods := #[]
  instanceTypes := #[]
  staticTypes := #[]
  resolved := #[]
  callSites := []
  init := .initialized
  statics := none
  mirror := none

def pool0 : Array CpInfo := pool [(5, u "<init>"), (0, u "()V"), (1, .class_ 10), (1, u "java/lang/Object")] 113

def k0c0 : Code := { maxStack := 0, maxLocals := 1, code := object_method_1_code, exceptionTable := #[], attributes := #[] }
def k0m0 : Method := { name := "<init>", desc := "()V", sig := { parameters := [], returnType := none }, accessFlags := 1, code := some k0c0 }
/-- java/lang/Object -/
def k0 : Class := { plain "java/lang/Object" none with
  accessFlags := 33
  interfaces := #[]
  cf := some (fileOf pool0 8 #[] #[{ accessFlags := 1, nameIndex := 5, descriptorIndex := 6, attributes := #[] }] 33 0 #[] #[])
  fields := #[]
  methods := #[k0m0]
  instanceTypes := #[]
  staticTypes := #[]
  resolved := Array.replicate 124 none
  statics := none }

def pool1 : Array CpInfo := pool [(2, .class_ 4), (0, .nameAndType 5 6), (0, u "java/lang/Object"), (0, u "<init>"), (0, u "()V"), (2, .long 9223372036854775807), (1, .methodref 12 13), (0, .class_ 14), (0, .nameAndType 15 16), (0, u "java/lang/Math"), (0, u "min"), (0, u "(JJ)J"), (0, .class_ 18), (0, u "com/example/folioseek/folioseek/UseOrder"), (0, .methodref 17 3), (0, .methodref 17 21), (0, .nameAndType 22 23), (0, u "add"), (0, u "(IJ)V"), (0, .methodref 17 25), (0, .nameAndType 26 23), (0, u "update"), (0, .methodref 28 29), (0, .class_ 30), (0, .nameAndType 31 32), (0, u "com/example/folioseek/folioseek/UseOrderUpdatePinLaw"), (0, u "minExcept"), (0, u "([JI)J"), (0, .methodref 17 34), (0, .nameAndType 35 36), (0, u "first"), (0, u "()I"), (0, .methodref 17 38), (0, .nameAndType 39 40), (0, u "firstUse"), (0, u "()J"), (0, .methodref 17 42), (0, .nameAndType 43 44), (0, u "remove"), (0, u "(I)V"), (3, u "law"), (0, u "(JJJJJI)Z")] 4

def k1m0 : Method := { name := "<init>", desc := "()V", sig := { parameters := [], returnType := none }, accessFlags := 1, code := none }
def k1c1 : Code := { maxStack := 4, maxLocals := 4, code := method_2_code, exceptionTable := #[], attributes := #[] }
def k1m1 : Method := { name := "minExcept", desc := "([JI)J", sig := { parameters := [(.array .long), .int], returnType := some .long }, accessFlags := 10, code := some k1c1 }
def k1c2 : Code := { maxStack := 4, maxLocals := 22, code := code, exceptionTable := #[], attributes := #[] }
def k1m2 : Method := { name := "law", desc := "(JJJJJI)Z", sig := { parameters := [.long, .long, .long, .long, .long, .int], returnType := some .boolean }, accessFlags := 9, code := some k1c2 }
/-- com/example/folioseek/folioseek/UseOrderUpdatePinLaw -/
def k1 : Class := { plain "com/example/folioseek/folioseek/UseOrderUpdatePinLaw" (some 0) with
  accessFlags := 49
  interfaces := #[]
  cf := some (fileOf pool1 28 #[] #[{ accessFlags := 1, nameIndex := 5, descriptorIndex := 6, attributes := #[] }, { accessFlags := 10, nameIndex := 31, descriptorIndex := 32, attributes := #[] }, { accessFlags := 9, nameIndex := 48, descriptorIndex := 49, attributes := #[] }] 49 2 #[] #[])
  fields := #[]
  methods := #[k1m0, k1m1, k1m2]
  instanceTypes := #[]
  staticTypes := #[]
  resolved := Array.replicate 54 none
  statics := none }

def pool2 : Array CpInfo := pool [(1, .methodref 2 3), (0, .class_ 4), (0, .nameAndType 5 6), (0, u "java/lang/Object"), (0, u "<init>"), (0, u "()V"), (0, .fieldref 8 9), (0, .class_ 10), (0, .nameAndType 11 12), (0, u "com/example/folioseek/folioseek/UseOrder"), (0, u "ids"), (0, u "[I"), (0, .fieldref 8 14), (0, .nameAndType 15 16), (0, u "uses"), (0, u "[J"), (0, .fieldref 8 18), (0, .nameAndType 19 12), (0, u "slots"), (0, .fieldref 8 21), (0, .nameAndType 22 23), (0, u "size"), (0, u "I"), (0, .methodref 25 26), (0, .class_ 27), (0, .nameAndType 28 29), (0, u "java/util/Arrays"), (0, u "copyOf"), (0, u "([II)[I"), (3, .methodref 34 35), (0, .class_ 36), (0, .nameAndType 37 38), (0, u "java/lang/Math"), (0, u "max"), (0, u "(II)I"), (0, .methodref 25 40), (0, .nameAndType 41 42), (0, u "fill"), (0, u "([IIII)V"), (0, .methodref 8 44), (0, .nameAndType 45 46), (0, u "place"), (0, u "(IJI)V"), (0, .methodref 8 48), (0, .nameAndType 49 50), (0, u "siftUp"), (0, u "(I)V"), (0, .methodref 8 52), (0, .nameAndType 53 50), (0, u "siftDown"), (0, .methodref 34 55), (0, .nameAndType 56 38), (0, u "min"), (2, u "()I"), (0, u "first"), (0, u "firstUse"), (0, u "()J"), (0, u "add"), (0, u "(IJ)V"), (1, u "update"), (0, u "remove")] 2

def k2c0 : Code := { maxStack := 2, maxLocals := 1, code := prog_24_method_1_code, exceptionTable := #[], attributes := #[] }
def k2m0 : Method := { name := "<init>", desc := "()V", sig := { parameters := [], returnType := none }, accessFlags := 0, code := some k2c0 }
def k2c1 : Code := { maxStack := 2, maxLocals := 1, code := prog_24_method_3_code, exceptionTable := #[], attributes := #[] }
def k2m1 : Method := { name := "first", desc := "()I", sig := { parameters := [], returnType := some .int }, accessFlags := 0, code := some k2c1 }
def k2c2 : Code := { maxStack := 2, maxLocals := 1, code := prog_24_method_4_code, exceptionTable := #[], attributes := #[] }
def k2m2 : Method := { name := "firstUse", desc := "()J", sig := { parameters := [], returnType := some .long }, accessFlags := 0, code := some k2c2 }
def k2c3 : Code := { maxStack := 8, maxLocals := 5, code := prog_24_method_5_code, exceptionTable := #[], attributes := #[] }
def k2m3 : Method := { name := "add", desc := "(IJ)V", sig := { parameters := [.int, .long], returnType := none }, accessFlags := 0, code := some k2c3 }
def k2c4 : Code := { maxStack := 4, maxLocals := 5, code := prog_24_method_6_code, exceptionTable := #[], attributes := #[] }
def k2m4 : Method := { name := "update", desc := "(IJ)V", sig := { parameters := [.int, .long], returnType := none }, accessFlags := 0, code := some k2c4 }
def k2c5 : Code := { maxStack := 5, maxLocals := 4, code := prog_24_method_7_code, exceptionTable := #[], attributes := #[] }
def k2m5 : Method := { name := "remove", desc := "(I)V", sig := { parameters := [.int], returnType := none }, accessFlags := 0, code := some k2c5 }
def k2c6 : Code := { maxStack := 5, maxLocals := 6, code := prog_24_method_8_code, exceptionTable := #[], attributes := #[] }
def k2m6 : Method := { name := "siftUp", desc := "(I)V", sig := { parameters := [.int], returnType := none }, accessFlags := 2, code := some k2c6 }
def k2c7 : Code := { maxStack := 5, maxLocals := 8, code := prog_24_method_9_code, exceptionTable := #[], attributes := #[] }
def k2m7 : Method := { name := "siftDown", desc := "(I)V", sig := { parameters := [.int], returnType := none }, accessFlags := 2, code := some k2c7 }
def k2c8 : Code := { maxStack := 4, maxLocals := 5, code := prog_24_method_10_code, exceptionTable := #[], attributes := #[] }
def k2m8 : Method := { name := "place", desc := "(IJI)V", sig := { parameters := [.int, .long, .int], returnType := none }, accessFlags := 2, code := some k2c8 }
/-- com/example/folioseek/folioseek/UseOrder -/
def k2 : Class := { plain "com/example/folioseek/folioseek/UseOrder" (some 0) with
  accessFlags := 48
  interfaces := #[]
  cf := some (fileOf pool2 8 #[] #[{ accessFlags := 0, nameIndex := 5, descriptorIndex := 6, attributes := #[] }, { accessFlags := 0, nameIndex := 60, descriptorIndex := 59, attributes := #[] }, { accessFlags := 0, nameIndex := 61, descriptorIndex := 62, attributes := #[] }, { accessFlags := 0, nameIndex := 63, descriptorIndex := 64, attributes := #[] }, { accessFlags := 0, nameIndex := 66, descriptorIndex := 64, attributes := #[] }, { accessFlags := 0, nameIndex := 67, descriptorIndex := 50, attributes := #[] }, { accessFlags := 2, nameIndex := 49, descriptorIndex := 50, attributes := #[] }, { accessFlags := 2, nameIndex := 53, descriptorIndex := 50, attributes := #[] }, { accessFlags := 2, nameIndex := 45, descriptorIndex := 46, attributes := #[] }] 48 2 #[] #[{ accessFlags := 2, nameIndex := 11, descriptorIndex := 12, attributes := #[] }, { accessFlags := 2, nameIndex := 15, descriptorIndex := 16, attributes := #[] }, { accessFlags := 2, nameIndex := 19, descriptorIndex := 12, attributes := #[] }, { accessFlags := 2, nameIndex := 22, descriptorIndex := 23, attributes := #[] }])
  fields := #[{ name := "ids", type := (.array .int), accessFlags := 2, slot := 0, constantValue := 0 }, { name := "uses", type := (.array .long), accessFlags := 2, slot := 1, constantValue := 0 }, { name := "slots", type := (.array .int), accessFlags := 2, slot := 2, constantValue := 0 }, { name := "size", type := .int, accessFlags := 2, slot := 3, constantValue := 0 }]
  methods := #[k2m0, k2m1, k2m2, k2m3, k2m4, k2m5, k2m6, k2m7, k2m8]
  instanceTypes := #[(.array .int), (.array .long), (.array .int), .int]
  staticTypes := #[]
  resolved := Array.replicate 70 none
  statics := none }

def pool3 : Array CpInfo := pool [(1, .class_ 2), (0, u "java/lang/Math"), (1, .class_ 6), (1, u "java/lang/Object"), (0, u "<init>"), (0, u "()V"), (89, .class_ 100), (1, u "java/lang/Math$RandomNumberGeneratorHolder"), (20, u "(JJ)J"), (50, u "negativeZeroFloatBits"), (0, u "J"), (2, u "negativeZeroDoubleBits"), (21, u "max"), (2, u "min"), (43, u "$assertionsDisabled"), (0, u "Z"), (88, u "(II)I"), (2, u "twoToTheDoubleScaleDown"), (0, u "D"), (4, u "twoToTheDoubleScaleUp"), (9, u "E"), (3, u "PI"), (2, u "TAU"), (2, u "DEGREES_TO_RADIANS"), (0, u "RADIANS_TO_DEGREES")] 94

def k3m0 : Method := { name := "<init>", desc := "()V", sig := { parameters := [], returnType := none }, accessFlags := 2, code := none }
def k3c1 : Code := { maxStack := 2, maxLocals := 2, code := jdk_29_method_65_code, exceptionTable := #[], attributes := #[] }
def k3m1 : Method := { name := "max", desc := "(II)I", sig := { parameters := [.int, .int], returnType := some .int }, accessFlags := 9, code := some k3c1 }
def k3c2 : Code := { maxStack := 2, maxLocals := 2, code := jdk_29_method_69_code, exceptionTable := #[], attributes := #[] }
def k3m2 : Method := { name := "min", desc := "(II)I", sig := { parameters := [.int, .int], returnType := some .int }, accessFlags := 9, code := some k3c2 }
def k3c3 : Code := { maxStack := 4, maxLocals := 4, code := jdk_29_method_70_code, exceptionTable := #[], attributes := #[] }
def k3m3 : Method := { name := "min", desc := "(JJ)J", sig := { parameters := [.long, .long], returnType := some .long }, accessFlags := 9, code := some k3c3 }
/-- java/lang/Math -/
def k3 : Class := { plain "java/lang/Math" (some 0) with
  accessFlags := 49
  interfaces := #[]
  cf := some (fileOf pool3 1 #[.nestMembers #[98]] #[{ accessFlags := 2, nameIndex := 7, descriptorIndex := 8, attributes := #[] }, { accessFlags := 9, nameIndex := 198, descriptorIndex := 335, attributes := #[] }, { accessFlags := 9, nameIndex := 201, descriptorIndex := 335, attributes := #[] }, { accessFlags := 9, nameIndex := 201, descriptorIndex := 121, attributes := #[] }] 49 4 #[] #[{ accessFlags := 25, nameIndex := 354, descriptorIndex := 339, attributes := #[] }, { accessFlags := 25, nameIndex := 358, descriptorIndex := 339, attributes := #[] }, { accessFlags := 25, nameIndex := 361, descriptorIndex := 339, attributes := #[] }, { accessFlags := 26, nameIndex := 364, descriptorIndex := 339, attributes := #[] }, { accessFlags := 26, nameIndex := 365, descriptorIndex := 339, attributes := #[] }, { accessFlags := 26, nameIndex := 172, descriptorIndex := 173, attributes := #[] }, { accessFlags := 26, nameIndex := 176, descriptorIndex := 173, attributes := #[] }, { accessFlags := 8, nameIndex := 344, descriptorIndex := 339, attributes := #[] }, { accessFlags := 8, nameIndex := 338, descriptorIndex := 339, attributes := #[] }, { accessFlags := 4120, nameIndex := 245, descriptorIndex := 246, attributes := #[] }])
  fields := #[{ name := "E", type := .double, accessFlags := 25, slot := 0, constantValue := 0 }, { name := "PI", type := .double, accessFlags := 25, slot := 1, constantValue := 0 }, { name := "TAU", type := .double, accessFlags := 25, slot := 2, constantValue := 0 }, { name := "DEGREES_TO_RADIANS", type := .double, accessFlags := 26, slot := 3, constantValue := 0 }, { name := "RADIANS_TO_DEGREES", type := .double, accessFlags := 26, slot := 4, constantValue := 0 }, { name := "negativeZeroFloatBits", type := .long, accessFlags := 26, slot := 5, constantValue := 0 }, { name := "negativeZeroDoubleBits", type := .long, accessFlags := 26, slot := 6, constantValue := 0 }, { name := "twoToTheDoubleScaleUp", type := .double, accessFlags := 8, slot := 7, constantValue := 0 }, { name := "twoToTheDoubleScaleDown", type := .double, accessFlags := 8, slot := 8, constantValue := 0 }, { name := "$assertionsDisabled", type := .boolean, accessFlags := 4120, slot := 9, constantValue := 0 }]
  methods := #[k3m0, k3m1, k3m2, k3m3]
  instanceTypes := #[]
  staticTypes := #[.double, .double, .double, .double, .double, .long, .long, .double, .double, .boolean]
  resolved := Array.replicate 460 none
  statics := none }

def pool4 : Array CpInfo := pool [(2, .class_ 4), (1, u "java/lang/Object"), (0, u "<init>"), (0, u "()V"), (5, u "([IIII)V"), (0, .methodref 14 15), (0, .class_ 16), (0, .nameAndType 17 18), (0, u "java/util/Arrays"), (0, u "rangeCheck"), (0, u "(III)V"), (55, .class_ 76), (1, u "java/util/Arrays$NaturalOrder"), (36, .class_ 115), (1, u "java/util/Arrays$LegacyMergeSort"), (1, u "Z"), (32, .methodref 151 152), (0, .class_ 153), (0, .nameAndType 154 155), (0, u "java/lang/System"), (0, u "arraycopy"), (0, u "(Ljava/lang/Object;ILjava/lang/Object;II)V"), (146, u "copyOf"), (1, .methodref 305 306), (0, .class_ 307), (0, .nameAndType 308 309), (0, u "java/lang/Math"), (0, u "min"), (0, u "(II)I"), (65, .class_ 376), (0, u "java/util/Arrays$ArrayList"), (68, u "$assertionsDisabled"), (269, u "MIN_ARRAY_SORT_GRAN"), (0, u "I"), (2, u "INSERTIONSORT_THRESHOLD"), (120, u "fill"), (30, u "([II)[I"), (103, .class_ 976), (0, u "java/util/Arrays$ArrayItr")] 52

def k4m0 : Method := { name := "<init>", desc := "()V", sig := { parameters := [], returnType := none }, accessFlags := 2, code := none }
def k4c1 : Code := { maxStack := 4, maxLocals := 3, code := jdk_65_method_30_code, exceptionTable := #[], attributes := #[] }
def k4m1 : Method := { name := "rangeCheck", desc := "(III)V", sig := { parameters := [.int, .int, .int], returnType := none }, accessFlags := 8, code := some k4c1 }
def k4c2 : Code := { maxStack := 3, maxLocals := 5, code := jdk_65_method_104_code, exceptionTable := #[], attributes := #[] }
def k4m2 : Method := { name := "fill", desc := "([IIII)V", sig := { parameters := [(.array .int), .int, .int, .int], returnType := none }, accessFlags := 9, code := some k4c2 }
def k4c3 : Code := { maxStack := 6, maxLocals := 3, code := jdk_65_method_123_code, exceptionTable := #[], attributes := #[] }
def k4m3 : Method := { name := "copyOf", desc := "([II)[I", sig := { parameters := [(.array .int), .int], returnType := some (.array .int) }, accessFlags := 9, code := some k4c3 }
/-- java/util/Arrays -/
def k4 : Class := { plain "java/util/Arrays" (some 0) with
  accessFlags := 49
  interfaces := #[]
  cf := some (fileOf pool4 14 #[.nestMembers #[975, 375, 113, 74]] #[{ accessFlags := 2, nameIndex := 5, descriptorIndex := 6, attributes := #[] }, { accessFlags := 8, nameIndex := 17, descriptorIndex := 18, attributes := #[] }, { accessFlags := 9, nameIndex := 840, descriptorIndex := 12, attributes := #[] }, { accessFlags := 9, nameIndex := 302, descriptorIndex := 871, attributes := #[] }] 49 2 #[] #[{ accessFlags := 26, nameIndex := 715, descriptorIndex := 716, attributes := #[] }, { accessFlags := 26, nameIndex := 719, descriptorIndex := 716, attributes := #[] }, { accessFlags := 4120, nameIndex := 445, descriptorIndex := 117, attributes := #[] }])
  fields := #[{ name := "MIN_ARRAY_SORT_GRAN", type := .int, accessFlags := 26, slot := 0, constantValue := 0 }, { name := "INSERTIONSORT_THRESHOLD", type := .int, accessFlags := 26, slot := 1, constantValue := 0 }, { name := "$assertionsDisabled", type := .boolean, accessFlags := 4120, slot := 2, constantValue := 0 }]
  methods := #[k4m0, k4m1, k4m2, k4m3]
  instanceTypes := #[]
  staticTypes := #[.int, .int, .boolean]
  resolved := Array.replicate 1029 none
  statics := none }

def pool5 : Array CpInfo := pool [(2, .class_ 4), (1, u "java/lang/Object"), (0, u "<init>"), (0, u "()V"), (1, .class_ 10), (1, u "java/lang/System"), (0, u "allowSecurityManager"), (0, u "I"), (16, u "cons"), (0, u "Ljava/io/Console;"), (77, .class_ 110), (1, u "java/lang/System$CallersHolder"), (43, u "initialErrStream"), (0, u "Ljava/io/PrintStream;"), (19, u "security"), (0, u "Ljava/lang/SecurityManager;"), (31, .class_ 209), (0, u "java/lang/System$1"), (7, u "props"), (0, u "Ljava/util/Properties;"), (2, u "lineSeparator"), (0, u "Ljava/lang/String;"), (96, .class_ 321), (1, u "java/lang/System$LoggerFinder"), (5, .class_ 328), (0, u "java/lang/System$Logger"), (67, u "err"), (2, u "out"), (91, u "notSupportedJnuEncoding"), (15, u "in"), (17, u "initialIn"), (0, u "Ljava/io/InputStream;"), (35, u "bootLayer"), (0, u "Ljava/lang/ModuleLayer;"), (99, .class_ 664), (0, u "java/lang/System$2"), (9, u "NEVER"), (2, u "MAYBE"), (49, u "arraycopy"), (0, u "(Ljava/lang/Object;ILjava/lang/Object;II)V"), (72, .class_ 802), (0, u "java/lang/System$Logger$Level")] 31

def k5m0 : Method := { name := "<init>", desc := "()V", sig := { parameters := [], returnType := none }, accessFlags := 2, code := none }
def k5m1 : Method := { name := "arraycopy", desc := "(Ljava/lang/Object;ILjava/lang/Object;II)V", sig := { parameters := [(.object "java/lang/Object"), .int, (.object "java/lang/Object"), .int, .int], returnType := none }, accessFlags := 265, code := none }
/-- java/lang/System -/
def k5 : Class := { plain "java/lang/System" (some 0) with
  accessFlags := 49
  interfaces := #[]
  cf := some (fileOf pool5 8 #[.nestMembers #[319, 327, 801, 108, 663, 208]] #[{ accessFlags := 2, nameIndex := 5, descriptorIndex := 6, attributes := #[] }, { accessFlags := 265, nameIndex := 727, descriptorIndex := 728, attributes := #[] }] 49 2 #[] #[{ accessFlags := 25, nameIndex := 507, descriptorIndex := 526, attributes := #[] }, { accessFlags := 25, nameIndex := 399, descriptorIndex := 155, attributes := #[] }, { accessFlags := 25, nameIndex := 396, descriptorIndex := 155, attributes := #[] }, { accessFlags := 10, nameIndex := 525, descriptorIndex := 526, attributes := #[] }, { accessFlags := 26, nameIndex := 674, descriptorIndex := 12, attributes := #[] }, { accessFlags := 26, nameIndex := 677, descriptorIndex := 12, attributes := #[] }, { accessFlags := 10, nameIndex := 11, descriptorIndex := 12, attributes := #[] }, { accessFlags := 74, nameIndex := 175, descriptorIndex := 176, attributes := #[] }, { accessFlags := 10, nameIndex := 491, descriptorIndex := 222, attributes := #[] }, { accessFlags := 74, nameIndex := 29, descriptorIndex := 30, attributes := #[] }, { accessFlags := 74, nameIndex := 154, descriptorIndex := 155, attributes := #[] }, { accessFlags := 10, nameIndex := 217, descriptorIndex := 218, attributes := #[] }, { accessFlags := 10, nameIndex := 221, descriptorIndex := 222, attributes := #[] }, { accessFlags := 8, nameIndex := 562, descriptorIndex := 563, attributes := #[] }])
  fields := #[{ name := "in", type := (.object "java/io/InputStream"), accessFlags := 25, slot := 0, constantValue := 0 }, { name := "out", type := (.object "java/io/PrintStream"), accessFlags := 25, slot := 1, constantValue := 0 }, { name := "err", type := (.object "java/io/PrintStream"), accessFlags := 25, slot := 2, constantValue := 0 }, { name := "initialIn", type := (.object "java/io/InputStream"), accessFlags := 10, slot := 3, constantValue := 0 }, { name := "NEVER", type := .int, accessFlags := 26, slot := 4, constantValue := 0 }, { name := "MAYBE", type := .int, accessFlags := 26, slot := 5, constantValue := 0 }, { name := "allowSecurityManager", type := .int, accessFlags := 10, slot := 6, constantValue := 0 }, { name := "security", type := (.object "java/lang/SecurityManager"), accessFlags := 74, slot := 7, constantValue := 0 }, { name := "notSupportedJnuEncoding", type := (.object "java/lang/String"), accessFlags := 10, slot := 8, constantValue := 0 }, { name := "cons", type := (.object "java/io/Console"), accessFlags := 74, slot := 9, constantValue := 0 }, { name := "initialErrStream", type := (.object "java/io/PrintStream"), accessFlags := 74, slot := 10, constantValue := 0 }, { name := "props", type := (.object "java/util/Properties"), accessFlags := 10, slot := 11, constantValue := 0 }, { name := "lineSeparator", type := (.object "java/lang/String"), accessFlags := 10, slot := 12, constantValue := 0 }, { name := "bootLayer", type := (.object "java/lang/ModuleLayer"), accessFlags := 8, slot := 13, constantValue := 0 }]
  methods := #[k5m0, k5m1]
  instanceTypes := #[]
  staticTypes := #[(.object "java/io/InputStream"), (.object "java/io/PrintStream"), (.object "java/io/PrintStream"), (.object "java/io/InputStream"), .int, .int, .int, (.object "java/lang/SecurityManager"), (.object "java/lang/String"), (.object "java/io/Console"), (.object "java/io/PrintStream"), (.object "java/util/Properties"), (.object "java/lang/String"), (.object "java/lang/ModuleLayer")]
  resolved := Array.replicate 834 none
  statics := none }

def pool6 : Array CpInfo := pool [(1, u "java/lang/Cloneable"), (0, .class_ 1), (0, u "java/lang/Object"), (0, .class_ 3)] 3

/-- java/lang/Cloneable -/
def k6 : Class := { plain "java/lang/Cloneable" (some 0) with
  accessFlags := 1537
  interfaces := #[]
  cf := some (fileOf pool6 2 #[] #[] 1537 4 #[] #[])
  fields := #[]
  methods := #[]
  instanceTypes := #[]
  staticTypes := #[]
  resolved := Array.replicate 8 none
  statics := none }

def pool7 : Array CpInfo := pool [(1, u "java/io/Serializable"), (0, .class_ 1), (0, u "java/lang/Object"), (0, .class_ 3)] 3

/-- java/io/Serializable -/
def k7 : Class := { plain "java/io/Serializable" (some 0) with
  accessFlags := 1537
  interfaces := #[]
  cf := some (fileOf pool7 2 #[] #[] 1537 4 #[] #[])
  fields := #[]
  methods := #[]
  instanceTypes := #[]
  staticTypes := #[]
  resolved := Array.replicate 8 none
  statics := none }

/-- the primitive byte -/
def k8 : Class := { plain "byte" none with kind := .primitive 'B', accessFlags := 0x411 }
/-- [B -/
def k9 : Class := { plain "[B" (some 0) with kind := .array 8 .byte, interfaces := #[6, 7], accessFlags := 1041 }

/-- the primitive int -/
def k10 : Class := { plain "int" none with kind := .primitive 'I', accessFlags := 0x411 }
/-- [I -/
def k11 : Class := { plain "[I" (some 0) with kind := .array 10 .int, interfaces := #[6, 7], accessFlags := 1041 }

/-- the primitive long -/
def k12 : Class := { plain "long" none with kind := .primitive 'J', accessFlags := 0x411 }
/-- [J -/
def k13 : Class := { plain "[J" (some 0) with kind := .array 12 .long, interfaces := #[6, 7], accessFlags := 1041 }

def heap : Heap := #[]
def classes : Array Class := #[k0, k1, k2, k3, k4, k5, k6, k7, k8, k9, k10, k11, k12, k13]
def interned : List (Array UInt16 × Addr) := []
def slotsUsed : Nat := 0
def theMethod : MethodId := ⟨1, 2⟩
def args0 : Array Value := #[.long 5, .long 7, .long 9, .long 5, .long 3, .int 10]
def aboutOver (below : List Frame) : State where
  vm := { classes := classes, interned := interned.toArray }
  heap := heap
  slotsUsed := slotsUsed
  threads := #[{ frames := .invoking theMethod args0 :: below }]
def below0 : List Frame := [.native { method := ⟨0, 0⟩, args := #[] }]
def about1 : State := aboutOver below0
def p0 : Program := .bare "" "" ""
def e0 : Env := launch0.env 0 0 0
theorem w_frames : about1.frames = Frame.invoking theMethod args0 :: below0 := rfl
set_option maxRecDepth 65536 in
theorem w_args : argsFit about1.vm theMethod args0 = true := by decide +kernel
set_option maxRecDepth 65536 in
theorem w_heap : heapFits about1 = true := by decide +kernel
set_option maxRecDepth 65536 in
theorem w_runnable : about1.curStatus? = some .runnable := by decide +kernel
set_option maxRecDepth 65536 in
theorem w_alone : about1.alone = true := by decide +kernel
set_option maxRecDepth 65536 in
theorem w_named : about1.methodNamed? x = some theMethod := by decide +kernel
set_option maxRecDepth 65536 in
theorem w_hears : about1.hears theMethod below0 = true := by decide +kernel
set_option maxRecDepth 65536 in
theorem w_ripe : about1.ripe theMethod args0 below0 = true := by decide +kernel
theorem w_running : about1.status = .running := rfl
set_option maxRecDepth 65536 in
theorem w_room : about1.hasRoom e0.platform room_1 = true :=
  launch0.hasRoom_least _ room_1 (by decide +kernel) (by decide +kernel) (by decide +kernel) (by decide +kernel) (by decide +kernel) (by decide +kernel)
theorem allAtoms_all (ts : List Jvm.Cond) (a : Array Jvm.Value) (st : Jvm.State) : (allAtoms ts).before a st = ts.all (fun c => c.before a st) := by
  induction ts with
  | nil => rfl
  | cons c t ih =>
    show (Jvm.Cond.and c (allAtoms t)).before a st = _
    rw [Jvm.Cond.before_and, ih, List.all_cons]
def words1 : List Jvm.Cond := Jvm.Cond.code x code maxLocals ret :: tables_1
/-- a 'code' word, met by the world's own term for the bytes: nothing is compared byte by byte -/
theorem code_word {y : MethodName} {bytes : ByteArray} {mx : Nat} {rt : Option FieldType} {a : Array Value} {s : State} {m : MethodId} {meth : Method} {c : Code} (h1 : s.methodNamed? y = some m) (h2 : s.vm.method? m = some meth) (h3 : meth.code = some c) (h4 : c.code = bytes)
    (h5 : (c.maxLocals == mx && c.exceptionTable.isEmpty && decide (c.maxStack ≤ mostOperands) && decide (meth.sig.returnType = rt) && !meth.locks && decide (parseMethodDescriptor y.desc = some meth.sig)) = true) : (Jvm.Cond.code y bytes mx rt).before a s = true := by
  simp only [Bool.and_eq_true, beq_iff_eq, Bool.not_eq_true', decide_eq_true_eq] at h5
  obtain ⟨⟨⟨⟨⟨g1, g2⟩, g3⟩, g4⟩, g5⟩, g6⟩ := h5
  simp [Cond.before, Cond.holds, Cond.value, h1, h2, h3, h4, g1, g2, g3, g4, g5, g6]
def isCode : Jvm.Cond → Bool
  | .code _ _ _ _ => true
  | _ => false
theorem all_split {L : List Jvm.Cond} {P : Jvm.Cond → Bool} (h1 : L.all (fun c => isCode c || P c) = true) (h2 : ∀ c ∈ L.filter isCode, P c = true) : L.all P = true := by
  refine List.all_eq_true.mpr fun c hc => ?_
  have h := List.all_eq_true.mp h1 c hc
  rcases Bool.eq_false_or_eq_true (isCode c) with hi | hi
  · exact h2 c (List.mem_filter.mpr ⟨hc, hi⟩)
  · simpa [hi] using h
set_option maxRecDepth 65536 in
theorem w_c0 : (Jvm.Cond.code x code maxLocals ret).before args0 about1 = true := code_word (m := ⟨1, 2⟩) (meth := k1m2) (c := k1c2) (by decide +kernel) rfl rfl rfl (by decide +kernel)
set_option maxRecDepth 65536 in
theorem w_c1 : (Jvm.Cond.code ({ cls := "com/example/folioseek/folioseek/UseOrder", name := "<init>", desc := "()V" } : Jvm.MethodName) prog_24_method_1_code (1 : Nat) (Option.none : Option Jvm.ClassFile.FieldType)).before args0 about1 = true := code_word (m := ⟨2, 0⟩) (meth := k2m0) (c := k2c0) (by decide +kernel) rfl rfl rfl (by decide +kernel)
set_option maxRecDepth 65536 in
theorem w_c2 : (Jvm.Cond.code ({ cls := "java/lang/Object", name := "<init>", desc := "()V" } : Jvm.MethodName) object_method_1_code (1 : Nat) (Option.none : Option Jvm.ClassFile.FieldType)).before args0 about1 = true := code_word (m := ⟨0, 0⟩) (meth := k0m0) (c := k0c0) (by decide +kernel) rfl rfl rfl (by decide +kernel)
set_option maxRecDepth 65536 in
theorem w_c3 : (Jvm.Cond.code ({ cls := "com/example/folioseek/folioseek/UseOrder", name := "add", desc := "(IJ)V" } : Jvm.MethodName) prog_24_method_5_code (5 : Nat) (Option.none : Option Jvm.ClassFile.FieldType)).before args0 about1 = true := code_word (m := ⟨2, 3⟩) (meth := k2m3) (c := k2c3) (by decide +kernel) rfl rfl rfl (by decide +kernel)
set_option maxRecDepth 65536 in
theorem w_c4 : (Jvm.Cond.code ({ cls := "java/lang/Math", name := "max", desc := "(II)I" } : Jvm.MethodName) jdk_29_method_65_code (2 : Nat) (Option.some Jvm.ClassFile.FieldType.int)).before args0 about1 = true := code_word (m := ⟨3, 1⟩) (meth := k3m1) (c := k3c1) (by decide +kernel) rfl rfl rfl (by decide +kernel)
set_option maxRecDepth 65536 in
theorem w_c5 : (Jvm.Cond.code ({ cls := "java/util/Arrays", name := "copyOf", desc := "([II)[I" } : Jvm.MethodName) jdk_65_method_123_code (3 : Nat) (Option.some (Jvm.ClassFile.FieldType.array Jvm.ClassFile.FieldType.int))).before args0 about1 = true := code_word (m := ⟨4, 3⟩) (meth := k4m3) (c := k4c3) (by decide +kernel) rfl rfl rfl (by decide +kernel)
set_option maxRecDepth 65536 in
theorem w_c6 : (Jvm.Cond.code ({ cls := "java/lang/Math", name := "min", desc := "(II)I" } : Jvm.MethodName) jdk_29_method_69_code (2 : Nat) (Option.some Jvm.ClassFile.FieldType.int)).before args0 about1 = true := code_word (m := ⟨3, 2⟩) (meth := k3m2) (c := k3c2) (by decide +kernel) rfl rfl rfl (by decide +kernel)
set_option maxRecDepth 65536 in
theorem w_c7 : (Jvm.Cond.code ({ cls := "java/util/Arrays", name := "fill", desc := "([IIII)V" } : Jvm.MethodName) jdk_65_method_104_code (5 : Nat) (Option.none : Option Jvm.ClassFile.FieldType)).before args0 about1 = true := code_word (m := ⟨4, 2⟩) (meth := k4m2) (c := k4c2) (by decide +kernel) rfl rfl rfl (by decide +kernel)
set_option maxRecDepth 65536 in
theorem w_c8 : (Jvm.Cond.code ({ cls := "java/util/Arrays", name := "rangeCheck", desc := "(III)V" } : Jvm.MethodName) jdk_65_method_30_code (3 : Nat) (Option.none : Option Jvm.ClassFile.FieldType)).before args0 about1 = true := code_word (m := ⟨4, 1⟩) (meth := k4m1) (c := k4c1) (by decide +kernel) rfl rfl rfl (by decide +kernel)
set_option maxRecDepth 65536 in
theorem w_c9 : (Jvm.Cond.code ({ cls := "com/example/folioseek/folioseek/UseOrder", name := "place", desc := "(IJI)V" } : Jvm.MethodName) prog_24_method_10_code (5 : Nat) (Option.none : Option Jvm.ClassFile.FieldType)).before args0 about1 = true := code_word (m := ⟨2, 8⟩) (meth := k2m8) (c := k2c8) (by decide +kernel) rfl rfl rfl (by decide +kernel)
set_option maxRecDepth 65536 in
theorem w_c10 : (Jvm.Cond.code ({ cls := "com/example/folioseek/folioseek/UseOrder", name := "siftUp", desc := "(I)V" } : Jvm.MethodName) prog_24_method_8_code (6 : Nat) (Option.none : Option Jvm.ClassFile.FieldType)).before args0 about1 = true := code_word (m := ⟨2, 6⟩) (meth := k2m6) (c := k2c6) (by decide +kernel) rfl rfl rfl (by decide +kernel)
set_option maxRecDepth 65536 in
theorem w_c11 : (Jvm.Cond.code ({ cls := "com/example/folioseek/folioseek/UseOrder", name := "update", desc := "(IJ)V" } : Jvm.MethodName) prog_24_method_6_code (5 : Nat) (Option.none : Option Jvm.ClassFile.FieldType)).before args0 about1 = true := code_word (m := ⟨2, 4⟩) (meth := k2m4) (c := k2c4) (by decide +kernel) rfl rfl rfl (by decide +kernel)
set_option maxRecDepth 65536 in
theorem w_c12 : (Jvm.Cond.code ({ cls := "com/example/folioseek/folioseek/UseOrder", name := "siftDown", desc := "(I)V" } : Jvm.MethodName) prog_24_method_9_code (8 : Nat) (Option.none : Option Jvm.ClassFile.FieldType)).before args0 about1 = true := code_word (m := ⟨2, 7⟩) (meth := k2m7) (c := k2c7) (by decide +kernel) rfl rfl rfl (by decide +kernel)
set_option maxRecDepth 65536 in
theorem w_c13 : (Jvm.Cond.code ({ cls := "com/example/folioseek/folioseek/UseOrderUpdatePinLaw", name := "minExcept", desc := "([JI)J" } : Jvm.MethodName) method_2_code (4 : Nat) (Option.some Jvm.ClassFile.FieldType.long)).before args0 about1 = true := code_word (m := ⟨1, 1⟩) (meth := k1m1) (c := k1c1) (by decide +kernel) rfl rfl rfl (by decide +kernel)
set_option maxRecDepth 65536 in
theorem w_c14 : (Jvm.Cond.code ({ cls := "java/lang/Math", name := "min", desc := "(JJ)J" } : Jvm.MethodName) jdk_29_method_70_code (4 : Nat) (Option.some Jvm.ClassFile.FieldType.long)).before args0 about1 = true := code_word (m := ⟨3, 3⟩) (meth := k3m3) (c := k3c3) (by decide +kernel) rfl rfl rfl (by decide +kernel)
set_option maxRecDepth 65536 in
theorem w_c15 : (Jvm.Cond.code ({ cls := "com/example/folioseek/folioseek/UseOrder", name := "first", desc := "()I" } : Jvm.MethodName) prog_24_method_3_code (1 : Nat) (Option.some Jvm.ClassFile.FieldType.int)).before args0 about1 = true := code_word (m := ⟨2, 1⟩) (meth := k2m1) (c := k2c1) (by decide +kernel) rfl rfl rfl (by decide +kernel)
set_option maxRecDepth 65536 in
theorem w_c16 : (Jvm.Cond.code ({ cls := "com/example/folioseek/folioseek/UseOrder", name := "firstUse", desc := "()J" } : Jvm.MethodName) prog_24_method_4_code (1 : Nat) (Option.some Jvm.ClassFile.FieldType.long)).before args0 about1 = true := code_word (m := ⟨2, 2⟩) (meth := k2m2) (c := k2c2) (by decide +kernel) rfl rfl rfl (by decide +kernel)
set_option maxRecDepth 65536 in
theorem w_c17 : (Jvm.Cond.code ({ cls := "com/example/folioseek/folioseek/UseOrder", name := "remove", desc := "(I)V" } : Jvm.MethodName) prog_24_method_7_code (4 : Nat) (Option.none : Option Jvm.ClassFile.FieldType)).before args0 about1 = true := code_word (m := ⟨2, 5⟩) (meth := k2m5) (c := k2c5) (by decide +kernel) rfl rfl rfl (by decide +kernel)
def codes1 : List Jvm.Cond := [Jvm.Cond.code x code maxLocals ret, Jvm.Cond.code ({ cls := "com/example/folioseek/folioseek/UseOrder", name := "<init>", desc := "()V" } : Jvm.MethodName) prog_24_method_1_code (1 : Nat) (Option.none : Option Jvm.ClassFile.FieldType), Jvm.Cond.code ({ cls := "java/lang/Object", name := "<init>", desc := "()V" } : Jvm.MethodName) object_method_1_code (1 : Nat) (Option.none : Option Jvm.ClassFile.FieldType), Jvm.Cond.code ({ cls := "com/example/folioseek/folioseek/UseOrder", name := "add", desc := "(IJ)V" } : Jvm.MethodName) prog_24_method_5_code (5 : Nat) (Option.none : Option Jvm.ClassFile.FieldType), Jvm.Cond.code ({ cls := "java/lang/Math", name := "max", desc := "(II)I" } : Jvm.MethodName) jdk_29_method_65_code (2 : Nat) (Option.some Jvm.ClassFile.FieldType.int), Jvm.Cond.code ({ cls := "java/util/Arrays", name := "copyOf", desc := "([II)[I" } : Jvm.MethodName) jdk_65_method_123_code (3 : Nat) (Option.some (Jvm.ClassFile.FieldType.array Jvm.ClassFile.FieldType.int)), Jvm.Cond.code ({ cls := "java/lang/Math", name := "min", desc := "(II)I" } : Jvm.MethodName) jdk_29_method_69_code (2 : Nat) (Option.some Jvm.ClassFile.FieldType.int), Jvm.Cond.code ({ cls := "java/util/Arrays", name := "fill", desc := "([IIII)V" } : Jvm.MethodName) jdk_65_method_104_code (5 : Nat) (Option.none : Option Jvm.ClassFile.FieldType), Jvm.Cond.code ({ cls := "java/util/Arrays", name := "rangeCheck", desc := "(III)V" } : Jvm.MethodName) jdk_65_method_30_code (3 : Nat) (Option.none : Option Jvm.ClassFile.FieldType), Jvm.Cond.code ({ cls := "com/example/folioseek/folioseek/UseOrder", name := "place", desc := "(IJI)V" } : Jvm.MethodName) prog_24_method_10_code (5 : Nat) (Option.none : Option Jvm.ClassFile.FieldType), Jvm.Cond.code ({ cls := "com/example/folioseek/folioseek/UseOrder", name := "siftUp", desc := "(I)V" } : Jvm.MethodName) prog_24_method_8_code (6 : Nat) (Option.none : Option Jvm.ClassFile.FieldType), Jvm.Cond.code ({ cls := "com/example/folioseek/folioseek/UseOrder", name := "update", desc := "(IJ)V" } : Jvm.MethodName) prog_24_method_6_code (5 : Nat) (Option.none : Option Jvm.ClassFile.FieldType), Jvm.Cond.code ({ cls := "com/example/folioseek/folioseek/UseOrder", name := "siftDown", desc := "(I)V" } : Jvm.MethodName) prog_24_method_9_code (8 : Nat) (Option.none : Option Jvm.ClassFile.FieldType), Jvm.Cond.code ({ cls := "com/example/folioseek/folioseek/UseOrderUpdatePinLaw", name := "minExcept", desc := "([JI)J" } : Jvm.MethodName) method_2_code (4 : Nat) (Option.some Jvm.ClassFile.FieldType.long), Jvm.Cond.code ({ cls := "java/lang/Math", name := "min", desc := "(JJ)J" } : Jvm.MethodName) jdk_29_method_70_code (4 : Nat) (Option.some Jvm.ClassFile.FieldType.long), Jvm.Cond.code ({ cls := "com/example/folioseek/folioseek/UseOrder", name := "first", desc := "()I" } : Jvm.MethodName) prog_24_method_3_code (1 : Nat) (Option.some Jvm.ClassFile.FieldType.int), Jvm.Cond.code ({ cls := "com/example/folioseek/folioseek/UseOrder", name := "firstUse", desc := "()J" } : Jvm.MethodName) prog_24_method_4_code (1 : Nat) (Option.some Jvm.ClassFile.FieldType.long), Jvm.Cond.code ({ cls := "com/example/folioseek/folioseek/UseOrder", name := "remove", desc := "(I)V" } : Jvm.MethodName) prog_24_method_7_code (4 : Nat) (Option.none : Option Jvm.ClassFile.FieldType)]
set_option maxRecDepth 65536 in
theorem codes_eq : words1.filter isCode = codes1 := rfl
theorem w_codes : ∀ c ∈ words1.filter isCode, c.before args0 about1 = true := by
  rw [codes_eq]
  intro c hc
  simp only [codes1, List.mem_cons, List.not_mem_nil, or_false] at hc
  rcases hc with rfl | rfl | rfl | rfl | rfl | rfl | rfl | rfl | rfl | rfl | rfl | rfl | rfl | rfl | rfl | rfl | rfl | rfl
  · exact w_c0
  · exact w_c1
  · exact w_c2
  · exact w_c3
  · exact w_c4
  · exact w_c5
  · exact w_c6
  · exact w_c7
  · exact w_c8
  · exact w_c9
  · exact w_c10
  · exact w_c11
  · exact w_c12
  · exact w_c13
  · exact w_c14
  · exact w_c15
  · exact w_c16
  · exact w_c17
set_option maxRecDepth 65536 in
theorem w_t1 : (words1.take 24).all (fun c => isCode c || c.before args0 about1) = true := by decide +kernel
set_option maxRecDepth 65536 in
theorem w_t2 : ((words1.drop 24).take 24).all (fun c => isCode c || c.before args0 about1) = true := by decide +kernel
set_option maxRecDepth 65536 in
theorem w_t3 : (((words1.drop 24).drop 24).take 24).all (fun c => isCode c || c.before args0 about1) = true := by decide +kernel
set_option maxRecDepth 65536 in
theorem w_t4 : (((words1.drop 24).drop 24).drop 24).all (fun c => isCode c || c.before args0 about1) = true := by decide +kernel
theorem w_tables : (allAtoms (Jvm.Cond.code x code maxLocals ret :: tables_1)).before args0 about1 = true := by
  rw [allAtoms_all]
  show words1.all (fun c => c.before args0 about1) = true
  refine all_split ?_ w_codes
  rw [← List.take_append_drop 24 words1, List.all_append, w_t1, ← List.take_append_drop 24 (words1.drop 24), List.all_append, w_t2, ← List.take_append_drop 24 ((words1.drop 24).drop 24), List.all_append, w_t3, w_t4]
  rfl
set_option maxRecDepth 65536 in
theorem w_case : (Jvm.Cond.and given_1 narrow_1).before args0 about1 = true := by decide +kernel
theorem w_applies : (headSpec (Jvm.Cond.code x code maxLocals ret :: tables_1) room_1).applies x e0.platform about1 = true :=
  (Spec.applies_iff w_frames).mpr ⟨w_running, w_runnable, w_alone, w_named, w_hears, w_ripe, w_room, w_tables⟩
theorem atStart : AtStart classFile x code maxLocals ret World_1 tables_1 room_1 Calls_1 rest_1 Pre_1 launch0 p0 e0 about1 theMethod args0 below0 :=
  ⟨lists_1, trivial, launch0.admits_env _ _ _, launch0.least_env, fairChoices_fair.cas, fairChoices_fair.clock, w_frames, w_args, w_heap, w_applies, trivial, trivial, w_case⟩
end start1
theorem witness_1 : WitnessClaimed_1 := ⟨start1.p0, start1.e0, start1.about1, start1.theMethod, start1.args0, start1.below0, start1.atStart⟩
end Jvm.Pilot.@@N@@
