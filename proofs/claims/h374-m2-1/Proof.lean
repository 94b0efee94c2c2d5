import JvmDerived
import JvmDerived.Pilot.@@N@@Statement
import JvmDerived.Pilot.@@N@@Code
set_option linter.unusedVariables false
set_option linter.unusedSimpArgs false
namespace Jvm.RoadKit
open Sem ClassFile Op Lib Jvm.Stand Jvm.Free Jvm.LawKit
section New
variable {p : Program} {l : Launch} {e : Env} {R : Room} {s : State} {m : MethodId} {args : Array Value} {below : List Frame} {meth : Method} {c : Code} {T : State} {locs : List Loc} {cells slots : Nat}
theorem retI (X : Stand p l e R s m args below meth c T locs cells slots) (hx : p.tables.exec = Jvm.exec) {pc : Nat} {Ls : Array Slot} {z : Int32} {rest : List Value} (hret : meth.sig.returnType = some .int) (hd : decode c.code pc = .ok (.ireturn, 1)) {fs : List Frame}
    (hl : ∀ (f : JFrame) (acts : List Action), f.method = m → f.locked = none → f.entered = [] → (doReturn e (T.setTop f) acts (some (.int z))).1 = T.setFrames fs) : Steps p.tables e below (T.setTop (mkF m pc Ls (.int z :: rest))) (T.setFrames fs) := by
  have hm' : T.vm.method? m = some meth := X.method'
  have hn : narrow .int (.int z) = .int z := rfl
  show Steps p.tables e below (T.setTop { method := m, pc := pc, locals := Ls, stack := _ :: rest, locked := none }) _
  jvm_step X.here [X.here.top, hx, hd, hm', hret, hn]
  first | (intro acts; rw [hl _ acts rfl rfl rfl]) | rw [hl _ _ rfl rfl rfl]
  exact Steps.refl _
end New
end Jvm.RoadKit
namespace Jvm.Pilot.@@N@@
open Jvm Jvm.ClassFile Sem Op Lib Jvm.Free Jvm.Stand Jvm.LawKit Jvm.RoadKit Bundle Jvm.Pilot.@@N@@.Jvm.D
theorem own_bt {P : Prop} [Decidable P] (h : P) : ifCond.holds .eq (if P then (1 : Int32) else (0 : Int32)) = false ∧ ifCond.holds .ne (if P then (1 : Int32) else (0 : Int32)) = true := by rw [if_pos h]; exact ⟨rfl, rfl⟩
theorem own_bf {P : Prop} [Decidable P] (h : ¬ P) : ifCond.holds .eq (if P then (1 : Int32) else (0 : Int32)) = true ∧ ifCond.holds .ne (if P then (1 : Int32) else (0 : Int32)) = false := by rw [if_neg h]; exact ⟨rfl, rfl⟩
theorem own_getI (L : List Int32) (i : Nat) : (List.map Value.int L).getD i (.int (0 : Int32)) = .int (L.getD i 0) := by
  simp only [List.getD_eq_getElem?_getD, List.getElem?_map]; cases L[i]? <;> rfl
theorem own_getJ (L : List Int64) (i : Nat) : (List.map Value.long L).getD i (.long (0 : Int64)) = .long (L.getD i 0) := by
  simp only [List.getD_eq_getElem?_getD, List.getElem?_map]; cases L[i]? <;> rfl
theorem own_setI (L : List Int32) (i : Nat) (x : Int32) : (List.map Value.int L).set i (.int x) = List.map Value.int (L.set i x) := (List.map_set).symm
theorem own_setJ (L : List Int64) (i : Nat) (x : Int64) : (List.map Value.long L).set i (.long x) = List.map Value.long (L.set i x) := (List.map_set).symm
theorem own_ns {Z : State} {h : Heap} {o : Addr} {C : String} (E : Exa Z h o C) : ∃ c : Cell, h[o]? = some c ∧ c.vm.isStatics = false := by
  obtain ⟨c, k, h1, -, -, h4, -⟩ := E; exact ⟨c, h1, h4⟩
theorem own_sta_keep {Z : State} {h h' : Heap} {ws : List Addr} {C n d : String} {v : Value} (S : Sta Z h C n d v) (K : Keep h h' ws) (q : ∀ w ∈ ws, ∃ c : Cell, h[w]? = some c ∧ c.vm.isStatics = false) : Sta Z h' C n d v := by
  obtain ⟨cf, i, k, f, st, cell, h1, h2, h3, h4, h5, h6, h7⟩ := S
  refine ⟨cf, i, k, f, st, cell, h1, h2, h3, h4, K.2.1 _ _ h5 (fun z => ?_), h6, h7⟩
  obtain ⟨c, e1, e2⟩ := q _ z
  cases h5.symm.trans e1; rw [e2] at h6; cases h6
theorem own_selp {s : State} {args args' : Array Value} {y z : MethodName} (hcls : z.cls = y.cls) (hnf : NotFace s z) (hz : (Cond.instanceMethod z).before args' s = true) (hpriv : s.PrivateAt y) (hinst : (Cond.instanceMethod y).before args s = true) (hy : y.cls ≠ "java/lang/invoke/MethodHandle" ∧ y.cls ≠ "java/lang/invoke/VarHandle") : (Cond.selects y.cls y y).before args s = true := by
  obtain ⟨mz, _, hnz, _⟩ := Cond.instanceMethod_spec hz
  obtain ⟨k, hk, hni⟩ := hnf mz hnz
  exact selects_self_of_private (by rw [← hcls]; exact findClass_of_methodNamed hnz) hk hni hpriv hinst hy
theorem own_swne {x k : Int32} {n : Int} (h : ¬ x = k) (e : k.toInt = n) : n ≠ x.toInt := fun q => h (Int32.toInt_inj.mp (by rw [e, q]))
theorem own_cat {v : Value} (h : v.isRef = true) : v.category = 1 := by cases v <;> first | rfl | (simp [Value.isRef] at h)
theorem d1_0 : decode method_2_code 0 = .ok (.iload_n 0, 1) := by decide +kernel
theorem d1_1 : decode method_2_code 1 = .ok (.ifCond .ne 7, 3) := by decide +kernel
theorem d1_4 : decode method_2_code 4 = .ok (.getstatic 7, 3) := by decide +kernel
theorem d1_7 : decode method_2_code 7 = .ok (.areturn, 1) := by decide +kernel
theorem d1_8 : decode method_2_code 8 = .ok (.iload_n 0, 1) := by decide +kernel
theorem d1_9 : decode method_2_code 9 = .ok (.iconst 1, 1) := by decide +kernel
theorem d1_10 : decode method_2_code 10 = .ok (.if_icmp .ne 7, 3) := by decide +kernel
theorem d1_13 : decode method_2_code 13 = .ok (.getstatic 13, 3) := by decide +kernel
theorem d1_16 : decode method_2_code 16 = .ok (.areturn, 1) := by decide +kernel
theorem d1_17 : decode method_2_code 17 = .ok (.iload_n 0, 1) := by decide +kernel
theorem d1_18 : decode method_2_code 18 = .ok (.iconst 2, 1) := by decide +kernel
theorem d1_19 : decode method_2_code 19 = .ok (.if_icmp .ne 7, 3) := by decide +kernel
theorem d1_22 : decode method_2_code 22 = .ok (.getstatic 16, 3) := by decide +kernel
theorem d1_25 : decode method_2_code 25 = .ok (.areturn, 1) := by decide +kernel
theorem d1_26 : decode method_2_code 26 = .ok (.iload_n 0, 1) := by decide +kernel
theorem d1_27 : decode method_2_code 27 = .ok (.iconst 3, 1) := by decide +kernel
theorem d1_28 : decode method_2_code 28 = .ok (.if_icmp .ne 7, 3) := by decide +kernel
theorem d1_31 : decode method_2_code 31 = .ok (.getstatic 19, 3) := by decide +kernel
theorem d1_34 : decode method_2_code 34 = .ok (.areturn, 1) := by decide +kernel
theorem d1_35 : decode method_2_code 35 = .ok (.iload_n 0, 1) := by decide +kernel
theorem d1_36 : decode method_2_code 36 = .ok (.iconst 4, 1) := by decide +kernel
theorem d1_37 : decode method_2_code 37 = .ok (.if_icmp .ne 7, 3) := by decide +kernel
theorem d1_40 : decode method_2_code 40 = .ok (.getstatic 22, 3) := by decide +kernel
theorem d1_43 : decode method_2_code 43 = .ok (.areturn, 1) := by decide +kernel
theorem d1_44 : decode method_2_code 44 = .ok (.getstatic 25, 3) := by decide +kernel
theorem d1_47 : decode method_2_code 47 = .ok (.areturn, 1) := by decide +kernel
theorem pn_0 : plainName "com/example/treeline/treeline/simple/RelationSwapsSidesPinLaw" = true := by first | (simp [plainName, overriddenIn]; done) | decide +kernel
theorem ef_1 (m : MethodId) (x0 : Int32)  : entryFrame m #[(.int x0)] 1 = mkF m 0 #[.val (.int x0)] [] := by first | (simp [entryFrame, mkF, argsToLocals, Value.category]; done) | rfl
def F1 (x0 : Int32) (sL : Addr) (sG : Addr) (sM : Addr) (sH : Addr) (sE : Addr) (sN : Addr) : Addr := if x0 = (0 : Int32) then sL else (if x0 = (1 : Int32) then sG else (if x0 = (2 : Int32) then sM else (if x0 = (3 : Int32) then sH else (if x0 = (4 : Int32) then sE else sN))))
def Q1 (Z : State) (x0 : Int32) (sL : Addr) (sG : Addr) (sM : Addr) (sH : Addr) (sE : Addr) (sN : Addr) (h0 : Heap) (n0 : Nat) (vE : Option Value) (hE : Heap) (LE : List Loc) : Prop := vE = some (.ref (F1 x0 sL sG sM sH sE sN)) ∧ Fr n0 LE ∧ hE = h0
set_option maxRecDepth 65536 in
set_option maxHeartbeats 40000000 in
theorem rm1 (l : Launch) (Z : State) (a0 : Array Value) (hw : ∀ d ∈ tables_1, d.before a0 Z = true) (ws : List Jvm.Cond) (x0 : Int32) (sL : Addr) (sG : Addr) (sM : Addr) (sH : Addr) (sE : Addr) (sN : Addr) (h0 : Heap) (n0 : Nat) (Z0 : n0 ≤ h0.size) (S_0 : Sta Z h0 "com/example/treeline/treeline/simple/Relation" "LESS" "Lcom/example/treeline/treeline/simple/Relation;" (.ref sL)) (S_1 : Sta Z h0 "com/example/treeline/treeline/simple/Relation" "GREATER" "Lcom/example/treeline/treeline/simple/Relation;" (.ref sG)) (S_2 : Sta Z h0 "com/example/treeline/treeline/simple/Relation" "LESS_OR_EQUAL" "Lcom/example/treeline/treeline/simple/Relation;" (.ref sM)) (S_3 : Sta Z h0 "com/example/treeline/treeline/simple/Relation" "GREATER_OR_EQUAL" "Lcom/example/treeline/treeline/simple/Relation;" (.ref sH)) (S_4 : Sta Z h0 "com/example/treeline/treeline/simple/Relation" "EQUAL" "Lcom/example/treeline/treeline/simple/Relation;" (.ref sE)) (S_5 : Sta Z h0 "com/example/treeline/treeline/simple/Relation" "NOT_EQUAL" "Lcom/example/treeline/treeline/simple/Relation;" (.ref sN)) :
    MetFree l (⟨"com/example/treeline/treeline/simple/RelationSwapsSidesPinLaw", "pick", "(I)Lcom/example/treeline/treeline/simple/Relation;"⟩ : MethodName) (head1 (Jvm.Cond.code (⟨"com/example/treeline/treeline/simple/RelationSwapsSidesPinLaw", "pick", "(I)Lcom/example/treeline/treeline/simple/Relation;"⟩ : MethodName) method_2_code 1 (some (.object "com/example/treeline/treeline/simple/Relation")) :: ws) ({ frames := 0, cells := 0, slots := 0, locals := 0 } : Room)) (fun a U => a = #[(.int x0)] ∧ Z.Warmed39 U.vm ∧ U.heap = h0) (fun _ _ _ _ _ => True) (fun _ U o U' => ∃ vE LE, o = .returned vE ∧ Q1 Z x0 sL sG sM sH sE sN h0 n0 vE U'.heap LE ∧ FrameEnd U o U' LE ({ frames := 0, cells := 0, slots := 0, locals := 0 } : Room).cells ({ frames := 0, cells := 0, slots := 0, locals := 0 } : Room).slots) := by
  refine MetFree.of_bodySF (plainFor_of_name pn_0) hisR ?_
  intro p e s m args below meth c s₁ Bd hml0 hP hK
  obtain ⟨rfl, hZ, hh⟩ := hP
  have hx := Bd.exec
  have hby := Bd.bytes
  have hml : c.maxLocals = 1 := hml0
  have hown : s.vm.findClass "com/example/treeline/treeline/simple/RelationSwapsSidesPinLaw" = some m.cls := findClass_of_methodNamed Bd.named
  have hnm := (name_of_methodNamed Bd.named Bd.method).1
  have X0 : Stand p l e ({ frames := 0, cells := 0, slots := 0, locals := 0 } : Room) s m #[(.int x0)] below meth c s₁ [] 0 0 := Stand.of_body Bd
  have e0 : s₁.heap = h0 := by rw [← hh, Bd.state]; rfl
  have N0 := Fr.nil n0
  have st0 : Steps p.tables e below (s₁.setTop (entryFrame m #[(.int x0)] 1)) (s₁.setTop (mkF m 0 #[.val (.int x0)] [])) := castTop (ef_1 m x0) (Steps.refl _)
  have st1 : Steps p.tables e below (s₁.setTop (entryFrame m #[(.int x0)] 1)) (s₁.setTop (mkF m 1 #[.val (.int x0)] [(.int x0)])) := st0.trans (by
      show Steps p.tables e below (s₁.setTop (mkF m 0 #[.val (.int x0)] [])) _
      refine XS.iloadN X0.here hx rfl (hb hby d1_0) rfl ?_
      exact Steps.refl _)
  by_cases hc2 : x0 = (0 : Int32)
  · have st3 : Steps p.tables e below (s₁.setTop (entryFrame m #[(.int x0)] 1)) (s₁.setTop (mkF m 4 #[.val (.int x0)] [])) := st1.trans (by
        show Steps p.tables e below (s₁.setTop (mkF m 1 #[.val (.int x0)] [(.int x0)])) _
        refine XS.ifNo X0.here hx rfl (hb hby d1_1) rfl ((if0 _ _).trans (teq hc2).2) ?_
        exact Steps.refl _)
    obtain ⟨T4, X4, e4, sr4⟩ := getS2 X0 hx hZ hown (host := "") (Or.inl (hw _ (List.mem_of_getElem? (i := 5) rfl))) Via.refl e0 S_0 (g := (mkF m 4 #[.val (.int x0)] [])) rfl (hb hby d1_4)
    have st5 : Steps p.tables e below (s₁.setTop (entryFrame m #[(.int x0)] 1)) (T4.setTop (mkF m 7 #[.val (.int x0)] [(.ref sL)])) := st3.trans (sr4 _ (Steps.refl _))
    obtain ⟨fs, hr, hrun, hended, hW, hsame⟩ := X4.leave (v := some (.ref sL)) (fun h => by rw [Bd.returns] at h; cases h)
    refine ⟨_, _, st5.trans ?_, hrun, hended, _, _, rfl, ?_, ⟨_, rfl⟩, hW, hsame.mono (by decide) (by decide)⟩
    · exact retOut X4 hx (t := (.object "com/example/treeline/treeline/simple/Relation")) Bd.returns rfl (Or.inr (Or.inr (Or.inr (Or.inr ⟨rfl, rfl, rfl⟩)))) (hb hby d1_7) hr
    · show Q1 Z x0 sL sG sM sH sE sN h0 n0 _ T4.heap _
      rw [e4]
      exact ⟨by rw [F1, if_pos hc2], N0, rfl⟩
  · have st6 : Steps p.tables e below (s₁.setTop (entryFrame m #[(.int x0)] 1)) (s₁.setTop (mkF m 10 #[.val (.int x0)] [(.int (1 : Int32)), (.int x0)])) := st1.trans (by
        show Steps p.tables e below (s₁.setTop (mkF m 1 #[.val (.int x0)] [(.int x0)])) _
        refine XS.ifYes X0.here hx rfl (pc0 := 1) (pc' := 8) rfl (hb hby d1_1) rfl ((if0 _ _).trans (feq hc2).2) (by decide) (by decide) ?_
        show Steps p.tables e below (s₁.setTop (mkF m 8 #[.val (.int x0)] [])) _
        refine XS.iloadN X0.here hx rfl (hb hby d1_8) rfl ?_
        show Steps p.tables e below (s₁.setTop (mkF m 9 #[.val (.int x0)] [(.int x0)])) _
        refine XS.iconst X0.here hx rfl (hb hby d1_9) ?_
        exact Steps.refl _)
    by_cases hc7 : x0 = (1 : Int32)
    · have st8 : Steps p.tables e below (s₁.setTop (entryFrame m #[(.int x0)] 1)) (s₁.setTop (mkF m 13 #[.val (.int x0)] [])) := st6.trans (by
          show Steps p.tables e below (s₁.setTop (mkF m 10 #[.val (.int x0)] [(.int (1 : Int32)), (.int x0)])) _
          refine XS.icmpNo X0.here hx rfl (hb hby d1_10) rfl (teq hc7).2 ?_
          exact Steps.refl _)
      obtain ⟨T9, X9, e9, sr9⟩ := getS2 X0 hx hZ hown (host := "") (Or.inl (hw _ (List.mem_of_getElem? (i := 65) rfl))) Via.refl e0 S_1 (g := (mkF m 13 #[.val (.int x0)] [])) rfl (hb hby d1_13)
      have st10 : Steps p.tables e below (s₁.setTop (entryFrame m #[(.int x0)] 1)) (T9.setTop (mkF m 16 #[.val (.int x0)] [(.ref sG)])) := st8.trans (sr9 _ (Steps.refl _))
      obtain ⟨fs, hr, hrun, hended, hW, hsame⟩ := X9.leave (v := some (.ref sG)) (fun h => by rw [Bd.returns] at h; cases h)
      refine ⟨_, _, st10.trans ?_, hrun, hended, _, _, rfl, ?_, ⟨_, rfl⟩, hW, hsame.mono (by decide) (by decide)⟩
      · exact retOut X9 hx (t := (.object "com/example/treeline/treeline/simple/Relation")) Bd.returns rfl (Or.inr (Or.inr (Or.inr (Or.inr ⟨rfl, rfl, rfl⟩)))) (hb hby d1_16) hr
      · show Q1 Z x0 sL sG sM sH sE sN h0 n0 _ T9.heap _
        rw [e9]
        exact ⟨by rw [F1, if_neg hc2, if_pos hc7], N0, rfl⟩
    · have st11 : Steps p.tables e below (s₁.setTop (entryFrame m #[(.int x0)] 1)) (s₁.setTop (mkF m 19 #[.val (.int x0)] [(.int (2 : Int32)), (.int x0)])) := st6.trans (by
          show Steps p.tables e below (s₁.setTop (mkF m 10 #[.val (.int x0)] [(.int (1 : Int32)), (.int x0)])) _
          refine XS.icmpYes X0.here hx rfl (pc0 := 10) (pc' := 17) rfl (hb hby d1_10) rfl (feq hc7).2 (by decide) (by decide) ?_
          show Steps p.tables e below (s₁.setTop (mkF m 17 #[.val (.int x0)] [])) _
          refine XS.iloadN X0.here hx rfl (hb hby d1_17) rfl ?_
          show Steps p.tables e below (s₁.setTop (mkF m 18 #[.val (.int x0)] [(.int x0)])) _
          refine XS.iconst X0.here hx rfl (hb hby d1_18) ?_
          exact Steps.refl _)
      by_cases hc12 : x0 = (2 : Int32)
      · have st13 : Steps p.tables e below (s₁.setTop (entryFrame m #[(.int x0)] 1)) (s₁.setTop (mkF m 22 #[.val (.int x0)] [])) := st11.trans (by
            show Steps p.tables e below (s₁.setTop (mkF m 19 #[.val (.int x0)] [(.int (2 : Int32)), (.int x0)])) _
            refine XS.icmpNo X0.here hx rfl (hb hby d1_19) rfl (teq hc12).2 ?_
            exact Steps.refl _)
        obtain ⟨T14, X14, e14, sr14⟩ := getS2 X0 hx hZ hown (host := "") (Or.inl (hw _ (List.mem_of_getElem? (i := 63) rfl))) Via.refl e0 S_2 (g := (mkF m 22 #[.val (.int x0)] [])) rfl (hb hby d1_22)
        have st15 : Steps p.tables e below (s₁.setTop (entryFrame m #[(.int x0)] 1)) (T14.setTop (mkF m 25 #[.val (.int x0)] [(.ref sM)])) := st13.trans (sr14 _ (Steps.refl _))
        obtain ⟨fs, hr, hrun, hended, hW, hsame⟩ := X14.leave (v := some (.ref sM)) (fun h => by rw [Bd.returns] at h; cases h)
        refine ⟨_, _, st15.trans ?_, hrun, hended, _, _, rfl, ?_, ⟨_, rfl⟩, hW, hsame.mono (by decide) (by decide)⟩
        · exact retOut X14 hx (t := (.object "com/example/treeline/treeline/simple/Relation")) Bd.returns rfl (Or.inr (Or.inr (Or.inr (Or.inr ⟨rfl, rfl, rfl⟩)))) (hb hby d1_25) hr
        · show Q1 Z x0 sL sG sM sH sE sN h0 n0 _ T14.heap _
          rw [e14]
          exact ⟨by rw [F1, if_neg hc2, if_neg hc7, if_pos hc12], N0, rfl⟩
      · have st16 : Steps p.tables e below (s₁.setTop (entryFrame m #[(.int x0)] 1)) (s₁.setTop (mkF m 28 #[.val (.int x0)] [(.int (3 : Int32)), (.int x0)])) := st11.trans (by
            show Steps p.tables e below (s₁.setTop (mkF m 19 #[.val (.int x0)] [(.int (2 : Int32)), (.int x0)])) _
            refine XS.icmpYes X0.here hx rfl (pc0 := 19) (pc' := 26) rfl (hb hby d1_19) rfl (feq hc12).2 (by decide) (by decide) ?_
            show Steps p.tables e below (s₁.setTop (mkF m 26 #[.val (.int x0)] [])) _
            refine XS.iloadN X0.here hx rfl (hb hby d1_26) rfl ?_
            show Steps p.tables e below (s₁.setTop (mkF m 27 #[.val (.int x0)] [(.int x0)])) _
            refine XS.iconst X0.here hx rfl (hb hby d1_27) ?_
            exact Steps.refl _)
        by_cases hc17 : x0 = (3 : Int32)
        · have st18 : Steps p.tables e below (s₁.setTop (entryFrame m #[(.int x0)] 1)) (s₁.setTop (mkF m 31 #[.val (.int x0)] [])) := st16.trans (by
              show Steps p.tables e below (s₁.setTop (mkF m 28 #[.val (.int x0)] [(.int (3 : Int32)), (.int x0)])) _
              refine XS.icmpNo X0.here hx rfl (hb hby d1_28) rfl (teq hc17).2 ?_
              exact Steps.refl _)
          obtain ⟨T19, X19, e19, sr19⟩ := getS2 X0 hx hZ hown (host := "") (Or.inl (hw _ (List.mem_of_getElem? (i := 62) rfl))) Via.refl e0 S_3 (g := (mkF m 31 #[.val (.int x0)] [])) rfl (hb hby d1_31)
          have st20 : Steps p.tables e below (s₁.setTop (entryFrame m #[(.int x0)] 1)) (T19.setTop (mkF m 34 #[.val (.int x0)] [(.ref sH)])) := st18.trans (sr19 _ (Steps.refl _))
          obtain ⟨fs, hr, hrun, hended, hW, hsame⟩ := X19.leave (v := some (.ref sH)) (fun h => by rw [Bd.returns] at h; cases h)
          refine ⟨_, _, st20.trans ?_, hrun, hended, _, _, rfl, ?_, ⟨_, rfl⟩, hW, hsame.mono (by decide) (by decide)⟩
          · exact retOut X19 hx (t := (.object "com/example/treeline/treeline/simple/Relation")) Bd.returns rfl (Or.inr (Or.inr (Or.inr (Or.inr ⟨rfl, rfl, rfl⟩)))) (hb hby d1_34) hr
          · show Q1 Z x0 sL sG sM sH sE sN h0 n0 _ T19.heap _
            rw [e19]
            exact ⟨by rw [F1, if_neg hc2, if_neg hc7, if_neg hc12, if_pos hc17], N0, rfl⟩
        · have st21 : Steps p.tables e below (s₁.setTop (entryFrame m #[(.int x0)] 1)) (s₁.setTop (mkF m 37 #[.val (.int x0)] [(.int (4 : Int32)), (.int x0)])) := st16.trans (by
              show Steps p.tables e below (s₁.setTop (mkF m 28 #[.val (.int x0)] [(.int (3 : Int32)), (.int x0)])) _
              refine XS.icmpYes X0.here hx rfl (pc0 := 28) (pc' := 35) rfl (hb hby d1_28) rfl (feq hc17).2 (by decide) (by decide) ?_
              show Steps p.tables e below (s₁.setTop (mkF m 35 #[.val (.int x0)] [])) _
              refine XS.iloadN X0.here hx rfl (hb hby d1_35) rfl ?_
              show Steps p.tables e below (s₁.setTop (mkF m 36 #[.val (.int x0)] [(.int x0)])) _
              refine XS.iconst X0.here hx rfl (hb hby d1_36) ?_
              exact Steps.refl _)
          by_cases hc22 : x0 = (4 : Int32)
          · have st23 : Steps p.tables e below (s₁.setTop (entryFrame m #[(.int x0)] 1)) (s₁.setTop (mkF m 40 #[.val (.int x0)] [])) := st21.trans (by
                show Steps p.tables e below (s₁.setTop (mkF m 37 #[.val (.int x0)] [(.int (4 : Int32)), (.int x0)])) _
                refine XS.icmpNo X0.here hx rfl (hb hby d1_37) rfl (teq hc22).2 ?_
                exact Steps.refl _)
            obtain ⟨T24, X24, e24, sr24⟩ := getS2 X0 hx hZ hown (host := "") (Or.inl (hw _ (List.mem_of_getElem? (i := 68) rfl))) Via.refl e0 S_4 (g := (mkF m 40 #[.val (.int x0)] [])) rfl (hb hby d1_40)
            have st25 : Steps p.tables e below (s₁.setTop (entryFrame m #[(.int x0)] 1)) (T24.setTop (mkF m 43 #[.val (.int x0)] [(.ref sE)])) := st23.trans (sr24 _ (Steps.refl _))
            obtain ⟨fs, hr, hrun, hended, hW, hsame⟩ := X24.leave (v := some (.ref sE)) (fun h => by rw [Bd.returns] at h; cases h)
            refine ⟨_, _, st25.trans ?_, hrun, hended, _, _, rfl, ?_, ⟨_, rfl⟩, hW, hsame.mono (by decide) (by decide)⟩
            · exact retOut X24 hx (t := (.object "com/example/treeline/treeline/simple/Relation")) Bd.returns rfl (Or.inr (Or.inr (Or.inr (Or.inr ⟨rfl, rfl, rfl⟩)))) (hb hby d1_43) hr
            · show Q1 Z x0 sL sG sM sH sE sN h0 n0 _ T24.heap _
              rw [e24]
              exact ⟨by rw [F1, if_neg hc2, if_neg hc7, if_neg hc12, if_neg hc17, if_pos hc22], N0, rfl⟩
          · have st26 : Steps p.tables e below (s₁.setTop (entryFrame m #[(.int x0)] 1)) (s₁.setTop (mkF m 44 #[.val (.int x0)] [])) := st21.trans (by
                show Steps p.tables e below (s₁.setTop (mkF m 37 #[.val (.int x0)] [(.int (4 : Int32)), (.int x0)])) _
                refine XS.icmpYes X0.here hx rfl (pc0 := 37) (pc' := 44) rfl (hb hby d1_37) rfl (feq hc22).2 (by decide) (by decide) ?_
                exact Steps.refl _)
            obtain ⟨T27, X27, e27, sr27⟩ := getS2 X0 hx hZ hown (host := "") (Or.inl (hw _ (List.mem_of_getElem? (i := 66) rfl))) Via.refl e0 S_5 (g := (mkF m 44 #[.val (.int x0)] [])) rfl (hb hby d1_44)
            have st28 : Steps p.tables e below (s₁.setTop (entryFrame m #[(.int x0)] 1)) (T27.setTop (mkF m 47 #[.val (.int x0)] [(.ref sN)])) := st26.trans (sr27 _ (Steps.refl _))
            obtain ⟨fs, hr, hrun, hended, hW, hsame⟩ := X27.leave (v := some (.ref sN)) (fun h => by rw [Bd.returns] at h; cases h)
            refine ⟨_, _, st28.trans ?_, hrun, hended, _, _, rfl, ?_, ⟨_, rfl⟩, hW, hsame.mono (by decide) (by decide)⟩
            · exact retOut X27 hx (t := (.object "com/example/treeline/treeline/simple/Relation")) Bd.returns rfl (Or.inr (Or.inr (Or.inr (Or.inr ⟨rfl, rfl, rfl⟩)))) (hb hby d1_47) hr
            · show Q1 Z x0 sL sG sM sH sE sN h0 n0 _ T27.heap _
              rw [e27]
              exact ⟨by rw [F1, if_neg hc2, if_neg hc7, if_neg hc12, if_neg hc17, if_neg hc22], N0, rfl⟩
theorem d2_0 : decode prog_64_method_4_code 0 = .ok (.aload_n 0, 1) := by decide +kernel
theorem d2_1 : decode prog_64_method_4_code 1 = .ok (.getfield 41, 3) := by decide +kernel
theorem d2_4 : decode prog_64_method_4_code 4 = .ok (.areturn, 1) := by decide +kernel
theorem pn_1 : plainName "com/example/treeline/treeline/simple/Relation" = true := by first | (simp [plainName, overriddenIn]; done) | decide +kernel
theorem ef_2 (m : MethodId) (x0 : Addr)  : entryFrame m #[(.ref x0)] 1 = mkF m 0 #[.val (.ref x0)] [] := by first | (simp [entryFrame, mkF, argsToLocals, Value.category]; done) | rfl
def Q2 (Z : State) (x0 : Addr) (b : Addr) (h0 : Heap) (n0 : Nat) (vE : Option Value) (hE : Heap) (LE : List Loc) : Prop := vE = some (.ref b) ∧ Fr n0 LE ∧ hE = h0
set_option maxRecDepth 65536 in
set_option maxHeartbeats 40000000 in
theorem rm2 (l : Launch) (Z : State) (a0 : Array Value) (hw : ∀ d ∈ tables_1, d.before a0 Z = true) (ws : List Jvm.Cond) (x0 : Addr) (b : Addr) (h0 : Heap) (n0 : Nat) (Z0 : n0 ≤ h0.size) (F_s : Fld Z h0 x0 "com/example/treeline/treeline/simple/Relation" "symbol" "Ljava/lang/String;" (.ref b)) :
    MetFree l (⟨"com/example/treeline/treeline/simple/Relation", "symbol", "()Ljava/lang/String;"⟩ : MethodName) (head1 (Jvm.Cond.code (⟨"com/example/treeline/treeline/simple/Relation", "symbol", "()Ljava/lang/String;"⟩ : MethodName) prog_64_method_4_code 1 (some (.object "java/lang/String")) :: ws) ({ frames := 0, cells := 0, slots := 0, locals := 0 } : Room)) (fun a U => a = #[(.ref x0)] ∧ Z.Warmed39 U.vm ∧ U.heap = h0) (fun _ _ _ _ _ => True) (fun _ U o U' => ∃ vE LE, o = .returned vE ∧ Q2 Z x0 b h0 n0 vE U'.heap LE ∧ FrameEnd U o U' LE ({ frames := 0, cells := 0, slots := 0, locals := 0 } : Room).cells ({ frames := 0, cells := 0, slots := 0, locals := 0 } : Room).slots) := by
  refine MetFree.of_bodySF (plainFor_of_name pn_1) hisR ?_
  intro p e s m args below meth c s₁ Bd hml0 hP hK
  obtain ⟨rfl, hZ, hh⟩ := hP
  have hx := Bd.exec
  have hby := Bd.bytes
  have hml : c.maxLocals = 1 := hml0
  have hown : s.vm.findClass "com/example/treeline/treeline/simple/Relation" = some m.cls := findClass_of_methodNamed Bd.named
  have hnm := (name_of_methodNamed Bd.named Bd.method).1
  have X0 : Stand p l e ({ frames := 0, cells := 0, slots := 0, locals := 0 } : Room) s m #[(.ref x0)] below meth c s₁ [] 0 0 := Stand.of_body Bd
  have e0 : s₁.heap = h0 := by rw [← hh, Bd.state]; rfl
  have N0 := Fr.nil n0
  have st0 : Steps p.tables e below (s₁.setTop (entryFrame m #[(.ref x0)] 1)) (s₁.setTop (mkF m 0 #[.val (.ref x0)] [])) := castTop (ef_2 m x0) (Steps.refl _)
  have st1 : Steps p.tables e below (s₁.setTop (entryFrame m #[(.ref x0)] 1)) (s₁.setTop (mkF m 1 #[.val (.ref x0)] [(.ref x0)])) := st0.trans (by
      show Steps p.tables e below (s₁.setTop (mkF m 0 #[.val (.ref x0)] [])) _
      refine XS.aloadN X0.here hx rfl (hb hby d2_0) rfl rfl ?_
      exact Steps.refl _)
  obtain ⟨T2, X2, e2, sr2⟩ := getF X0 hx hZ hown (host := "") (Or.inl (hw _ (List.mem_of_getElem? (i := 13) rfl))) Via.refl e0 F_s (g := (mkF m 1 #[.val (.ref x0)] [(.ref x0)])) rfl rfl (hb hby d2_1)
  have st3 : Steps p.tables e below (s₁.setTop (entryFrame m #[(.ref x0)] 1)) (T2.setTop (mkF m 4 #[.val (.ref x0)] [(.ref b)])) := st1.trans (sr2 _ (Steps.refl _))
  obtain ⟨fs, hr, hrun, hended, hW, hsame⟩ := X2.leave (v := some (.ref b)) (fun h => by rw [Bd.returns] at h; cases h)
  refine ⟨_, _, st3.trans ?_, hrun, hended, _, _, rfl, ?_, ⟨_, rfl⟩, hW, hsame.mono (by decide) (by decide)⟩
  · exact retOut X2 hx (t := (.object "java/lang/String")) Bd.returns rfl (Or.inr (Or.inr (Or.inr (Or.inr ⟨rfl, rfl, rfl⟩)))) (hb hby d2_4) hr
  · show Q2 Z x0 b h0 n0 _ T2.heap _
    rw [e2]
    exact ⟨rfl, N0, rfl⟩
theorem d10_0 : decode prog_64_method_5_code 0 = .ok (.aload_n 0, 1) := by decide +kernel
theorem d10_1 : decode prog_64_method_5_code 1 = .ok (.getstatic 7, 3) := by decide +kernel
theorem d10_4 : decode prog_64_method_5_code 4 = .ok (.if_acmp .eq 10, 3) := by decide +kernel
theorem d10_7 : decode prog_64_method_5_code 7 = .ok (.aload_n 0, 1) := by decide +kernel
theorem d10_8 : decode prog_64_method_5_code 8 = .ok (.getstatic 13, 3) := by decide +kernel
theorem d10_11 : decode prog_64_method_5_code 11 = .ok (.if_acmp .ne 7, 3) := by decide +kernel
theorem d10_14 : decode prog_64_method_5_code 14 = .ok (.iconst 1, 1) := by decide +kernel
theorem d10_15 : decode prog_64_method_5_code 15 = .ok (.goto 4, 3) := by decide +kernel
theorem d10_18 : decode prog_64_method_5_code 18 = .ok (.iconst 0, 1) := by decide +kernel
theorem d10_19 : decode prog_64_method_5_code 19 = .ok (.ireturn, 1) := by decide +kernel
theorem ef_10 (m : MethodId) (x0 : Addr)  : entryFrame m #[(.ref x0)] 1 = mkF m 0 #[.val (.ref x0)] [] := by first | (simp [entryFrame, mkF, argsToLocals, Value.category]; done) | rfl
def F10 (x0 : Addr) (sG : Addr) (sH : Addr) : Int32 := if x0 = sG then (1 : Int32) else (if x0 = sH then (1 : Int32) else (0 : Int32))
def Q10 (Z : State) (x0 : Addr) (sG : Addr) (sH : Addr) (h0 : Heap) (n0 : Nat) (vE : Option Value) (hE : Heap) (LE : List Loc) : Prop := vE = some (.int (F10 x0 sG sH)) ∧ Fr n0 LE ∧ hE = h0
set_option maxRecDepth 65536 in
set_option maxHeartbeats 40000000 in
theorem rm10 (l : Launch) (Z : State) (a0 : Array Value) (hw : ∀ d ∈ tables_1, d.before a0 Z = true) (ws : List Jvm.Cond) (x0 : Addr) (sG : Addr) (sH : Addr) (h0 : Heap) (n0 : Nat) (Z0 : n0 ≤ h0.size) (S_1 : Sta Z h0 "com/example/treeline/treeline/simple/Relation" "GREATER" "Lcom/example/treeline/treeline/simple/Relation;" (.ref sG)) (S_3 : Sta Z h0 "com/example/treeline/treeline/simple/Relation" "GREATER_OR_EQUAL" "Lcom/example/treeline/treeline/simple/Relation;" (.ref sH)) :
    MetFree l (⟨"com/example/treeline/treeline/simple/Relation", "swapsSides", "()Z"⟩ : MethodName) (head1 (Jvm.Cond.code (⟨"com/example/treeline/treeline/simple/Relation", "swapsSides", "()Z"⟩ : MethodName) prog_64_method_5_code 1 (some .boolean) :: ws) ({ frames := 0, cells := 0, slots := 0, locals := 0 } : Room)) (fun a U => a = #[(.ref x0)] ∧ Z.Warmed39 U.vm ∧ U.heap = h0) (fun _ _ _ _ _ => True) (fun _ U o U' => ∃ vE LE, o = .returned vE ∧ Q10 Z x0 sG sH h0 n0 vE U'.heap LE ∧ FrameEnd U o U' LE ({ frames := 0, cells := 0, slots := 0, locals := 0 } : Room).cells ({ frames := 0, cells := 0, slots := 0, locals := 0 } : Room).slots) := by
  refine MetFree.of_bodySF (plainFor_of_name pn_1) hisR ?_
  intro p e s m args below meth c s₁ Bd hml0 hP hK
  obtain ⟨rfl, hZ, hh⟩ := hP
  have hx := Bd.exec
  have hby := Bd.bytes
  have hml : c.maxLocals = 1 := hml0
  have hown : s.vm.findClass "com/example/treeline/treeline/simple/Relation" = some m.cls := findClass_of_methodNamed Bd.named
  have hnm := (name_of_methodNamed Bd.named Bd.method).1
  have X0 : Stand p l e ({ frames := 0, cells := 0, slots := 0, locals := 0 } : Room) s m #[(.ref x0)] below meth c s₁ [] 0 0 := Stand.of_body Bd
  have e0 : s₁.heap = h0 := by rw [← hh, Bd.state]; rfl
  have N0 := Fr.nil n0
  have st0 : Steps p.tables e below (s₁.setTop (entryFrame m #[(.ref x0)] 1)) (s₁.setTop (mkF m 0 #[.val (.ref x0)] [])) := castTop (ef_10 m x0) (Steps.refl _)
  have st1 : Steps p.tables e below (s₁.setTop (entryFrame m #[(.ref x0)] 1)) (s₁.setTop (mkF m 1 #[.val (.ref x0)] [(.ref x0)])) := st0.trans (by
      show Steps p.tables e below (s₁.setTop (mkF m 0 #[.val (.ref x0)] [])) _
      refine XS.aloadN X0.here hx rfl (hb hby d10_0) rfl rfl ?_
      exact Steps.refl _)
  obtain ⟨T2, X2, e2, sr2⟩ := getS2 X0 hx hZ hown (host := "") (Or.inl (hw _ (List.mem_of_getElem? (i := 58) rfl))) Via.refl e0 S_1 (g := (mkF m 1 #[.val (.ref x0)] [(.ref x0)])) rfl (hb hby d10_1)
  have st3 : Steps p.tables e below (s₁.setTop (entryFrame m #[(.ref x0)] 1)) (T2.setTop (mkF m 4 #[.val (.ref x0)] [(.ref sG), (.ref x0)])) := st1.trans (sr2 _ (Steps.refl _))
  by_cases hc4 : x0 = sG
  · have st5 : Steps p.tables e below (s₁.setTop (entryFrame m #[(.ref x0)] 1)) (T2.setTop (mkF m 19 #[.val (.ref x0)] [(.int (1 : Int32))])) := st3.trans (by
        show Steps p.tables e below (T2.setTop (mkF m 4 #[.val (.ref x0)] [(.ref sG), (.ref x0)])) _
        refine Jvm.RoadKit.acmp (g := (mkF m 4 #[.val (.ref x0)] [(.ref sG), (.ref x0)])) X2 hx rfl rfl rfl (pc0 := 4) (pc' := 14) (same := true) rfl (hb hby d10_4) rfl (decide_eq_true (congrArg Value.ref hc4)) (by decide) (by decide) ?_
        show Steps p.tables e below (T2.setTop (mkF m 14 #[.val (.ref x0)] [])) _
        refine XS.iconst X2.here hx rfl (hb hby d10_14) ?_
        show Steps p.tables e below (T2.setTop (mkF m 15 #[.val (.ref x0)] [(.int (1 : Int32))])) _
        refine XS.goto X2.here hx rfl (pc0 := 15) (pc' := 19) rfl (hb hby d10_15) (by decide) (by decide) ?_
        exact Steps.refl _)
    obtain ⟨fs, hr, hrun, hended, hW, hsame⟩ := X2.leave (v := some (.int (1 : Int32))) (fun h => by rw [Bd.returns] at h; cases h)
    refine ⟨_, _, st5.trans ?_, hrun, hended, _, _, rfl, ?_, ⟨_, rfl⟩, hW, hsame.mono (by decide) (by decide)⟩
    · exact retN X2 hx (t := .boolean) Bd.returns (by simp) (hb hby d10_19) hr
    · show Q10 Z x0 sG sH h0 n0 _ T2.heap _
      rw [e2]
      exact ⟨by rw [F10, if_pos hc4], N0, rfl⟩
  · have st6 : Steps p.tables e below (s₁.setTop (entryFrame m #[(.ref x0)] 1)) (T2.setTop (mkF m 8 #[.val (.ref x0)] [(.ref x0)])) := st3.trans (by
        show Steps p.tables e below (T2.setTop (mkF m 4 #[.val (.ref x0)] [(.ref sG), (.ref x0)])) _
        refine Jvm.RoadKit.acmp (g := (mkF m 4 #[.val (.ref x0)] [(.ref sG), (.ref x0)])) X2 hx rfl rfl rfl (pc0 := 4) (pc' := 7) (same := false) rfl (hb hby d10_4) rfl (decide_eq_false fun q => hc4 (Value.ref.inj q)) (by decide) (by decide) ?_
        show Steps p.tables e below (T2.setTop (mkF m 7 #[.val (.ref x0)] [])) _
        refine XS.aloadN X2.here hx rfl (hb hby d10_7) rfl rfl ?_
        exact Steps.refl _)
    obtain ⟨T7, X7, e7, sr7⟩ := getS2 X2 hx hZ hown (host := "") (Or.inl (hw _ (List.mem_of_getElem? (i := 60) rfl))) Via.refl e2 S_3 (g := (mkF m 8 #[.val (.ref x0)] [(.ref x0)])) rfl (hb hby d10_8)
    have st8 : Steps p.tables e below (s₁.setTop (entryFrame m #[(.ref x0)] 1)) (T7.setTop (mkF m 11 #[.val (.ref x0)] [(.ref sH), (.ref x0)])) := st6.trans (sr7 _ (Steps.refl _))
    by_cases hc9 : x0 = sH
    · have st10 : Steps p.tables e below (s₁.setTop (entryFrame m #[(.ref x0)] 1)) (T7.setTop (mkF m 19 #[.val (.ref x0)] [(.int (1 : Int32))])) := st8.trans (by
          show Steps p.tables e below (T7.setTop (mkF m 11 #[.val (.ref x0)] [(.ref sH), (.ref x0)])) _
          refine Jvm.RoadKit.acmp (g := (mkF m 11 #[.val (.ref x0)] [(.ref sH), (.ref x0)])) X7 hx rfl rfl rfl (pc0 := 11) (pc' := 14) (same := true) rfl (hb hby d10_11) rfl (decide_eq_true (congrArg Value.ref hc9)) (by decide) (by decide) ?_
          show Steps p.tables e below (T7.setTop (mkF m 14 #[.val (.ref x0)] [])) _
          refine XS.iconst X7.here hx rfl (hb hby d10_14) ?_
          show Steps p.tables e below (T7.setTop (mkF m 15 #[.val (.ref x0)] [(.int (1 : Int32))])) _
          refine XS.goto X7.here hx rfl (pc0 := 15) (pc' := 19) rfl (hb hby d10_15) (by decide) (by decide) ?_
          exact Steps.refl _)
      obtain ⟨fs, hr, hrun, hended, hW, hsame⟩ := X7.leave (v := some (.int (1 : Int32))) (fun h => by rw [Bd.returns] at h; cases h)
      refine ⟨_, _, st10.trans ?_, hrun, hended, _, _, rfl, ?_, ⟨_, rfl⟩, hW, hsame.mono (by decide) (by decide)⟩
      · exact retN X7 hx (t := .boolean) Bd.returns (by simp) (hb hby d10_19) hr
      · show Q10 Z x0 sG sH h0 n0 _ T7.heap _
        rw [e7]
        exact ⟨by rw [F10, if_neg hc4, if_pos hc9], N0, rfl⟩
    · have st11 : Steps p.tables e below (s₁.setTop (entryFrame m #[(.ref x0)] 1)) (T7.setTop (mkF m 19 #[.val (.ref x0)] [(.int (0 : Int32))])) := st8.trans (by
          show Steps p.tables e below (T7.setTop (mkF m 11 #[.val (.ref x0)] [(.ref sH), (.ref x0)])) _
          refine Jvm.RoadKit.acmp (g := (mkF m 11 #[.val (.ref x0)] [(.ref sH), (.ref x0)])) X7 hx rfl rfl rfl (pc0 := 11) (pc' := 18) (same := false) rfl (hb hby d10_11) rfl (decide_eq_false fun q => hc9 (Value.ref.inj q)) (by decide) (by decide) ?_
          show Steps p.tables e below (T7.setTop (mkF m 18 #[.val (.ref x0)] [])) _
          refine XS.iconst X7.here hx rfl (hb hby d10_18) ?_
          exact Steps.refl _)
      obtain ⟨fs, hr, hrun, hended, hW, hsame⟩ := X7.leave (v := some (.int (0 : Int32))) (fun h => by rw [Bd.returns] at h; cases h)
      refine ⟨_, _, st11.trans ?_, hrun, hended, _, _, rfl, ?_, ⟨_, rfl⟩, hW, hsame.mono (by decide) (by decide)⟩
      · exact retN X7 hx (t := .boolean) Bd.returns (by simp) (hb hby d10_19) hr
      · show Q10 Z x0 sG sH h0 n0 _ T7.heap _
        rw [e7]
        exact ⟨by rw [F10, if_neg hc4, if_neg hc9], N0, rfl⟩
theorem d4_0 : decode jdk_42_method_152_code 0 = .ok (.getstatic 38, 3) := by decide +kernel
theorem d4_3 : decode jdk_42_method_152_code 3 = .ok (.ifCond .eq 10, 3) := by decide +kernel
theorem d4_6 : decode jdk_42_method_152_code 6 = .ok (.aload_n 0, 1) := by decide +kernel
theorem d4_7 : decode jdk_42_method_152_code 7 = .ok (.getfield 15, 3) := by decide +kernel
theorem d4_10 : decode jdk_42_method_152_code 10 = .ok (.goto 4, 3) := by decide +kernel
theorem d4_14 : decode jdk_42_method_152_code 14 = .ok (.ireturn, 1) := by decide +kernel
theorem pn_2 : plainName "java/lang/String" = true := by first | (simp [plainName, overriddenIn]; done) | decide +kernel
theorem ef_4 (m : MethodId) (x0 : Addr)  : entryFrame m #[(.ref x0)] 1 = mkF m 0 #[.val (.ref x0)] [] := by first | (simp [entryFrame, mkF, argsToLocals, Value.category]; done) | rfl
def Q4 (Z : State) (x0 : Addr) (cs : Int32) (h0 : Heap) (n0 : Nat) (vE : Option Value) (hE : Heap) (LE : List Loc) : Prop := vE = some (.int (nar .byte (0 : Int32))) ∧ Fr n0 LE ∧ hE = h0
set_option maxRecDepth 65536 in
set_option maxHeartbeats 40000000 in
theorem rm4 (l : Launch) (Z : State) (a0 : Array Value) (hw : ∀ d ∈ tables_1, d.before a0 Z = true) (ws : List Jvm.Cond) (x0 : Addr) (cs : Int32) (h0 : Heap) (n0 : Nat) (Z0 : n0 ≤ h0.size) (S_c : Sta Z h0 "java/lang/String" "COMPACT_STRINGS" "Z" (.int cs)) (hcs : ¬ cs = (0 : Int32)) (F_c : Fld Z h0 x0 "java/lang/String" "coder" "B" (.int (0 : Int32))) :
    MetFree l (⟨"java/lang/String", "coder", "()B"⟩ : MethodName) (head1 (Jvm.Cond.code (⟨"java/lang/String", "coder", "()B"⟩ : MethodName) jdk_42_method_152_code 1 (some .byte) :: ws) ({ frames := 0, cells := 0, slots := 0, locals := 0 } : Room)) (fun a U => a = #[(.ref x0)] ∧ Z.Warmed39 U.vm ∧ U.heap = h0) (fun _ _ _ _ _ => True) (fun _ U o U' => ∃ vE LE, o = .returned vE ∧ Q4 Z x0 cs h0 n0 vE U'.heap LE ∧ FrameEnd U o U' LE ({ frames := 0, cells := 0, slots := 0, locals := 0 } : Room).cells ({ frames := 0, cells := 0, slots := 0, locals := 0 } : Room).slots) := by
  refine MetFree.of_bodySF (plainFor_of_name pn_2) hisR ?_
  intro p e s m args below meth c s₁ Bd hml0 hP hK
  obtain ⟨rfl, hZ, hh⟩ := hP
  have hx := Bd.exec
  have hby := Bd.bytes
  have hml : c.maxLocals = 1 := hml0
  have hown : s.vm.findClass "java/lang/String" = some m.cls := findClass_of_methodNamed Bd.named
  have hnm := (name_of_methodNamed Bd.named Bd.method).1
  have X0 : Stand p l e ({ frames := 0, cells := 0, slots := 0, locals := 0 } : Room) s m #[(.ref x0)] below meth c s₁ [] 0 0 := Stand.of_body Bd
  have e0 : s₁.heap = h0 := by rw [← hh, Bd.state]; rfl
  have N0 := Fr.nil n0
  have st0 : Steps p.tables e below (s₁.setTop (entryFrame m #[(.ref x0)] 1)) (s₁.setTop (mkF m 0 #[.val (.ref x0)] [])) := castTop (ef_4 m x0) (Steps.refl _)
  obtain ⟨T1, X1, e1, sr1⟩ := getS2 X0 hx hZ hown (host := "") (Or.inl (hw _ (List.mem_of_getElem? (i := 28) rfl))) Via.refl e0 S_c (g := (mkF m 0 #[.val (.ref x0)] [])) rfl (hb hby d4_0)
  have st2 : Steps p.tables e below (s₁.setTop (entryFrame m #[(.ref x0)] 1)) (T1.setTop (mkF m 3 #[.val (.ref x0)] [(.int cs)])) := st0.trans (sr1 _ (Steps.refl _))
  have hf3 : ¬ (cs = (0 : Int32)) := hcs
  have st4 : Steps p.tables e below (s₁.setTop (entryFrame m #[(.ref x0)] 1)) (T1.setTop (mkF m 7 #[.val (.ref x0)] [(.ref x0)])) := st2.trans (by
      show Steps p.tables e below (T1.setTop (mkF m 3 #[.val (.ref x0)] [(.int cs)])) _
      refine XS.ifNo X1.here hx rfl (hb hby d4_3) rfl ((if0 _ _).trans (feq hf3).1) ?_
      show Steps p.tables e below (T1.setTop (mkF m 6 #[.val (.ref x0)] [])) _
      refine XS.aloadN X1.here hx rfl (hb hby d4_6) rfl rfl ?_
      exact Steps.refl _)
  obtain ⟨T5, X5, e5, sr5⟩ := getF X1 hx hZ hown (host := "") (Or.inl (hw _ (List.mem_of_getElem? (i := 29) rfl))) Via.refl e1 F_c (g := (mkF m 7 #[.val (.ref x0)] [(.ref x0)])) rfl rfl (hb hby d4_7)
  have st6 : Steps p.tables e below (s₁.setTop (entryFrame m #[(.ref x0)] 1)) (T5.setTop (mkF m 10 #[.val (.ref x0)] [(.int (0 : Int32))])) := st4.trans (sr5 _ (Steps.refl _))
  have st7 : Steps p.tables e below (s₁.setTop (entryFrame m #[(.ref x0)] 1)) (T5.setTop (mkF m 14 #[.val (.ref x0)] [(.int (0 : Int32))])) := st6.trans (by
      show Steps p.tables e below (T5.setTop (mkF m 10 #[.val (.ref x0)] [(.int (0 : Int32))])) _
      refine XS.goto X5.here hx rfl (pc0 := 10) (pc' := 14) rfl (hb hby d4_10) (by decide) (by decide) ?_
      exact Steps.refl _)
  obtain ⟨fs, hr, hrun, hended, hW, hsame⟩ := X5.leave (v := some (.int (0 : Int32))) (fun h => by rw [Bd.returns] at h; cases h)
  refine ⟨_, _, st7.trans ?_, hrun, hended, _, _, rfl, ?_, ⟨_, rfl⟩, hW, hsame.mono (by decide) (by decide)⟩
  · exact retN X5 hx (t := .byte) Bd.returns (by simp) (hb hby d4_14) hr
  · show Q4 Z x0 cs h0 n0 _ T5.heap _
    rw [e5]
    exact ⟨rfl, N0, rfl⟩
theorem d6_0 : decode jdk_42_method_154_code 0 = .ok (.getstatic 38, 3) := by decide +kernel
theorem d6_3 : decode jdk_42_method_154_code 3 = .ok (.ifCond .eq 14, 3) := by decide +kernel
theorem d6_6 : decode jdk_42_method_154_code 6 = .ok (.aload_n 0, 1) := by decide +kernel
theorem d6_7 : decode jdk_42_method_154_code 7 = .ok (.getfield 15, 3) := by decide +kernel
theorem d6_10 : decode jdk_42_method_154_code 10 = .ok (.ifCond .ne 7, 3) := by decide +kernel
theorem d6_13 : decode jdk_42_method_154_code 13 = .ok (.iconst 1, 1) := by decide +kernel
theorem d6_14 : decode jdk_42_method_154_code 14 = .ok (.goto 4, 3) := by decide +kernel
theorem d6_18 : decode jdk_42_method_154_code 18 = .ok (.ireturn, 1) := by decide +kernel
theorem ef_6 (m : MethodId) (x0 : Addr)  : entryFrame m #[(.ref x0)] 1 = mkF m 0 #[.val (.ref x0)] [] := by first | (simp [entryFrame, mkF, argsToLocals, Value.category]; done) | rfl
def Q6 (Z : State) (x0 : Addr) (cs : Int32) (h0 : Heap) (n0 : Nat) (vE : Option Value) (hE : Heap) (LE : List Loc) : Prop := vE = some (.int (1 : Int32)) ∧ Fr n0 LE ∧ hE = h0
set_option maxRecDepth 65536 in
set_option maxHeartbeats 40000000 in
theorem rm6 (l : Launch) (Z : State) (a0 : Array Value) (hw : ∀ d ∈ tables_1, d.before a0 Z = true) (ws : List Jvm.Cond) (x0 : Addr) (cs : Int32) (h0 : Heap) (n0 : Nat) (Z0 : n0 ≤ h0.size) (S_c : Sta Z h0 "java/lang/String" "COMPACT_STRINGS" "Z" (.int cs)) (hcs : ¬ cs = (0 : Int32)) (F_c : Fld Z h0 x0 "java/lang/String" "coder" "B" (.int (0 : Int32))) :
    MetFree l (⟨"java/lang/String", "isLatin1", "()Z"⟩ : MethodName) (head1 (Jvm.Cond.code (⟨"java/lang/String", "isLatin1", "()Z"⟩ : MethodName) jdk_42_method_154_code 1 (some .boolean) :: ws) ({ frames := 0, cells := 0, slots := 0, locals := 0 } : Room)) (fun a U => a = #[(.ref x0)] ∧ Z.Warmed39 U.vm ∧ U.heap = h0) (fun _ _ _ _ _ => True) (fun _ U o U' => ∃ vE LE, o = .returned vE ∧ Q6 Z x0 cs h0 n0 vE U'.heap LE ∧ FrameEnd U o U' LE ({ frames := 0, cells := 0, slots := 0, locals := 0 } : Room).cells ({ frames := 0, cells := 0, slots := 0, locals := 0 } : Room).slots) := by
  refine MetFree.of_bodySF (plainFor_of_name pn_2) hisR ?_
  intro p e s m args below meth c s₁ Bd hml0 hP hK
  obtain ⟨rfl, hZ, hh⟩ := hP
  have hx := Bd.exec
  have hby := Bd.bytes
  have hml : c.maxLocals = 1 := hml0
  have hown : s.vm.findClass "java/lang/String" = some m.cls := findClass_of_methodNamed Bd.named
  have hnm := (name_of_methodNamed Bd.named Bd.method).1
  have X0 : Stand p l e ({ frames := 0, cells := 0, slots := 0, locals := 0 } : Room) s m #[(.ref x0)] below meth c s₁ [] 0 0 := Stand.of_body Bd
  have e0 : s₁.heap = h0 := by rw [← hh, Bd.state]; rfl
  have N0 := Fr.nil n0
  have st0 : Steps p.tables e below (s₁.setTop (entryFrame m #[(.ref x0)] 1)) (s₁.setTop (mkF m 0 #[.val (.ref x0)] [])) := castTop (ef_6 m x0) (Steps.refl _)
  obtain ⟨T1, X1, e1, sr1⟩ := getS2 X0 hx hZ hown (host := "") (Or.inl (hw _ (List.mem_of_getElem? (i := 28) rfl))) Via.refl e0 S_c (g := (mkF m 0 #[.val (.ref x0)] [])) rfl (hb hby d6_0)
  have st2 : Steps p.tables e below (s₁.setTop (entryFrame m #[(.ref x0)] 1)) (T1.setTop (mkF m 3 #[.val (.ref x0)] [(.int cs)])) := st0.trans (sr1 _ (Steps.refl _))
  have hf3 : ¬ (cs = (0 : Int32)) := hcs
  have st4 : Steps p.tables e below (s₁.setTop (entryFrame m #[(.ref x0)] 1)) (T1.setTop (mkF m 7 #[.val (.ref x0)] [(.ref x0)])) := st2.trans (by
      show Steps p.tables e below (T1.setTop (mkF m 3 #[.val (.ref x0)] [(.int cs)])) _
      refine XS.ifNo X1.here hx rfl (hb hby d6_3) rfl ((if0 _ _).trans (feq hf3).1) ?_
      show Steps p.tables e below (T1.setTop (mkF m 6 #[.val (.ref x0)] [])) _
      refine XS.aloadN X1.here hx rfl (hb hby d6_6) rfl rfl ?_
      exact Steps.refl _)
  obtain ⟨T5, X5, e5, sr5⟩ := getF X1 hx hZ hown (host := "") (Or.inl (hw _ (List.mem_of_getElem? (i := 29) rfl))) Via.refl e1 F_c (g := (mkF m 7 #[.val (.ref x0)] [(.ref x0)])) rfl rfl (hb hby d6_7)
  have st6 : Steps p.tables e below (s₁.setTop (entryFrame m #[(.ref x0)] 1)) (T5.setTop (mkF m 10 #[.val (.ref x0)] [(.int (0 : Int32))])) := st4.trans (sr5 _ (Steps.refl _))
  have hf7 : (0 : Int32) = (0 : Int32) := by decide
  have st8 : Steps p.tables e below (s₁.setTop (entryFrame m #[(.ref x0)] 1)) (T5.setTop (mkF m 18 #[.val (.ref x0)] [(.int (1 : Int32))])) := st6.trans (by
      show Steps p.tables e below (T5.setTop (mkF m 10 #[.val (.ref x0)] [(.int (0 : Int32))])) _
      refine XS.ifNo X5.here hx rfl (hb hby d6_10) rfl ((if0 _ _).trans (teq hf7).2) ?_
      show Steps p.tables e below (T5.setTop (mkF m 13 #[.val (.ref x0)] [])) _
      refine XS.iconst X5.here hx rfl (hb hby d6_13) ?_
      show Steps p.tables e below (T5.setTop (mkF m 14 #[.val (.ref x0)] [(.int (1 : Int32))])) _
      refine XS.goto X5.here hx rfl (pc0 := 14) (pc' := 18) rfl (hb hby d6_14) (by decide) (by decide) ?_
      exact Steps.refl _)
  obtain ⟨fs, hr, hrun, hended, hW, hsame⟩ := X5.leave (v := some (.int (1 : Int32))) (fun h => by rw [Bd.returns] at h; cases h)
  refine ⟨_, _, st8.trans ?_, hrun, hended, _, _, rfl, ?_, ⟨_, rfl⟩, hW, hsame.mono (by decide) (by decide)⟩
  · exact retN X5 hx (t := .boolean) Bd.returns (by simp) (hb hby d6_18) hr
  · show Q6 Z x0 cs h0 n0 _ T5.heap _
    rw [e5]
    exact ⟨rfl, N0, rfl⟩
theorem pd_0 : parseMethodDescriptor "()B" = some ⟨[], some .byte⟩ := by decide +kernel
theorem d3_0 : decode jdk_42_method_54_code 0 = .ok (.aload_n 0, 1) := by decide +kernel
theorem d3_1 : decode jdk_42_method_54_code 1 = .ok (.getfield 9, 3) := by decide +kernel
theorem d3_4 : decode jdk_42_method_54_code 4 = .ok (.arraylength, 1) := by decide +kernel
theorem d3_5 : decode jdk_42_method_54_code 5 = .ok (.aload_n 0, 1) := by decide +kernel
theorem d3_6 : decode jdk_42_method_54_code 6 = .ok (.invokevirtual 335, 3) := by decide +kernel
theorem d3_9 : decode jdk_42_method_54_code 9 = .ok (.ishr, 1) := by decide +kernel
theorem d3_10 : decode jdk_42_method_54_code 10 = .ok (.ireturn, 1) := by decide +kernel
theorem ef_3 (m : MethodId) (x0 : Addr)  : entryFrame m #[(.ref x0)] 1 = mkF m 0 #[.val (.ref x0)] [] := by first | (simp [entryFrame, mkF, argsToLocals, Value.category]; done) | rfl
def F3 (n : Int32) : Int32 := (n >>> ((nar .byte (0 : Int32)) &&& 31))
def Q3 (Z : State) (x0 : Addr) (cs : Int32) (b : Addr) (ka : ClassId) (n : Int32) (L : List Int32) (h0 : Heap) (n0 : Nat) (vE : Option Value) (hE : Heap) (LE : List Loc) : Prop := vE = some (.int (F3 n)) ∧ Fr n0 LE ∧ hE = h0
set_option maxRecDepth 65536 in
set_option maxHeartbeats 40000000 in
theorem rm3 (l : Launch) (Z : State) (a0 : Array Value) (hw : ∀ d ∈ tables_1, d.before a0 Z = true) (ws : List Jvm.Cond) (x0 : Addr) (cs : Int32) (b : Addr) (ka : ClassId) (n : Int32) (L : List Int32) (h0 : Heap) (n0 : Nat) (Z0 : n0 ≤ h0.size) (S_c : Sta Z h0 "java/lang/String" "COMPACT_STRINGS" "Z" (.int cs)) (hcs : ¬ cs = (0 : Int32)) (E_x : Exa Z h0 x0 "java/lang/String") (F_v : Fld Z h0 x0 "java/lang/String" "value" "[B" (.ref b)) (F_c : Fld Z h0 x0 "java/lang/String" "coder" "B" (.int (0 : Int32))) (A_b : Arv Z h0 b ka .byte n (List.map Value.int L) (.int (0 : Int32))) :
    MetFree l (⟨"java/lang/String", "length", "()I"⟩ : MethodName) (head1 (Jvm.Cond.code (⟨"java/lang/String", "length", "()I"⟩ : MethodName) jdk_42_method_54_code 1 (some .int) :: ws) ({ frames := 1, cells := 0, slots := 0, locals := 13 } : Room)) (fun a U => a = #[(.ref x0)] ∧ Z.Warmed39 U.vm ∧ U.heap = h0) (fun _ _ _ _ _ => True) (fun _ U o U' => ∃ vE LE, o = .returned vE ∧ Q3 Z x0 cs b ka n L h0 n0 vE U'.heap LE ∧ FrameEnd U o U' LE ({ frames := 1, cells := 0, slots := 0, locals := 13 } : Room).cells ({ frames := 1, cells := 0, slots := 0, locals := 13 } : Room).slots) := by
  refine MetFree.of_bodySF (plainFor_of_name pn_2) hisR ?_
  intro p e s m args below meth c s₁ Bd hml0 hP hK
  obtain ⟨rfl, hZ, hh⟩ := hP
  have hx := Bd.exec
  have hby := Bd.bytes
  have hml : c.maxLocals = 1 := hml0
  have hown : s.vm.findClass "java/lang/String" = some m.cls := findClass_of_methodNamed Bd.named
  have hnm := (name_of_methodNamed Bd.named Bd.method).1
  have X0 : Stand p l e ({ frames := 1, cells := 0, slots := 0, locals := 13 } : Room) s m #[(.ref x0)] below meth c s₁ [] 0 0 := Stand.of_body Bd
  have e0 : s₁.heap = h0 := by rw [← hh, Bd.state]; rfl
  have N0 := Fr.nil n0
  have st0 : Steps p.tables e below (s₁.setTop (entryFrame m #[(.ref x0)] 1)) (s₁.setTop (mkF m 0 #[.val (.ref x0)] [])) := castTop (ef_3 m x0) (Steps.refl _)
  have st1 : Steps p.tables e below (s₁.setTop (entryFrame m #[(.ref x0)] 1)) (s₁.setTop (mkF m 1 #[.val (.ref x0)] [(.ref x0)])) := st0.trans (by
      show Steps p.tables e below (s₁.setTop (mkF m 0 #[.val (.ref x0)] [])) _
      refine XS.aloadN X0.here hx rfl (hb hby d3_0) rfl rfl ?_
      exact Steps.refl _)
  obtain ⟨T2, X2, e2, sr2⟩ := getF X0 hx hZ hown (host := "") (Or.inl (hw _ (List.mem_of_getElem? (i := 21) rfl))) Via.refl e0 F_v (g := (mkF m 1 #[.val (.ref x0)] [(.ref x0)])) rfl rfl (hb hby d3_1)
  have st3 : Steps p.tables e below (s₁.setTop (entryFrame m #[(.ref x0)] 1)) (T2.setTop (mkF m 4 #[.val (.ref x0)] [(.ref b)])) := st1.trans (sr2 _ (Steps.refl _))
  obtain ⟨cl4, Ar4, -, S4, N4, -, -⟩ := id A_b
  have st5 : Steps p.tables e below (s₁.setTop (entryFrame m #[(.ref x0)] 1)) (T2.setTop (mkF m 6 #[.val (.ref x0)] [(.ref x0), (.int n)])) := st3.trans (by
      show Steps p.tables e below (T2.setTop (mkF m 4 #[.val (.ref x0)] [(.ref b)])) _
      refine X2.arraylength hx (by rw [e2]; exact Ar4.1) (State.isArrayOf_alike hZ.alike Ar4.2.1) (g := (mkF m 4 #[.val (.ref x0)] [(.ref b)])) rfl rfl (hb hby d3_4) _ ?_
      rw [len_of S4 N4]
      show Steps p.tables e below (T2.setTop (mkF m 5 #[.val (.ref x0)] [(.int n)])) _
      refine XS.aloadN X2.here hx rfl (hb hby d3_5) rfl rfl ?_
      exact Steps.refl _)
  obtain ⟨cq6, kq6, q6a, q6b, q6c⟩ := isOf hZ e2 E_x
  obtain ⟨_, _, ⟨T6, L6, k6, n6⟩, -, X6, ⟨Lc6, hQ6, l6, y6, z6⟩, sr6⟩ := X2.virtualBack hx (y := (⟨"java/lang/String", "coder", "()B"⟩ : MethodName)) (z := (⟨"java/lang/String", "coder", "()B"⟩ : MethodName)) hown (mvT hZ (hw _ (List.mem_of_getElem? (i := 23) rfl))) (mvT hZ (hw _ (List.mem_of_getElem? (i := 24) rfl))) (notFace_of_selects (args := #[]) (mvT hZ (hw _ (List.mem_of_getElem? (i := 26) rfl)))) (mvT hZ (hw _ (List.mem_of_getElem? (i := 26) rfl))) (mvT hZ (hw _ (List.mem_of_getElem? (i := 25) rfl))) (by decide) (backOf (W := 1) (rm4 l Z a0 hw [] x0 cs h0 n0 Z0 S_c hcs F_c) hZ (hw _ (List.mem_of_getElem? (i := 27) rfl)) (hw _ (List.mem_of_getElem? (i := 19) rfl)) (by decide) (by decide)) q6a q6c (g := (mkF m 6 #[.val (.ref x0)] [(.ref x0), (.int n)])) rfl (by rw [hml]; rfl) (Steps.refl _) (argsL := []) (rest := [(.int n)]) (lenOf pd_0 rfl) rfl (by show 2 * 0 + _ ≤ _; exact Nat.le_of_eq rfl) (hb hby d3_6) (fun _ _ => ⟨rfl, e2, (by decide : 0 + 0 ≤ _), (by decide : 0 + 0 ≤ _)⟩)
  dsimp only [Pt.U, Pt.locs, Pt.cells, Pt.slots] at X6 l6 y6 z6 sr6 hQ6
  subst l6 y6 z6
  obtain ⟨rfl, N6q, hh6⟩ := hQ6
  have N6 := Fr.app N0 N6q
  have st7 : Steps p.tables e below (s₁.setTop (entryFrame m #[(.ref x0)] 1)) (T6.setTop (mkF m 9 #[.val (.ref x0)] [(.int (nar .byte (0 : Int32))), (.int n)])) := st5.trans (sr6)
  have st8 : Steps p.tables e below (s₁.setTop (entryFrame m #[(.ref x0)] 1)) (T6.setTop (mkF m 10 #[.val (.ref x0)] [(.int (n >>> ((nar .byte (0 : Int32)) &&& 31)))])) := st7.trans (by
      show Steps p.tables e below (T6.setTop (mkF m 9 #[.val (.ref x0)] [(.int (nar .byte (0 : Int32))), (.int n)])) _
      refine XS.ishr X6.here hx rfl (hb hby d3_9) rfl ?_
      exact Steps.refl _)
  obtain ⟨fs, hr, hrun, hended, hW, hsame⟩ := X6.leave (v := some (.int (n >>> ((nar .byte (0 : Int32)) &&& 31)))) (fun h => by rw [Bd.returns] at h; cases h)
  refine ⟨_, _, st8.trans ?_, hrun, hended, _, _, rfl, ?_, ⟨_, rfl⟩, hW, hsame.mono (by decide) (by decide)⟩
  · exact retI X6 hx Bd.returns (hb hby d3_10) hr
  · show Q3 Z x0 cs b ka n L h0 n0 _ T6.heap _
    rw [hh6]
    exact ⟨by rw [F3], N6, rfl⟩
theorem d9_0 : decode jdk_41_method_11_code 0 = .ok (.iload_n 0, 1) := by decide +kernel
theorem d9_1 : decode jdk_41_method_11_code 1 = .ok (.ifCond .lt 8, 3) := by decide +kernel
theorem d9_4 : decode jdk_41_method_11_code 4 = .ok (.iload_n 0, 1) := by decide +kernel
theorem d9_5 : decode jdk_41_method_11_code 5 = .ok (.iload_n 1, 1) := by decide +kernel
theorem d9_6 : decode jdk_41_method_11_code 6 = .ok (.if_icmp .lt 10, 3) := by decide +kernel
theorem d9_16 : decode jdk_41_method_11_code 16 = .ok (.iload_n 0, 1) := by decide +kernel
theorem d9_17 : decode jdk_41_method_11_code 17 = .ok (.ireturn, 1) := by decide +kernel
theorem pn_3 : plainName "jdk/internal/util/Preconditions" = true := by first | (simp [plainName, overriddenIn]; done) | decide +kernel
theorem ef_9 (m : MethodId) (x0 : Int32) (x1 : Int32) (x2 : Value) (hvx2 : x2.category = 1) : entryFrame m #[(.int x0), (.int x1), x2] 3 = mkF m 0 #[.val (.int x0), .val (.int x1), .val x2] [] := by
  cases x2 <;> first | (simp [Value.category] at hvx2; done) | skip
  all_goals first | rfl | (simp [entryFrame, mkF, argsToLocals, Value.category]; done)
def Q9 (Z : State) (x0 : Int32) (x1 : Int32) (x2 : Value) (h0 : Heap) (n0 : Nat) (vE : Option Value) (hE : Heap) (LE : List Loc) : Prop := vE = some (.int x0) ∧ Fr n0 LE ∧ hE = h0
set_option maxRecDepth 65536 in
set_option maxHeartbeats 40000000 in
theorem rm9 (l : Launch) (Z : State) (a0 : Array Value) (hw : ∀ d ∈ tables_1, d.before a0 Z = true) (ws : List Jvm.Cond) (x0 : Int32) (x1 : Int32) (x2 : Value) (h0 : Heap) (n0 : Nat) (Z0 : n0 ≤ h0.size) (hr : x2.isRef = true) (hi : ¬ x0 < 0 ∧ x0 < x1) :
    MetFree l (⟨"jdk/internal/util/Preconditions", "checkIndex", "(IILjava/util/function/BiFunction;)I"⟩ : MethodName) (head1 (Jvm.Cond.code (⟨"jdk/internal/util/Preconditions", "checkIndex", "(IILjava/util/function/BiFunction;)I"⟩ : MethodName) jdk_41_method_11_code 3 (some .int) :: ws) ({ frames := 0, cells := 0, slots := 0, locals := 0 } : Room)) (fun a U => a = #[(.int x0), (.int x1), x2] ∧ Z.Warmed39 U.vm ∧ U.heap = h0) (fun _ _ _ _ _ => True) (fun _ U o U' => ∃ vE LE, o = .returned vE ∧ Q9 Z x0 x1 x2 h0 n0 vE U'.heap LE ∧ FrameEnd U o U' LE ({ frames := 0, cells := 0, slots := 0, locals := 0 } : Room).cells ({ frames := 0, cells := 0, slots := 0, locals := 0 } : Room).slots) := by
  refine MetFree.of_bodySF (plainFor_of_name pn_3) hisR ?_
  intro p e s m args below meth c s₁ Bd hml0 hP hK
  obtain ⟨rfl, hZ, hh⟩ := hP
  have hx := Bd.exec
  have hby := Bd.bytes
  have hml : c.maxLocals = 3 := hml0
  have hown : s.vm.findClass "jdk/internal/util/Preconditions" = some m.cls := findClass_of_methodNamed Bd.named
  have hnm := (name_of_methodNamed Bd.named Bd.method).1
  have X0 : Stand p l e ({ frames := 0, cells := 0, slots := 0, locals := 0 } : Room) s m #[(.int x0), (.int x1), x2] below meth c s₁ [] 0 0 := Stand.of_body Bd
  have e0 : s₁.heap = h0 := by rw [← hh, Bd.state]; rfl
  have N0 := Fr.nil n0
  have st0 : Steps p.tables e below (s₁.setTop (entryFrame m #[(.int x0), (.int x1), x2] 3)) (s₁.setTop (mkF m 0 #[.val (.int x0), .val (.int x1), .val x2] [])) := castTop (ef_9 m x0 x1 x2 (own_cat hr)) (Steps.refl _)
  have st1 : Steps p.tables e below (s₁.setTop (entryFrame m #[(.int x0), (.int x1), x2] 3)) (s₁.setTop (mkF m 1 #[.val (.int x0), .val (.int x1), .val x2] [(.int x0)])) := st0.trans (by
      show Steps p.tables e below (s₁.setTop (mkF m 0 #[.val (.int x0), .val (.int x1), .val x2] [])) _
      refine XS.iloadN X0.here hx rfl (hb hby d9_0) rfl ?_
      exact Steps.refl _)
  have hf2 : ¬ (x0 < (0 : Int32)) := hi.1
  have st3 : Steps p.tables e below (s₁.setTop (entryFrame m #[(.int x0), (.int x1), x2] 3)) (s₁.setTop (mkF m 6 #[.val (.int x0), .val (.int x1), .val x2] [(.int x1), (.int x0)])) := st1.trans (by
      show Steps p.tables e below (s₁.setTop (mkF m 1 #[.val (.int x0), .val (.int x1), .val x2] [(.int x0)])) _
      refine XS.ifNo X0.here hx rfl (hb hby d9_1) rfl ((if0 _ _).trans (flt hf2).1) ?_
      show Steps p.tables e below (s₁.setTop (mkF m 4 #[.val (.int x0), .val (.int x1), .val x2] [])) _
      refine XS.iloadN X0.here hx rfl (hb hby d9_4) rfl ?_
      show Steps p.tables e below (s₁.setTop (mkF m 5 #[.val (.int x0), .val (.int x1), .val x2] [(.int x0)])) _
      refine XS.iloadN X0.here hx rfl (hb hby d9_5) rfl ?_
      exact Steps.refl _)
  have hf4 : x0 < x1 := hi.2
  have st5 : Steps p.tables e below (s₁.setTop (entryFrame m #[(.int x0), (.int x1), x2] 3)) (s₁.setTop (mkF m 17 #[.val (.int x0), .val (.int x1), .val x2] [(.int x0)])) := st3.trans (by
      show Steps p.tables e below (s₁.setTop (mkF m 6 #[.val (.int x0), .val (.int x1), .val x2] [(.int x1), (.int x0)])) _
      refine XS.icmpYes X0.here hx rfl (pc0 := 6) (pc' := 16) rfl (hb hby d9_6) rfl (tlt hf4).1 (by decide) (by decide) ?_
      show Steps p.tables e below (s₁.setTop (mkF m 16 #[.val (.int x0), .val (.int x1), .val x2] [])) _
      refine XS.iloadN X0.here hx rfl (hb hby d9_16) rfl ?_
      exact Steps.refl _)
  obtain ⟨fs, hr, hrun, hended, hW, hsame⟩ := X0.leave (v := some (.int x0)) (fun h => by rw [Bd.returns] at h; cases h)
  refine ⟨_, _, st5.trans ?_, hrun, hended, _, _, rfl, ?_, ⟨_, rfl⟩, hW, hsame.mono (by decide) (by decide)⟩
  · exact retI X0 hx Bd.returns (hb hby d9_17) hr
  · show Q9 Z x0 x1 x2 h0 n0 _ s₁.heap _
    rw [e0]
    exact ⟨rfl, N0, rfl⟩
theorem pd_1 : parseMethodDescriptor "(IILjava/util/function/BiFunction;)I" = some ⟨[.int, .int, (.object "java/util/function/BiFunction")], some .int⟩ := by decide +kernel
theorem d8_0 : decode jdk_42_method_155_code 0 = .ok (.iload_n 0, 1) := by decide +kernel
theorem d8_1 : decode jdk_42_method_155_code 1 = .ok (.iload_n 1, 1) := by decide +kernel
theorem d8_2 : decode jdk_42_method_155_code 2 = .ok (.getstatic 1053, 3) := by decide +kernel
theorem d8_5 : decode jdk_42_method_155_code 5 = .ok (.invokestatic 1059, 3) := by decide +kernel
theorem d8_8 : decode jdk_42_method_155_code 8 = .ok (.pop, 1) := by decide +kernel
theorem d8_9 : decode jdk_42_method_155_code 9 = .ok (.return_, 1) := by decide +kernel
theorem ef_8 (m : MethodId) (x0 : Int32) (x1 : Int32)  : entryFrame m #[(.int x0), (.int x1)] 2 = mkF m 0 #[.val (.int x0), .val (.int x1)] [] := by first | (simp [entryFrame, mkF, argsToLocals, Value.category]; done) | rfl
def Q8 (Z : State) (x0 : Int32) (x1 : Int32) (sf : Value) (h0 : Heap) (n0 : Nat) (vE : Option Value) (hE : Heap) (LE : List Loc) : Prop := vE = none ∧ Fr n0 LE ∧ hE = h0
set_option maxRecDepth 65536 in
set_option maxHeartbeats 40000000 in
theorem rm8 (l : Launch) (Z : State) (a0 : Array Value) (hw : ∀ d ∈ tables_1, d.before a0 Z = true) (ws : List Jvm.Cond) (x0 : Int32) (x1 : Int32) (sf : Value) (h0 : Heap) (n0 : Nat) (Z0 : n0 ≤ h0.size) (S_f : Sta Z h0 "jdk/internal/util/Preconditions" "SIOOBE_FORMATTER" "Ljava/util/function/BiFunction;" sf) (hsf : sf.isRef = true) (hi : ¬ x0 < 0 ∧ x0 < x1) :
    MetFree l (⟨"java/lang/String", "checkIndex", "(II)V"⟩ : MethodName) (head1 (Jvm.Cond.code (⟨"java/lang/String", "checkIndex", "(II)V"⟩ : MethodName) jdk_42_method_155_code 2 none :: ws) ({ frames := 1, cells := 0, slots := 0, locals := 14 } : Room)) (fun a U => a = #[(.int x0), (.int x1)] ∧ Z.Warmed39 U.vm ∧ U.heap = h0) (fun _ _ _ _ _ => True) (fun _ U o U' => ∃ vE LE, o = .returned vE ∧ Q8 Z x0 x1 sf h0 n0 vE U'.heap LE ∧ FrameEnd U o U' LE ({ frames := 1, cells := 0, slots := 0, locals := 14 } : Room).cells ({ frames := 1, cells := 0, slots := 0, locals := 14 } : Room).slots) := by
  refine MetFree.of_bodySF (plainFor_of_name pn_2) hisR ?_
  intro p e s m args below meth c s₁ Bd hml0 hP hK
  obtain ⟨rfl, hZ, hh⟩ := hP
  have hx := Bd.exec
  have hby := Bd.bytes
  have hml : c.maxLocals = 2 := hml0
  have hown : s.vm.findClass "java/lang/String" = some m.cls := findClass_of_methodNamed Bd.named
  have hnm := (name_of_methodNamed Bd.named Bd.method).1
  have X0 : Stand p l e ({ frames := 1, cells := 0, slots := 0, locals := 14 } : Room) s m #[(.int x0), (.int x1)] below meth c s₁ [] 0 0 := Stand.of_body Bd
  have e0 : s₁.heap = h0 := by rw [← hh, Bd.state]; rfl
  have N0 := Fr.nil n0
  have st0 : Steps p.tables e below (s₁.setTop (entryFrame m #[(.int x0), (.int x1)] 2)) (s₁.setTop (mkF m 0 #[.val (.int x0), .val (.int x1)] [])) := castTop (ef_8 m x0 x1) (Steps.refl _)
  have st1 : Steps p.tables e below (s₁.setTop (entryFrame m #[(.int x0), (.int x1)] 2)) (s₁.setTop (mkF m 2 #[.val (.int x0), .val (.int x1)] [(.int x1), (.int x0)])) := st0.trans (by
      show Steps p.tables e below (s₁.setTop (mkF m 0 #[.val (.int x0), .val (.int x1)] [])) _
      refine XS.iloadN X0.here hx rfl (hb hby d8_0) rfl ?_
      show Steps p.tables e below (s₁.setTop (mkF m 1 #[.val (.int x0), .val (.int x1)] [(.int x0)])) _
      refine XS.iloadN X0.here hx rfl (hb hby d8_1) rfl ?_
      exact Steps.refl _)
  obtain ⟨T2, X2, e2, sr2⟩ := getS2 X0 hx hZ hown (host := "") (Or.inl (hw _ (List.mem_of_getElem? (i := 48) rfl))) Via.refl e0 S_f (g := (mkF m 2 #[.val (.int x0), .val (.int x1)] [(.int x1), (.int x0)])) rfl (hb hby d8_2)
  have st3 : Steps p.tables e below (s₁.setTop (entryFrame m #[(.int x0), (.int x1)] 2)) (T2.setTop (mkF m 5 #[.val (.int x0), .val (.int x1)] [sf, (.int x1), (.int x0)])) := st1.trans (sr2 _ (Steps.refl _))
  obtain ⟨_, _, ⟨T4, L4, k4, n4⟩, -, X4, ⟨Lc4, hQ4, l4, y4, z4⟩, sr4⟩ := Jvm.LawKit.callS X2 hx (y := (⟨"jdk/internal/util/Preconditions", "checkIndex", "(IILjava/util/function/BiFunction;)I"⟩ : MethodName)) hown (mvT hZ (hw _ (List.mem_of_getElem? (i := 50) rfl))) (mvT hZ (hw _ (List.mem_of_getElem? (i := 51) rfl))) (mvT hZ (hw _ (List.mem_of_getElem? (i := 49) rfl))) (mvT hZ (hw _ (List.mem_of_getElem? (i := 52) rfl))) (by decide) (backOf (W := 0) (rm9 l Z a0 hw [] x0 x1 sf  h0 n0 Z0 hsf hi) hZ (hw _ (List.mem_of_getElem? (i := 52) rfl)) (hw _ (List.mem_of_getElem? (i := 49) rfl)) (by decide) (by decide)) (g := (mkF m 5 #[.val (.int x0), .val (.int x1)] [sf, (.int x1), (.int x0)])) rfl (by rw [hml]; rfl) (argsL := [(.int x0), (.int x1), sf]) (rest := []) (lenOf pd_1 rfl) rfl (by show 2 * 0 + _ ≤ _; exact Nat.le_of_eq rfl) (hb hby d8_5) (fun _ _ => ⟨rfl, e2, (by decide : 0 + 0 ≤ _), (by decide : 0 + 0 ≤ _)⟩)
  dsimp only [Pt.U, Pt.locs, Pt.cells, Pt.slots] at X4 l4 y4 z4 sr4 hQ4
  subst l4 y4 z4
  obtain ⟨rfl, N4q, hh4⟩ := hQ4
  have N4 := Fr.app N0 N4q
  have st5 : Steps p.tables e below (s₁.setTop (entryFrame m #[(.int x0), (.int x1)] 2)) (T4.setTop (mkF m 8 #[.val (.int x0), .val (.int x1)] [(.int x0)])) := st3.trans (sr4 _ (Steps.refl _))
  have st6 : Steps p.tables e below (s₁.setTop (entryFrame m #[(.int x0), (.int x1)] 2)) (T4.setTop (mkF m 9 #[.val (.int x0), .val (.int x1)] [])) := st5.trans (by
      show Steps p.tables e below (T4.setTop (mkF m 8 #[.val (.int x0), .val (.int x1)] [(.int x0)])) _
      refine XS.pop X4.here hx rfl (hb hby d8_8) rfl rfl ?_
      exact Steps.refl _)
  obtain ⟨fs, hr, hrun, hended, hW, hsame⟩ := X4.leave (v := none) (fun _ => rfl)
  refine ⟨_, _, st6.trans ?_, hrun, hended, _, _, rfl, ?_, ⟨_, rfl⟩, hW, hsame.mono (by decide) (by decide)⟩
  · exact X4.returnOut hx Bd.returns (hb hby d8_9) hr
  · show Q8 Z x0 x1 sf h0 n0 _ T4.heap _
    rw [hh4]
    exact ⟨rfl, N4, rfl⟩
theorem pd_2 : parseMethodDescriptor "(II)V" = some ⟨[.int, .int], none⟩ := by decide +kernel
theorem d7_0 : decode jdk_43_method_2_code 0 = .ok (.iload_n 1, 1) := by decide +kernel
theorem d7_1 : decode jdk_43_method_2_code 1 = .ok (.aload_n 0, 1) := by decide +kernel
theorem d7_2 : decode jdk_43_method_2_code 2 = .ok (.arraylength, 1) := by decide +kernel
theorem d7_3 : decode jdk_43_method_2_code 3 = .ok (.invokestatic 9, 3) := by decide +kernel
theorem d7_6 : decode jdk_43_method_2_code 6 = .ok (.aload_n 0, 1) := by decide +kernel
theorem d7_7 : decode jdk_43_method_2_code 7 = .ok (.iload_n 1, 1) := by decide +kernel
theorem d7_8 : decode jdk_43_method_2_code 8 = .ok (.baload, 1) := by decide +kernel
theorem d7_9 : decode jdk_43_method_2_code 9 = .ok (.sipush 255, 3) := by decide +kernel
theorem d7_12 : decode jdk_43_method_2_code 12 = .ok (.iand, 1) := by decide +kernel
theorem d7_13 : decode jdk_43_method_2_code 13 = .ok (.i2c, 1) := by decide +kernel
theorem d7_14 : decode jdk_43_method_2_code 14 = .ok (.ireturn, 1) := by decide +kernel
theorem pn_4 : plainName "java/lang/StringLatin1" = true := by first | (simp [plainName, overriddenIn]; done) | decide +kernel
theorem ef_7 (m : MethodId) (x0 : Addr) (x1 : Int32)  : entryFrame m #[(.ref x0), (.int x1)] 2 = mkF m 0 #[.val (.ref x0), .val (.int x1)] [] := by first | (simp [entryFrame, mkF, argsToLocals, Value.category]; done) | rfl
def F7 (x1 : Int32) (L : List Int32) : Int32 := (nar .char (((L.getD (x1).toNatClampNeg 0) &&& (255 : Int32)).toUInt32.toUInt16.toUInt32.toInt32))
def Q7 (Z : State) (x0 : Addr) (x1 : Int32) (sf : Value) (ka : ClassId) (n : Int32) (L : List Int32) (h0 : Heap) (n0 : Nat) (vE : Option Value) (hE : Heap) (LE : List Loc) : Prop := vE = some (.int (F7 x1 L)) ∧ Fr n0 LE ∧ hE = h0
set_option maxRecDepth 65536 in
set_option maxHeartbeats 40000000 in
theorem rm7 (l : Launch) (Z : State) (a0 : Array Value) (hw : ∀ d ∈ tables_1, d.before a0 Z = true) (ws : List Jvm.Cond) (x0 : Addr) (x1 : Int32) (sf : Value) (ka : ClassId) (n : Int32) (L : List Int32) (h0 : Heap) (n0 : Nat) (Z0 : n0 ≤ h0.size) (S_f : Sta Z h0 "jdk/internal/util/Preconditions" "SIOOBE_FORMATTER" "Ljava/util/function/BiFunction;" sf) (hsf : sf.isRef = true) (A_b : Arv Z h0 x0 ka .byte n (List.map Value.int L) (.int (0 : Int32))) (hi : ¬ x1 < 0 ∧ x1 < n) :
    MetFree l (⟨"java/lang/StringLatin1", "charAt", "([BI)C"⟩ : MethodName) (head1 (Jvm.Cond.code (⟨"java/lang/StringLatin1", "charAt", "([BI)C"⟩ : MethodName) jdk_43_method_2_code 2 (some .char) :: ws) ({ frames := 2, cells := 0, slots := 0, locals := 27 } : Room)) (fun a U => a = #[(.ref x0), (.int x1)] ∧ Z.Warmed39 U.vm ∧ U.heap = h0) (fun _ _ _ _ _ => True) (fun _ U o U' => ∃ vE LE, o = .returned vE ∧ Q7 Z x0 x1 sf ka n L h0 n0 vE U'.heap LE ∧ FrameEnd U o U' LE ({ frames := 2, cells := 0, slots := 0, locals := 27 } : Room).cells ({ frames := 2, cells := 0, slots := 0, locals := 27 } : Room).slots) := by
  refine MetFree.of_bodySF (plainFor_of_name pn_4) hisR ?_
  intro p e s m args below meth c s₁ Bd hml0 hP hK
  obtain ⟨rfl, hZ, hh⟩ := hP
  have hx := Bd.exec
  have hby := Bd.bytes
  have hml : c.maxLocals = 2 := hml0
  have hown : s.vm.findClass "java/lang/StringLatin1" = some m.cls := findClass_of_methodNamed Bd.named
  have hnm := (name_of_methodNamed Bd.named Bd.method).1
  have X0 : Stand p l e ({ frames := 2, cells := 0, slots := 0, locals := 27 } : Room) s m #[(.ref x0), (.int x1)] below meth c s₁ [] 0 0 := Stand.of_body Bd
  have e0 : s₁.heap = h0 := by rw [← hh, Bd.state]; rfl
  have N0 := Fr.nil n0
  have st0 : Steps p.tables e below (s₁.setTop (entryFrame m #[(.ref x0), (.int x1)] 2)) (s₁.setTop (mkF m 0 #[.val (.ref x0), .val (.int x1)] [])) := castTop (ef_7 m x0 x1) (Steps.refl _)
  obtain ⟨cl1, Ar1, -, S1, N1, -, -⟩ := id A_b
  have st2 : Steps p.tables e below (s₁.setTop (entryFrame m #[(.ref x0), (.int x1)] 2)) (s₁.setTop (mkF m 3 #[.val (.ref x0), .val (.int x1)] [(.int n), (.int x1)])) := st0.trans (by
      show Steps p.tables e below (s₁.setTop (mkF m 0 #[.val (.ref x0), .val (.int x1)] [])) _
      refine XS.iloadN X0.here hx rfl (hb hby d7_0) rfl ?_
      show Steps p.tables e below (s₁.setTop (mkF m 1 #[.val (.ref x0), .val (.int x1)] [(.int x1)])) _
      refine XS.aloadN X0.here hx rfl (hb hby d7_1) rfl rfl ?_
      show Steps p.tables e below (s₁.setTop (mkF m 2 #[.val (.ref x0), .val (.int x1)] [(.ref x0), (.int x1)])) _
      refine X0.arraylength hx (by rw [e0]; exact Ar1.1) (State.isArrayOf_alike hZ.alike Ar1.2.1) (g := (mkF m 2 #[.val (.ref x0), .val (.int x1)] [(.ref x0), (.int x1)])) rfl rfl (hb hby d7_2) _ ?_
      rw [len_of S1 N1]
      exact Steps.refl _)
  obtain ⟨_, _, ⟨T3, L3, k3, n3⟩, -, X3, ⟨Lc3, hQ3, l3, y3, z3⟩, sr3⟩ := Jvm.LawKit.callS X0 hx (y := (⟨"java/lang/String", "checkIndex", "(II)V"⟩ : MethodName)) hown (mvT hZ (hw _ (List.mem_of_getElem? (i := 45) rfl))) (mvT hZ (hw _ (List.mem_of_getElem? (i := 46) rfl))) (mvT hZ (hw _ (List.mem_of_getElem? (i := 19) rfl))) (mvT hZ (hw _ (List.mem_of_getElem? (i := 47) rfl))) (by decide) (backOf (W := 0) (rm8 l Z a0 hw [] x1 n sf h0 n0 Z0 S_f hsf hi) hZ (hw _ (List.mem_of_getElem? (i := 47) rfl)) (hw _ (List.mem_of_getElem? (i := 19) rfl)) (by decide) (by decide)) (g := (mkF m 3 #[.val (.ref x0), .val (.int x1)] [(.int n), (.int x1)])) rfl (by rw [hml]; rfl) (argsL := [(.int x1), (.int n)]) (rest := []) (lenOf pd_2 rfl) rfl (by show 2 * 0 + _ ≤ _; exact Nat.le_of_eq rfl) (hb hby d7_3) (fun _ _ => ⟨rfl, e0, (by decide : 0 + 0 ≤ _), (by decide : 0 + 0 ≤ _)⟩)
  dsimp only [Pt.U, Pt.locs, Pt.cells, Pt.slots] at X3 l3 y3 z3 sr3 hQ3
  subst l3 y3 z3
  obtain ⟨rfl, N3q, hh3⟩ := hQ3
  have N3 := Fr.app N0 N3q
  have st4 : Steps p.tables e below (s₁.setTop (entryFrame m #[(.ref x0), (.int x1)] 2)) (T3.setTop (mkF m 6 #[.val (.ref x0), .val (.int x1)] [])) := st2.trans (sr3 _ (Steps.refl _))
  obtain ⟨cl5, Ar5, q5, S5, N5, H5, G5⟩ := id A_b
  have hin5 : ¬ (x1 < 0 ∨ cl5.slots.size ≤ (x1).toNatClampNeg) := inb_of S5 hi
  have hat5 : cl5.slots[(x1).toNatClampNeg]? = some (.int (L.getD (x1).toNatClampNeg 0)) := H5.at hin5 (own_getI L _)
  have st6 : Steps p.tables e below (s₁.setTop (entryFrame m #[(.ref x0), (.int x1)] 2)) (T3.setTop (mkF m 14 #[.val (.ref x0), .val (.int x1)] [(.int (((L.getD (x1).toNatClampNeg 0) &&& (255 : Int32)).toUInt32.toUInt16.toUInt32.toInt32))])) := st4.trans (by
      show Steps p.tables e below (T3.setTop (mkF m 6 #[.val (.ref x0), .val (.int x1)] [])) _
      refine XS.aloadN X3.here hx rfl (hb hby d7_6) rfl rfl ?_
      show Steps p.tables e below (T3.setTop (mkF m 7 #[.val (.ref x0), .val (.int x1)] [(.ref x0)])) _
      refine XS.iloadN X3.here hx rfl (hb hby d7_7) rfl ?_
      show Steps p.tables e below (T3.setTop (mkF m 8 #[.val (.ref x0), .val (.int x1)] [(.int x1), (.ref x0)])) _
      refine X3.baloadBytes hx (j := x1) (v := (.int (L.getD (x1).toNatClampNeg 0))) (by rw [hh3]; exact Ar5.1) (State.isArrayOf_alike hZ.alike Ar5.2.1) Ar5.2.2 hin5 hat5 (g := (mkF m 8 #[.val (.ref x0), .val (.int x1)] [(.int x1), (.ref x0)])) rfl rfl (hb hby d7_8) _ ?_
      show Steps p.tables e below (T3.setTop (mkF m 9 #[.val (.ref x0), .val (.int x1)] [(.int (L.getD (x1).toNatClampNeg 0))])) _
      refine XS.sipush X3.here hx rfl (hb hby d7_9) ?_
      show Steps p.tables e below (T3.setTop (mkF m 12 #[.val (.ref x0), .val (.int x1)] [(.int (255 : Int32)), (.int (L.getD (x1).toNatClampNeg 0))])) _
      refine XS.iand X3.here hx rfl (hb hby d7_12) rfl ?_
      show Steps p.tables e below (T3.setTop (mkF m 13 #[.val (.ref x0), .val (.int x1)] [(.int ((L.getD (x1).toNatClampNeg 0) &&& (255 : Int32)))])) _
      refine XS.i2c X3.here hx rfl (hb hby d7_13) rfl ?_
      exact Steps.refl _)
  obtain ⟨fs, hr, hrun, hended, hW, hsame⟩ := X3.leave (v := some (.int (nar .char (((L.getD (x1).toNatClampNeg 0) &&& (255 : Int32)).toUInt32.toUInt16.toUInt32.toInt32)))) (fun h => by rw [Bd.returns] at h; cases h)
  refine ⟨_, _, st6.trans ?_, hrun, hended, _, _, rfl, ?_, ⟨_, rfl⟩, hW, hsame.mono (by decide) (by decide)⟩
  · exact retN X3 hx (t := .char) Bd.returns (by simp) (hb hby d7_14) hr
  · show Q7 Z x0 x1 sf ka n L h0 n0 _ T3.heap _
    rw [hh3]
    exact ⟨by rw [F7], N3, rfl⟩
theorem pd_3 : parseMethodDescriptor "()Z" = some ⟨[], some .boolean⟩ := by decide +kernel
theorem pd_4 : parseMethodDescriptor "([BI)C" = some ⟨[(.array .byte), .int], some .char⟩ := by decide +kernel
theorem d5_0 : decode jdk_42_method_56_code 0 = .ok (.aload_n 0, 1) := by decide +kernel
theorem d5_1 : decode jdk_42_method_56_code 1 = .ok (.invokevirtual 492, 3) := by decide +kernel
theorem d5_4 : decode jdk_42_method_56_code 4 = .ok (.ifCond .eq 12, 3) := by decide +kernel
theorem d5_7 : decode jdk_42_method_56_code 7 = .ok (.aload_n 0, 1) := by decide +kernel
theorem d5_8 : decode jdk_42_method_56_code 8 = .ok (.getfield 9, 3) := by decide +kernel
theorem d5_11 : decode jdk_42_method_56_code 11 = .ok (.iload_n 1, 1) := by decide +kernel
theorem d5_12 : decode jdk_42_method_56_code 12 = .ok (.invokestatic 495, 3) := by decide +kernel
theorem d5_15 : decode jdk_42_method_56_code 15 = .ok (.ireturn, 1) := by decide +kernel
theorem ef_5 (m : MethodId) (x0 : Addr) (x1 : Int32)  : entryFrame m #[(.ref x0), (.int x1)] 2 = mkF m 0 #[.val (.ref x0), .val (.int x1)] [] := by first | (simp [entryFrame, mkF, argsToLocals, Value.category]; done) | rfl
def F5 (x1 : Int32) (L : List Int32) : Int32 := (nar .char (F7 x1 L))
def Q5 (Z : State) (x0 : Addr) (x1 : Int32) (cs : Int32) (sf : Value) (b : Addr) (ka : ClassId) (n : Int32) (L : List Int32) (h0 : Heap) (n0 : Nat) (vE : Option Value) (hE : Heap) (LE : List Loc) : Prop := vE = some (.int (F5 x1 L)) ∧ Fr n0 LE ∧ hE = h0
set_option maxRecDepth 65536 in
set_option maxHeartbeats 40000000 in
theorem rm5 (l : Launch) (Z : State) (a0 : Array Value) (hw : ∀ d ∈ tables_1, d.before a0 Z = true) (ws : List Jvm.Cond) (x0 : Addr) (x1 : Int32) (cs : Int32) (sf : Value) (b : Addr) (ka : ClassId) (n : Int32) (L : List Int32) (h0 : Heap) (n0 : Nat) (Z0 : n0 ≤ h0.size) (S_c : Sta Z h0 "java/lang/String" "COMPACT_STRINGS" "Z" (.int cs)) (hcs : ¬ cs = (0 : Int32)) (S_f : Sta Z h0 "jdk/internal/util/Preconditions" "SIOOBE_FORMATTER" "Ljava/util/function/BiFunction;" sf) (hsf : sf.isRef = true) (E_x : Exa Z h0 x0 "java/lang/String") (F_v : Fld Z h0 x0 "java/lang/String" "value" "[B" (.ref b)) (F_c : Fld Z h0 x0 "java/lang/String" "coder" "B" (.int (0 : Int32))) (A_b : Arv Z h0 b ka .byte n (List.map Value.int L) (.int (0 : Int32))) (hi : ¬ x1 < 0 ∧ x1 < n) :
    MetFree l (⟨"java/lang/String", "charAt", "(I)C"⟩ : MethodName) (head1 (Jvm.Cond.code (⟨"java/lang/String", "charAt", "(I)C"⟩ : MethodName) jdk_42_method_56_code 2 (some .char) :: ws) ({ frames := 3, cells := 0, slots := 0, locals := 40 } : Room)) (fun a U => a = #[(.ref x0), (.int x1)] ∧ Z.Warmed39 U.vm ∧ U.heap = h0) (fun _ _ _ _ _ => True) (fun _ U o U' => ∃ vE LE, o = .returned vE ∧ Q5 Z x0 x1 cs sf b ka n L h0 n0 vE U'.heap LE ∧ FrameEnd U o U' LE ({ frames := 3, cells := 0, slots := 0, locals := 40 } : Room).cells ({ frames := 3, cells := 0, slots := 0, locals := 40 } : Room).slots) := by
  refine MetFree.of_bodySF (plainFor_of_name pn_2) hisR ?_
  intro p e s m args below meth c s₁ Bd hml0 hP hK
  obtain ⟨rfl, hZ, hh⟩ := hP
  have hx := Bd.exec
  have hby := Bd.bytes
  have hml : c.maxLocals = 2 := hml0
  have hown : s.vm.findClass "java/lang/String" = some m.cls := findClass_of_methodNamed Bd.named
  have hnm := (name_of_methodNamed Bd.named Bd.method).1
  have X0 : Stand p l e ({ frames := 3, cells := 0, slots := 0, locals := 40 } : Room) s m #[(.ref x0), (.int x1)] below meth c s₁ [] 0 0 := Stand.of_body Bd
  have e0 : s₁.heap = h0 := by rw [← hh, Bd.state]; rfl
  have N0 := Fr.nil n0
  have st0 : Steps p.tables e below (s₁.setTop (entryFrame m #[(.ref x0), (.int x1)] 2)) (s₁.setTop (mkF m 0 #[.val (.ref x0), .val (.int x1)] [])) := castTop (ef_5 m x0 x1) (Steps.refl _)
  have st1 : Steps p.tables e below (s₁.setTop (entryFrame m #[(.ref x0), (.int x1)] 2)) (s₁.setTop (mkF m 1 #[.val (.ref x0), .val (.int x1)] [(.ref x0)])) := st0.trans (by
      show Steps p.tables e below (s₁.setTop (mkF m 0 #[.val (.ref x0), .val (.int x1)] [])) _
      refine XS.aloadN X0.here hx rfl (hb hby d5_0) rfl rfl ?_
      exact Steps.refl _)
  obtain ⟨cq2, kq2, q2a, q2b, q2c⟩ := isOf hZ e0 E_x
  obtain ⟨_, _, ⟨T2, L2, k2, n2⟩, -, X2, ⟨Lc2, hQ2, l2, y2, z2⟩, sr2⟩ := X0.virtualBack hx (y := (⟨"java/lang/String", "isLatin1", "()Z"⟩ : MethodName)) (z := (⟨"java/lang/String", "isLatin1", "()Z"⟩ : MethodName)) hown (mvT hZ (hw _ (List.mem_of_getElem? (i := 36) rfl))) (mvT hZ (hw _ (List.mem_of_getElem? (i := 37) rfl))) (notFace_of_selects (args := #[]) (mvT hZ (hw _ (List.mem_of_getElem? (i := 39) rfl)))) (mvT hZ (hw _ (List.mem_of_getElem? (i := 39) rfl))) (mvT hZ (hw _ (List.mem_of_getElem? (i := 38) rfl))) (by decide) (backOf (W := 0) (rm6 l Z a0 hw [] x0 cs h0 n0 Z0 S_c hcs F_c) hZ (hw _ (List.mem_of_getElem? (i := 40) rfl)) (hw _ (List.mem_of_getElem? (i := 19) rfl)) (by decide) (by decide)) q2a q2c (g := (mkF m 1 #[.val (.ref x0), .val (.int x1)] [(.ref x0)])) rfl (by rw [hml]; rfl) (Steps.refl _) (argsL := []) (rest := []) (lenOf pd_3 rfl) rfl (by show 2 * 0 + _ ≤ _; exact Nat.le_of_eq rfl) (hb hby d5_1) (fun _ _ => ⟨rfl, e0, (by decide : 0 + 0 ≤ _), (by decide : 0 + 0 ≤ _)⟩)
  dsimp only [Pt.U, Pt.locs, Pt.cells, Pt.slots] at X2 l2 y2 z2 sr2 hQ2
  subst l2 y2 z2
  obtain ⟨rfl, N2q, hh2⟩ := hQ2
  have N2 := Fr.app N0 N2q
  have st3 : Steps p.tables e below (s₁.setTop (entryFrame m #[(.ref x0), (.int x1)] 2)) (T2.setTop (mkF m 4 #[.val (.ref x0), .val (.int x1)] [(.int (1 : Int32))])) := st1.trans (sr2)
  have hf4 : ¬ ((1 : Int32) = (0 : Int32)) := by decide
  have st5 : Steps p.tables e below (s₁.setTop (entryFrame m #[(.ref x0), (.int x1)] 2)) (T2.setTop (mkF m 8 #[.val (.ref x0), .val (.int x1)] [(.ref x0)])) := st3.trans (by
      show Steps p.tables e below (T2.setTop (mkF m 4 #[.val (.ref x0), .val (.int x1)] [(.int (1 : Int32))])) _
      refine XS.ifNo X2.here hx rfl (hb hby d5_4) rfl ((if0 _ _).trans (feq hf4).1) ?_
      show Steps p.tables e below (T2.setTop (mkF m 7 #[.val (.ref x0), .val (.int x1)] [])) _
      refine XS.aloadN X2.here hx rfl (hb hby d5_7) rfl rfl ?_
      exact Steps.refl _)
  obtain ⟨T6, X6, e6, sr6⟩ := getF X2 hx hZ hown (host := "") (Or.inl (hw _ (List.mem_of_getElem? (i := 21) rfl))) Via.refl hh2 F_v (g := (mkF m 8 #[.val (.ref x0), .val (.int x1)] [(.ref x0)])) rfl rfl (hb hby d5_8)
  have st7 : Steps p.tables e below (s₁.setTop (entryFrame m #[(.ref x0), (.int x1)] 2)) (T6.setTop (mkF m 11 #[.val (.ref x0), .val (.int x1)] [(.ref b)])) := st5.trans (sr6 _ (Steps.refl _))
  have st8 : Steps p.tables e below (s₁.setTop (entryFrame m #[(.ref x0), (.int x1)] 2)) (T6.setTop (mkF m 12 #[.val (.ref x0), .val (.int x1)] [(.int x1), (.ref b)])) := st7.trans (by
      show Steps p.tables e below (T6.setTop (mkF m 11 #[.val (.ref x0), .val (.int x1)] [(.ref b)])) _
      refine XS.iloadN X6.here hx rfl (hb hby d5_11) rfl ?_
      exact Steps.refl _)
  obtain ⟨_, _, ⟨T9, L9, k9, n9⟩, -, X9, ⟨Lc9, hQ9, l9, y9, z9⟩, sr9⟩ := Jvm.LawKit.callS X6 hx (y := (⟨"java/lang/StringLatin1", "charAt", "([BI)C"⟩ : MethodName)) hown (mvT hZ (hw _ (List.mem_of_getElem? (i := 41) rfl))) (mvT hZ (hw _ (List.mem_of_getElem? (i := 42) rfl))) (mvT hZ (hw _ (List.mem_of_getElem? (i := 43) rfl))) (mvT hZ (hw _ (List.mem_of_getElem? (i := 44) rfl))) (by decide) (backOf (W := 0) (rm7 l Z a0 hw [] b x1 sf ka n L h0 n0 Z0 S_f hsf A_b hi) hZ (hw _ (List.mem_of_getElem? (i := 44) rfl)) (hw _ (List.mem_of_getElem? (i := 43) rfl)) (by decide) (by decide)) (g := (mkF m 12 #[.val (.ref x0), .val (.int x1)] [(.int x1), (.ref b)])) rfl (by rw [hml]; rfl) (argsL := [(.ref b), (.int x1)]) (rest := []) (lenOf pd_4 rfl) rfl (by show 2 * 0 + _ ≤ _; exact Nat.le_of_eq rfl) (hb hby d5_12) (fun _ _ => ⟨rfl, e6, (by decide : 0 + 0 ≤ _), (by decide : 0 + 0 ≤ _)⟩)
  dsimp only [Pt.U, Pt.locs, Pt.cells, Pt.slots] at X9 l9 y9 z9 sr9 hQ9
  subst l9 y9 z9
  obtain ⟨rfl, N9q, hh9⟩ := hQ9
  have N9 := Fr.app N2 N9q
  have st10 : Steps p.tables e below (s₁.setTop (entryFrame m #[(.ref x0), (.int x1)] 2)) (T9.setTop (mkF m 15 #[.val (.ref x0), .val (.int x1)] [(.int (F7 x1 L))])) := st8.trans (sr9 _ (Steps.refl _))
  obtain ⟨fs, hr, hrun, hended, hW, hsame⟩ := X9.leave (v := some (.int (nar .char (F7 x1 L)))) (fun h => by rw [Bd.returns] at h; cases h)
  refine ⟨_, _, st10.trans ?_, hrun, hended, _, _, rfl, ?_, ⟨_, rfl⟩, hW, hsame.mono (by decide) (by decide)⟩
  · exact retN X9 hx (t := .char) Bd.returns (by simp) (hb hby d5_15) hr
  · show Q5 Z x0 x1 cs sf b ka n L h0 n0 _ T9.heap _
    rw [hh9]
    exact ⟨by rw [F5], N9, rfl⟩
theorem own_i (x : Int32) : 0 ≤ ((x &&& (2147483647 : Int32)) % (6 : Int32)).toInt ∧ ((x &&& (2147483647 : Int32)) % (6 : Int32)).toInt < 6 := by
  have e1 : (x &&& 2147483647).toInt = x.toInt % (2 ^ 31 : Nat) := c_mask x 2147483647 31 (by decide) (by decide)
  have e2 := (c_irem (x &&& 2147483647) 6 6 (by decide)).1 (by omega)
  omega
theorem pd_5 : parseMethodDescriptor "(I)Lcom/example/treeline/treeline/simple/Relation;" = some ⟨[.int], some (.object "com/example/treeline/treeline/simple/Relation")⟩ := by decide +kernel
theorem pd_6 : parseMethodDescriptor "()Ljava/lang/String;" = some ⟨[], some (.object "java/lang/String")⟩ := by decide +kernel
theorem pd_7 : parseMethodDescriptor "()I" = some ⟨[], some .int⟩ := by decide +kernel
theorem pd_8 : parseMethodDescriptor "(I)C" = some ⟨[.int], some .char⟩ := by decide +kernel
theorem ef_0 (m : MethodId) (x0 : Int32)  : entryFrame m #[(.int x0)] maxLocals = mkF m 0 #[.val (.int x0), .unset, .unset, .unset, .unset] [] := by first | (simp [entryFrame, mkF, argsToLocals, Value.category, maxLocals]; done) | rfl
def Q0 (Z : State) (x0 : Int32) (cs : Int32) (sf : Value) (sL : Addr) (sG : Addr) (sM : Addr) (sH : Addr) (sE : Addr) (sN : Addr) (t0 : Addr) (u0 : Addr) (k0 : ClassId) (t1 : Addr) (u1 : Addr) (k1 : ClassId) (t2 : Addr) (u2 : Addr) (k2 : ClassId) (t3 : Addr) (u3 : Addr) (k3 : ClassId) (t4 : Addr) (u4 : Addr) (k4 : ClassId) (t5 : Addr) (u5 : Addr) (k5 : ClassId) (h0 : Heap) (n0 : Nat) (vE : Option Value) (hE : Heap) (LE : List Loc) : Prop := vE = some (.int (1 : Int32)) ∧ Fr n0 LE
set_option maxRecDepth 65536 in
set_option maxHeartbeats 40000000 in
theorem rm0 (l : Launch) (Z : State) (a0 : Array Value) (hw : ∀ d ∈ tables_1, d.before a0 Z = true) (ws : List Jvm.Cond) (x0 : Int32) (cs : Int32) (sf : Value) (sL : Addr) (sG : Addr) (sM : Addr) (sH : Addr) (sE : Addr) (sN : Addr) (t0 : Addr) (u0 : Addr) (k0 : ClassId) (t1 : Addr) (u1 : Addr) (k1 : ClassId) (t2 : Addr) (u2 : Addr) (k2 : ClassId) (t3 : Addr) (u3 : Addr) (k3 : ClassId) (t4 : Addr) (u4 : Addr) (k4 : ClassId) (t5 : Addr) (u5 : Addr) (k5 : ClassId) (h0 : Heap) (n0 : Nat) (Z0 : n0 ≤ h0.size) (S_c : Sta Z h0 "java/lang/String" "COMPACT_STRINGS" "Z" (.int cs)) (hcs : ¬ cs = (0 : Int32)) (S_f : Sta Z h0 "jdk/internal/util/Preconditions" "SIOOBE_FORMATTER" "Ljava/util/function/BiFunction;" sf) (hsf : sf.isRef = true) (S_0 : Sta Z h0 "com/example/treeline/treeline/simple/Relation" "LESS" "Lcom/example/treeline/treeline/simple/Relation;" (.ref sL)) (E_0 : Exa Z h0 sL "com/example/treeline/treeline/simple/Relation") (F_0 : Fld Z h0 sL "com/example/treeline/treeline/simple/Relation" "symbol" "Ljava/lang/String;" (.ref t0)) (Et_0 : Exa Z h0 t0 "java/lang/String") (Fv_0 : Fld Z h0 t0 "java/lang/String" "value" "[B" (.ref u0)) (Fc_0 : Fld Z h0 t0 "java/lang/String" "coder" "B" (.int (0 : Int32))) (A_0 : Arv Z h0 u0 k0 .byte (1 : Int32) [(.int (60 : Int32))] (.int (0 : Int32))) (S_1 : Sta Z h0 "com/example/treeline/treeline/simple/Relation" "GREATER" "Lcom/example/treeline/treeline/simple/Relation;" (.ref sG)) (E_1 : Exa Z h0 sG "com/example/treeline/treeline/simple/Relation") (F_1 : Fld Z h0 sG "com/example/treeline/treeline/simple/Relation" "symbol" "Ljava/lang/String;" (.ref t1)) (Et_1 : Exa Z h0 t1 "java/lang/String") (Fv_1 : Fld Z h0 t1 "java/lang/String" "value" "[B" (.ref u1)) (Fc_1 : Fld Z h0 t1 "java/lang/String" "coder" "B" (.int (0 : Int32))) (A_1 : Arv Z h0 u1 k1 .byte (1 : Int32) [(.int (62 : Int32))] (.int (0 : Int32))) (S_2 : Sta Z h0 "com/example/treeline/treeline/simple/Relation" "LESS_OR_EQUAL" "Lcom/example/treeline/treeline/simple/Relation;" (.ref sM)) (E_2 : Exa Z h0 sM "com/example/treeline/treeline/simple/Relation") (F_2 : Fld Z h0 sM "com/example/treeline/treeline/simple/Relation" "symbol" "Ljava/lang/String;" (.ref t2)) (Et_2 : Exa Z h0 t2 "java/lang/String") (Fv_2 : Fld Z h0 t2 "java/lang/String" "value" "[B" (.ref u2)) (Fc_2 : Fld Z h0 t2 "java/lang/String" "coder" "B" (.int (0 : Int32))) (A_2 : Arv Z h0 u2 k2 .byte (2 : Int32) [(.int (60 : Int32)), (.int (61 : Int32))] (.int (0 : Int32))) (S_3 : Sta Z h0 "com/example/treeline/treeline/simple/Relation" "GREATER_OR_EQUAL" "Lcom/example/treeline/treeline/simple/Relation;" (.ref sH)) (E_3 : Exa Z h0 sH "com/example/treeline/treeline/simple/Relation") (F_3 : Fld Z h0 sH "com/example/treeline/treeline/simple/Relation" "symbol" "Ljava/lang/String;" (.ref t3)) (Et_3 : Exa Z h0 t3 "java/lang/String") (Fv_3 : Fld Z h0 t3 "java/lang/String" "value" "[B" (.ref u3)) (Fc_3 : Fld Z h0 t3 "java/lang/String" "coder" "B" (.int (0 : Int32))) (A_3 : Arv Z h0 u3 k3 .byte (2 : Int32) [(.int (62 : Int32)), (.int (61 : Int32))] (.int (0 : Int32))) (S_4 : Sta Z h0 "com/example/treeline/treeline/simple/Relation" "EQUAL" "Lcom/example/treeline/treeline/simple/Relation;" (.ref sE)) (E_4 : Exa Z h0 sE "com/example/treeline/treeline/simple/Relation") (F_4 : Fld Z h0 sE "com/example/treeline/treeline/simple/Relation" "symbol" "Ljava/lang/String;" (.ref t4)) (Et_4 : Exa Z h0 t4 "java/lang/String") (Fv_4 : Fld Z h0 t4 "java/lang/String" "value" "[B" (.ref u4)) (Fc_4 : Fld Z h0 t4 "java/lang/String" "coder" "B" (.int (0 : Int32))) (A_4 : Arv Z h0 u4 k4 .byte (2 : Int32) [(.int (61 : Int32)), (.int (61 : Int32))] (.int (0 : Int32))) (S_5 : Sta Z h0 "com/example/treeline/treeline/simple/Relation" "NOT_EQUAL" "Lcom/example/treeline/treeline/simple/Relation;" (.ref sN)) (E_5 : Exa Z h0 sN "com/example/treeline/treeline/simple/Relation") (F_5 : Fld Z h0 sN "com/example/treeline/treeline/simple/Relation" "symbol" "Ljava/lang/String;" (.ref t5)) (Et_5 : Exa Z h0 t5 "java/lang/String") (Fv_5 : Fld Z h0 t5 "java/lang/String" "value" "[B" (.ref u5)) (Fc_5 : Fld Z h0 t5 "java/lang/String" "coder" "B" (.int (0 : Int32))) (A_5 : Arv Z h0 u5 k5 .byte (2 : Int32) [(.int (33 : Int32)), (.int (61 : Int32))] (.int (0 : Int32))) (neG_sL : ¬ (sL = sG)) (neH_sL : ¬ (sL = sH)) (neH_sG : ¬ (sG = sH)) (neG_sM : ¬ (sM = sG)) (neH_sM : ¬ (sM = sH)) (neG_sH : ¬ (sH = sG)) (neG_sE : ¬ (sE = sG)) (neH_sE : ¬ (sE = sH)) (neG_sN : ¬ (sN = sG)) (neH_sN : ¬ (sN = sH)) :
    MetFree l x (head1 (Jvm.Cond.code x code maxLocals ret :: ws) room_1) (fun a U => a = #[(.int x0)] ∧ Z.Warmed39 U.vm ∧ U.heap = h0) (fun _ _ _ _ _ => True) (fun _ U o U' => ∃ vE LE, o = .returned vE ∧ Q0 Z x0 cs sf sL sG sM sH sE sN t0 u0 k0 t1 u1 k1 t2 u2 k2 t3 u3 k3 t4 u4 k4 t5 u5 k5 h0 n0 vE U'.heap LE ∧ FrameEnd U o U' LE room_1.cells room_1.slots) := by
  refine MetFree.of_bodySF (plainFor_of_name pn_0) hisR ?_
  intro p e s m args below meth c s₁ Bd hml0 hP hK
  obtain ⟨rfl, hZ, hh⟩ := hP
  have hx := Bd.exec
  have hby := Bd.bytes
  have hml : c.maxLocals = 5 := hml0
  have hown : s.vm.findClass "com/example/treeline/treeline/simple/RelationSwapsSidesPinLaw" = some m.cls := findClass_of_methodNamed Bd.named
  have hnm := (name_of_methodNamed Bd.named Bd.method).1
  have X0 : Stand p l e room_1 s m #[(.int x0)] below meth c s₁ [] 0 0 := Stand.of_body Bd
  have e0 : s₁.heap = h0 := by rw [← hh, Bd.state]; rfl
  have N0 := Fr.nil n0
  have st0 : Steps p.tables e below (s₁.setTop (entryFrame m #[(.int x0)] maxLocals)) (s₁.setTop (mkF m 0 #[.val (.int x0), .unset, .unset, .unset, .unset] [])) := castTop (ef_0 m x0) (Steps.refl _)
  have st1 : Steps p.tables e below (s₁.setTop (entryFrame m #[(.int x0)] maxLocals)) (s₁.setTop (mkF m 7 #[.val (.int x0), .unset, .unset, .unset, .unset] [(.int ((x0 &&& (2147483647 : Int32)) % (6 : Int32)))])) := st0.trans (by
      show Steps p.tables e below (s₁.setTop (mkF m 0 #[.val (.int x0), .unset, .unset, .unset, .unset] [])) _
      refine XS.iloadN X0.here hx rfl (hb hby at_0) rfl ?_
      show Steps p.tables e below (s₁.setTop (mkF m 1 #[.val (.int x0), .unset, .unset, .unset, .unset] [(.int x0)])) _
      refine X0.ldcInt hx hown (mvT hZ (hw _ (List.mem_of_getElem? (i := 0) rfl))) (g := (mkF m 1 #[.val (.int x0), .unset, .unset, .unset, .unset] [(.int x0)])) rfl (hb hby at_1) _ ?_
      show Steps p.tables e below (s₁.setTop (mkF m 3 #[.val (.int x0), .unset, .unset, .unset, .unset] [(.int (2147483647 : Int32)), (.int x0)])) _
      refine XS.iand X0.here hx rfl (hb hby at_3) rfl ?_
      show Steps p.tables e below (s₁.setTop (mkF m 4 #[.val (.int x0), .unset, .unset, .unset, .unset] [(.int (x0 &&& (2147483647 : Int32)))])) _
      refine XS.bipush X0.here hx rfl (hb hby at_4) ?_
      show Steps p.tables e below (s₁.setTop (mkF m 6 #[.val (.int x0), .unset, .unset, .unset, .unset] [(.int (6 : Int32)), (.int (x0 &&& (2147483647 : Int32)))])) _
      refine iremM X0 hx rfl (hb hby at_6) rfl (by decide) ?_
      exact Steps.refl _)
  obtain ⟨i, e_i⟩ : ∃ z, z = ((x0 &&& (2147483647 : Int32)) % (6 : Int32)) := ⟨_, rfl⟩
  rw [← e_i] at st1
  have st2 : Steps p.tables e below (s₁.setTop (entryFrame m #[(.int x0)] maxLocals)) (s₁.setTop (mkF m 9 #[.val (.int x0), .val (.int i), .unset, .unset, .unset] [(.int i)])) := st1.trans (by
      show Steps p.tables e below (s₁.setTop (mkF m 7 #[.val (.int x0), .unset, .unset, .unset, .unset] [(.int i)])) _
      refine XS.istoreN X0.here hx rfl (hb hby at_7) rfl (l' := #[.val (.int x0), .val (.int i), .unset, .unset, .unset]) rfl ?_
      show Steps p.tables e below (s₁.setTop (mkF m 8 #[.val (.int x0), .val (.int i), .unset, .unset, .unset] [])) _
      refine XS.iloadN X0.here hx rfl (hb hby at_8) rfl ?_
      exact Steps.refl _)
  by_cases hc3 : i = (0 : Int32)
  · 
    obtain ⟨_, _, ⟨T4, L4, k4, n4⟩, -, X4, ⟨Lc4, hQ4, l4, y4, z4⟩, sr4⟩ := Jvm.LawKit.callS X0 hx (y := (⟨"com/example/treeline/treeline/simple/RelationSwapsSidesPinLaw", "pick", "(I)Lcom/example/treeline/treeline/simple/Relation;"⟩ : MethodName)) hown (mvT hZ (hw _ (List.mem_of_getElem? (i := 1) rfl))) (mvT hZ (hw _ (List.mem_of_getElem? (i := 2) rfl))) (mvT hZ (hw _ (List.mem_of_getElem? (i := 3) rfl))) (mvT hZ (hw _ (List.mem_of_getElem? (i := 4) rfl))) (by decide) (backOf (W := 0) (rm1 l Z a0 hw [] i sL sG sM sH sE sN h0 n0 Z0 S_0 S_1 S_2 S_3 S_4 S_5) hZ (hw _ (List.mem_of_getElem? (i := 4) rfl)) (hw _ (List.mem_of_getElem? (i := 3) rfl)) (by decide) (by decide)) (g := (mkF m 9 #[.val (.int x0), .val (.int i), .unset, .unset, .unset] [(.int i)])) rfl (by rw [hml]; rfl) (argsL := [(.int i)]) (rest := []) (lenOf pd_5 rfl) rfl (by show 2 * 0 + _ ≤ _; exact Nat.le_of_eq rfl) (hb hby at_9) (fun _ _ => ⟨rfl, e0, (by decide : 0 + 0 ≤ _), (by decide : 0 + 0 ≤ _)⟩)
    dsimp only [Pt.U, Pt.locs, Pt.cells, Pt.slots] at X4 l4 y4 z4 sr4 hQ4
    subst l4 y4 z4
    obtain ⟨rfl, N4q, hh4⟩ := hQ4
    have N4 := Fr.app N0 N4q
    have st5 : Steps p.tables e below (s₁.setTop (entryFrame m #[(.int x0)] maxLocals)) (T4.setTop (mkF m 12 #[.val (.int x0), .val (.int i), .unset, .unset, .unset] [(.ref (F1 i sL sG sM sH sE sN))])) := st2.trans (sr4 _ (Steps.refl _))
    have hpk : (F1 i sL sG sM sH sE sN) = sL := by rw [F1, if_pos hc3]
    rw [hpk] at st5
    have st6 : Steps p.tables e below (s₁.setTop (entryFrame m #[(.int x0)] maxLocals)) (T4.setTop (mkF m 14 #[.val (.int x0), .val (.int i), .val (.ref sL), .unset, .unset] [(.ref sL)])) := st5.trans (by
        show Steps p.tables e below (T4.setTop (mkF m 12 #[.val (.int x0), .val (.int i), .unset, .unset, .unset] [(.ref sL)])) _
        refine XS.astoreN X4.here hx rfl (hb hby at_12) rfl rfl (l' := #[.val (.int x0), .val (.int i), .val (.ref sL), .unset, .unset]) rfl ?_
        show Steps p.tables e below (T4.setTop (mkF m 13 #[.val (.int x0), .val (.int i), .val (.ref sL), .unset, .unset] [])) _
        refine XS.aloadN X4.here hx rfl (hb hby at_13) rfl rfl ?_
        exact Steps.refl _)
    obtain ⟨cq7, kq7, q7a, q7b, q7c⟩ := isOf hZ hh4 E_0
    obtain ⟨_, _, ⟨T7, L7, k7, n7⟩, -, X7, ⟨Lc7, hQ7, l7, y7, z7⟩, sr7⟩ := X4.virtualBack hx (y := (⟨"com/example/treeline/treeline/simple/Relation", "symbol", "()Ljava/lang/String;"⟩ : MethodName)) (z := (⟨"com/example/treeline/treeline/simple/Relation", "symbol", "()Ljava/lang/String;"⟩ : MethodName)) hown (mvT hZ (hw _ (List.mem_of_getElem? (i := 8) rfl))) (mvT hZ (hw _ (List.mem_of_getElem? (i := 9) rfl))) (notFace_of_selects (args := #[]) (mvT hZ (hw _ (List.mem_of_getElem? (i := 11) rfl)))) (mvT hZ (hw _ (List.mem_of_getElem? (i := 11) rfl))) (mvT hZ (hw _ (List.mem_of_getElem? (i := 10) rfl))) (by decide) (backOf (W := 0) (rm2 l Z a0 hw [] sL t0 h0 n0 Z0 F_0) hZ (hw _ (List.mem_of_getElem? (i := 12) rfl)) (hw _ (List.mem_of_getElem? (i := 6) rfl)) (by decide) (by decide)) q7a q7c (g := (mkF m 14 #[.val (.int x0), .val (.int i), .val (.ref sL), .unset, .unset] [(.ref sL)])) rfl (by rw [hml]; rfl) (Steps.refl _) (argsL := []) (rest := []) (lenOf pd_6 rfl) rfl (by show 2 * 0 + _ ≤ _; exact Nat.le_of_eq rfl) (hb hby at_14) (fun _ _ => ⟨rfl, hh4, (by decide : 0 + 0 ≤ _), (by decide : 0 + 0 ≤ _)⟩)
    dsimp only [Pt.U, Pt.locs, Pt.cells, Pt.slots] at X7 l7 y7 z7 sr7 hQ7
    subst l7 y7 z7
    obtain ⟨rfl, N7q, hh7⟩ := hQ7
    have N7 := Fr.app N4 N7q
    have st8 : Steps p.tables e below (s₁.setTop (entryFrame m #[(.int x0)] maxLocals)) (T7.setTop (mkF m 17 #[.val (.int x0), .val (.int i), .val (.ref sL), .unset, .unset] [(.ref t0)])) := st6.trans (sr7)
    have st9 : Steps p.tables e below (s₁.setTop (entryFrame m #[(.int x0)] maxLocals)) (T7.setTop (mkF m 19 #[.val (.int x0), .val (.int i), .val (.ref sL), .val (.ref t0), .unset] [(.ref t0)])) := st8.trans (by
        show Steps p.tables e below (T7.setTop (mkF m 17 #[.val (.int x0), .val (.int i), .val (.ref sL), .unset, .unset] [(.ref t0)])) _
        refine XS.astoreN X7.here hx rfl (hb hby at_17) rfl rfl (l' := #[.val (.int x0), .val (.int i), .val (.ref sL), .val (.ref t0), .unset]) rfl ?_
        show Steps p.tables e below (T7.setTop (mkF m 18 #[.val (.int x0), .val (.int i), .val (.ref sL), .val (.ref t0), .unset] [])) _
        refine XS.aloadN X7.here hx rfl (hb hby at_18) rfl rfl ?_
        exact Steps.refl _)
    obtain ⟨cq10, kq10, q10a, q10b, q10c⟩ := isOf hZ hh7 Et_0
    obtain ⟨_, _, ⟨T10, L10, k10, n10⟩, -, X10, ⟨Lc10, hQ10, l10, y10, z10⟩, sr10⟩ := X7.virtualBack hx (y := (⟨"java/lang/String", "length", "()I"⟩ : MethodName)) (z := (⟨"java/lang/String", "length", "()I"⟩ : MethodName)) hown (mvT hZ (hw _ (List.mem_of_getElem? (i := 15) rfl))) (mvT hZ (hw _ (List.mem_of_getElem? (i := 16) rfl))) (notFace_of_selects (args := #[]) (mvT hZ (hw _ (List.mem_of_getElem? (i := 18) rfl)))) (mvT hZ (hw _ (List.mem_of_getElem? (i := 18) rfl))) (mvT hZ (hw _ (List.mem_of_getElem? (i := 17) rfl))) (by decide) (backOf (W := 0) (rm3 l Z a0 hw [] t0 cs u0 k0 (1 : Int32) ([(60 : Int32)]) h0 n0 Z0 S_c hcs Et_0 Fv_0 Fc_0 A_0) hZ (hw _ (List.mem_of_getElem? (i := 20) rfl)) (hw _ (List.mem_of_getElem? (i := 19) rfl)) (by decide) (by decide)) q10a q10c (g := (mkF m 19 #[.val (.int x0), .val (.int i), .val (.ref sL), .val (.ref t0), .unset] [(.ref t0)])) rfl (by rw [hml]; rfl) (Steps.refl _) (argsL := []) (rest := []) (lenOf pd_7 rfl) rfl (by show 2 * 0 + _ ≤ _; exact Nat.le_of_eq rfl) (hb hby at_19) (fun _ _ => ⟨rfl, hh7, (by decide : 0 + 0 ≤ _), (by decide : 0 + 0 ≤ _)⟩)
    dsimp only [Pt.U, Pt.locs, Pt.cells, Pt.slots] at X10 l10 y10 z10 sr10 hQ10
    subst l10 y10 z10
    obtain ⟨rfl, N10q, hh10⟩ := hQ10
    have N10 := Fr.app N7 N10q
    have st11 : Steps p.tables e below (s₁.setTop (entryFrame m #[(.int x0)] maxLocals)) (T10.setTop (mkF m 22 #[.val (.int x0), .val (.int i), .val (.ref sL), .val (.ref t0), .unset] [(.int (F3 (1 : Int32)))])) := st9.trans (sr10)
    have st12 : Steps p.tables e below (s₁.setTop (entryFrame m #[(.int x0)] maxLocals)) (T10.setTop (mkF m 23 #[.val (.int x0), .val (.int i), .val (.ref sL), .val (.ref t0), .unset] [(.int (1 : Int32)), (.int (F3 (1 : Int32)))])) := st11.trans (by
        show Steps p.tables e below (T10.setTop (mkF m 22 #[.val (.int x0), .val (.int i), .val (.ref sL), .val (.ref t0), .unset] [(.int (F3 (1 : Int32)))])) _
        refine XS.iconst X10.here hx rfl (hb hby at_22) ?_
        exact Steps.refl _)
    have hf13 : ¬ ((F3 (1 : Int32)) < (1 : Int32)) := by decide +kernel
    have st14 : Steps p.tables e below (s₁.setTop (entryFrame m #[(.int x0)] maxLocals)) (T10.setTop (mkF m 28 #[.val (.int x0), .val (.int i), .val (.ref sL), .val (.ref t0), .unset] [(.int (0 : Int32)), (.ref t0)])) := st12.trans (by
        show Steps p.tables e below (T10.setTop (mkF m 23 #[.val (.int x0), .val (.int i), .val (.ref sL), .val (.ref t0), .unset] [(.int (1 : Int32)), (.int (F3 (1 : Int32)))])) _
        refine XS.icmpNo X10.here hx rfl (hb hby at_23) rfl (flt hf13).1 ?_
        show Steps p.tables e below (T10.setTop (mkF m 26 #[.val (.int x0), .val (.int i), .val (.ref sL), .val (.ref t0), .unset] [])) _
        refine XS.aloadN X10.here hx rfl (hb hby at_26) rfl rfl ?_
        show Steps p.tables e below (T10.setTop (mkF m 27 #[.val (.int x0), .val (.int i), .val (.ref sL), .val (.ref t0), .unset] [(.ref t0)])) _
        refine XS.iconst X10.here hx rfl (hb hby at_27) ?_
        exact Steps.refl _)
    obtain ⟨cq15, kq15, q15a, q15b, q15c⟩ := isOf hZ hh10 Et_0
    obtain ⟨_, _, ⟨T15, L15, k15, n15⟩, -, X15, ⟨Lc15, hQ15, l15, y15, z15⟩, sr15⟩ := X10.virtualBack hx (y := (⟨"java/lang/String", "charAt", "(I)C"⟩ : MethodName)) (z := (⟨"java/lang/String", "charAt", "(I)C"⟩ : MethodName)) hown (mvT hZ (hw _ (List.mem_of_getElem? (i := 31) rfl))) (mvT hZ (hw _ (List.mem_of_getElem? (i := 32) rfl))) (notFace_of_selects (args := #[]) (mvT hZ (hw _ (List.mem_of_getElem? (i := 34) rfl)))) (mvT hZ (hw _ (List.mem_of_getElem? (i := 34) rfl))) (mvT hZ (hw _ (List.mem_of_getElem? (i := 33) rfl))) (by decide) (backOf (W := 0) (rm5 l Z a0 hw [] t0 (0 : Int32) cs sf u0 k0 (1 : Int32) ([(60 : Int32)]) h0 n0 Z0 S_c hcs S_f hsf Et_0 Fv_0 Fc_0 A_0 (by decide)) hZ (hw _ (List.mem_of_getElem? (i := 35) rfl)) (hw _ (List.mem_of_getElem? (i := 19) rfl)) (by decide) (by decide)) q15a q15c (g := (mkF m 28 #[.val (.int x0), .val (.int i), .val (.ref sL), .val (.ref t0), .unset] [(.int (0 : Int32)), (.ref t0)])) rfl (by rw [hml]; rfl) (Steps.refl _) (argsL := [(.int (0 : Int32))]) (rest := []) (lenOf pd_8 rfl) rfl (by show 2 * 0 + _ ≤ _; exact Nat.le_of_eq rfl) (hb hby at_28) (fun _ _ => ⟨rfl, hh10, (by decide : 0 + 0 ≤ _), (by decide : 0 + 0 ≤ _)⟩)
    dsimp only [Pt.U, Pt.locs, Pt.cells, Pt.slots] at X15 l15 y15 z15 sr15 hQ15
    subst l15 y15 z15
    obtain ⟨rfl, N15q, hh15⟩ := hQ15
    have N15 := Fr.app N10 N15q
    have st16 : Steps p.tables e below (s₁.setTop (entryFrame m #[(.int x0)] maxLocals)) (T15.setTop (mkF m 31 #[.val (.int x0), .val (.int i), .val (.ref sL), .val (.ref t0), .unset] [(.int (F5 (0 : Int32) [(60 : Int32)]))])) := st14.trans (sr15)
    have st17 : Steps p.tables e below (s₁.setTop (entryFrame m #[(.int x0)] maxLocals)) (T15.setTop (mkF m 33 #[.val (.int x0), .val (.int i), .val (.ref sL), .val (.ref t0), .unset] [(.int (62 : Int32)), (.int (F5 (0 : Int32) [(60 : Int32)]))])) := st16.trans (by
        show Steps p.tables e below (T15.setTop (mkF m 31 #[.val (.int x0), .val (.int i), .val (.ref sL), .val (.ref t0), .unset] [(.int (F5 (0 : Int32) [(60 : Int32)]))])) _
        refine XS.bipush X15.here hx rfl (hb hby at_31) ?_
        exact Steps.refl _)
    have hf18 : ¬ ((F5 (0 : Int32) [(60 : Int32)]) = (62 : Int32)) := by decide +kernel
    have st19 : Steps p.tables e below (s₁.setTop (entryFrame m #[(.int x0)] maxLocals)) (T15.setTop (mkF m 44 #[.val (.int x0), .val (.int i), .val (.ref sL), .val (.ref t0), .val (.int (0 : Int32))] [(.ref sL)])) := st17.trans (by
        show Steps p.tables e below (T15.setTop (mkF m 33 #[.val (.int x0), .val (.int i), .val (.ref sL), .val (.ref t0), .unset] [(.int (62 : Int32)), (.int (F5 (0 : Int32) [(60 : Int32)]))])) _
        refine XS.icmpYes X15.here hx rfl (pc0 := 33) (pc' := 40) rfl (hb hby at_33) rfl (feq hf18).2 (by decide) (by decide) ?_
        show Steps p.tables e below (T15.setTop (mkF m 40 #[.val (.int x0), .val (.int i), .val (.ref sL), .val (.ref t0), .unset] [])) _
        refine XS.iconst X15.here hx rfl (hb hby at_40) ?_
        show Steps p.tables e below (T15.setTop (mkF m 41 #[.val (.int x0), .val (.int i), .val (.ref sL), .val (.ref t0), .unset] [(.int (0 : Int32))])) _
        refine XS.istore X15.here hx rfl (hb hby at_41) rfl (l' := #[.val (.int x0), .val (.int i), .val (.ref sL), .val (.ref t0), .val (.int (0 : Int32))]) rfl ?_
        show Steps p.tables e below (T15.setTop (mkF m 43 #[.val (.int x0), .val (.int i), .val (.ref sL), .val (.ref t0), .val (.int (0 : Int32))] [])) _
        refine XS.aloadN X15.here hx rfl (hb hby at_43) rfl rfl ?_
        exact Steps.refl _)
    obtain ⟨cq20, kq20, q20a, q20b, q20c⟩ := isOf hZ hh15 E_0
    obtain ⟨_, _, ⟨T20, L20, k20, n20⟩, -, X20, ⟨Lc20, hQ20, l20, y20, z20⟩, sr20⟩ := X15.virtualBack hx (y := (⟨"com/example/treeline/treeline/simple/Relation", "swapsSides", "()Z"⟩ : MethodName)) (z := (⟨"com/example/treeline/treeline/simple/Relation", "swapsSides", "()Z"⟩ : MethodName)) hown (mvT hZ (hw _ (List.mem_of_getElem? (i := 53) rfl))) (mvT hZ (hw _ (List.mem_of_getElem? (i := 54) rfl))) (notFace_of_selects (args := #[]) (mvT hZ (hw _ (List.mem_of_getElem? (i := 56) rfl)))) (mvT hZ (hw _ (List.mem_of_getElem? (i := 56) rfl))) (mvT hZ (hw _ (List.mem_of_getElem? (i := 55) rfl))) (by decide) (backOf (W := 0) (rm10 l Z a0 hw [] sL sG sH h0 n0 Z0 S_1 S_3) hZ (hw _ (List.mem_of_getElem? (i := 57) rfl)) (hw _ (List.mem_of_getElem? (i := 6) rfl)) (by decide) (by decide)) q20a q20c (g := (mkF m 44 #[.val (.int x0), .val (.int i), .val (.ref sL), .val (.ref t0), .val (.int (0 : Int32))] [(.ref sL)])) rfl (by rw [hml]; rfl) (Steps.refl _) (argsL := []) (rest := []) (lenOf pd_3 rfl) rfl (by show 2 * 0 + _ ≤ _; exact Nat.le_of_eq rfl) (hb hby at_44) (fun _ _ => ⟨rfl, hh15, (by decide : 0 + 0 ≤ _), (by decide : 0 + 0 ≤ _)⟩)
    dsimp only [Pt.U, Pt.locs, Pt.cells, Pt.slots] at X20 l20 y20 z20 sr20 hQ20
    subst l20 y20 z20
    obtain ⟨rfl, N20q, hh20⟩ := hQ20
    have N20 := Fr.app N15 N20q
    have st21 : Steps p.tables e below (s₁.setTop (entryFrame m #[(.int x0)] maxLocals)) (T20.setTop (mkF m 47 #[.val (.int x0), .val (.int i), .val (.ref sL), .val (.ref t0), .val (.int (0 : Int32))] [(.int (F10 sL sG sH))])) := st19.trans (sr20)
    have st22 : Steps p.tables e below (s₁.setTop (entryFrame m #[(.int x0)] maxLocals)) (T20.setTop (mkF m 49 #[.val (.int x0), .val (.int i), .val (.ref sL), .val (.ref t0), .val (.int (0 : Int32))] [(.int (0 : Int32)), (.int (F10 sL sG sH))])) := st21.trans (by
        show Steps p.tables e below (T20.setTop (mkF m 47 #[.val (.int x0), .val (.int i), .val (.ref sL), .val (.ref t0), .val (.int (0 : Int32))] [(.int (F10 sL sG sH))])) _
        refine XS.iload X20.here hx rfl (hb hby at_47) rfl ?_
        exact Steps.refl _)
    have hf23 : (F10 sL sG sH) = (0 : Int32) := by rw [F10, if_neg neG_sL, if_neg neH_sL]
    have st24 : Steps p.tables e below (s₁.setTop (entryFrame m #[(.int x0)] maxLocals)) (T20.setTop (mkF m 57 #[.val (.int x0), .val (.int i), .val (.ref sL), .val (.ref t0), .val (.int (0 : Int32))] [(.int (1 : Int32))])) := st22.trans (by
        show Steps p.tables e below (T20.setTop (mkF m 49 #[.val (.int x0), .val (.int i), .val (.ref sL), .val (.ref t0), .val (.int (0 : Int32))] [(.int (0 : Int32)), (.int (F10 sL sG sH))])) _
        refine XS.icmpNo X20.here hx rfl (hb hby at_49) rfl (teq hf23).2 ?_
        show Steps p.tables e below (T20.setTop (mkF m 52 #[.val (.int x0), .val (.int i), .val (.ref sL), .val (.ref t0), .val (.int (0 : Int32))] [])) _
        refine XS.iconst X20.here hx rfl (hb hby at_52) ?_
        show Steps p.tables e below (T20.setTop (mkF m 53 #[.val (.int x0), .val (.int i), .val (.ref sL), .val (.ref t0), .val (.int (0 : Int32))] [(.int (1 : Int32))])) _
        refine XS.goto X20.here hx rfl (pc0 := 53) (pc' := 57) rfl (hb hby at_53) (by decide) (by decide) ?_
        exact Steps.refl _)
    obtain ⟨fs, hr, hrun, hended, hW, hsame⟩ := X20.leave (v := some (.int (1 : Int32))) (fun h => by rw [Bd.returns] at h; cases h)
    refine ⟨_, _, st24.trans ?_, hrun, hended, _, _, rfl, ?_, ⟨_, rfl⟩, hW, hsame.mono (by decide) (by decide)⟩
    · exact retN X20 hx (t := .boolean) Bd.returns (by simp) (hb hby at_57) hr
    · show Q0 Z x0 cs sf sL sG sM sH sE sN t0 u0 k0 t1 u1 k1 t2 u2 k2 t3 u3 k3 t4 u4 k4 t5 u5 k5 h0 n0 _ T20.heap _
      rw [hh20]
      exact ⟨rfl, N20⟩
  · by_cases hc25 : i = (1 : Int32)
    · 
      obtain ⟨_, _, ⟨T26, L26, k26, n26⟩, -, X26, ⟨Lc26, hQ26, l26, y26, z26⟩, sr26⟩ := Jvm.LawKit.callS X0 hx (y := (⟨"com/example/treeline/treeline/simple/RelationSwapsSidesPinLaw", "pick", "(I)Lcom/example/treeline/treeline/simple/Relation;"⟩ : MethodName)) hown (mvT hZ (hw _ (List.mem_of_getElem? (i := 1) rfl))) (mvT hZ (hw _ (List.mem_of_getElem? (i := 2) rfl))) (mvT hZ (hw _ (List.mem_of_getElem? (i := 3) rfl))) (mvT hZ (hw _ (List.mem_of_getElem? (i := 4) rfl))) (by decide) (backOf (W := 0) (rm1 l Z a0 hw [] i sL sG sM sH sE sN h0 n0 Z0 S_0 S_1 S_2 S_3 S_4 S_5) hZ (hw _ (List.mem_of_getElem? (i := 4) rfl)) (hw _ (List.mem_of_getElem? (i := 3) rfl)) (by decide) (by decide)) (g := (mkF m 9 #[.val (.int x0), .val (.int i), .unset, .unset, .unset] [(.int i)])) rfl (by rw [hml]; rfl) (argsL := [(.int i)]) (rest := []) (lenOf pd_5 rfl) rfl (by show 2 * 0 + _ ≤ _; exact Nat.le_of_eq rfl) (hb hby at_9) (fun _ _ => ⟨rfl, e0, (by decide : 0 + 0 ≤ _), (by decide : 0 + 0 ≤ _)⟩)
      dsimp only [Pt.U, Pt.locs, Pt.cells, Pt.slots] at X26 l26 y26 z26 sr26 hQ26
      subst l26 y26 z26
      obtain ⟨rfl, N26q, hh26⟩ := hQ26
      have N26 := Fr.app N0 N26q
      have st27 : Steps p.tables e below (s₁.setTop (entryFrame m #[(.int x0)] maxLocals)) (T26.setTop (mkF m 12 #[.val (.int x0), .val (.int i), .unset, .unset, .unset] [(.ref (F1 i sL sG sM sH sE sN))])) := st2.trans (sr26 _ (Steps.refl _))
      have hpk : (F1 i sL sG sM sH sE sN) = sG := by rw [F1, if_neg hc3, if_pos hc25]
      rw [hpk] at st27
      have st28 : Steps p.tables e below (s₁.setTop (entryFrame m #[(.int x0)] maxLocals)) (T26.setTop (mkF m 14 #[.val (.int x0), .val (.int i), .val (.ref sG), .unset, .unset] [(.ref sG)])) := st27.trans (by
          show Steps p.tables e below (T26.setTop (mkF m 12 #[.val (.int x0), .val (.int i), .unset, .unset, .unset] [(.ref sG)])) _
          refine XS.astoreN X26.here hx rfl (hb hby at_12) rfl rfl (l' := #[.val (.int x0), .val (.int i), .val (.ref sG), .unset, .unset]) rfl ?_
          show Steps p.tables e below (T26.setTop (mkF m 13 #[.val (.int x0), .val (.int i), .val (.ref sG), .unset, .unset] [])) _
          refine XS.aloadN X26.here hx rfl (hb hby at_13) rfl rfl ?_
          exact Steps.refl _)
      obtain ⟨cq29, kq29, q29a, q29b, q29c⟩ := isOf hZ hh26 E_1
      obtain ⟨_, _, ⟨T29, L29, k29, n29⟩, -, X29, ⟨Lc29, hQ29, l29, y29, z29⟩, sr29⟩ := X26.virtualBack hx (y := (⟨"com/example/treeline/treeline/simple/Relation", "symbol", "()Ljava/lang/String;"⟩ : MethodName)) (z := (⟨"com/example/treeline/treeline/simple/Relation", "symbol", "()Ljava/lang/String;"⟩ : MethodName)) hown (mvT hZ (hw _ (List.mem_of_getElem? (i := 8) rfl))) (mvT hZ (hw _ (List.mem_of_getElem? (i := 9) rfl))) (notFace_of_selects (args := #[]) (mvT hZ (hw _ (List.mem_of_getElem? (i := 11) rfl)))) (mvT hZ (hw _ (List.mem_of_getElem? (i := 11) rfl))) (mvT hZ (hw _ (List.mem_of_getElem? (i := 10) rfl))) (by decide) (backOf (W := 0) (rm2 l Z a0 hw [] sG t1 h0 n0 Z0 F_1) hZ (hw _ (List.mem_of_getElem? (i := 12) rfl)) (hw _ (List.mem_of_getElem? (i := 6) rfl)) (by decide) (by decide)) q29a q29c (g := (mkF m 14 #[.val (.int x0), .val (.int i), .val (.ref sG), .unset, .unset] [(.ref sG)])) rfl (by rw [hml]; rfl) (Steps.refl _) (argsL := []) (rest := []) (lenOf pd_6 rfl) rfl (by show 2 * 0 + _ ≤ _; exact Nat.le_of_eq rfl) (hb hby at_14) (fun _ _ => ⟨rfl, hh26, (by decide : 0 + 0 ≤ _), (by decide : 0 + 0 ≤ _)⟩)
      dsimp only [Pt.U, Pt.locs, Pt.cells, Pt.slots] at X29 l29 y29 z29 sr29 hQ29
      subst l29 y29 z29
      obtain ⟨rfl, N29q, hh29⟩ := hQ29
      have N29 := Fr.app N26 N29q
      have st30 : Steps p.tables e below (s₁.setTop (entryFrame m #[(.int x0)] maxLocals)) (T29.setTop (mkF m 17 #[.val (.int x0), .val (.int i), .val (.ref sG), .unset, .unset] [(.ref t1)])) := st28.trans (sr29)
      have st31 : Steps p.tables e below (s₁.setTop (entryFrame m #[(.int x0)] maxLocals)) (T29.setTop (mkF m 19 #[.val (.int x0), .val (.int i), .val (.ref sG), .val (.ref t1), .unset] [(.ref t1)])) := st30.trans (by
          show Steps p.tables e below (T29.setTop (mkF m 17 #[.val (.int x0), .val (.int i), .val (.ref sG), .unset, .unset] [(.ref t1)])) _
          refine XS.astoreN X29.here hx rfl (hb hby at_17) rfl rfl (l' := #[.val (.int x0), .val (.int i), .val (.ref sG), .val (.ref t1), .unset]) rfl ?_
          show Steps p.tables e below (T29.setTop (mkF m 18 #[.val (.int x0), .val (.int i), .val (.ref sG), .val (.ref t1), .unset] [])) _
          refine XS.aloadN X29.here hx rfl (hb hby at_18) rfl rfl ?_
          exact Steps.refl _)
      obtain ⟨cq32, kq32, q32a, q32b, q32c⟩ := isOf hZ hh29 Et_1
      obtain ⟨_, _, ⟨T32, L32, k32, n32⟩, -, X32, ⟨Lc32, hQ32, l32, y32, z32⟩, sr32⟩ := X29.virtualBack hx (y := (⟨"java/lang/String", "length", "()I"⟩ : MethodName)) (z := (⟨"java/lang/String", "length", "()I"⟩ : MethodName)) hown (mvT hZ (hw _ (List.mem_of_getElem? (i := 15) rfl))) (mvT hZ (hw _ (List.mem_of_getElem? (i := 16) rfl))) (notFace_of_selects (args := #[]) (mvT hZ (hw _ (List.mem_of_getElem? (i := 18) rfl)))) (mvT hZ (hw _ (List.mem_of_getElem? (i := 18) rfl))) (mvT hZ (hw _ (List.mem_of_getElem? (i := 17) rfl))) (by decide) (backOf (W := 0) (rm3 l Z a0 hw [] t1 cs u1 k1 (1 : Int32) ([(62 : Int32)]) h0 n0 Z0 S_c hcs Et_1 Fv_1 Fc_1 A_1) hZ (hw _ (List.mem_of_getElem? (i := 20) rfl)) (hw _ (List.mem_of_getElem? (i := 19) rfl)) (by decide) (by decide)) q32a q32c (g := (mkF m 19 #[.val (.int x0), .val (.int i), .val (.ref sG), .val (.ref t1), .unset] [(.ref t1)])) rfl (by rw [hml]; rfl) (Steps.refl _) (argsL := []) (rest := []) (lenOf pd_7 rfl) rfl (by show 2 * 0 + _ ≤ _; exact Nat.le_of_eq rfl) (hb hby at_19) (fun _ _ => ⟨rfl, hh29, (by decide : 0 + 0 ≤ _), (by decide : 0 + 0 ≤ _)⟩)
      dsimp only [Pt.U, Pt.locs, Pt.cells, Pt.slots] at X32 l32 y32 z32 sr32 hQ32
      subst l32 y32 z32
      obtain ⟨rfl, N32q, hh32⟩ := hQ32
      have N32 := Fr.app N29 N32q
      have st33 : Steps p.tables e below (s₁.setTop (entryFrame m #[(.int x0)] maxLocals)) (T32.setTop (mkF m 22 #[.val (.int x0), .val (.int i), .val (.ref sG), .val (.ref t1), .unset] [(.int (F3 (1 : Int32)))])) := st31.trans (sr32)
      have st34 : Steps p.tables e below (s₁.setTop (entryFrame m #[(.int x0)] maxLocals)) (T32.setTop (mkF m 23 #[.val (.int x0), .val (.int i), .val (.ref sG), .val (.ref t1), .unset] [(.int (1 : Int32)), (.int (F3 (1 : Int32)))])) := st33.trans (by
          show Steps p.tables e below (T32.setTop (mkF m 22 #[.val (.int x0), .val (.int i), .val (.ref sG), .val (.ref t1), .unset] [(.int (F3 (1 : Int32)))])) _
          refine XS.iconst X32.here hx rfl (hb hby at_22) ?_
          exact Steps.refl _)
      have hf35 : ¬ ((F3 (1 : Int32)) < (1 : Int32)) := by decide +kernel
      have st36 : Steps p.tables e below (s₁.setTop (entryFrame m #[(.int x0)] maxLocals)) (T32.setTop (mkF m 28 #[.val (.int x0), .val (.int i), .val (.ref sG), .val (.ref t1), .unset] [(.int (0 : Int32)), (.ref t1)])) := st34.trans (by
          show Steps p.tables e below (T32.setTop (mkF m 23 #[.val (.int x0), .val (.int i), .val (.ref sG), .val (.ref t1), .unset] [(.int (1 : Int32)), (.int (F3 (1 : Int32)))])) _
          refine XS.icmpNo X32.here hx rfl (hb hby at_23) rfl (flt hf35).1 ?_
          show Steps p.tables e below (T32.setTop (mkF m 26 #[.val (.int x0), .val (.int i), .val (.ref sG), .val (.ref t1), .unset] [])) _
          refine XS.aloadN X32.here hx rfl (hb hby at_26) rfl rfl ?_
          show Steps p.tables e below (T32.setTop (mkF m 27 #[.val (.int x0), .val (.int i), .val (.ref sG), .val (.ref t1), .unset] [(.ref t1)])) _
          refine XS.iconst X32.here hx rfl (hb hby at_27) ?_
          exact Steps.refl _)
      obtain ⟨cq37, kq37, q37a, q37b, q37c⟩ := isOf hZ hh32 Et_1
      obtain ⟨_, _, ⟨T37, L37, k37, n37⟩, -, X37, ⟨Lc37, hQ37, l37, y37, z37⟩, sr37⟩ := X32.virtualBack hx (y := (⟨"java/lang/String", "charAt", "(I)C"⟩ : MethodName)) (z := (⟨"java/lang/String", "charAt", "(I)C"⟩ : MethodName)) hown (mvT hZ (hw _ (List.mem_of_getElem? (i := 31) rfl))) (mvT hZ (hw _ (List.mem_of_getElem? (i := 32) rfl))) (notFace_of_selects (args := #[]) (mvT hZ (hw _ (List.mem_of_getElem? (i := 34) rfl)))) (mvT hZ (hw _ (List.mem_of_getElem? (i := 34) rfl))) (mvT hZ (hw _ (List.mem_of_getElem? (i := 33) rfl))) (by decide) (backOf (W := 0) (rm5 l Z a0 hw [] t1 (0 : Int32) cs sf u1 k1 (1 : Int32) ([(62 : Int32)]) h0 n0 Z0 S_c hcs S_f hsf Et_1 Fv_1 Fc_1 A_1 (by decide)) hZ (hw _ (List.mem_of_getElem? (i := 35) rfl)) (hw _ (List.mem_of_getElem? (i := 19) rfl)) (by decide) (by decide)) q37a q37c (g := (mkF m 28 #[.val (.int x0), .val (.int i), .val (.ref sG), .val (.ref t1), .unset] [(.int (0 : Int32)), (.ref t1)])) rfl (by rw [hml]; rfl) (Steps.refl _) (argsL := [(.int (0 : Int32))]) (rest := []) (lenOf pd_8 rfl) rfl (by show 2 * 0 + _ ≤ _; exact Nat.le_of_eq rfl) (hb hby at_28) (fun _ _ => ⟨rfl, hh32, (by decide : 0 + 0 ≤ _), (by decide : 0 + 0 ≤ _)⟩)
      dsimp only [Pt.U, Pt.locs, Pt.cells, Pt.slots] at X37 l37 y37 z37 sr37 hQ37
      subst l37 y37 z37
      obtain ⟨rfl, N37q, hh37⟩ := hQ37
      have N37 := Fr.app N32 N37q
      have st38 : Steps p.tables e below (s₁.setTop (entryFrame m #[(.int x0)] maxLocals)) (T37.setTop (mkF m 31 #[.val (.int x0), .val (.int i), .val (.ref sG), .val (.ref t1), .unset] [(.int (F5 (0 : Int32) [(62 : Int32)]))])) := st36.trans (sr37)
      have st39 : Steps p.tables e below (s₁.setTop (entryFrame m #[(.int x0)] maxLocals)) (T37.setTop (mkF m 33 #[.val (.int x0), .val (.int i), .val (.ref sG), .val (.ref t1), .unset] [(.int (62 : Int32)), (.int (F5 (0 : Int32) [(62 : Int32)]))])) := st38.trans (by
          show Steps p.tables e below (T37.setTop (mkF m 31 #[.val (.int x0), .val (.int i), .val (.ref sG), .val (.ref t1), .unset] [(.int (F5 (0 : Int32) [(62 : Int32)]))])) _
          refine XS.bipush X37.here hx rfl (hb hby at_31) ?_
          exact Steps.refl _)
      have hf40 : (F5 (0 : Int32) [(62 : Int32)]) = (62 : Int32) := by decide +kernel
      have st41 : Steps p.tables e below (s₁.setTop (entryFrame m #[(.int x0)] maxLocals)) (T37.setTop (mkF m 44 #[.val (.int x0), .val (.int i), .val (.ref sG), .val (.ref t1), .val (.int (1 : Int32))] [(.ref sG)])) := st39.trans (by
          show Steps p.tables e below (T37.setTop (mkF m 33 #[.val (.int x0), .val (.int i), .val (.ref sG), .val (.ref t1), .unset] [(.int (62 : Int32)), (.int (F5 (0 : Int32) [(62 : Int32)]))])) _
          refine XS.icmpNo X37.here hx rfl (hb hby at_33) rfl (teq hf40).2 ?_
          show Steps p.tables e below (T37.setTop (mkF m 36 #[.val (.int x0), .val (.int i), .val (.ref sG), .val (.ref t1), .unset] [])) _
          refine XS.iconst X37.here hx rfl (hb hby at_36) ?_
          show Steps p.tables e below (T37.setTop (mkF m 37 #[.val (.int x0), .val (.int i), .val (.ref sG), .val (.ref t1), .unset] [(.int (1 : Int32))])) _
          refine XS.goto X37.here hx rfl (pc0 := 37) (pc' := 41) rfl (hb hby at_37) (by decide) (by decide) ?_
          show Steps p.tables e below (T37.setTop (mkF m 41 #[.val (.int x0), .val (.int i), .val (.ref sG), .val (.ref t1), .unset] [(.int (1 : Int32))])) _
          refine XS.istore X37.here hx rfl (hb hby at_41) rfl (l' := #[.val (.int x0), .val (.int i), .val (.ref sG), .val (.ref t1), .val (.int (1 : Int32))]) rfl ?_
          show Steps p.tables e below (T37.setTop (mkF m 43 #[.val (.int x0), .val (.int i), .val (.ref sG), .val (.ref t1), .val (.int (1 : Int32))] [])) _
          refine XS.aloadN X37.here hx rfl (hb hby at_43) rfl rfl ?_
          exact Steps.refl _)
      obtain ⟨cq42, kq42, q42a, q42b, q42c⟩ := isOf hZ hh37 E_1
      obtain ⟨_, _, ⟨T42, L42, k42, n42⟩, -, X42, ⟨Lc42, hQ42, l42, y42, z42⟩, sr42⟩ := X37.virtualBack hx (y := (⟨"com/example/treeline/treeline/simple/Relation", "swapsSides", "()Z"⟩ : MethodName)) (z := (⟨"com/example/treeline/treeline/simple/Relation", "swapsSides", "()Z"⟩ : MethodName)) hown (mvT hZ (hw _ (List.mem_of_getElem? (i := 53) rfl))) (mvT hZ (hw _ (List.mem_of_getElem? (i := 54) rfl))) (notFace_of_selects (args := #[]) (mvT hZ (hw _ (List.mem_of_getElem? (i := 56) rfl)))) (mvT hZ (hw _ (List.mem_of_getElem? (i := 56) rfl))) (mvT hZ (hw _ (List.mem_of_getElem? (i := 55) rfl))) (by decide) (backOf (W := 0) (rm10 l Z a0 hw [] sG sG sH h0 n0 Z0 S_1 S_3) hZ (hw _ (List.mem_of_getElem? (i := 57) rfl)) (hw _ (List.mem_of_getElem? (i := 6) rfl)) (by decide) (by decide)) q42a q42c (g := (mkF m 44 #[.val (.int x0), .val (.int i), .val (.ref sG), .val (.ref t1), .val (.int (1 : Int32))] [(.ref sG)])) rfl (by rw [hml]; rfl) (Steps.refl _) (argsL := []) (rest := []) (lenOf pd_3 rfl) rfl (by show 2 * 0 + _ ≤ _; exact Nat.le_of_eq rfl) (hb hby at_44) (fun _ _ => ⟨rfl, hh37, (by decide : 0 + 0 ≤ _), (by decide : 0 + 0 ≤ _)⟩)
      dsimp only [Pt.U, Pt.locs, Pt.cells, Pt.slots] at X42 l42 y42 z42 sr42 hQ42
      subst l42 y42 z42
      obtain ⟨rfl, N42q, hh42⟩ := hQ42
      have N42 := Fr.app N37 N42q
      have st43 : Steps p.tables e below (s₁.setTop (entryFrame m #[(.int x0)] maxLocals)) (T42.setTop (mkF m 47 #[.val (.int x0), .val (.int i), .val (.ref sG), .val (.ref t1), .val (.int (1 : Int32))] [(.int (F10 sG sG sH))])) := st41.trans (sr42)
      have st44 : Steps p.tables e below (s₁.setTop (entryFrame m #[(.int x0)] maxLocals)) (T42.setTop (mkF m 49 #[.val (.int x0), .val (.int i), .val (.ref sG), .val (.ref t1), .val (.int (1 : Int32))] [(.int (1 : Int32)), (.int (F10 sG sG sH))])) := st43.trans (by
          show Steps p.tables e below (T42.setTop (mkF m 47 #[.val (.int x0), .val (.int i), .val (.ref sG), .val (.ref t1), .val (.int (1 : Int32))] [(.int (F10 sG sG sH))])) _
          refine XS.iload X42.here hx rfl (hb hby at_47) rfl ?_
          exact Steps.refl _)
      have hf45 : (F10 sG sG sH) = (1 : Int32) := by rw [F10, if_pos rfl]
      have st46 : Steps p.tables e below (s₁.setTop (entryFrame m #[(.int x0)] maxLocals)) (T42.setTop (mkF m 57 #[.val (.int x0), .val (.int i), .val (.ref sG), .val (.ref t1), .val (.int (1 : Int32))] [(.int (1 : Int32))])) := st44.trans (by
          show Steps p.tables e below (T42.setTop (mkF m 49 #[.val (.int x0), .val (.int i), .val (.ref sG), .val (.ref t1), .val (.int (1 : Int32))] [(.int (1 : Int32)), (.int (F10 sG sG sH))])) _
          refine XS.icmpNo X42.here hx rfl (hb hby at_49) rfl (teq hf45).2 ?_
          show Steps p.tables e below (T42.setTop (mkF m 52 #[.val (.int x0), .val (.int i), .val (.ref sG), .val (.ref t1), .val (.int (1 : Int32))] [])) _
          refine XS.iconst X42.here hx rfl (hb hby at_52) ?_
          show Steps p.tables e below (T42.setTop (mkF m 53 #[.val (.int x0), .val (.int i), .val (.ref sG), .val (.ref t1), .val (.int (1 : Int32))] [(.int (1 : Int32))])) _
          refine XS.goto X42.here hx rfl (pc0 := 53) (pc' := 57) rfl (hb hby at_53) (by decide) (by decide) ?_
          exact Steps.refl _)
      obtain ⟨fs, hr, hrun, hended, hW, hsame⟩ := X42.leave (v := some (.int (1 : Int32))) (fun h => by rw [Bd.returns] at h; cases h)
      refine ⟨_, _, st46.trans ?_, hrun, hended, _, _, rfl, ?_, ⟨_, rfl⟩, hW, hsame.mono (by decide) (by decide)⟩
      · exact retN X42 hx (t := .boolean) Bd.returns (by simp) (hb hby at_57) hr
      · show Q0 Z x0 cs sf sL sG sM sH sE sN t0 u0 k0 t1 u1 k1 t2 u2 k2 t3 u3 k3 t4 u4 k4 t5 u5 k5 h0 n0 _ T42.heap _
        rw [hh42]
        exact ⟨rfl, N42⟩
    · by_cases hc47 : i = (2 : Int32)
      · 
        obtain ⟨_, _, ⟨T48, L48, k48, n48⟩, -, X48, ⟨Lc48, hQ48, l48, y48, z48⟩, sr48⟩ := Jvm.LawKit.callS X0 hx (y := (⟨"com/example/treeline/treeline/simple/RelationSwapsSidesPinLaw", "pick", "(I)Lcom/example/treeline/treeline/simple/Relation;"⟩ : MethodName)) hown (mvT hZ (hw _ (List.mem_of_getElem? (i := 1) rfl))) (mvT hZ (hw _ (List.mem_of_getElem? (i := 2) rfl))) (mvT hZ (hw _ (List.mem_of_getElem? (i := 3) rfl))) (mvT hZ (hw _ (List.mem_of_getElem? (i := 4) rfl))) (by decide) (backOf (W := 0) (rm1 l Z a0 hw [] i sL sG sM sH sE sN h0 n0 Z0 S_0 S_1 S_2 S_3 S_4 S_5) hZ (hw _ (List.mem_of_getElem? (i := 4) rfl)) (hw _ (List.mem_of_getElem? (i := 3) rfl)) (by decide) (by decide)) (g := (mkF m 9 #[.val (.int x0), .val (.int i), .unset, .unset, .unset] [(.int i)])) rfl (by rw [hml]; rfl) (argsL := [(.int i)]) (rest := []) (lenOf pd_5 rfl) rfl (by show 2 * 0 + _ ≤ _; exact Nat.le_of_eq rfl) (hb hby at_9) (fun _ _ => ⟨rfl, e0, (by decide : 0 + 0 ≤ _), (by decide : 0 + 0 ≤ _)⟩)
        dsimp only [Pt.U, Pt.locs, Pt.cells, Pt.slots] at X48 l48 y48 z48 sr48 hQ48
        subst l48 y48 z48
        obtain ⟨rfl, N48q, hh48⟩ := hQ48
        have N48 := Fr.app N0 N48q
        have st49 : Steps p.tables e below (s₁.setTop (entryFrame m #[(.int x0)] maxLocals)) (T48.setTop (mkF m 12 #[.val (.int x0), .val (.int i), .unset, .unset, .unset] [(.ref (F1 i sL sG sM sH sE sN))])) := st2.trans (sr48 _ (Steps.refl _))
        have hpk : (F1 i sL sG sM sH sE sN) = sM := by rw [F1, if_neg hc3, if_neg hc25, if_pos hc47]
        rw [hpk] at st49
        have st50 : Steps p.tables e below (s₁.setTop (entryFrame m #[(.int x0)] maxLocals)) (T48.setTop (mkF m 14 #[.val (.int x0), .val (.int i), .val (.ref sM), .unset, .unset] [(.ref sM)])) := st49.trans (by
            show Steps p.tables e below (T48.setTop (mkF m 12 #[.val (.int x0), .val (.int i), .unset, .unset, .unset] [(.ref sM)])) _
            refine XS.astoreN X48.here hx rfl (hb hby at_12) rfl rfl (l' := #[.val (.int x0), .val (.int i), .val (.ref sM), .unset, .unset]) rfl ?_
            show Steps p.tables e below (T48.setTop (mkF m 13 #[.val (.int x0), .val (.int i), .val (.ref sM), .unset, .unset] [])) _
            refine XS.aloadN X48.here hx rfl (hb hby at_13) rfl rfl ?_
            exact Steps.refl _)
        obtain ⟨cq51, kq51, q51a, q51b, q51c⟩ := isOf hZ hh48 E_2
        obtain ⟨_, _, ⟨T51, L51, k51, n51⟩, -, X51, ⟨Lc51, hQ51, l51, y51, z51⟩, sr51⟩ := X48.virtualBack hx (y := (⟨"com/example/treeline/treeline/simple/Relation", "symbol", "()Ljava/lang/String;"⟩ : MethodName)) (z := (⟨"com/example/treeline/treeline/simple/Relation", "symbol", "()Ljava/lang/String;"⟩ : MethodName)) hown (mvT hZ (hw _ (List.mem_of_getElem? (i := 8) rfl))) (mvT hZ (hw _ (List.mem_of_getElem? (i := 9) rfl))) (notFace_of_selects (args := #[]) (mvT hZ (hw _ (List.mem_of_getElem? (i := 11) rfl)))) (mvT hZ (hw _ (List.mem_of_getElem? (i := 11) rfl))) (mvT hZ (hw _ (List.mem_of_getElem? (i := 10) rfl))) (by decide) (backOf (W := 0) (rm2 l Z a0 hw [] sM t2 h0 n0 Z0 F_2) hZ (hw _ (List.mem_of_getElem? (i := 12) rfl)) (hw _ (List.mem_of_getElem? (i := 6) rfl)) (by decide) (by decide)) q51a q51c (g := (mkF m 14 #[.val (.int x0), .val (.int i), .val (.ref sM), .unset, .unset] [(.ref sM)])) rfl (by rw [hml]; rfl) (Steps.refl _) (argsL := []) (rest := []) (lenOf pd_6 rfl) rfl (by show 2 * 0 + _ ≤ _; exact Nat.le_of_eq rfl) (hb hby at_14) (fun _ _ => ⟨rfl, hh48, (by decide : 0 + 0 ≤ _), (by decide : 0 + 0 ≤ _)⟩)
        dsimp only [Pt.U, Pt.locs, Pt.cells, Pt.slots] at X51 l51 y51 z51 sr51 hQ51
        subst l51 y51 z51
        obtain ⟨rfl, N51q, hh51⟩ := hQ51
        have N51 := Fr.app N48 N51q
        have st52 : Steps p.tables e below (s₁.setTop (entryFrame m #[(.int x0)] maxLocals)) (T51.setTop (mkF m 17 #[.val (.int x0), .val (.int i), .val (.ref sM), .unset, .unset] [(.ref t2)])) := st50.trans (sr51)
        have st53 : Steps p.tables e below (s₁.setTop (entryFrame m #[(.int x0)] maxLocals)) (T51.setTop (mkF m 19 #[.val (.int x0), .val (.int i), .val (.ref sM), .val (.ref t2), .unset] [(.ref t2)])) := st52.trans (by
            show Steps p.tables e below (T51.setTop (mkF m 17 #[.val (.int x0), .val (.int i), .val (.ref sM), .unset, .unset] [(.ref t2)])) _
            refine XS.astoreN X51.here hx rfl (hb hby at_17) rfl rfl (l' := #[.val (.int x0), .val (.int i), .val (.ref sM), .val (.ref t2), .unset]) rfl ?_
            show Steps p.tables e below (T51.setTop (mkF m 18 #[.val (.int x0), .val (.int i), .val (.ref sM), .val (.ref t2), .unset] [])) _
            refine XS.aloadN X51.here hx rfl (hb hby at_18) rfl rfl ?_
            exact Steps.refl _)
        obtain ⟨cq54, kq54, q54a, q54b, q54c⟩ := isOf hZ hh51 Et_2
        obtain ⟨_, _, ⟨T54, L54, k54, n54⟩, -, X54, ⟨Lc54, hQ54, l54, y54, z54⟩, sr54⟩ := X51.virtualBack hx (y := (⟨"java/lang/String", "length", "()I"⟩ : MethodName)) (z := (⟨"java/lang/String", "length", "()I"⟩ : MethodName)) hown (mvT hZ (hw _ (List.mem_of_getElem? (i := 15) rfl))) (mvT hZ (hw _ (List.mem_of_getElem? (i := 16) rfl))) (notFace_of_selects (args := #[]) (mvT hZ (hw _ (List.mem_of_getElem? (i := 18) rfl)))) (mvT hZ (hw _ (List.mem_of_getElem? (i := 18) rfl))) (mvT hZ (hw _ (List.mem_of_getElem? (i := 17) rfl))) (by decide) (backOf (W := 0) (rm3 l Z a0 hw [] t2 cs u2 k2 (2 : Int32) ([(60 : Int32), (61 : Int32)]) h0 n0 Z0 S_c hcs Et_2 Fv_2 Fc_2 A_2) hZ (hw _ (List.mem_of_getElem? (i := 20) rfl)) (hw _ (List.mem_of_getElem? (i := 19) rfl)) (by decide) (by decide)) q54a q54c (g := (mkF m 19 #[.val (.int x0), .val (.int i), .val (.ref sM), .val (.ref t2), .unset] [(.ref t2)])) rfl (by rw [hml]; rfl) (Steps.refl _) (argsL := []) (rest := []) (lenOf pd_7 rfl) rfl (by show 2 * 0 + _ ≤ _; exact Nat.le_of_eq rfl) (hb hby at_19) (fun _ _ => ⟨rfl, hh51, (by decide : 0 + 0 ≤ _), (by decide : 0 + 0 ≤ _)⟩)
        dsimp only [Pt.U, Pt.locs, Pt.cells, Pt.slots] at X54 l54 y54 z54 sr54 hQ54
        subst l54 y54 z54
        obtain ⟨rfl, N54q, hh54⟩ := hQ54
        have N54 := Fr.app N51 N54q
        have st55 : Steps p.tables e below (s₁.setTop (entryFrame m #[(.int x0)] maxLocals)) (T54.setTop (mkF m 22 #[.val (.int x0), .val (.int i), .val (.ref sM), .val (.ref t2), .unset] [(.int (F3 (2 : Int32)))])) := st53.trans (sr54)
        have st56 : Steps p.tables e below (s₁.setTop (entryFrame m #[(.int x0)] maxLocals)) (T54.setTop (mkF m 23 #[.val (.int x0), .val (.int i), .val (.ref sM), .val (.ref t2), .unset] [(.int (1 : Int32)), (.int (F3 (2 : Int32)))])) := st55.trans (by
            show Steps p.tables e below (T54.setTop (mkF m 22 #[.val (.int x0), .val (.int i), .val (.ref sM), .val (.ref t2), .unset] [(.int (F3 (2 : Int32)))])) _
            refine XS.iconst X54.here hx rfl (hb hby at_22) ?_
            exact Steps.refl _)
        have hf57 : ¬ ((F3 (2 : Int32)) < (1 : Int32)) := by decide +kernel
        have st58 : Steps p.tables e below (s₁.setTop (entryFrame m #[(.int x0)] maxLocals)) (T54.setTop (mkF m 28 #[.val (.int x0), .val (.int i), .val (.ref sM), .val (.ref t2), .unset] [(.int (0 : Int32)), (.ref t2)])) := st56.trans (by
            show Steps p.tables e below (T54.setTop (mkF m 23 #[.val (.int x0), .val (.int i), .val (.ref sM), .val (.ref t2), .unset] [(.int (1 : Int32)), (.int (F3 (2 : Int32)))])) _
            refine XS.icmpNo X54.here hx rfl (hb hby at_23) rfl (flt hf57).1 ?_
            show Steps p.tables e below (T54.setTop (mkF m 26 #[.val (.int x0), .val (.int i), .val (.ref sM), .val (.ref t2), .unset] [])) _
            refine XS.aloadN X54.here hx rfl (hb hby at_26) rfl rfl ?_
            show Steps p.tables e below (T54.setTop (mkF m 27 #[.val (.int x0), .val (.int i), .val (.ref sM), .val (.ref t2), .unset] [(.ref t2)])) _
            refine XS.iconst X54.here hx rfl (hb hby at_27) ?_
            exact Steps.refl _)
        obtain ⟨cq59, kq59, q59a, q59b, q59c⟩ := isOf hZ hh54 Et_2
        obtain ⟨_, _, ⟨T59, L59, k59, n59⟩, -, X59, ⟨Lc59, hQ59, l59, y59, z59⟩, sr59⟩ := X54.virtualBack hx (y := (⟨"java/lang/String", "charAt", "(I)C"⟩ : MethodName)) (z := (⟨"java/lang/String", "charAt", "(I)C"⟩ : MethodName)) hown (mvT hZ (hw _ (List.mem_of_getElem? (i := 31) rfl))) (mvT hZ (hw _ (List.mem_of_getElem? (i := 32) rfl))) (notFace_of_selects (args := #[]) (mvT hZ (hw _ (List.mem_of_getElem? (i := 34) rfl)))) (mvT hZ (hw _ (List.mem_of_getElem? (i := 34) rfl))) (mvT hZ (hw _ (List.mem_of_getElem? (i := 33) rfl))) (by decide) (backOf (W := 0) (rm5 l Z a0 hw [] t2 (0 : Int32) cs sf u2 k2 (2 : Int32) ([(60 : Int32), (61 : Int32)]) h0 n0 Z0 S_c hcs S_f hsf Et_2 Fv_2 Fc_2 A_2 (by decide)) hZ (hw _ (List.mem_of_getElem? (i := 35) rfl)) (hw _ (List.mem_of_getElem? (i := 19) rfl)) (by decide) (by decide)) q59a q59c (g := (mkF m 28 #[.val (.int x0), .val (.int i), .val (.ref sM), .val (.ref t2), .unset] [(.int (0 : Int32)), (.ref t2)])) rfl (by rw [hml]; rfl) (Steps.refl _) (argsL := [(.int (0 : Int32))]) (rest := []) (lenOf pd_8 rfl) rfl (by show 2 * 0 + _ ≤ _; exact Nat.le_of_eq rfl) (hb hby at_28) (fun _ _ => ⟨rfl, hh54, (by decide : 0 + 0 ≤ _), (by decide : 0 + 0 ≤ _)⟩)
        dsimp only [Pt.U, Pt.locs, Pt.cells, Pt.slots] at X59 l59 y59 z59 sr59 hQ59
        subst l59 y59 z59
        obtain ⟨rfl, N59q, hh59⟩ := hQ59
        have N59 := Fr.app N54 N59q
        have st60 : Steps p.tables e below (s₁.setTop (entryFrame m #[(.int x0)] maxLocals)) (T59.setTop (mkF m 31 #[.val (.int x0), .val (.int i), .val (.ref sM), .val (.ref t2), .unset] [(.int (F5 (0 : Int32) [(60 : Int32), (61 : Int32)]))])) := st58.trans (sr59)
        have st61 : Steps p.tables e below (s₁.setTop (entryFrame m #[(.int x0)] maxLocals)) (T59.setTop (mkF m 33 #[.val (.int x0), .val (.int i), .val (.ref sM), .val (.ref t2), .unset] [(.int (62 : Int32)), (.int (F5 (0 : Int32) [(60 : Int32), (61 : Int32)]))])) := st60.trans (by
            show Steps p.tables e below (T59.setTop (mkF m 31 #[.val (.int x0), .val (.int i), .val (.ref sM), .val (.ref t2), .unset] [(.int (F5 (0 : Int32) [(60 : Int32), (61 : Int32)]))])) _
            refine XS.bipush X59.here hx rfl (hb hby at_31) ?_
            exact Steps.refl _)
        have hf62 : ¬ ((F5 (0 : Int32) [(60 : Int32), (61 : Int32)]) = (62 : Int32)) := by decide +kernel
        have st63 : Steps p.tables e below (s₁.setTop (entryFrame m #[(.int x0)] maxLocals)) (T59.setTop (mkF m 44 #[.val (.int x0), .val (.int i), .val (.ref sM), .val (.ref t2), .val (.int (0 : Int32))] [(.ref sM)])) := st61.trans (by
            show Steps p.tables e below (T59.setTop (mkF m 33 #[.val (.int x0), .val (.int i), .val (.ref sM), .val (.ref t2), .unset] [(.int (62 : Int32)), (.int (F5 (0 : Int32) [(60 : Int32), (61 : Int32)]))])) _
            refine XS.icmpYes X59.here hx rfl (pc0 := 33) (pc' := 40) rfl (hb hby at_33) rfl (feq hf62).2 (by decide) (by decide) ?_
            show Steps p.tables e below (T59.setTop (mkF m 40 #[.val (.int x0), .val (.int i), .val (.ref sM), .val (.ref t2), .unset] [])) _
            refine XS.iconst X59.here hx rfl (hb hby at_40) ?_
            show Steps p.tables e below (T59.setTop (mkF m 41 #[.val (.int x0), .val (.int i), .val (.ref sM), .val (.ref t2), .unset] [(.int (0 : Int32))])) _
            refine XS.istore X59.here hx rfl (hb hby at_41) rfl (l' := #[.val (.int x0), .val (.int i), .val (.ref sM), .val (.ref t2), .val (.int (0 : Int32))]) rfl ?_
            show Steps p.tables e below (T59.setTop (mkF m 43 #[.val (.int x0), .val (.int i), .val (.ref sM), .val (.ref t2), .val (.int (0 : Int32))] [])) _
            refine XS.aloadN X59.here hx rfl (hb hby at_43) rfl rfl ?_
            exact Steps.refl _)
        obtain ⟨cq64, kq64, q64a, q64b, q64c⟩ := isOf hZ hh59 E_2
        obtain ⟨_, _, ⟨T64, L64, k64, n64⟩, -, X64, ⟨Lc64, hQ64, l64, y64, z64⟩, sr64⟩ := X59.virtualBack hx (y := (⟨"com/example/treeline/treeline/simple/Relation", "swapsSides", "()Z"⟩ : MethodName)) (z := (⟨"com/example/treeline/treeline/simple/Relation", "swapsSides", "()Z"⟩ : MethodName)) hown (mvT hZ (hw _ (List.mem_of_getElem? (i := 53) rfl))) (mvT hZ (hw _ (List.mem_of_getElem? (i := 54) rfl))) (notFace_of_selects (args := #[]) (mvT hZ (hw _ (List.mem_of_getElem? (i := 56) rfl)))) (mvT hZ (hw _ (List.mem_of_getElem? (i := 56) rfl))) (mvT hZ (hw _ (List.mem_of_getElem? (i := 55) rfl))) (by decide) (backOf (W := 0) (rm10 l Z a0 hw [] sM sG sH h0 n0 Z0 S_1 S_3) hZ (hw _ (List.mem_of_getElem? (i := 57) rfl)) (hw _ (List.mem_of_getElem? (i := 6) rfl)) (by decide) (by decide)) q64a q64c (g := (mkF m 44 #[.val (.int x0), .val (.int i), .val (.ref sM), .val (.ref t2), .val (.int (0 : Int32))] [(.ref sM)])) rfl (by rw [hml]; rfl) (Steps.refl _) (argsL := []) (rest := []) (lenOf pd_3 rfl) rfl (by show 2 * 0 + _ ≤ _; exact Nat.le_of_eq rfl) (hb hby at_44) (fun _ _ => ⟨rfl, hh59, (by decide : 0 + 0 ≤ _), (by decide : 0 + 0 ≤ _)⟩)
        dsimp only [Pt.U, Pt.locs, Pt.cells, Pt.slots] at X64 l64 y64 z64 sr64 hQ64
        subst l64 y64 z64
        obtain ⟨rfl, N64q, hh64⟩ := hQ64
        have N64 := Fr.app N59 N64q
        have st65 : Steps p.tables e below (s₁.setTop (entryFrame m #[(.int x0)] maxLocals)) (T64.setTop (mkF m 47 #[.val (.int x0), .val (.int i), .val (.ref sM), .val (.ref t2), .val (.int (0 : Int32))] [(.int (F10 sM sG sH))])) := st63.trans (sr64)
        have st66 : Steps p.tables e below (s₁.setTop (entryFrame m #[(.int x0)] maxLocals)) (T64.setTop (mkF m 49 #[.val (.int x0), .val (.int i), .val (.ref sM), .val (.ref t2), .val (.int (0 : Int32))] [(.int (0 : Int32)), (.int (F10 sM sG sH))])) := st65.trans (by
            show Steps p.tables e below (T64.setTop (mkF m 47 #[.val (.int x0), .val (.int i), .val (.ref sM), .val (.ref t2), .val (.int (0 : Int32))] [(.int (F10 sM sG sH))])) _
            refine XS.iload X64.here hx rfl (hb hby at_47) rfl ?_
            exact Steps.refl _)
        have hf67 : (F10 sM sG sH) = (0 : Int32) := by rw [F10, if_neg neG_sM, if_neg neH_sM]
        have st68 : Steps p.tables e below (s₁.setTop (entryFrame m #[(.int x0)] maxLocals)) (T64.setTop (mkF m 57 #[.val (.int x0), .val (.int i), .val (.ref sM), .val (.ref t2), .val (.int (0 : Int32))] [(.int (1 : Int32))])) := st66.trans (by
            show Steps p.tables e below (T64.setTop (mkF m 49 #[.val (.int x0), .val (.int i), .val (.ref sM), .val (.ref t2), .val (.int (0 : Int32))] [(.int (0 : Int32)), (.int (F10 sM sG sH))])) _
            refine XS.icmpNo X64.here hx rfl (hb hby at_49) rfl (teq hf67).2 ?_
            show Steps p.tables e below (T64.setTop (mkF m 52 #[.val (.int x0), .val (.int i), .val (.ref sM), .val (.ref t2), .val (.int (0 : Int32))] [])) _
            refine XS.iconst X64.here hx rfl (hb hby at_52) ?_
            show Steps p.tables e below (T64.setTop (mkF m 53 #[.val (.int x0), .val (.int i), .val (.ref sM), .val (.ref t2), .val (.int (0 : Int32))] [(.int (1 : Int32))])) _
            refine XS.goto X64.here hx rfl (pc0 := 53) (pc' := 57) rfl (hb hby at_53) (by decide) (by decide) ?_
            exact Steps.refl _)
        obtain ⟨fs, hr, hrun, hended, hW, hsame⟩ := X64.leave (v := some (.int (1 : Int32))) (fun h => by rw [Bd.returns] at h; cases h)
        refine ⟨_, _, st68.trans ?_, hrun, hended, _, _, rfl, ?_, ⟨_, rfl⟩, hW, hsame.mono (by decide) (by decide)⟩
        · exact retN X64 hx (t := .boolean) Bd.returns (by simp) (hb hby at_57) hr
        · show Q0 Z x0 cs sf sL sG sM sH sE sN t0 u0 k0 t1 u1 k1 t2 u2 k2 t3 u3 k3 t4 u4 k4 t5 u5 k5 h0 n0 _ T64.heap _
          rw [hh64]
          exact ⟨rfl, N64⟩
      · by_cases hc69 : i = (3 : Int32)
        · 
          obtain ⟨_, _, ⟨T70, L70, k70, n70⟩, -, X70, ⟨Lc70, hQ70, l70, y70, z70⟩, sr70⟩ := Jvm.LawKit.callS X0 hx (y := (⟨"com/example/treeline/treeline/simple/RelationSwapsSidesPinLaw", "pick", "(I)Lcom/example/treeline/treeline/simple/Relation;"⟩ : MethodName)) hown (mvT hZ (hw _ (List.mem_of_getElem? (i := 1) rfl))) (mvT hZ (hw _ (List.mem_of_getElem? (i := 2) rfl))) (mvT hZ (hw _ (List.mem_of_getElem? (i := 3) rfl))) (mvT hZ (hw _ (List.mem_of_getElem? (i := 4) rfl))) (by decide) (backOf (W := 0) (rm1 l Z a0 hw [] i sL sG sM sH sE sN h0 n0 Z0 S_0 S_1 S_2 S_3 S_4 S_5) hZ (hw _ (List.mem_of_getElem? (i := 4) rfl)) (hw _ (List.mem_of_getElem? (i := 3) rfl)) (by decide) (by decide)) (g := (mkF m 9 #[.val (.int x0), .val (.int i), .unset, .unset, .unset] [(.int i)])) rfl (by rw [hml]; rfl) (argsL := [(.int i)]) (rest := []) (lenOf pd_5 rfl) rfl (by show 2 * 0 + _ ≤ _; exact Nat.le_of_eq rfl) (hb hby at_9) (fun _ _ => ⟨rfl, e0, (by decide : 0 + 0 ≤ _), (by decide : 0 + 0 ≤ _)⟩)
          dsimp only [Pt.U, Pt.locs, Pt.cells, Pt.slots] at X70 l70 y70 z70 sr70 hQ70
          subst l70 y70 z70
          obtain ⟨rfl, N70q, hh70⟩ := hQ70
          have N70 := Fr.app N0 N70q
          have st71 : Steps p.tables e below (s₁.setTop (entryFrame m #[(.int x0)] maxLocals)) (T70.setTop (mkF m 12 #[.val (.int x0), .val (.int i), .unset, .unset, .unset] [(.ref (F1 i sL sG sM sH sE sN))])) := st2.trans (sr70 _ (Steps.refl _))
          have hpk : (F1 i sL sG sM sH sE sN) = sH := by rw [F1, if_neg hc3, if_neg hc25, if_neg hc47, if_pos hc69]
          rw [hpk] at st71
          have st72 : Steps p.tables e below (s₁.setTop (entryFrame m #[(.int x0)] maxLocals)) (T70.setTop (mkF m 14 #[.val (.int x0), .val (.int i), .val (.ref sH), .unset, .unset] [(.ref sH)])) := st71.trans (by
              show Steps p.tables e below (T70.setTop (mkF m 12 #[.val (.int x0), .val (.int i), .unset, .unset, .unset] [(.ref sH)])) _
              refine XS.astoreN X70.here hx rfl (hb hby at_12) rfl rfl (l' := #[.val (.int x0), .val (.int i), .val (.ref sH), .unset, .unset]) rfl ?_
              show Steps p.tables e below (T70.setTop (mkF m 13 #[.val (.int x0), .val (.int i), .val (.ref sH), .unset, .unset] [])) _
              refine XS.aloadN X70.here hx rfl (hb hby at_13) rfl rfl ?_
              exact Steps.refl _)
          obtain ⟨cq73, kq73, q73a, q73b, q73c⟩ := isOf hZ hh70 E_3
          obtain ⟨_, _, ⟨T73, L73, k73, n73⟩, -, X73, ⟨Lc73, hQ73, l73, y73, z73⟩, sr73⟩ := X70.virtualBack hx (y := (⟨"com/example/treeline/treeline/simple/Relation", "symbol", "()Ljava/lang/String;"⟩ : MethodName)) (z := (⟨"com/example/treeline/treeline/simple/Relation", "symbol", "()Ljava/lang/String;"⟩ : MethodName)) hown (mvT hZ (hw _ (List.mem_of_getElem? (i := 8) rfl))) (mvT hZ (hw _ (List.mem_of_getElem? (i := 9) rfl))) (notFace_of_selects (args := #[]) (mvT hZ (hw _ (List.mem_of_getElem? (i := 11) rfl)))) (mvT hZ (hw _ (List.mem_of_getElem? (i := 11) rfl))) (mvT hZ (hw _ (List.mem_of_getElem? (i := 10) rfl))) (by decide) (backOf (W := 0) (rm2 l Z a0 hw [] sH t3 h0 n0 Z0 F_3) hZ (hw _ (List.mem_of_getElem? (i := 12) rfl)) (hw _ (List.mem_of_getElem? (i := 6) rfl)) (by decide) (by decide)) q73a q73c (g := (mkF m 14 #[.val (.int x0), .val (.int i), .val (.ref sH), .unset, .unset] [(.ref sH)])) rfl (by rw [hml]; rfl) (Steps.refl _) (argsL := []) (rest := []) (lenOf pd_6 rfl) rfl (by show 2 * 0 + _ ≤ _; exact Nat.le_of_eq rfl) (hb hby at_14) (fun _ _ => ⟨rfl, hh70, (by decide : 0 + 0 ≤ _), (by decide : 0 + 0 ≤ _)⟩)
          dsimp only [Pt.U, Pt.locs, Pt.cells, Pt.slots] at X73 l73 y73 z73 sr73 hQ73
          subst l73 y73 z73
          obtain ⟨rfl, N73q, hh73⟩ := hQ73
          have N73 := Fr.app N70 N73q
          have st74 : Steps p.tables e below (s₁.setTop (entryFrame m #[(.int x0)] maxLocals)) (T73.setTop (mkF m 17 #[.val (.int x0), .val (.int i), .val (.ref sH), .unset, .unset] [(.ref t3)])) := st72.trans (sr73)
          have st75 : Steps p.tables e below (s₁.setTop (entryFrame m #[(.int x0)] maxLocals)) (T73.setTop (mkF m 19 #[.val (.int x0), .val (.int i), .val (.ref sH), .val (.ref t3), .unset] [(.ref t3)])) := st74.trans (by
              show Steps p.tables e below (T73.setTop (mkF m 17 #[.val (.int x0), .val (.int i), .val (.ref sH), .unset, .unset] [(.ref t3)])) _
              refine XS.astoreN X73.here hx rfl (hb hby at_17) rfl rfl (l' := #[.val (.int x0), .val (.int i), .val (.ref sH), .val (.ref t3), .unset]) rfl ?_
              show Steps p.tables e below (T73.setTop (mkF m 18 #[.val (.int x0), .val (.int i), .val (.ref sH), .val (.ref t3), .unset] [])) _
              refine XS.aloadN X73.here hx rfl (hb hby at_18) rfl rfl ?_
              exact Steps.refl _)
          obtain ⟨cq76, kq76, q76a, q76b, q76c⟩ := isOf hZ hh73 Et_3
          obtain ⟨_, _, ⟨T76, L76, k76, n76⟩, -, X76, ⟨Lc76, hQ76, l76, y76, z76⟩, sr76⟩ := X73.virtualBack hx (y := (⟨"java/lang/String", "length", "()I"⟩ : MethodName)) (z := (⟨"java/lang/String", "length", "()I"⟩ : MethodName)) hown (mvT hZ (hw _ (List.mem_of_getElem? (i := 15) rfl))) (mvT hZ (hw _ (List.mem_of_getElem? (i := 16) rfl))) (notFace_of_selects (args := #[]) (mvT hZ (hw _ (List.mem_of_getElem? (i := 18) rfl)))) (mvT hZ (hw _ (List.mem_of_getElem? (i := 18) rfl))) (mvT hZ (hw _ (List.mem_of_getElem? (i := 17) rfl))) (by decide) (backOf (W := 0) (rm3 l Z a0 hw [] t3 cs u3 k3 (2 : Int32) ([(62 : Int32), (61 : Int32)]) h0 n0 Z0 S_c hcs Et_3 Fv_3 Fc_3 A_3) hZ (hw _ (List.mem_of_getElem? (i := 20) rfl)) (hw _ (List.mem_of_getElem? (i := 19) rfl)) (by decide) (by decide)) q76a q76c (g := (mkF m 19 #[.val (.int x0), .val (.int i), .val (.ref sH), .val (.ref t3), .unset] [(.ref t3)])) rfl (by rw [hml]; rfl) (Steps.refl _) (argsL := []) (rest := []) (lenOf pd_7 rfl) rfl (by show 2 * 0 + _ ≤ _; exact Nat.le_of_eq rfl) (hb hby at_19) (fun _ _ => ⟨rfl, hh73, (by decide : 0 + 0 ≤ _), (by decide : 0 + 0 ≤ _)⟩)
          dsimp only [Pt.U, Pt.locs, Pt.cells, Pt.slots] at X76 l76 y76 z76 sr76 hQ76
          subst l76 y76 z76
          obtain ⟨rfl, N76q, hh76⟩ := hQ76
          have N76 := Fr.app N73 N76q
          have st77 : Steps p.tables e below (s₁.setTop (entryFrame m #[(.int x0)] maxLocals)) (T76.setTop (mkF m 22 #[.val (.int x0), .val (.int i), .val (.ref sH), .val (.ref t3), .unset] [(.int (F3 (2 : Int32)))])) := st75.trans (sr76)
          have st78 : Steps p.tables e below (s₁.setTop (entryFrame m #[(.int x0)] maxLocals)) (T76.setTop (mkF m 23 #[.val (.int x0), .val (.int i), .val (.ref sH), .val (.ref t3), .unset] [(.int (1 : Int32)), (.int (F3 (2 : Int32)))])) := st77.trans (by
              show Steps p.tables e below (T76.setTop (mkF m 22 #[.val (.int x0), .val (.int i), .val (.ref sH), .val (.ref t3), .unset] [(.int (F3 (2 : Int32)))])) _
              refine XS.iconst X76.here hx rfl (hb hby at_22) ?_
              exact Steps.refl _)
          have hf79 : ¬ ((F3 (2 : Int32)) < (1 : Int32)) := by decide +kernel
          have st80 : Steps p.tables e below (s₁.setTop (entryFrame m #[(.int x0)] maxLocals)) (T76.setTop (mkF m 28 #[.val (.int x0), .val (.int i), .val (.ref sH), .val (.ref t3), .unset] [(.int (0 : Int32)), (.ref t3)])) := st78.trans (by
              show Steps p.tables e below (T76.setTop (mkF m 23 #[.val (.int x0), .val (.int i), .val (.ref sH), .val (.ref t3), .unset] [(.int (1 : Int32)), (.int (F3 (2 : Int32)))])) _
              refine XS.icmpNo X76.here hx rfl (hb hby at_23) rfl (flt hf79).1 ?_
              show Steps p.tables e below (T76.setTop (mkF m 26 #[.val (.int x0), .val (.int i), .val (.ref sH), .val (.ref t3), .unset] [])) _
              refine XS.aloadN X76.here hx rfl (hb hby at_26) rfl rfl ?_
              show Steps p.tables e below (T76.setTop (mkF m 27 #[.val (.int x0), .val (.int i), .val (.ref sH), .val (.ref t3), .unset] [(.ref t3)])) _
              refine XS.iconst X76.here hx rfl (hb hby at_27) ?_
              exact Steps.refl _)
          obtain ⟨cq81, kq81, q81a, q81b, q81c⟩ := isOf hZ hh76 Et_3
          obtain ⟨_, _, ⟨T81, L81, k81, n81⟩, -, X81, ⟨Lc81, hQ81, l81, y81, z81⟩, sr81⟩ := X76.virtualBack hx (y := (⟨"java/lang/String", "charAt", "(I)C"⟩ : MethodName)) (z := (⟨"java/lang/String", "charAt", "(I)C"⟩ : MethodName)) hown (mvT hZ (hw _ (List.mem_of_getElem? (i := 31) rfl))) (mvT hZ (hw _ (List.mem_of_getElem? (i := 32) rfl))) (notFace_of_selects (args := #[]) (mvT hZ (hw _ (List.mem_of_getElem? (i := 34) rfl)))) (mvT hZ (hw _ (List.mem_of_getElem? (i := 34) rfl))) (mvT hZ (hw _ (List.mem_of_getElem? (i := 33) rfl))) (by decide) (backOf (W := 0) (rm5 l Z a0 hw [] t3 (0 : Int32) cs sf u3 k3 (2 : Int32) ([(62 : Int32), (61 : Int32)]) h0 n0 Z0 S_c hcs S_f hsf Et_3 Fv_3 Fc_3 A_3 (by decide)) hZ (hw _ (List.mem_of_getElem? (i := 35) rfl)) (hw _ (List.mem_of_getElem? (i := 19) rfl)) (by decide) (by decide)) q81a q81c (g := (mkF m 28 #[.val (.int x0), .val (.int i), .val (.ref sH), .val (.ref t3), .unset] [(.int (0 : Int32)), (.ref t3)])) rfl (by rw [hml]; rfl) (Steps.refl _) (argsL := [(.int (0 : Int32))]) (rest := []) (lenOf pd_8 rfl) rfl (by show 2 * 0 + _ ≤ _; exact Nat.le_of_eq rfl) (hb hby at_28) (fun _ _ => ⟨rfl, hh76, (by decide : 0 + 0 ≤ _), (by decide : 0 + 0 ≤ _)⟩)
          dsimp only [Pt.U, Pt.locs, Pt.cells, Pt.slots] at X81 l81 y81 z81 sr81 hQ81
          subst l81 y81 z81
          obtain ⟨rfl, N81q, hh81⟩ := hQ81
          have N81 := Fr.app N76 N81q
          have st82 : Steps p.tables e below (s₁.setTop (entryFrame m #[(.int x0)] maxLocals)) (T81.setTop (mkF m 31 #[.val (.int x0), .val (.int i), .val (.ref sH), .val (.ref t3), .unset] [(.int (F5 (0 : Int32) [(62 : Int32), (61 : Int32)]))])) := st80.trans (sr81)
          have st83 : Steps p.tables e below (s₁.setTop (entryFrame m #[(.int x0)] maxLocals)) (T81.setTop (mkF m 33 #[.val (.int x0), .val (.int i), .val (.ref sH), .val (.ref t3), .unset] [(.int (62 : Int32)), (.int (F5 (0 : Int32) [(62 : Int32), (61 : Int32)]))])) := st82.trans (by
              show Steps p.tables e below (T81.setTop (mkF m 31 #[.val (.int x0), .val (.int i), .val (.ref sH), .val (.ref t3), .unset] [(.int (F5 (0 : Int32) [(62 : Int32), (61 : Int32)]))])) _
              refine XS.bipush X81.here hx rfl (hb hby at_31) ?_
              exact Steps.refl _)
          have hf84 : (F5 (0 : Int32) [(62 : Int32), (61 : Int32)]) = (62 : Int32) := by decide +kernel
          have st85 : Steps p.tables e below (s₁.setTop (entryFrame m #[(.int x0)] maxLocals)) (T81.setTop (mkF m 44 #[.val (.int x0), .val (.int i), .val (.ref sH), .val (.ref t3), .val (.int (1 : Int32))] [(.ref sH)])) := st83.trans (by
              show Steps p.tables e below (T81.setTop (mkF m 33 #[.val (.int x0), .val (.int i), .val (.ref sH), .val (.ref t3), .unset] [(.int (62 : Int32)), (.int (F5 (0 : Int32) [(62 : Int32), (61 : Int32)]))])) _
              refine XS.icmpNo X81.here hx rfl (hb hby at_33) rfl (teq hf84).2 ?_
              show Steps p.tables e below (T81.setTop (mkF m 36 #[.val (.int x0), .val (.int i), .val (.ref sH), .val (.ref t3), .unset] [])) _
              refine XS.iconst X81.here hx rfl (hb hby at_36) ?_
              show Steps p.tables e below (T81.setTop (mkF m 37 #[.val (.int x0), .val (.int i), .val (.ref sH), .val (.ref t3), .unset] [(.int (1 : Int32))])) _
              refine XS.goto X81.here hx rfl (pc0 := 37) (pc' := 41) rfl (hb hby at_37) (by decide) (by decide) ?_
              show Steps p.tables e below (T81.setTop (mkF m 41 #[.val (.int x0), .val (.int i), .val (.ref sH), .val (.ref t3), .unset] [(.int (1 : Int32))])) _
              refine XS.istore X81.here hx rfl (hb hby at_41) rfl (l' := #[.val (.int x0), .val (.int i), .val (.ref sH), .val (.ref t3), .val (.int (1 : Int32))]) rfl ?_
              show Steps p.tables e below (T81.setTop (mkF m 43 #[.val (.int x0), .val (.int i), .val (.ref sH), .val (.ref t3), .val (.int (1 : Int32))] [])) _
              refine XS.aloadN X81.here hx rfl (hb hby at_43) rfl rfl ?_
              exact Steps.refl _)
          obtain ⟨cq86, kq86, q86a, q86b, q86c⟩ := isOf hZ hh81 E_3
          obtain ⟨_, _, ⟨T86, L86, k86, n86⟩, -, X86, ⟨Lc86, hQ86, l86, y86, z86⟩, sr86⟩ := X81.virtualBack hx (y := (⟨"com/example/treeline/treeline/simple/Relation", "swapsSides", "()Z"⟩ : MethodName)) (z := (⟨"com/example/treeline/treeline/simple/Relation", "swapsSides", "()Z"⟩ : MethodName)) hown (mvT hZ (hw _ (List.mem_of_getElem? (i := 53) rfl))) (mvT hZ (hw _ (List.mem_of_getElem? (i := 54) rfl))) (notFace_of_selects (args := #[]) (mvT hZ (hw _ (List.mem_of_getElem? (i := 56) rfl)))) (mvT hZ (hw _ (List.mem_of_getElem? (i := 56) rfl))) (mvT hZ (hw _ (List.mem_of_getElem? (i := 55) rfl))) (by decide) (backOf (W := 0) (rm10 l Z a0 hw [] sH sG sH h0 n0 Z0 S_1 S_3) hZ (hw _ (List.mem_of_getElem? (i := 57) rfl)) (hw _ (List.mem_of_getElem? (i := 6) rfl)) (by decide) (by decide)) q86a q86c (g := (mkF m 44 #[.val (.int x0), .val (.int i), .val (.ref sH), .val (.ref t3), .val (.int (1 : Int32))] [(.ref sH)])) rfl (by rw [hml]; rfl) (Steps.refl _) (argsL := []) (rest := []) (lenOf pd_3 rfl) rfl (by show 2 * 0 + _ ≤ _; exact Nat.le_of_eq rfl) (hb hby at_44) (fun _ _ => ⟨rfl, hh81, (by decide : 0 + 0 ≤ _), (by decide : 0 + 0 ≤ _)⟩)
          dsimp only [Pt.U, Pt.locs, Pt.cells, Pt.slots] at X86 l86 y86 z86 sr86 hQ86
          subst l86 y86 z86
          obtain ⟨rfl, N86q, hh86⟩ := hQ86
          have N86 := Fr.app N81 N86q
          have st87 : Steps p.tables e below (s₁.setTop (entryFrame m #[(.int x0)] maxLocals)) (T86.setTop (mkF m 47 #[.val (.int x0), .val (.int i), .val (.ref sH), .val (.ref t3), .val (.int (1 : Int32))] [(.int (F10 sH sG sH))])) := st85.trans (sr86)
          have st88 : Steps p.tables e below (s₁.setTop (entryFrame m #[(.int x0)] maxLocals)) (T86.setTop (mkF m 49 #[.val (.int x0), .val (.int i), .val (.ref sH), .val (.ref t3), .val (.int (1 : Int32))] [(.int (1 : Int32)), (.int (F10 sH sG sH))])) := st87.trans (by
              show Steps p.tables e below (T86.setTop (mkF m 47 #[.val (.int x0), .val (.int i), .val (.ref sH), .val (.ref t3), .val (.int (1 : Int32))] [(.int (F10 sH sG sH))])) _
              refine XS.iload X86.here hx rfl (hb hby at_47) rfl ?_
              exact Steps.refl _)
          have hf89 : (F10 sH sG sH) = (1 : Int32) := by rw [F10, if_neg neG_sH, if_pos rfl]
          have st90 : Steps p.tables e below (s₁.setTop (entryFrame m #[(.int x0)] maxLocals)) (T86.setTop (mkF m 57 #[.val (.int x0), .val (.int i), .val (.ref sH), .val (.ref t3), .val (.int (1 : Int32))] [(.int (1 : Int32))])) := st88.trans (by
              show Steps p.tables e below (T86.setTop (mkF m 49 #[.val (.int x0), .val (.int i), .val (.ref sH), .val (.ref t3), .val (.int (1 : Int32))] [(.int (1 : Int32)), (.int (F10 sH sG sH))])) _
              refine XS.icmpNo X86.here hx rfl (hb hby at_49) rfl (teq hf89).2 ?_
              show Steps p.tables e below (T86.setTop (mkF m 52 #[.val (.int x0), .val (.int i), .val (.ref sH), .val (.ref t3), .val (.int (1 : Int32))] [])) _
              refine XS.iconst X86.here hx rfl (hb hby at_52) ?_
              show Steps p.tables e below (T86.setTop (mkF m 53 #[.val (.int x0), .val (.int i), .val (.ref sH), .val (.ref t3), .val (.int (1 : Int32))] [(.int (1 : Int32))])) _
              refine XS.goto X86.here hx rfl (pc0 := 53) (pc' := 57) rfl (hb hby at_53) (by decide) (by decide) ?_
              exact Steps.refl _)
          obtain ⟨fs, hr, hrun, hended, hW, hsame⟩ := X86.leave (v := some (.int (1 : Int32))) (fun h => by rw [Bd.returns] at h; cases h)
          refine ⟨_, _, st90.trans ?_, hrun, hended, _, _, rfl, ?_, ⟨_, rfl⟩, hW, hsame.mono (by decide) (by decide)⟩
          · exact retN X86 hx (t := .boolean) Bd.returns (by simp) (hb hby at_57) hr
          · show Q0 Z x0 cs sf sL sG sM sH sE sN t0 u0 k0 t1 u1 k1 t2 u2 k2 t3 u3 k3 t4 u4 k4 t5 u5 k5 h0 n0 _ T86.heap _
            rw [hh86]
            exact ⟨rfl, N86⟩
        · by_cases hc91 : i = (4 : Int32)
          · 
            obtain ⟨_, _, ⟨T92, L92, k92, n92⟩, -, X92, ⟨Lc92, hQ92, l92, y92, z92⟩, sr92⟩ := Jvm.LawKit.callS X0 hx (y := (⟨"com/example/treeline/treeline/simple/RelationSwapsSidesPinLaw", "pick", "(I)Lcom/example/treeline/treeline/simple/Relation;"⟩ : MethodName)) hown (mvT hZ (hw _ (List.mem_of_getElem? (i := 1) rfl))) (mvT hZ (hw _ (List.mem_of_getElem? (i := 2) rfl))) (mvT hZ (hw _ (List.mem_of_getElem? (i := 3) rfl))) (mvT hZ (hw _ (List.mem_of_getElem? (i := 4) rfl))) (by decide) (backOf (W := 0) (rm1 l Z a0 hw [] i sL sG sM sH sE sN h0 n0 Z0 S_0 S_1 S_2 S_3 S_4 S_5) hZ (hw _ (List.mem_of_getElem? (i := 4) rfl)) (hw _ (List.mem_of_getElem? (i := 3) rfl)) (by decide) (by decide)) (g := (mkF m 9 #[.val (.int x0), .val (.int i), .unset, .unset, .unset] [(.int i)])) rfl (by rw [hml]; rfl) (argsL := [(.int i)]) (rest := []) (lenOf pd_5 rfl) rfl (by show 2 * 0 + _ ≤ _; exact Nat.le_of_eq rfl) (hb hby at_9) (fun _ _ => ⟨rfl, e0, (by decide : 0 + 0 ≤ _), (by decide : 0 + 0 ≤ _)⟩)
            dsimp only [Pt.U, Pt.locs, Pt.cells, Pt.slots] at X92 l92 y92 z92 sr92 hQ92
            subst l92 y92 z92
            obtain ⟨rfl, N92q, hh92⟩ := hQ92
            have N92 := Fr.app N0 N92q
            have st93 : Steps p.tables e below (s₁.setTop (entryFrame m #[(.int x0)] maxLocals)) (T92.setTop (mkF m 12 #[.val (.int x0), .val (.int i), .unset, .unset, .unset] [(.ref (F1 i sL sG sM sH sE sN))])) := st2.trans (sr92 _ (Steps.refl _))
            have hpk : (F1 i sL sG sM sH sE sN) = sE := by rw [F1, if_neg hc3, if_neg hc25, if_neg hc47, if_neg hc69, if_pos hc91]
            rw [hpk] at st93
            have st94 : Steps p.tables e below (s₁.setTop (entryFrame m #[(.int x0)] maxLocals)) (T92.setTop (mkF m 14 #[.val (.int x0), .val (.int i), .val (.ref sE), .unset, .unset] [(.ref sE)])) := st93.trans (by
                show Steps p.tables e below (T92.setTop (mkF m 12 #[.val (.int x0), .val (.int i), .unset, .unset, .unset] [(.ref sE)])) _
                refine XS.astoreN X92.here hx rfl (hb hby at_12) rfl rfl (l' := #[.val (.int x0), .val (.int i), .val (.ref sE), .unset, .unset]) rfl ?_
                show Steps p.tables e below (T92.setTop (mkF m 13 #[.val (.int x0), .val (.int i), .val (.ref sE), .unset, .unset] [])) _
                refine XS.aloadN X92.here hx rfl (hb hby at_13) rfl rfl ?_
                exact Steps.refl _)
            obtain ⟨cq95, kq95, q95a, q95b, q95c⟩ := isOf hZ hh92 E_4
            obtain ⟨_, _, ⟨T95, L95, k95, n95⟩, -, X95, ⟨Lc95, hQ95, l95, y95, z95⟩, sr95⟩ := X92.virtualBack hx (y := (⟨"com/example/treeline/treeline/simple/Relation", "symbol", "()Ljava/lang/String;"⟩ : MethodName)) (z := (⟨"com/example/treeline/treeline/simple/Relation", "symbol", "()Ljava/lang/String;"⟩ : MethodName)) hown (mvT hZ (hw _ (List.mem_of_getElem? (i := 8) rfl))) (mvT hZ (hw _ (List.mem_of_getElem? (i := 9) rfl))) (notFace_of_selects (args := #[]) (mvT hZ (hw _ (List.mem_of_getElem? (i := 11) rfl)))) (mvT hZ (hw _ (List.mem_of_getElem? (i := 11) rfl))) (mvT hZ (hw _ (List.mem_of_getElem? (i := 10) rfl))) (by decide) (backOf (W := 0) (rm2 l Z a0 hw [] sE t4 h0 n0 Z0 F_4) hZ (hw _ (List.mem_of_getElem? (i := 12) rfl)) (hw _ (List.mem_of_getElem? (i := 6) rfl)) (by decide) (by decide)) q95a q95c (g := (mkF m 14 #[.val (.int x0), .val (.int i), .val (.ref sE), .unset, .unset] [(.ref sE)])) rfl (by rw [hml]; rfl) (Steps.refl _) (argsL := []) (rest := []) (lenOf pd_6 rfl) rfl (by show 2 * 0 + _ ≤ _; exact Nat.le_of_eq rfl) (hb hby at_14) (fun _ _ => ⟨rfl, hh92, (by decide : 0 + 0 ≤ _), (by decide : 0 + 0 ≤ _)⟩)
            dsimp only [Pt.U, Pt.locs, Pt.cells, Pt.slots] at X95 l95 y95 z95 sr95 hQ95
            subst l95 y95 z95
            obtain ⟨rfl, N95q, hh95⟩ := hQ95
            have N95 := Fr.app N92 N95q
            have st96 : Steps p.tables e below (s₁.setTop (entryFrame m #[(.int x0)] maxLocals)) (T95.setTop (mkF m 17 #[.val (.int x0), .val (.int i), .val (.ref sE), .unset, .unset] [(.ref t4)])) := st94.trans (sr95)
            have st97 : Steps p.tables e below (s₁.setTop (entryFrame m #[(.int x0)] maxLocals)) (T95.setTop (mkF m 19 #[.val (.int x0), .val (.int i), .val (.ref sE), .val (.ref t4), .unset] [(.ref t4)])) := st96.trans (by
                show Steps p.tables e below (T95.setTop (mkF m 17 #[.val (.int x0), .val (.int i), .val (.ref sE), .unset, .unset] [(.ref t4)])) _
                refine XS.astoreN X95.here hx rfl (hb hby at_17) rfl rfl (l' := #[.val (.int x0), .val (.int i), .val (.ref sE), .val (.ref t4), .unset]) rfl ?_
                show Steps p.tables e below (T95.setTop (mkF m 18 #[.val (.int x0), .val (.int i), .val (.ref sE), .val (.ref t4), .unset] [])) _
                refine XS.aloadN X95.here hx rfl (hb hby at_18) rfl rfl ?_
                exact Steps.refl _)
            obtain ⟨cq98, kq98, q98a, q98b, q98c⟩ := isOf hZ hh95 Et_4
            obtain ⟨_, _, ⟨T98, L98, k98, n98⟩, -, X98, ⟨Lc98, hQ98, l98, y98, z98⟩, sr98⟩ := X95.virtualBack hx (y := (⟨"java/lang/String", "length", "()I"⟩ : MethodName)) (z := (⟨"java/lang/String", "length", "()I"⟩ : MethodName)) hown (mvT hZ (hw _ (List.mem_of_getElem? (i := 15) rfl))) (mvT hZ (hw _ (List.mem_of_getElem? (i := 16) rfl))) (notFace_of_selects (args := #[]) (mvT hZ (hw _ (List.mem_of_getElem? (i := 18) rfl)))) (mvT hZ (hw _ (List.mem_of_getElem? (i := 18) rfl))) (mvT hZ (hw _ (List.mem_of_getElem? (i := 17) rfl))) (by decide) (backOf (W := 0) (rm3 l Z a0 hw [] t4 cs u4 k4 (2 : Int32) ([(61 : Int32), (61 : Int32)]) h0 n0 Z0 S_c hcs Et_4 Fv_4 Fc_4 A_4) hZ (hw _ (List.mem_of_getElem? (i := 20) rfl)) (hw _ (List.mem_of_getElem? (i := 19) rfl)) (by decide) (by decide)) q98a q98c (g := (mkF m 19 #[.val (.int x0), .val (.int i), .val (.ref sE), .val (.ref t4), .unset] [(.ref t4)])) rfl (by rw [hml]; rfl) (Steps.refl _) (argsL := []) (rest := []) (lenOf pd_7 rfl) rfl (by show 2 * 0 + _ ≤ _; exact Nat.le_of_eq rfl) (hb hby at_19) (fun _ _ => ⟨rfl, hh95, (by decide : 0 + 0 ≤ _), (by decide : 0 + 0 ≤ _)⟩)
            dsimp only [Pt.U, Pt.locs, Pt.cells, Pt.slots] at X98 l98 y98 z98 sr98 hQ98
            subst l98 y98 z98
            obtain ⟨rfl, N98q, hh98⟩ := hQ98
            have N98 := Fr.app N95 N98q
            have st99 : Steps p.tables e below (s₁.setTop (entryFrame m #[(.int x0)] maxLocals)) (T98.setTop (mkF m 22 #[.val (.int x0), .val (.int i), .val (.ref sE), .val (.ref t4), .unset] [(.int (F3 (2 : Int32)))])) := st97.trans (sr98)
            have st100 : Steps p.tables e below (s₁.setTop (entryFrame m #[(.int x0)] maxLocals)) (T98.setTop (mkF m 23 #[.val (.int x0), .val (.int i), .val (.ref sE), .val (.ref t4), .unset] [(.int (1 : Int32)), (.int (F3 (2 : Int32)))])) := st99.trans (by
                show Steps p.tables e below (T98.setTop (mkF m 22 #[.val (.int x0), .val (.int i), .val (.ref sE), .val (.ref t4), .unset] [(.int (F3 (2 : Int32)))])) _
                refine XS.iconst X98.here hx rfl (hb hby at_22) ?_
                exact Steps.refl _)
            have hf101 : ¬ ((F3 (2 : Int32)) < (1 : Int32)) := by decide +kernel
            have st102 : Steps p.tables e below (s₁.setTop (entryFrame m #[(.int x0)] maxLocals)) (T98.setTop (mkF m 28 #[.val (.int x0), .val (.int i), .val (.ref sE), .val (.ref t4), .unset] [(.int (0 : Int32)), (.ref t4)])) := st100.trans (by
                show Steps p.tables e below (T98.setTop (mkF m 23 #[.val (.int x0), .val (.int i), .val (.ref sE), .val (.ref t4), .unset] [(.int (1 : Int32)), (.int (F3 (2 : Int32)))])) _
                refine XS.icmpNo X98.here hx rfl (hb hby at_23) rfl (flt hf101).1 ?_
                show Steps p.tables e below (T98.setTop (mkF m 26 #[.val (.int x0), .val (.int i), .val (.ref sE), .val (.ref t4), .unset] [])) _
                refine XS.aloadN X98.here hx rfl (hb hby at_26) rfl rfl ?_
                show Steps p.tables e below (T98.setTop (mkF m 27 #[.val (.int x0), .val (.int i), .val (.ref sE), .val (.ref t4), .unset] [(.ref t4)])) _
                refine XS.iconst X98.here hx rfl (hb hby at_27) ?_
                exact Steps.refl _)
            obtain ⟨cq103, kq103, q103a, q103b, q103c⟩ := isOf hZ hh98 Et_4
            obtain ⟨_, _, ⟨T103, L103, k103, n103⟩, -, X103, ⟨Lc103, hQ103, l103, y103, z103⟩, sr103⟩ := X98.virtualBack hx (y := (⟨"java/lang/String", "charAt", "(I)C"⟩ : MethodName)) (z := (⟨"java/lang/String", "charAt", "(I)C"⟩ : MethodName)) hown (mvT hZ (hw _ (List.mem_of_getElem? (i := 31) rfl))) (mvT hZ (hw _ (List.mem_of_getElem? (i := 32) rfl))) (notFace_of_selects (args := #[]) (mvT hZ (hw _ (List.mem_of_getElem? (i := 34) rfl)))) (mvT hZ (hw _ (List.mem_of_getElem? (i := 34) rfl))) (mvT hZ (hw _ (List.mem_of_getElem? (i := 33) rfl))) (by decide) (backOf (W := 0) (rm5 l Z a0 hw [] t4 (0 : Int32) cs sf u4 k4 (2 : Int32) ([(61 : Int32), (61 : Int32)]) h0 n0 Z0 S_c hcs S_f hsf Et_4 Fv_4 Fc_4 A_4 (by decide)) hZ (hw _ (List.mem_of_getElem? (i := 35) rfl)) (hw _ (List.mem_of_getElem? (i := 19) rfl)) (by decide) (by decide)) q103a q103c (g := (mkF m 28 #[.val (.int x0), .val (.int i), .val (.ref sE), .val (.ref t4), .unset] [(.int (0 : Int32)), (.ref t4)])) rfl (by rw [hml]; rfl) (Steps.refl _) (argsL := [(.int (0 : Int32))]) (rest := []) (lenOf pd_8 rfl) rfl (by show 2 * 0 + _ ≤ _; exact Nat.le_of_eq rfl) (hb hby at_28) (fun _ _ => ⟨rfl, hh98, (by decide : 0 + 0 ≤ _), (by decide : 0 + 0 ≤ _)⟩)
            dsimp only [Pt.U, Pt.locs, Pt.cells, Pt.slots] at X103 l103 y103 z103 sr103 hQ103
            subst l103 y103 z103
            obtain ⟨rfl, N103q, hh103⟩ := hQ103
            have N103 := Fr.app N98 N103q
            have st104 : Steps p.tables e below (s₁.setTop (entryFrame m #[(.int x0)] maxLocals)) (T103.setTop (mkF m 31 #[.val (.int x0), .val (.int i), .val (.ref sE), .val (.ref t4), .unset] [(.int (F5 (0 : Int32) [(61 : Int32), (61 : Int32)]))])) := st102.trans (sr103)
            have st105 : Steps p.tables e below (s₁.setTop (entryFrame m #[(.int x0)] maxLocals)) (T103.setTop (mkF m 33 #[.val (.int x0), .val (.int i), .val (.ref sE), .val (.ref t4), .unset] [(.int (62 : Int32)), (.int (F5 (0 : Int32) [(61 : Int32), (61 : Int32)]))])) := st104.trans (by
                show Steps p.tables e below (T103.setTop (mkF m 31 #[.val (.int x0), .val (.int i), .val (.ref sE), .val (.ref t4), .unset] [(.int (F5 (0 : Int32) [(61 : Int32), (61 : Int32)]))])) _
                refine XS.bipush X103.here hx rfl (hb hby at_31) ?_
                exact Steps.refl _)
            have hf106 : ¬ ((F5 (0 : Int32) [(61 : Int32), (61 : Int32)]) = (62 : Int32)) := by decide +kernel
            have st107 : Steps p.tables e below (s₁.setTop (entryFrame m #[(.int x0)] maxLocals)) (T103.setTop (mkF m 44 #[.val (.int x0), .val (.int i), .val (.ref sE), .val (.ref t4), .val (.int (0 : Int32))] [(.ref sE)])) := st105.trans (by
                show Steps p.tables e below (T103.setTop (mkF m 33 #[.val (.int x0), .val (.int i), .val (.ref sE), .val (.ref t4), .unset] [(.int (62 : Int32)), (.int (F5 (0 : Int32) [(61 : Int32), (61 : Int32)]))])) _
                refine XS.icmpYes X103.here hx rfl (pc0 := 33) (pc' := 40) rfl (hb hby at_33) rfl (feq hf106).2 (by decide) (by decide) ?_
                show Steps p.tables e below (T103.setTop (mkF m 40 #[.val (.int x0), .val (.int i), .val (.ref sE), .val (.ref t4), .unset] [])) _
                refine XS.iconst X103.here hx rfl (hb hby at_40) ?_
                show Steps p.tables e below (T103.setTop (mkF m 41 #[.val (.int x0), .val (.int i), .val (.ref sE), .val (.ref t4), .unset] [(.int (0 : Int32))])) _
                refine XS.istore X103.here hx rfl (hb hby at_41) rfl (l' := #[.val (.int x0), .val (.int i), .val (.ref sE), .val (.ref t4), .val (.int (0 : Int32))]) rfl ?_
                show Steps p.tables e below (T103.setTop (mkF m 43 #[.val (.int x0), .val (.int i), .val (.ref sE), .val (.ref t4), .val (.int (0 : Int32))] [])) _
                refine XS.aloadN X103.here hx rfl (hb hby at_43) rfl rfl ?_
                exact Steps.refl _)
            obtain ⟨cq108, kq108, q108a, q108b, q108c⟩ := isOf hZ hh103 E_4
            obtain ⟨_, _, ⟨T108, L108, k108, n108⟩, -, X108, ⟨Lc108, hQ108, l108, y108, z108⟩, sr108⟩ := X103.virtualBack hx (y := (⟨"com/example/treeline/treeline/simple/Relation", "swapsSides", "()Z"⟩ : MethodName)) (z := (⟨"com/example/treeline/treeline/simple/Relation", "swapsSides", "()Z"⟩ : MethodName)) hown (mvT hZ (hw _ (List.mem_of_getElem? (i := 53) rfl))) (mvT hZ (hw _ (List.mem_of_getElem? (i := 54) rfl))) (notFace_of_selects (args := #[]) (mvT hZ (hw _ (List.mem_of_getElem? (i := 56) rfl)))) (mvT hZ (hw _ (List.mem_of_getElem? (i := 56) rfl))) (mvT hZ (hw _ (List.mem_of_getElem? (i := 55) rfl))) (by decide) (backOf (W := 0) (rm10 l Z a0 hw [] sE sG sH h0 n0 Z0 S_1 S_3) hZ (hw _ (List.mem_of_getElem? (i := 57) rfl)) (hw _ (List.mem_of_getElem? (i := 6) rfl)) (by decide) (by decide)) q108a q108c (g := (mkF m 44 #[.val (.int x0), .val (.int i), .val (.ref sE), .val (.ref t4), .val (.int (0 : Int32))] [(.ref sE)])) rfl (by rw [hml]; rfl) (Steps.refl _) (argsL := []) (rest := []) (lenOf pd_3 rfl) rfl (by show 2 * 0 + _ ≤ _; exact Nat.le_of_eq rfl) (hb hby at_44) (fun _ _ => ⟨rfl, hh103, (by decide : 0 + 0 ≤ _), (by decide : 0 + 0 ≤ _)⟩)
            dsimp only [Pt.U, Pt.locs, Pt.cells, Pt.slots] at X108 l108 y108 z108 sr108 hQ108
            subst l108 y108 z108
            obtain ⟨rfl, N108q, hh108⟩ := hQ108
            have N108 := Fr.app N103 N108q
            have st109 : Steps p.tables e below (s₁.setTop (entryFrame m #[(.int x0)] maxLocals)) (T108.setTop (mkF m 47 #[.val (.int x0), .val (.int i), .val (.ref sE), .val (.ref t4), .val (.int (0 : Int32))] [(.int (F10 sE sG sH))])) := st107.trans (sr108)
            have st110 : Steps p.tables e below (s₁.setTop (entryFrame m #[(.int x0)] maxLocals)) (T108.setTop (mkF m 49 #[.val (.int x0), .val (.int i), .val (.ref sE), .val (.ref t4), .val (.int (0 : Int32))] [(.int (0 : Int32)), (.int (F10 sE sG sH))])) := st109.trans (by
                show Steps p.tables e below (T108.setTop (mkF m 47 #[.val (.int x0), .val (.int i), .val (.ref sE), .val (.ref t4), .val (.int (0 : Int32))] [(.int (F10 sE sG sH))])) _
                refine XS.iload X108.here hx rfl (hb hby at_47) rfl ?_
                exact Steps.refl _)
            have hf111 : (F10 sE sG sH) = (0 : Int32) := by rw [F10, if_neg neG_sE, if_neg neH_sE]
            have st112 : Steps p.tables e below (s₁.setTop (entryFrame m #[(.int x0)] maxLocals)) (T108.setTop (mkF m 57 #[.val (.int x0), .val (.int i), .val (.ref sE), .val (.ref t4), .val (.int (0 : Int32))] [(.int (1 : Int32))])) := st110.trans (by
                show Steps p.tables e below (T108.setTop (mkF m 49 #[.val (.int x0), .val (.int i), .val (.ref sE), .val (.ref t4), .val (.int (0 : Int32))] [(.int (0 : Int32)), (.int (F10 sE sG sH))])) _
                refine XS.icmpNo X108.here hx rfl (hb hby at_49) rfl (teq hf111).2 ?_
                show Steps p.tables e below (T108.setTop (mkF m 52 #[.val (.int x0), .val (.int i), .val (.ref sE), .val (.ref t4), .val (.int (0 : Int32))] [])) _
                refine XS.iconst X108.here hx rfl (hb hby at_52) ?_
                show Steps p.tables e below (T108.setTop (mkF m 53 #[.val (.int x0), .val (.int i), .val (.ref sE), .val (.ref t4), .val (.int (0 : Int32))] [(.int (1 : Int32))])) _
                refine XS.goto X108.here hx rfl (pc0 := 53) (pc' := 57) rfl (hb hby at_53) (by decide) (by decide) ?_
                exact Steps.refl _)
            obtain ⟨fs, hr, hrun, hended, hW, hsame⟩ := X108.leave (v := some (.int (1 : Int32))) (fun h => by rw [Bd.returns] at h; cases h)
            refine ⟨_, _, st112.trans ?_, hrun, hended, _, _, rfl, ?_, ⟨_, rfl⟩, hW, hsame.mono (by decide) (by decide)⟩
            · exact retN X108 hx (t := .boolean) Bd.returns (by simp) (hb hby at_57) hr
            · show Q0 Z x0 cs sf sL sG sM sH sE sN t0 u0 k0 t1 u1 k1 t2 u2 k2 t3 u3 k3 t4 u4 k4 t5 u5 k5 h0 n0 _ T108.heap _
              rw [hh108]
              exact ⟨rfl, N108⟩
          · 
            obtain ⟨_, _, ⟨T113, L113, k113, n113⟩, -, X113, ⟨Lc113, hQ113, l113, y113, z113⟩, sr113⟩ := Jvm.LawKit.callS X0 hx (y := (⟨"com/example/treeline/treeline/simple/RelationSwapsSidesPinLaw", "pick", "(I)Lcom/example/treeline/treeline/simple/Relation;"⟩ : MethodName)) hown (mvT hZ (hw _ (List.mem_of_getElem? (i := 1) rfl))) (mvT hZ (hw _ (List.mem_of_getElem? (i := 2) rfl))) (mvT hZ (hw _ (List.mem_of_getElem? (i := 3) rfl))) (mvT hZ (hw _ (List.mem_of_getElem? (i := 4) rfl))) (by decide) (backOf (W := 0) (rm1 l Z a0 hw [] i sL sG sM sH sE sN h0 n0 Z0 S_0 S_1 S_2 S_3 S_4 S_5) hZ (hw _ (List.mem_of_getElem? (i := 4) rfl)) (hw _ (List.mem_of_getElem? (i := 3) rfl)) (by decide) (by decide)) (g := (mkF m 9 #[.val (.int x0), .val (.int i), .unset, .unset, .unset] [(.int i)])) rfl (by rw [hml]; rfl) (argsL := [(.int i)]) (rest := []) (lenOf pd_5 rfl) rfl (by show 2 * 0 + _ ≤ _; exact Nat.le_of_eq rfl) (hb hby at_9) (fun _ _ => ⟨rfl, e0, (by decide : 0 + 0 ≤ _), (by decide : 0 + 0 ≤ _)⟩)
            dsimp only [Pt.U, Pt.locs, Pt.cells, Pt.slots] at X113 l113 y113 z113 sr113 hQ113
            subst l113 y113 z113
            obtain ⟨rfl, N113q, hh113⟩ := hQ113
            have N113 := Fr.app N0 N113q
            have st114 : Steps p.tables e below (s₁.setTop (entryFrame m #[(.int x0)] maxLocals)) (T113.setTop (mkF m 12 #[.val (.int x0), .val (.int i), .unset, .unset, .unset] [(.ref (F1 i sL sG sM sH sE sN))])) := st2.trans (sr113 _ (Steps.refl _))
            have hpk : (F1 i sL sG sM sH sE sN) = sN := by rw [F1, if_neg hc3, if_neg hc25, if_neg hc47, if_neg hc69, if_neg hc91]
            rw [hpk] at st114
            have st115 : Steps p.tables e below (s₁.setTop (entryFrame m #[(.int x0)] maxLocals)) (T113.setTop (mkF m 14 #[.val (.int x0), .val (.int i), .val (.ref sN), .unset, .unset] [(.ref sN)])) := st114.trans (by
                show Steps p.tables e below (T113.setTop (mkF m 12 #[.val (.int x0), .val (.int i), .unset, .unset, .unset] [(.ref sN)])) _
                refine XS.astoreN X113.here hx rfl (hb hby at_12) rfl rfl (l' := #[.val (.int x0), .val (.int i), .val (.ref sN), .unset, .unset]) rfl ?_
                show Steps p.tables e below (T113.setTop (mkF m 13 #[.val (.int x0), .val (.int i), .val (.ref sN), .unset, .unset] [])) _
                refine XS.aloadN X113.here hx rfl (hb hby at_13) rfl rfl ?_
                exact Steps.refl _)
            obtain ⟨cq116, kq116, q116a, q116b, q116c⟩ := isOf hZ hh113 E_5
            obtain ⟨_, _, ⟨T116, L116, k116, n116⟩, -, X116, ⟨Lc116, hQ116, l116, y116, z116⟩, sr116⟩ := X113.virtualBack hx (y := (⟨"com/example/treeline/treeline/simple/Relation", "symbol", "()Ljava/lang/String;"⟩ : MethodName)) (z := (⟨"com/example/treeline/treeline/simple/Relation", "symbol", "()Ljava/lang/String;"⟩ : MethodName)) hown (mvT hZ (hw _ (List.mem_of_getElem? (i := 8) rfl))) (mvT hZ (hw _ (List.mem_of_getElem? (i := 9) rfl))) (notFace_of_selects (args := #[]) (mvT hZ (hw _ (List.mem_of_getElem? (i := 11) rfl)))) (mvT hZ (hw _ (List.mem_of_getElem? (i := 11) rfl))) (mvT hZ (hw _ (List.mem_of_getElem? (i := 10) rfl))) (by decide) (backOf (W := 0) (rm2 l Z a0 hw [] sN t5 h0 n0 Z0 F_5) hZ (hw _ (List.mem_of_getElem? (i := 12) rfl)) (hw _ (List.mem_of_getElem? (i := 6) rfl)) (by decide) (by decide)) q116a q116c (g := (mkF m 14 #[.val (.int x0), .val (.int i), .val (.ref sN), .unset, .unset] [(.ref sN)])) rfl (by rw [hml]; rfl) (Steps.refl _) (argsL := []) (rest := []) (lenOf pd_6 rfl) rfl (by show 2 * 0 + _ ≤ _; exact Nat.le_of_eq rfl) (hb hby at_14) (fun _ _ => ⟨rfl, hh113, (by decide : 0 + 0 ≤ _), (by decide : 0 + 0 ≤ _)⟩)
            dsimp only [Pt.U, Pt.locs, Pt.cells, Pt.slots] at X116 l116 y116 z116 sr116 hQ116
            subst l116 y116 z116
            obtain ⟨rfl, N116q, hh116⟩ := hQ116
            have N116 := Fr.app N113 N116q
            have st117 : Steps p.tables e below (s₁.setTop (entryFrame m #[(.int x0)] maxLocals)) (T116.setTop (mkF m 17 #[.val (.int x0), .val (.int i), .val (.ref sN), .unset, .unset] [(.ref t5)])) := st115.trans (sr116)
            have st118 : Steps p.tables e below (s₁.setTop (entryFrame m #[(.int x0)] maxLocals)) (T116.setTop (mkF m 19 #[.val (.int x0), .val (.int i), .val (.ref sN), .val (.ref t5), .unset] [(.ref t5)])) := st117.trans (by
                show Steps p.tables e below (T116.setTop (mkF m 17 #[.val (.int x0), .val (.int i), .val (.ref sN), .unset, .unset] [(.ref t5)])) _
                refine XS.astoreN X116.here hx rfl (hb hby at_17) rfl rfl (l' := #[.val (.int x0), .val (.int i), .val (.ref sN), .val (.ref t5), .unset]) rfl ?_
                show Steps p.tables e below (T116.setTop (mkF m 18 #[.val (.int x0), .val (.int i), .val (.ref sN), .val (.ref t5), .unset] [])) _
                refine XS.aloadN X116.here hx rfl (hb hby at_18) rfl rfl ?_
                exact Steps.refl _)
            obtain ⟨cq119, kq119, q119a, q119b, q119c⟩ := isOf hZ hh116 Et_5
            obtain ⟨_, _, ⟨T119, L119, k119, n119⟩, -, X119, ⟨Lc119, hQ119, l119, y119, z119⟩, sr119⟩ := X116.virtualBack hx (y := (⟨"java/lang/String", "length", "()I"⟩ : MethodName)) (z := (⟨"java/lang/String", "length", "()I"⟩ : MethodName)) hown (mvT hZ (hw _ (List.mem_of_getElem? (i := 15) rfl))) (mvT hZ (hw _ (List.mem_of_getElem? (i := 16) rfl))) (notFace_of_selects (args := #[]) (mvT hZ (hw _ (List.mem_of_getElem? (i := 18) rfl)))) (mvT hZ (hw _ (List.mem_of_getElem? (i := 18) rfl))) (mvT hZ (hw _ (List.mem_of_getElem? (i := 17) rfl))) (by decide) (backOf (W := 0) (rm3 l Z a0 hw [] t5 cs u5 k5 (2 : Int32) ([(33 : Int32), (61 : Int32)]) h0 n0 Z0 S_c hcs Et_5 Fv_5 Fc_5 A_5) hZ (hw _ (List.mem_of_getElem? (i := 20) rfl)) (hw _ (List.mem_of_getElem? (i := 19) rfl)) (by decide) (by decide)) q119a q119c (g := (mkF m 19 #[.val (.int x0), .val (.int i), .val (.ref sN), .val (.ref t5), .unset] [(.ref t5)])) rfl (by rw [hml]; rfl) (Steps.refl _) (argsL := []) (rest := []) (lenOf pd_7 rfl) rfl (by show 2 * 0 + _ ≤ _; exact Nat.le_of_eq rfl) (hb hby at_19) (fun _ _ => ⟨rfl, hh116, (by decide : 0 + 0 ≤ _), (by decide : 0 + 0 ≤ _)⟩)
            dsimp only [Pt.U, Pt.locs, Pt.cells, Pt.slots] at X119 l119 y119 z119 sr119 hQ119
            subst l119 y119 z119
            obtain ⟨rfl, N119q, hh119⟩ := hQ119
            have N119 := Fr.app N116 N119q
            have st120 : Steps p.tables e below (s₁.setTop (entryFrame m #[(.int x0)] maxLocals)) (T119.setTop (mkF m 22 #[.val (.int x0), .val (.int i), .val (.ref sN), .val (.ref t5), .unset] [(.int (F3 (2 : Int32)))])) := st118.trans (sr119)
            have st121 : Steps p.tables e below (s₁.setTop (entryFrame m #[(.int x0)] maxLocals)) (T119.setTop (mkF m 23 #[.val (.int x0), .val (.int i), .val (.ref sN), .val (.ref t5), .unset] [(.int (1 : Int32)), (.int (F3 (2 : Int32)))])) := st120.trans (by
                show Steps p.tables e below (T119.setTop (mkF m 22 #[.val (.int x0), .val (.int i), .val (.ref sN), .val (.ref t5), .unset] [(.int (F3 (2 : Int32)))])) _
                refine XS.iconst X119.here hx rfl (hb hby at_22) ?_
                exact Steps.refl _)
            have hf122 : ¬ ((F3 (2 : Int32)) < (1 : Int32)) := by decide +kernel
            have st123 : Steps p.tables e below (s₁.setTop (entryFrame m #[(.int x0)] maxLocals)) (T119.setTop (mkF m 28 #[.val (.int x0), .val (.int i), .val (.ref sN), .val (.ref t5), .unset] [(.int (0 : Int32)), (.ref t5)])) := st121.trans (by
                show Steps p.tables e below (T119.setTop (mkF m 23 #[.val (.int x0), .val (.int i), .val (.ref sN), .val (.ref t5), .unset] [(.int (1 : Int32)), (.int (F3 (2 : Int32)))])) _
                refine XS.icmpNo X119.here hx rfl (hb hby at_23) rfl (flt hf122).1 ?_
                show Steps p.tables e below (T119.setTop (mkF m 26 #[.val (.int x0), .val (.int i), .val (.ref sN), .val (.ref t5), .unset] [])) _
                refine XS.aloadN X119.here hx rfl (hb hby at_26) rfl rfl ?_
                show Steps p.tables e below (T119.setTop (mkF m 27 #[.val (.int x0), .val (.int i), .val (.ref sN), .val (.ref t5), .unset] [(.ref t5)])) _
                refine XS.iconst X119.here hx rfl (hb hby at_27) ?_
                exact Steps.refl _)
            obtain ⟨cq124, kq124, q124a, q124b, q124c⟩ := isOf hZ hh119 Et_5
            obtain ⟨_, _, ⟨T124, L124, k124, n124⟩, -, X124, ⟨Lc124, hQ124, l124, y124, z124⟩, sr124⟩ := X119.virtualBack hx (y := (⟨"java/lang/String", "charAt", "(I)C"⟩ : MethodName)) (z := (⟨"java/lang/String", "charAt", "(I)C"⟩ : MethodName)) hown (mvT hZ (hw _ (List.mem_of_getElem? (i := 31) rfl))) (mvT hZ (hw _ (List.mem_of_getElem? (i := 32) rfl))) (notFace_of_selects (args := #[]) (mvT hZ (hw _ (List.mem_of_getElem? (i := 34) rfl)))) (mvT hZ (hw _ (List.mem_of_getElem? (i := 34) rfl))) (mvT hZ (hw _ (List.mem_of_getElem? (i := 33) rfl))) (by decide) (backOf (W := 0) (rm5 l Z a0 hw [] t5 (0 : Int32) cs sf u5 k5 (2 : Int32) ([(33 : Int32), (61 : Int32)]) h0 n0 Z0 S_c hcs S_f hsf Et_5 Fv_5 Fc_5 A_5 (by decide)) hZ (hw _ (List.mem_of_getElem? (i := 35) rfl)) (hw _ (List.mem_of_getElem? (i := 19) rfl)) (by decide) (by decide)) q124a q124c (g := (mkF m 28 #[.val (.int x0), .val (.int i), .val (.ref sN), .val (.ref t5), .unset] [(.int (0 : Int32)), (.ref t5)])) rfl (by rw [hml]; rfl) (Steps.refl _) (argsL := [(.int (0 : Int32))]) (rest := []) (lenOf pd_8 rfl) rfl (by show 2 * 0 + _ ≤ _; exact Nat.le_of_eq rfl) (hb hby at_28) (fun _ _ => ⟨rfl, hh119, (by decide : 0 + 0 ≤ _), (by decide : 0 + 0 ≤ _)⟩)
            dsimp only [Pt.U, Pt.locs, Pt.cells, Pt.slots] at X124 l124 y124 z124 sr124 hQ124
            subst l124 y124 z124
            obtain ⟨rfl, N124q, hh124⟩ := hQ124
            have N124 := Fr.app N119 N124q
            have st125 : Steps p.tables e below (s₁.setTop (entryFrame m #[(.int x0)] maxLocals)) (T124.setTop (mkF m 31 #[.val (.int x0), .val (.int i), .val (.ref sN), .val (.ref t5), .unset] [(.int (F5 (0 : Int32) [(33 : Int32), (61 : Int32)]))])) := st123.trans (sr124)
            have st126 : Steps p.tables e below (s₁.setTop (entryFrame m #[(.int x0)] maxLocals)) (T124.setTop (mkF m 33 #[.val (.int x0), .val (.int i), .val (.ref sN), .val (.ref t5), .unset] [(.int (62 : Int32)), (.int (F5 (0 : Int32) [(33 : Int32), (61 : Int32)]))])) := st125.trans (by
                show Steps p.tables e below (T124.setTop (mkF m 31 #[.val (.int x0), .val (.int i), .val (.ref sN), .val (.ref t5), .unset] [(.int (F5 (0 : Int32) [(33 : Int32), (61 : Int32)]))])) _
                refine XS.bipush X124.here hx rfl (hb hby at_31) ?_
                exact Steps.refl _)
            have hf127 : ¬ ((F5 (0 : Int32) [(33 : Int32), (61 : Int32)]) = (62 : Int32)) := by decide +kernel
            have st128 : Steps p.tables e below (s₁.setTop (entryFrame m #[(.int x0)] maxLocals)) (T124.setTop (mkF m 44 #[.val (.int x0), .val (.int i), .val (.ref sN), .val (.ref t5), .val (.int (0 : Int32))] [(.ref sN)])) := st126.trans (by
                show Steps p.tables e below (T124.setTop (mkF m 33 #[.val (.int x0), .val (.int i), .val (.ref sN), .val (.ref t5), .unset] [(.int (62 : Int32)), (.int (F5 (0 : Int32) [(33 : Int32), (61 : Int32)]))])) _
                refine XS.icmpYes X124.here hx rfl (pc0 := 33) (pc' := 40) rfl (hb hby at_33) rfl (feq hf127).2 (by decide) (by decide) ?_
                show Steps p.tables e below (T124.setTop (mkF m 40 #[.val (.int x0), .val (.int i), .val (.ref sN), .val (.ref t5), .unset] [])) _
                refine XS.iconst X124.here hx rfl (hb hby at_40) ?_
                show Steps p.tables e below (T124.setTop (mkF m 41 #[.val (.int x0), .val (.int i), .val (.ref sN), .val (.ref t5), .unset] [(.int (0 : Int32))])) _
                refine XS.istore X124.here hx rfl (hb hby at_41) rfl (l' := #[.val (.int x0), .val (.int i), .val (.ref sN), .val (.ref t5), .val (.int (0 : Int32))]) rfl ?_
                show Steps p.tables e below (T124.setTop (mkF m 43 #[.val (.int x0), .val (.int i), .val (.ref sN), .val (.ref t5), .val (.int (0 : Int32))] [])) _
                refine XS.aloadN X124.here hx rfl (hb hby at_43) rfl rfl ?_
                exact Steps.refl _)
            obtain ⟨cq129, kq129, q129a, q129b, q129c⟩ := isOf hZ hh124 E_5
            obtain ⟨_, _, ⟨T129, L129, k129, n129⟩, -, X129, ⟨Lc129, hQ129, l129, y129, z129⟩, sr129⟩ := X124.virtualBack hx (y := (⟨"com/example/treeline/treeline/simple/Relation", "swapsSides", "()Z"⟩ : MethodName)) (z := (⟨"com/example/treeline/treeline/simple/Relation", "swapsSides", "()Z"⟩ : MethodName)) hown (mvT hZ (hw _ (List.mem_of_getElem? (i := 53) rfl))) (mvT hZ (hw _ (List.mem_of_getElem? (i := 54) rfl))) (notFace_of_selects (args := #[]) (mvT hZ (hw _ (List.mem_of_getElem? (i := 56) rfl)))) (mvT hZ (hw _ (List.mem_of_getElem? (i := 56) rfl))) (mvT hZ (hw _ (List.mem_of_getElem? (i := 55) rfl))) (by decide) (backOf (W := 0) (rm10 l Z a0 hw [] sN sG sH h0 n0 Z0 S_1 S_3) hZ (hw _ (List.mem_of_getElem? (i := 57) rfl)) (hw _ (List.mem_of_getElem? (i := 6) rfl)) (by decide) (by decide)) q129a q129c (g := (mkF m 44 #[.val (.int x0), .val (.int i), .val (.ref sN), .val (.ref t5), .val (.int (0 : Int32))] [(.ref sN)])) rfl (by rw [hml]; rfl) (Steps.refl _) (argsL := []) (rest := []) (lenOf pd_3 rfl) rfl (by show 2 * 0 + _ ≤ _; exact Nat.le_of_eq rfl) (hb hby at_44) (fun _ _ => ⟨rfl, hh124, (by decide : 0 + 0 ≤ _), (by decide : 0 + 0 ≤ _)⟩)
            dsimp only [Pt.U, Pt.locs, Pt.cells, Pt.slots] at X129 l129 y129 z129 sr129 hQ129
            subst l129 y129 z129
            obtain ⟨rfl, N129q, hh129⟩ := hQ129
            have N129 := Fr.app N124 N129q
            have st130 : Steps p.tables e below (s₁.setTop (entryFrame m #[(.int x0)] maxLocals)) (T129.setTop (mkF m 47 #[.val (.int x0), .val (.int i), .val (.ref sN), .val (.ref t5), .val (.int (0 : Int32))] [(.int (F10 sN sG sH))])) := st128.trans (sr129)
            have st131 : Steps p.tables e below (s₁.setTop (entryFrame m #[(.int x0)] maxLocals)) (T129.setTop (mkF m 49 #[.val (.int x0), .val (.int i), .val (.ref sN), .val (.ref t5), .val (.int (0 : Int32))] [(.int (0 : Int32)), (.int (F10 sN sG sH))])) := st130.trans (by
                show Steps p.tables e below (T129.setTop (mkF m 47 #[.val (.int x0), .val (.int i), .val (.ref sN), .val (.ref t5), .val (.int (0 : Int32))] [(.int (F10 sN sG sH))])) _
                refine XS.iload X129.here hx rfl (hb hby at_47) rfl ?_
                exact Steps.refl _)
            have hf132 : (F10 sN sG sH) = (0 : Int32) := by rw [F10, if_neg neG_sN, if_neg neH_sN]
            have st133 : Steps p.tables e below (s₁.setTop (entryFrame m #[(.int x0)] maxLocals)) (T129.setTop (mkF m 57 #[.val (.int x0), .val (.int i), .val (.ref sN), .val (.ref t5), .val (.int (0 : Int32))] [(.int (1 : Int32))])) := st131.trans (by
                show Steps p.tables e below (T129.setTop (mkF m 49 #[.val (.int x0), .val (.int i), .val (.ref sN), .val (.ref t5), .val (.int (0 : Int32))] [(.int (0 : Int32)), (.int (F10 sN sG sH))])) _
                refine XS.icmpNo X129.here hx rfl (hb hby at_49) rfl (teq hf132).2 ?_
                show Steps p.tables e below (T129.setTop (mkF m 52 #[.val (.int x0), .val (.int i), .val (.ref sN), .val (.ref t5), .val (.int (0 : Int32))] [])) _
                refine XS.iconst X129.here hx rfl (hb hby at_52) ?_
                show Steps p.tables e below (T129.setTop (mkF m 53 #[.val (.int x0), .val (.int i), .val (.ref sN), .val (.ref t5), .val (.int (0 : Int32))] [(.int (1 : Int32))])) _
                refine XS.goto X129.here hx rfl (pc0 := 53) (pc' := 57) rfl (hb hby at_53) (by decide) (by decide) ?_
                exact Steps.refl _)
            obtain ⟨fs, hr, hrun, hended, hW, hsame⟩ := X129.leave (v := some (.int (1 : Int32))) (fun h => by rw [Bd.returns] at h; cases h)
            refine ⟨_, _, st133.trans ?_, hrun, hended, _, _, rfl, ?_, ⟨_, rfl⟩, hW, hsame.mono (by decide) (by decide)⟩
            · exact retN X129 hx (t := .boolean) Bd.returns (by simp) (hb hby at_57) hr
            · show Q0 Z x0 cs sf sL sG sM sH sE sN t0 u0 k0 t1 u1 k1 t2 u2 k2 t3 u3 k3 t4 u4 k4 t5 u5 k5 h0 n0 _ T129.heap _
              rw [hh129]
              exact ⟨rfl, N129⟩
theorem own_narrow {args : Array Value} {s : State} (h : narrow_1.value args s none s [] = some true) : (Jvm.Cond.exactly (Jvm.Term.static "com/example/treeline/treeline/simple/Relation" "LESS" "Lcom/example/treeline/treeline/simple/Relation;") "com/example/treeline/treeline/simple/Relation").value args s none s [] = some true ∧ (Jvm.Cond.exactly (Jvm.Term.field (Jvm.Term.static "com/example/treeline/treeline/simple/Relation" "LESS" "Lcom/example/treeline/treeline/simple/Relation;") "com/example/treeline/treeline/simple/Relation" "symbol" "Ljava/lang/String;") "java/lang/String").value args s none s [] = some true ∧ (Jvm.Cond.arrayOf (Jvm.Term.field (Jvm.Term.field (Jvm.Term.static "com/example/treeline/treeline/simple/Relation" "LESS" "Lcom/example/treeline/treeline/simple/Relation;") "com/example/treeline/treeline/simple/Relation" "symbol" "Ljava/lang/String;") "java/lang/String" "value" "[B") Jvm.ClassFile.FieldType.byte).value args s none s [] = some true ∧ (Jvm.Cond.eq (Jvm.Term.length (Jvm.Term.field (Jvm.Term.field (Jvm.Term.static "com/example/treeline/treeline/simple/Relation" "LESS" "Lcom/example/treeline/treeline/simple/Relation;") "com/example/treeline/treeline/simple/Relation" "symbol" "Ljava/lang/String;") "java/lang/String" "value" "[B")) (Jvm.Term.int (1 : Int32))).value args s none s [] = some true ∧ (Jvm.Cond.eq (Jvm.Term.field (Jvm.Term.field (Jvm.Term.static "com/example/treeline/treeline/simple/Relation" "LESS" "Lcom/example/treeline/treeline/simple/Relation;") "com/example/treeline/treeline/simple/Relation" "symbol" "Ljava/lang/String;") "java/lang/String" "coder" "B") (Jvm.Term.int (0 : Int32))).value args s none s [] = some true ∧ (Jvm.Cond.eq (Jvm.Term.elem (Jvm.Term.field (Jvm.Term.field (Jvm.Term.static "com/example/treeline/treeline/simple/Relation" "LESS" "Lcom/example/treeline/treeline/simple/Relation;") "com/example/treeline/treeline/simple/Relation" "symbol" "Ljava/lang/String;") "java/lang/String" "value" "[B") (Jvm.Term.int (0 : Int32))) (Jvm.Term.int (60 : Int32))).value args s none s [] = some true ∧ (Jvm.Cond.exactly (Jvm.Term.static "com/example/treeline/treeline/simple/Relation" "GREATER" "Lcom/example/treeline/treeline/simple/Relation;") "com/example/treeline/treeline/simple/Relation").value args s none s [] = some true ∧ (Jvm.Cond.eq (Jvm.Term.field (Jvm.Term.static "com/example/treeline/treeline/simple/Relation" "LESS" "Lcom/example/treeline/treeline/simple/Relation;") "java/lang/Enum" "ordinal" "I") (Jvm.Term.int (0 : Int32))).value args s none s [] = some true ∧ (Jvm.Cond.eq (Jvm.Term.field (Jvm.Term.static "com/example/treeline/treeline/simple/Relation" "GREATER" "Lcom/example/treeline/treeline/simple/Relation;") "java/lang/Enum" "ordinal" "I") (Jvm.Term.int (1 : Int32))).value args s none s [] = some true ∧ (Jvm.Cond.exactly (Jvm.Term.static "com/example/treeline/treeline/simple/Relation" "GREATER_OR_EQUAL" "Lcom/example/treeline/treeline/simple/Relation;") "com/example/treeline/treeline/simple/Relation").value args s none s [] = some true ∧ (Jvm.Cond.eq (Jvm.Term.field (Jvm.Term.static "com/example/treeline/treeline/simple/Relation" "GREATER_OR_EQUAL" "Lcom/example/treeline/treeline/simple/Relation;") "java/lang/Enum" "ordinal" "I") (Jvm.Term.int (3 : Int32))).value args s none s [] = some true ∧ (Jvm.Cond.exactly (Jvm.Term.field (Jvm.Term.static "com/example/treeline/treeline/simple/Relation" "GREATER_OR_EQUAL" "Lcom/example/treeline/treeline/simple/Relation;") "com/example/treeline/treeline/simple/Relation" "symbol" "Ljava/lang/String;") "java/lang/String").value args s none s [] = some true ∧ (Jvm.Cond.arrayOf (Jvm.Term.field (Jvm.Term.field (Jvm.Term.static "com/example/treeline/treeline/simple/Relation" "GREATER_OR_EQUAL" "Lcom/example/treeline/treeline/simple/Relation;") "com/example/treeline/treeline/simple/Relation" "symbol" "Ljava/lang/String;") "java/lang/String" "value" "[B") Jvm.ClassFile.FieldType.byte).value args s none s [] = some true ∧ (Jvm.Cond.eq (Jvm.Term.length (Jvm.Term.field (Jvm.Term.field (Jvm.Term.static "com/example/treeline/treeline/simple/Relation" "GREATER_OR_EQUAL" "Lcom/example/treeline/treeline/simple/Relation;") "com/example/treeline/treeline/simple/Relation" "symbol" "Ljava/lang/String;") "java/lang/String" "value" "[B")) (Jvm.Term.int (2 : Int32))).value args s none s [] = some true ∧ (Jvm.Cond.eq (Jvm.Term.field (Jvm.Term.field (Jvm.Term.static "com/example/treeline/treeline/simple/Relation" "GREATER_OR_EQUAL" "Lcom/example/treeline/treeline/simple/Relation;") "com/example/treeline/treeline/simple/Relation" "symbol" "Ljava/lang/String;") "java/lang/String" "coder" "B") (Jvm.Term.int (0 : Int32))).value args s none s [] = some true ∧ (Jvm.Cond.eq (Jvm.Term.elem (Jvm.Term.field (Jvm.Term.field (Jvm.Term.static "com/example/treeline/treeline/simple/Relation" "GREATER_OR_EQUAL" "Lcom/example/treeline/treeline/simple/Relation;") "com/example/treeline/treeline/simple/Relation" "symbol" "Ljava/lang/String;") "java/lang/String" "value" "[B") (Jvm.Term.int (0 : Int32))) (Jvm.Term.int (62 : Int32))).value args s none s [] = some true ∧ (Jvm.Cond.exactly (Jvm.Term.static "com/example/treeline/treeline/simple/Relation" "LESS_OR_EQUAL" "Lcom/example/treeline/treeline/simple/Relation;") "com/example/treeline/treeline/simple/Relation").value args s none s [] = some true ∧ (Jvm.Cond.exactly (Jvm.Term.field (Jvm.Term.static "com/example/treeline/treeline/simple/Relation" "LESS_OR_EQUAL" "Lcom/example/treeline/treeline/simple/Relation;") "com/example/treeline/treeline/simple/Relation" "symbol" "Ljava/lang/String;") "java/lang/String").value args s none s [] = some true ∧ (Jvm.Cond.arrayOf (Jvm.Term.field (Jvm.Term.field (Jvm.Term.static "com/example/treeline/treeline/simple/Relation" "LESS_OR_EQUAL" "Lcom/example/treeline/treeline/simple/Relation;") "com/example/treeline/treeline/simple/Relation" "symbol" "Ljava/lang/String;") "java/lang/String" "value" "[B") Jvm.ClassFile.FieldType.byte).value args s none s [] = some true ∧ (Jvm.Cond.eq (Jvm.Term.length (Jvm.Term.field (Jvm.Term.field (Jvm.Term.static "com/example/treeline/treeline/simple/Relation" "LESS_OR_EQUAL" "Lcom/example/treeline/treeline/simple/Relation;") "com/example/treeline/treeline/simple/Relation" "symbol" "Ljava/lang/String;") "java/lang/String" "value" "[B")) (Jvm.Term.int (2 : Int32))).value args s none s [] = some true ∧ (Jvm.Cond.eq (Jvm.Term.field (Jvm.Term.field (Jvm.Term.static "com/example/treeline/treeline/simple/Relation" "LESS_OR_EQUAL" "Lcom/example/treeline/treeline/simple/Relation;") "com/example/treeline/treeline/simple/Relation" "symbol" "Ljava/lang/String;") "java/lang/String" "coder" "B") (Jvm.Term.int (0 : Int32))).value args s none s [] = some true ∧ (Jvm.Cond.eq (Jvm.Term.elem (Jvm.Term.field (Jvm.Term.field (Jvm.Term.static "com/example/treeline/treeline/simple/Relation" "LESS_OR_EQUAL" "Lcom/example/treeline/treeline/simple/Relation;") "com/example/treeline/treeline/simple/Relation" "symbol" "Ljava/lang/String;") "java/lang/String" "value" "[B") (Jvm.Term.int (0 : Int32))) (Jvm.Term.int (60 : Int32))).value args s none s [] = some true ∧ (Jvm.Cond.eq (Jvm.Term.field (Jvm.Term.static "com/example/treeline/treeline/simple/Relation" "LESS_OR_EQUAL" "Lcom/example/treeline/treeline/simple/Relation;") "java/lang/Enum" "ordinal" "I") (Jvm.Term.int (2 : Int32))).value args s none s [] = some true ∧ (Jvm.Cond.exactly (Jvm.Term.field (Jvm.Term.static "com/example/treeline/treeline/simple/Relation" "GREATER" "Lcom/example/treeline/treeline/simple/Relation;") "com/example/treeline/treeline/simple/Relation" "symbol" "Ljava/lang/String;") "java/lang/String").value args s none s [] = some true ∧ (Jvm.Cond.arrayOf (Jvm.Term.field (Jvm.Term.field (Jvm.Term.static "com/example/treeline/treeline/simple/Relation" "GREATER" "Lcom/example/treeline/treeline/simple/Relation;") "com/example/treeline/treeline/simple/Relation" "symbol" "Ljava/lang/String;") "java/lang/String" "value" "[B") Jvm.ClassFile.FieldType.byte).value args s none s [] = some true ∧ (Jvm.Cond.eq (Jvm.Term.length (Jvm.Term.field (Jvm.Term.field (Jvm.Term.static "com/example/treeline/treeline/simple/Relation" "GREATER" "Lcom/example/treeline/treeline/simple/Relation;") "com/example/treeline/treeline/simple/Relation" "symbol" "Ljava/lang/String;") "java/lang/String" "value" "[B")) (Jvm.Term.int (1 : Int32))).value args s none s [] = some true ∧ (Jvm.Cond.eq (Jvm.Term.field (Jvm.Term.field (Jvm.Term.static "com/example/treeline/treeline/simple/Relation" "GREATER" "Lcom/example/treeline/treeline/simple/Relation;") "com/example/treeline/treeline/simple/Relation" "symbol" "Ljava/lang/String;") "java/lang/String" "coder" "B") (Jvm.Term.int (0 : Int32))).value args s none s [] = some true ∧ (Jvm.Cond.eq (Jvm.Term.elem (Jvm.Term.field (Jvm.Term.field (Jvm.Term.static "com/example/treeline/treeline/simple/Relation" "GREATER" "Lcom/example/treeline/treeline/simple/Relation;") "com/example/treeline/treeline/simple/Relation" "symbol" "Ljava/lang/String;") "java/lang/String" "value" "[B") (Jvm.Term.int (0 : Int32))) (Jvm.Term.int (62 : Int32))).value args s none s [] = some true ∧ (Jvm.Cond.exactly (Jvm.Term.static "com/example/treeline/treeline/simple/Relation" "NOT_EQUAL" "Lcom/example/treeline/treeline/simple/Relation;") "com/example/treeline/treeline/simple/Relation").value args s none s [] = some true ∧ (Jvm.Cond.exactly (Jvm.Term.field (Jvm.Term.static "com/example/treeline/treeline/simple/Relation" "NOT_EQUAL" "Lcom/example/treeline/treeline/simple/Relation;") "com/example/treeline/treeline/simple/Relation" "symbol" "Ljava/lang/String;") "java/lang/String").value args s none s [] = some true ∧ (Jvm.Cond.arrayOf (Jvm.Term.field (Jvm.Term.field (Jvm.Term.static "com/example/treeline/treeline/simple/Relation" "NOT_EQUAL" "Lcom/example/treeline/treeline/simple/Relation;") "com/example/treeline/treeline/simple/Relation" "symbol" "Ljava/lang/String;") "java/lang/String" "value" "[B") Jvm.ClassFile.FieldType.byte).value args s none s [] = some true ∧ (Jvm.Cond.eq (Jvm.Term.length (Jvm.Term.field (Jvm.Term.field (Jvm.Term.static "com/example/treeline/treeline/simple/Relation" "NOT_EQUAL" "Lcom/example/treeline/treeline/simple/Relation;") "com/example/treeline/treeline/simple/Relation" "symbol" "Ljava/lang/String;") "java/lang/String" "value" "[B")) (Jvm.Term.int (2 : Int32))).value args s none s [] = some true ∧ (Jvm.Cond.eq (Jvm.Term.field (Jvm.Term.field (Jvm.Term.static "com/example/treeline/treeline/simple/Relation" "NOT_EQUAL" "Lcom/example/treeline/treeline/simple/Relation;") "com/example/treeline/treeline/simple/Relation" "symbol" "Ljava/lang/String;") "java/lang/String" "coder" "B") (Jvm.Term.int (0 : Int32))).value args s none s [] = some true ∧ (Jvm.Cond.eq (Jvm.Term.elem (Jvm.Term.field (Jvm.Term.field (Jvm.Term.static "com/example/treeline/treeline/simple/Relation" "NOT_EQUAL" "Lcom/example/treeline/treeline/simple/Relation;") "com/example/treeline/treeline/simple/Relation" "symbol" "Ljava/lang/String;") "java/lang/String" "value" "[B") (Jvm.Term.int (0 : Int32))) (Jvm.Term.int (33 : Int32))).value args s none s [] = some true ∧ (Jvm.Cond.eq (Jvm.Term.field (Jvm.Term.static "com/example/treeline/treeline/simple/Relation" "NOT_EQUAL" "Lcom/example/treeline/treeline/simple/Relation;") "java/lang/Enum" "ordinal" "I") (Jvm.Term.int (5 : Int32))).value args s none s [] = some true ∧ (Jvm.Cond.exactly (Jvm.Term.static "com/example/treeline/treeline/simple/Relation" "EQUAL" "Lcom/example/treeline/treeline/simple/Relation;") "com/example/treeline/treeline/simple/Relation").value args s none s [] = some true ∧ (Jvm.Cond.exactly (Jvm.Term.field (Jvm.Term.static "com/example/treeline/treeline/simple/Relation" "EQUAL" "Lcom/example/treeline/treeline/simple/Relation;") "com/example/treeline/treeline/simple/Relation" "symbol" "Ljava/lang/String;") "java/lang/String").value args s none s [] = some true ∧ (Jvm.Cond.arrayOf (Jvm.Term.field (Jvm.Term.field (Jvm.Term.static "com/example/treeline/treeline/simple/Relation" "EQUAL" "Lcom/example/treeline/treeline/simple/Relation;") "com/example/treeline/treeline/simple/Relation" "symbol" "Ljava/lang/String;") "java/lang/String" "value" "[B") Jvm.ClassFile.FieldType.byte).value args s none s [] = some true ∧ (Jvm.Cond.eq (Jvm.Term.length (Jvm.Term.field (Jvm.Term.field (Jvm.Term.static "com/example/treeline/treeline/simple/Relation" "EQUAL" "Lcom/example/treeline/treeline/simple/Relation;") "com/example/treeline/treeline/simple/Relation" "symbol" "Ljava/lang/String;") "java/lang/String" "value" "[B")) (Jvm.Term.int (2 : Int32))).value args s none s [] = some true ∧ (Jvm.Cond.eq (Jvm.Term.field (Jvm.Term.field (Jvm.Term.static "com/example/treeline/treeline/simple/Relation" "EQUAL" "Lcom/example/treeline/treeline/simple/Relation;") "com/example/treeline/treeline/simple/Relation" "symbol" "Ljava/lang/String;") "java/lang/String" "coder" "B") (Jvm.Term.int (0 : Int32))).value args s none s [] = some true ∧ (Jvm.Cond.eq (Jvm.Term.elem (Jvm.Term.field (Jvm.Term.field (Jvm.Term.static "com/example/treeline/treeline/simple/Relation" "EQUAL" "Lcom/example/treeline/treeline/simple/Relation;") "com/example/treeline/treeline/simple/Relation" "symbol" "Ljava/lang/String;") "java/lang/String" "value" "[B") (Jvm.Term.int (0 : Int32))) (Jvm.Term.int (61 : Int32))).value args s none s [] = some true ∧ (Jvm.Cond.eq (Jvm.Term.field (Jvm.Term.static "com/example/treeline/treeline/simple/Relation" "EQUAL" "Lcom/example/treeline/treeline/simple/Relation;") "java/lang/Enum" "ordinal" "I") (Jvm.Term.int (4 : Int32))).value args s none s [] = some true ∧ (Jvm.Cond.eq (Jvm.Term.elem (Jvm.Term.field (Jvm.Term.field (Jvm.Term.static "com/example/treeline/treeline/simple/Relation" "GREATER_OR_EQUAL" "Lcom/example/treeline/treeline/simple/Relation;") "com/example/treeline/treeline/simple/Relation" "symbol" "Ljava/lang/String;") "java/lang/String" "value" "[B") (Jvm.Term.int (1 : Int32))) (Jvm.Term.int (61 : Int32))).value args s none s [] = some true ∧ (Jvm.Cond.eq (Jvm.Term.elem (Jvm.Term.field (Jvm.Term.field (Jvm.Term.static "com/example/treeline/treeline/simple/Relation" "LESS_OR_EQUAL" "Lcom/example/treeline/treeline/simple/Relation;") "com/example/treeline/treeline/simple/Relation" "symbol" "Ljava/lang/String;") "java/lang/String" "value" "[B") (Jvm.Term.int (1 : Int32))) (Jvm.Term.int (61 : Int32))).value args s none s [] = some true ∧ (Jvm.Cond.eq (Jvm.Term.elem (Jvm.Term.field (Jvm.Term.field (Jvm.Term.static "com/example/treeline/treeline/simple/Relation" "NOT_EQUAL" "Lcom/example/treeline/treeline/simple/Relation;") "com/example/treeline/treeline/simple/Relation" "symbol" "Ljava/lang/String;") "java/lang/String" "value" "[B") (Jvm.Term.int (1 : Int32))) (Jvm.Term.int (61 : Int32))).value args s none s [] = some true ∧ (Jvm.Cond.eq (Jvm.Term.elem (Jvm.Term.field (Jvm.Term.field (Jvm.Term.static "com/example/treeline/treeline/simple/Relation" "EQUAL" "Lcom/example/treeline/treeline/simple/Relation;") "com/example/treeline/treeline/simple/Relation" "symbol" "Ljava/lang/String;") "java/lang/String" "value" "[B") (Jvm.Term.int (1 : Int32))) (Jvm.Term.int (61 : Int32))).value args s none s [] = some true := by
  obtain ⟨m0, h⟩ := and_e h
  obtain ⟨m1, h⟩ := and_e h
  obtain ⟨m2, h⟩ := and_e h
  obtain ⟨m3, h⟩ := and_e h
  obtain ⟨m4, h⟩ := and_e h
  obtain ⟨m5, h⟩ := and_e h
  obtain ⟨m6, h⟩ := and_e h
  obtain ⟨m7, h⟩ := and_e h
  obtain ⟨m8, h⟩ := and_e h
  obtain ⟨m9, h⟩ := and_e h
  obtain ⟨m10, h⟩ := and_e h
  obtain ⟨m11, h⟩ := and_e h
  obtain ⟨m12, h⟩ := and_e h
  obtain ⟨m13, h⟩ := and_e h
  obtain ⟨m14, h⟩ := and_e h
  obtain ⟨m15, h⟩ := and_e h
  obtain ⟨m16, h⟩ := and_e h
  obtain ⟨m17, h⟩ := and_e h
  obtain ⟨m18, h⟩ := and_e h
  obtain ⟨m19, h⟩ := and_e h
  obtain ⟨m20, h⟩ := and_e h
  obtain ⟨m21, h⟩ := and_e h
  obtain ⟨m22, h⟩ := and_e h
  obtain ⟨m23, h⟩ := and_e h
  obtain ⟨m24, h⟩ := and_e h
  obtain ⟨m25, h⟩ := and_e h
  obtain ⟨m26, h⟩ := and_e h
  obtain ⟨m27, h⟩ := and_e h
  obtain ⟨m28, h⟩ := and_e h
  obtain ⟨m29, h⟩ := and_e h
  obtain ⟨m30, h⟩ := and_e h
  obtain ⟨m31, h⟩ := and_e h
  obtain ⟨m32, h⟩ := and_e h
  obtain ⟨m33, h⟩ := and_e h
  obtain ⟨m34, h⟩ := and_e h
  obtain ⟨m35, h⟩ := and_e h
  obtain ⟨m36, h⟩ := and_e h
  obtain ⟨m37, h⟩ := and_e h
  obtain ⟨m38, h⟩ := and_e h
  obtain ⟨m39, h⟩ := and_e h
  obtain ⟨m40, h⟩ := and_e h
  obtain ⟨m41, h⟩ := and_e h
  obtain ⟨m42, h⟩ := and_e h
  obtain ⟨m43, h⟩ := and_e h
  obtain ⟨m44, h⟩ := and_e h
  exact ⟨m0, m1, m2, m3, m4, m5, m6, m7, m8, m9, m10, m11, m12, m13, m14, m15, m16, m17, m18, m19, m20, m21, m22, m23, m24, m25, m26, m27, m28, m29, m30, m31, m32, m33, m34, m35, m36, m37, m38, m39, m40, m41, m42, m43, m44, h⟩
theorem own_rel1 {t : Term} {s : State} {args : Array Value} (hf : Fit s) {c0 : Int32} (n1 : (Cond.exactly t "com/example/treeline/treeline/simple/Relation").value args s none s [] = some true) (n2 : (Cond.exactly (Term.field t "com/example/treeline/treeline/simple/Relation" "symbol" "Ljava/lang/String;") "java/lang/String").value args s none s [] = some true) (n3 : (Cond.arrayOf (Term.field (Term.field t "com/example/treeline/treeline/simple/Relation" "symbol" "Ljava/lang/String;") "java/lang/String" "value" "[B") .byte).value args s none s [] = some true) (n4 : (Cond.eq (.length (Term.field (Term.field t "com/example/treeline/treeline/simple/Relation" "symbol" "Ljava/lang/String;") "java/lang/String" "value" "[B")) (.int (1 : Int32))).value args s none s [] = some true) (n5 : (Cond.eq (Term.field (Term.field t "com/example/treeline/treeline/simple/Relation" "symbol" "Ljava/lang/String;") "java/lang/String" "coder" "B") (.int (0 : Int32))).value args s none s [] = some true) (e0 : (Cond.eq (.elem (Term.field (Term.field t "com/example/treeline/treeline/simple/Relation" "symbol" "Ljava/lang/String;") "java/lang/String" "value" "[B") (.int (0 : Int32))) (.int c0)).value args s none s [] = some true) :
    ∃ (a b u : Addr) (k : ClassId), t.eval args s none [] s = some (.ref a) ∧ Exa s s.heap a "com/example/treeline/treeline/simple/Relation" ∧ Fld s s.heap a "com/example/treeline/treeline/simple/Relation" "symbol" "Ljava/lang/String;" (.ref b) ∧ Exa s s.heap b "java/lang/String" ∧ Fld s s.heap b "java/lang/String" "value" "[B" (.ref u) ∧ Fld s s.heap b "java/lang/String" "coder" "B" (.int (0 : Int32)) ∧ Arv s s.heap u k .byte (1 : Int32) [(.int c0)] (.int (0 : Int32)) := by
  obtain ⟨a, ea⟩ := exa_v n1
  obtain ⟨b, eb⟩ := exa_v n2
  obtain ⟨u, eu⟩ := arr_v n3
  obtain ⟨cl, A⟩ := Arr.start eu n3
  have hl := Cond.eq_int (Cond.before_iff.mpr n4) (Term.int_eval _)
  have hc := Cond.eq_int (Cond.before_iff.mpr n5) (Term.int_eval _)
  obtain ⟨u', cl', eu', hat, hlen⟩ := Term.length_spec hl
  cases eu.symm.trans eu'
  have hcl : cl' = cl := by
    have h2 := Arr.fin (U := s) (Z := s) (State.Warmed39.refl s).alike A
    exact Option.some.inj (hat.symm.trans h2)
  subst hcl
  have h31 := SBG.length_lt eu hat hl
  have hz : cl'.slots.size.toInt32 = (1 : Int32) := (Value.int.inj hlen).symm
  have q0 := (elem_in (Cond.eq_int (Cond.before_iff.mpr e0) (Term.int_eval _)) eu (Term.int_eval _) A.1).2
  refine ⟨a, b, u, cl'.cls, ea, Exa.start ea n1, Fld.start (by rw [← fld_at ea]; exact eb), Exa.start eb n2, Fld.start (by rw [← fld_at eb]; exact eu), Fld.start (by rw [← fld_at eb]; exact hc), Arv.start hf A h31 hz (by decide) rfl ⟨q0, trivial⟩⟩
theorem own_rel2 {t : Term} {s : State} {args : Array Value} (hf : Fit s) {c0 c1 : Int32} (n1 : (Cond.exactly t "com/example/treeline/treeline/simple/Relation").value args s none s [] = some true) (n2 : (Cond.exactly (Term.field t "com/example/treeline/treeline/simple/Relation" "symbol" "Ljava/lang/String;") "java/lang/String").value args s none s [] = some true) (n3 : (Cond.arrayOf (Term.field (Term.field t "com/example/treeline/treeline/simple/Relation" "symbol" "Ljava/lang/String;") "java/lang/String" "value" "[B") .byte).value args s none s [] = some true) (n4 : (Cond.eq (.length (Term.field (Term.field t "com/example/treeline/treeline/simple/Relation" "symbol" "Ljava/lang/String;") "java/lang/String" "value" "[B")) (.int (2 : Int32))).value args s none s [] = some true) (n5 : (Cond.eq (Term.field (Term.field t "com/example/treeline/treeline/simple/Relation" "symbol" "Ljava/lang/String;") "java/lang/String" "coder" "B") (.int (0 : Int32))).value args s none s [] = some true) (e0 : (Cond.eq (.elem (Term.field (Term.field t "com/example/treeline/treeline/simple/Relation" "symbol" "Ljava/lang/String;") "java/lang/String" "value" "[B") (.int (0 : Int32))) (.int c0)).value args s none s [] = some true) (e1 : (Cond.eq (.elem (Term.field (Term.field t "com/example/treeline/treeline/simple/Relation" "symbol" "Ljava/lang/String;") "java/lang/String" "value" "[B") (.int (1 : Int32))) (.int c1)).value args s none s [] = some true) :
    ∃ (a b u : Addr) (k : ClassId), t.eval args s none [] s = some (.ref a) ∧ Exa s s.heap a "com/example/treeline/treeline/simple/Relation" ∧ Fld s s.heap a "com/example/treeline/treeline/simple/Relation" "symbol" "Ljava/lang/String;" (.ref b) ∧ Exa s s.heap b "java/lang/String" ∧ Fld s s.heap b "java/lang/String" "value" "[B" (.ref u) ∧ Fld s s.heap b "java/lang/String" "coder" "B" (.int (0 : Int32)) ∧ Arv s s.heap u k .byte (2 : Int32) [(.int c0), (.int c1)] (.int (0 : Int32)) := by
  obtain ⟨a, ea⟩ := exa_v n1
  obtain ⟨b, eb⟩ := exa_v n2
  obtain ⟨u, eu⟩ := arr_v n3
  obtain ⟨cl, A⟩ := Arr.start eu n3
  have hl := Cond.eq_int (Cond.before_iff.mpr n4) (Term.int_eval _)
  have hc := Cond.eq_int (Cond.before_iff.mpr n5) (Term.int_eval _)
  obtain ⟨u', cl', eu', hat, hlen⟩ := Term.length_spec hl
  cases eu.symm.trans eu'
  have hcl : cl' = cl := by
    have h2 := Arr.fin (U := s) (Z := s) (State.Warmed39.refl s).alike A
    exact Option.some.inj (hat.symm.trans h2)
  subst hcl
  have h31 := SBG.length_lt eu hat hl
  have hz : cl'.slots.size.toInt32 = (2 : Int32) := (Value.int.inj hlen).symm
  have q0 := (elem_in (Cond.eq_int (Cond.before_iff.mpr e0) (Term.int_eval _)) eu (Term.int_eval _) A.1).2
  have q1 := (elem_in (Cond.eq_int (Cond.before_iff.mpr e1) (Term.int_eval _)) eu (Term.int_eval _) A.1).2
  refine ⟨a, b, u, cl'.cls, ea, Exa.start ea n1, Fld.start (by rw [← fld_at ea]; exact eb), Exa.start eb n2, Fld.start (by rw [← fld_at eb]; exact eu), Fld.start (by rw [← fld_at eb]; exact hc), Arv.start hf A h31 hz (by decide) rfl ⟨q0, ⟨q1, trivial⟩⟩⟩
theorem own_ord {t : Term} {s : State} {args : Array Value} {a : Addr} {c : Int32} (ea : t.eval args s none [] s = some (.ref a)) (n : (Cond.eq (.field t "java/lang/Enum" "ordinal" "I") (.int c)).value args s none s [] = some true) : Fld s s.heap a "java/lang/Enum" "ordinal" "I" (.int c) :=
  Fld.start (by rw [← fld_at ea]; exact Cond.eq_int (Cond.before_iff.mpr n) (Term.int_eval _))
set_option maxRecDepth 65536 in
set_option maxHeartbeats 40000000 in
theorem comes_1 {Post : Tables → Env → Array Value → State → Outcome → State → Prop} (hpost : ∀ tb e args s v u, (limb_1_1.after args s (.returned v) u = true ∧ limb_1_2.after args s (.returned v) u = true ∧ True) → FrameEnd s (.returned v) u (Jvm.fieldLocs frame_1_writes args s ++ Jvm.arrayLocs frame_1_arrays args s ++ Jvm.staticLocs frame_1_statics s) 0 0 → Post tb e args s (.returned v) u) :
    ArmFor flags0 classFile x code maxLocals ret World_1 tables_1 room_1 Calls_1 rest_1 Pre_1 Post := by
  intro l hfl _ _ p e ha hc hk s m args below hf hA hF happ hP
  obtain ⟨hcalls, hrest, hpre⟩ := hP
  obtain ⟨-, -, -, hnamed, -, -, -, hat⟩ := (Spec.applies_iff hf).mp happ
  obtain ⟨hg, hn⟩ := and_e (Cond.before_iff.mp (show (Jvm.Cond.and given_1 narrow_1).before args s = true from hpre))
  obtain ⟨g1, g2⟩ := and_e hg
  obtain ⟨w0, rfl⟩ : ∃ w0 : Value, args = #[w0] := by
    have hs : args.size = 1 := by simpa [Cond.value, given_1] using g1
    obtain ⟨L⟩ := args
    match L, hs with
    | [w0], _ => exact ⟨w0, rfl⟩
  have hw := fun d (hd : d ∈ tables_1) => atoms_spec (ws := Jvm.Cond.code x code maxLocals ret :: tables_1) hat d (List.mem_cons_of_mem _ hd)
  have hfit : Fit s := fun {y c} hc i hi => by
    obtain ⟨ha, rfl⟩ := Array.getElem?_eq_some_iff.mp hc
    have q := List.all_eq_true.mp ((Array.all_eq_true_iff_forall_mem.mp hF) _ (Array.getElem_mem ha)) i (List.mem_range.mpr hi)
    simpa [Array.getElem?_eq_getElem hi] using q
  obtain ⟨hsets, hown0⟩ := atoms_of _ (rest_1_c_eq ▸ (show rest_1_c.before _ s = true from hrest))
  have hr0 := Cond.before_iff.mp hown0
  obtain ⟨i0, ei0⟩ := is_v g2
  obtain rfl : w0 = (.int i0) := Option.some.inj ei0
  obtain ⟨m0, m1, m2, m3, m4, m5, m6, m7, m8, m9, m10, m11, m12, m13, m14, m15, m16, m17, m18, m19, m20, m21, m22, m23, m24, m25, m26, m27, m28, m29, m30, m31, m32, m33, m34, m35, m36, m37, m38, m39, m40, m41, m42, m43, m44, m45⟩ := own_narrow hn
  obtain ⟨sL, t0, u0, k0, ev0, E_0, F_0, Et_0, Fv_0, Fc_0, A_0⟩ := own_rel1 hfit m0 m1 m2 m3 m4 m5
  have S_0 := Sta.start ev0 (Or.inr ⟨(hw _ (List.mem_of_getElem? (i := 6) rfl)), (hw _ (List.mem_of_getElem? (i := 7) rfl))⟩)
  have O_0 := own_ord ev0 m7
  obtain ⟨sG, t1, u1, k1, ev1, E_1, F_1, Et_1, Fv_1, Fc_1, A_1⟩ := own_rel1 hfit m6 m23 m24 m25 m26 m27
  have S_1 := Sta.start ev1 (Or.inr ⟨(hw _ (List.mem_of_getElem? (i := 6) rfl)), (hw _ (List.mem_of_getElem? (i := 59) rfl))⟩)
  have O_1 := own_ord ev1 m8
  obtain ⟨sM, t2, u2, k2, ev2, E_2, F_2, Et_2, Fv_2, Fc_2, A_2⟩ := own_rel2 hfit m16 m17 m18 m19 m20 m21 m43
  have S_2 := Sta.start ev2 (Or.inr ⟨(hw _ (List.mem_of_getElem? (i := 6) rfl)), (hw _ (List.mem_of_getElem? (i := 64) rfl))⟩)
  have O_2 := own_ord ev2 m22
  obtain ⟨sH, t3, u3, k3, ev3, E_3, F_3, Et_3, Fv_3, Fc_3, A_3⟩ := own_rel2 hfit m9 m11 m12 m13 m14 m15 m42
  have S_3 := Sta.start ev3 (Or.inr ⟨(hw _ (List.mem_of_getElem? (i := 6) rfl)), (hw _ (List.mem_of_getElem? (i := 61) rfl))⟩)
  have O_3 := own_ord ev3 m10
  obtain ⟨sE, t4, u4, k4, ev4, E_4, F_4, Et_4, Fv_4, Fc_4, A_4⟩ := own_rel2 hfit m35 m36 m37 m38 m39 m40 m45
  have S_4 := Sta.start ev4 (Or.inr ⟨(hw _ (List.mem_of_getElem? (i := 6) rfl)), (hw _ (List.mem_of_getElem? (i := 69) rfl))⟩)
  have O_4 := own_ord ev4 m41
  obtain ⟨sN, t5, u5, k5, ev5, E_5, F_5, Et_5, Fv_5, Fc_5, A_5⟩ := own_rel2 hfit m28 m29 m30 m31 m32 m33 m44
  have S_5 := Sta.start ev5 (Or.inr ⟨(hw _ (List.mem_of_getElem? (i := 6) rfl)), (hw _ (List.mem_of_getElem? (i := 67) rfl))⟩)
  have O_5 := own_ord ev5 m34
  obtain ⟨cs, ecs⟩ := is_v (Cond.before_iff.mp (hsets _ (List.mem_of_getElem? (i := 1) rfl)))
  have S_c := Sta.start ecs (Or.inl (hsets _ (List.mem_of_getElem? (i := 0) rfl)))
  have hcs := gotF (Cond.eq_ints ecs (Term.int_eval 0)) (not_v (Cond.before_iff.mp (hsets _ (List.mem_of_getElem? (i := 2) rfl))))
  obtain ⟨sf, esf, hsf⟩ := isR_v (Cond.before_iff.mp (hsets _ (List.mem_of_getElem? (i := 8) rfl)))
  have S_f := Sta.start esf (Or.inl (hsets _ (List.mem_of_getElem? (i := 7) rfl)))
  obtain ⟨n, o, h1, h2, h3, _, L, rfl, ⟨hv, N⟩, hq⟩ := rm0 l s _ hw tables_1 i0 cs sf sL sG sM sH sE sN t0 u0 k0 t1 u1 k1 t2 u2 k2 t3 u3 k3 t4 u4 k4 t5 u5 k5 s.heap s.heap.size (Nat.le_refl _) S_c hcs S_f hsf S_0 E_0 F_0 Et_0 Fv_0 Fc_0 A_0 S_1 E_1 F_1 Et_1 Fv_1 Fc_1 A_1 S_2 E_2 F_2 Et_2 Fv_2 Fc_2 A_2 S_3 E_3 F_3 Et_3 Fv_3 Fc_3 A_3 S_4 E_4 F_4 Et_4 Fv_4 Fc_4 A_4 S_5 E_5 F_5 Et_5 Fv_5 Fc_5 A_5 (Fld.ne O_0 O_1 (by decide)) (Fld.ne O_0 O_3 (by decide)) (Fld.ne O_1 O_3 (by decide)) (Fld.ne O_2 O_1 (by decide)) (Fld.ne O_2 O_3 (by decide)) (Fld.ne O_3 O_1 (by decide)) (Fld.ne O_4 O_1 (by decide)) (Fld.ne O_4 O_3 (by decide)) (Fld.ne O_5 O_1 (by decide)) (Fld.ne O_5 O_3 (by decide)) p e ha hc hk s m _ below hf ((Spec.applies_iff_loose hf).mp happ).1 ⟨rfl, State.Warmed39.refl s, rfl⟩ trivial
  subst hv
  refine ⟨n, _, h1, h2, h3, hpost _ _ _ _ _ _ ⟨Cond.after_iff.mpr rfl, Cond.after_iff.mpr (eq_i res_at (Term.int_eval (1)) rfl), trivial⟩ ⟨hq.1, hq.2.1, (hq.2.2.sift fun y hy => Or.inr (N y hy)).mono (by decide) (by decide)⟩⟩
theorem main_1_1 : Claimed_1_1 := comes_1 fun _ _ _ _ _ _ h hF => ⟨h.1, hF⟩
theorem main_1_2 : Claimed_1_2 := comes_1 fun _ _ _ _ _ _ h hF => ⟨h.2.1, hF⟩
end Jvm.Pilot.@@N@@
namespace Jvm.Pilot.@@N@@
open Jvm Jvm.ClassFile Sem Op Lib Jvm.Free Jvm.Stand Jvm.Pilot.@@N@@.Jvm.D
/-! MADE BY PROGRAM (witnessworld.py) out of the Statement's table words and the real class files: 18 classes; the members and pool entries that the words name. The judged class is class 1, her method 2. -/
namespace start1
open Jvm.ClassFile
def u (s : String) : CpInfo := .utf8 (stringToUtf16 s)
/-- a pool by its gaps: so many unusable entries, then the entry; so many at the end -/
def gap : Nat → List CpInfo → List CpInfo
  | 0, r => r
  | n + 1, r => .unusable :: gap n r
def poolList (es : List (Nat × CpInfo)) (last : Nat) : List CpInfo := es.foldr (fun e r => gap e.1 (e.2 :: r)) (gap last [])
def pool (es : List (Nat × CpInfo)) (last : Nat) : Array CpInfo := ⟨poolList es last⟩
def fileOf (pool : Array CpInfo) (this : Nat) (attrs : Array Attribute := #[]) (ms : Array MethodInfo := #[]) (fl : Nat := 33) (sup : Nat := 0) (ifs : Array Nat := #[]) (fds : Array FieldInfo := #[]) : ClassFile where
  minorVersion := 0
  majorVersion := 65
  constantPool := pool
  accessFlags := fl
  thisClass := this
  superClass := sup
  interfaces := ifs
  fields := fds
  methods := ms
  attributes := attrs
def plain (name : String) (sup : Option ClassId) : Class where
  name := name
  kind := .ordinary
  loader := none
  accessFlags := 33
  super := sup
  interfaces := #[]
  cf := none
  fields := #[]
  methods := #[]
  instanceTypes := #[]
  staticTypes := #[]
  resolved := #[]
  callSites := []
  init := .initialized
  statics := none
  mirror := none

def pool0 : Array CpInfo := pool [(5, u "<init>"), (0, u "()V"), (1, .class_ 10), (1, u "java/lang/Object")] 113

def k0m0 : Method := { name := "<init>", desc := "()V", sig := { parameters := [], returnType := none }, accessFlags := 1, code := none }
/-- java/lang/Object -/
def k0 : Class := { plain "java/lang/Object" none with
  accessFlags := 33
  interfaces := #[]
  cf := some (fileOf pool0 8 #[] #[{ accessFlags := 1, nameIndex := 5, descriptorIndex := 6, attributes := #[] }] 33 0 #[] #[])
  fields := #[]
  methods := #[k0m0]
  instanceTypes := #[]
  staticTypes := #[]
  resolved := Array.replicate 124 none
  statics := none }

def pool1 : Array CpInfo := pool [(2, .class_ 4), (1, u "java/lang/Object"), (0, u "<init>"), (0, u "()V"), (0, .fieldref 8 9), (0, .class_ 10), (0, .nameAndType 11 12), (0, u "com/example/treeline/treeline/simple/Relation"), (0, u "LESS"), (0, u "Lcom/example/treeline/treeline/simple/Relation;"), (0, .fieldref 8 14), (0, .nameAndType 15 12), (0, u "GREATER"), (0, .fieldref 8 17), (0, .nameAndType 18 12), (0, u "LESS_OR_EQUAL"), (0, .fieldref 8 20), (0, .nameAndType 21 12), (0, u "GREATER_OR_EQUAL"), (0, .fieldref 8 23), (0, .nameAndType 24 12), (0, u "EQUAL"), (0, .fieldref 8 26), (0, .nameAndType 27 12), (0, u "NOT_EQUAL"), (0, .integer 2147483647), (0, .methodref 30 31), (0, .class_ 32), (0, .nameAndType 33 34), (0, u "com/example/treeline/treeline/simple/RelationSwapsSidesPinLaw"), (0, u "pick"), (0, u "(I)Lcom/example/treeline/treeline/simple/Relation;"), (0, .methodref 8 36), (0, .nameAndType 37 38), (0, u "symbol"), (0, u "()Ljava/lang/String;"), (0, .methodref 40 41), (0, .class_ 42), (0, .nameAndType 43 44), (0, u "java/lang/String"), (0, u "length"), (0, u "()I"), (0, .methodref 40 46), (0, .nameAndType 47 48), (0, u "charAt"), (0, u "(I)C"), (0, .methodref 8 50), (0, .nameAndType 51 52), (0, u "swapsSides"), (0, u "()Z"), (3, u "law"), (0, u "(I)Z")] 2

def k1m0 : Method := { name := "<init>", desc := "()V", sig := { parameters := [], returnType := none }, accessFlags := 2, code := none }
def k1c1 : Code := { maxStack := 2, maxLocals := 1, code := method_2_code, exceptionTable := #[], attributes := #[] }
def k1m1 : Method := { name := "pick", desc := "(I)Lcom/example/treeline/treeline/simple/Relation;", sig := { parameters := [.int], returnType := some (.object "com/example/treeline/treeline/simple/Relation") }, accessFlags := 10, code := some k1c1 }
def k1c2 : Code := { maxStack := 2, maxLocals := 5, code := code, exceptionTable := #[], attributes := #[] }
def k1m2 : Method := { name := "law", desc := "(I)Z", sig := { parameters := [.int], returnType := some .boolean }, accessFlags := 9, code := some k1c2 }
/-- com/example/treeline/treeline/simple/RelationSwapsSidesPinLaw -/
def k1 : Class := { plain "com/example/treeline/treeline/simple/RelationSwapsSidesPinLaw" (some 0) with
  accessFlags := 49
  interfaces := #[]
  cf := some (fileOf pool1 30 #[] #[{ accessFlags := 2, nameIndex := 5, descriptorIndex := 6, attributes := #[] }, { accessFlags := 10, nameIndex := 33, descriptorIndex := 34, attributes := #[] }, { accessFlags := 9, nameIndex := 56, descriptorIndex := 57, attributes := #[] }] 49 2 #[] #[])
  fields := #[]
  methods := #[k1m0, k1m1, k1m2]
  instanceTypes := #[]
  staticTypes := #[]
  resolved := Array.replicate 60 none
  statics := none }

def pool2 : Array CpInfo := pool [(1, .class_ 2), (0, u "java/lang/constant/Constable"), (0, .class_ 4), (0, u "java/lang/Object")] 6

/-- java/lang/constant/Constable -/
def k2 : Class := { plain "java/lang/constant/Constable" (some 0) with
  accessFlags := 1537
  interfaces := #[]
  cf := some (fileOf pool2 1 #[] #[] 1537 3 #[] #[])
  fields := #[]
  methods := #[]
  instanceTypes := #[]
  staticTypes := #[]
  resolved := Array.replicate 11 none
  statics := none }

def pool3 : Array CpInfo := pool [(1, .class_ 2), (0, u "java/lang/Comparable"), (0, .class_ 4), (0, u "java/lang/Object")] 7

/-- java/lang/Comparable -/
def k3 : Class := { plain "java/lang/Comparable" (some 0) with
  accessFlags := 1537
  interfaces := #[]
  cf := some (fileOf pool3 1 #[] #[] 1537 3 #[] #[])
  fields := #[]
  methods := #[]
  instanceTypes := #[]
  staticTypes := #[]
  resolved := Array.replicate 12 none
  statics := none }

def pool4 : Array CpInfo := pool [(1, .class_ 2), (0, u "java/io/Serializable"), (0, .class_ 4), (0, u "java/lang/Object")] 2

/-- java/io/Serializable -/
def k4 : Class := { plain "java/io/Serializable" (some 0) with
  accessFlags := 1537
  interfaces := #[]
  cf := some (fileOf pool4 1 #[] #[] 1537 3 #[] #[])
  fields := #[]
  methods := #[]
  instanceTypes := #[]
  staticTypes := #[]
  resolved := Array.replicate 7 none
  statics := none }

def pool5 : Array CpInfo := pool [(2, .class_ 4), (1, u "java/lang/Enum"), (0, u "name"), (0, u "Ljava/lang/String;"), (2, u "ordinal"), (0, u "I"), (1, .class_ 14), (1, u "java/lang/Object"), (4, u "hash"), (86, .class_ 108), (1, u "java/lang/Enum$EnumDesc"), (2, .class_ 112), (0, u "java/lang/constant/Constable"), (0, .class_ 114), (0, u "java/lang/Comparable"), (0, .class_ 116), (0, u "java/io/Serializable")] 87

/-- java/lang/Enum -/
def k5 : Class := { plain "java/lang/Enum" (some 0) with
  accessFlags := 1057
  interfaces := #[2, 3, 4]
  cf := some (fileOf pool5 2 #[.nestMembers #[106]] #[] 1057 12 #[111, 113, 115] #[{ accessFlags := 18, nameIndex := 5, descriptorIndex := 6, attributes := #[] }, { accessFlags := 18, nameIndex := 9, descriptorIndex := 10, attributes := #[] }, { accessFlags := 2, nameIndex := 19, descriptorIndex := 10, attributes := #[] }])
  fields := #[{ name := "name", type := (.object "java/lang/String"), accessFlags := 18, slot := 0, constantValue := 0 }, { name := "ordinal", type := .int, accessFlags := 18, slot := 1, constantValue := 0 }, { name := "hash", type := .int, accessFlags := 2, slot := 2, constantValue := 0 }]
  methods := #[]
  instanceTypes := #[(.object "java/lang/String"), .int, .int]
  staticTypes := #[]
  resolved := Array.replicate 204 none
  statics := none }

def pool6 : Array CpInfo := pool [(1, .class_ 2), (0, u "com/example/treeline/treeline/simple/Relation"), (2, u "LESS"), (0, u "Lcom/example/treeline/treeline/simple/Relation;"), (0, .fieldref 1 8), (0, .nameAndType 9 6), (0, u "GREATER"), (2, u "LESS_OR_EQUAL"), (0, .fieldref 1 14), (0, .nameAndType 15 6), (0, u "GREATER_OR_EQUAL"), (2, u "EQUAL"), (2, u "NOT_EQUAL"), (2, u "$VALUES"), (0, u "[Lcom/example/treeline/treeline/simple/Relation;"), (6, .class_ 34), (1, u "java/lang/Enum"), (6, .fieldref 1 42), (0, .nameAndType 43 44), (0, u "symbol"), (0, u "Ljava/lang/String;"), (32, u "()Ljava/lang/String;"), (0, u "swapsSides"), (0, u "()Z")] 6

def k6c0 : Code := { maxStack := 1, maxLocals := 1, code := prog_64_method_4_code, exceptionTable := #[], attributes := #[] }
def k6m0 : Method := { name := "symbol", desc := "()Ljava/lang/String;", sig := { parameters := [], returnType := some (.object "java/lang/String") }, accessFlags := 1, code := some k6c0 }
def k6c1 : Code := { maxStack := 2, maxLocals := 1, code := prog_64_method_5_code, exceptionTable := #[], attributes := #[] }
def k6m1 : Method := { name := "swapsSides", desc := "()Z", sig := { parameters := [], returnType := some .boolean }, accessFlags := 1, code := some k6c1 }
/-- com/example/treeline/treeline/simple/Relation -/
def k6 : Class := { plain "com/example/treeline/treeline/simple/Relation" (some 5) with
  accessFlags := 16433
  interfaces := #[]
  cf := some (fileOf pool6 1 #[] #[{ accessFlags := 1, nameIndex := 43, descriptorIndex := 77, attributes := #[] }, { accessFlags := 1, nameIndex := 78, descriptorIndex := 79, attributes := #[] }] 16433 32 #[] #[{ accessFlags := 16409, nameIndex := 5, descriptorIndex := 6, attributes := #[] }, { accessFlags := 16409, nameIndex := 9, descriptorIndex := 6, attributes := #[] }, { accessFlags := 16409, nameIndex := 12, descriptorIndex := 6, attributes := #[] }, { accessFlags := 16409, nameIndex := 15, descriptorIndex := 6, attributes := #[] }, { accessFlags := 16409, nameIndex := 18, descriptorIndex := 6, attributes := #[] }, { accessFlags := 16409, nameIndex := 21, descriptorIndex := 6, attributes := #[] }, { accessFlags := 18, nameIndex := 43, descriptorIndex := 44, attributes := #[] }, { accessFlags := 4122, nameIndex := 24, descriptorIndex := 25, attributes := #[] }])
  fields := #[{ name := "LESS", type := (.object "com/example/treeline/treeline/simple/Relation"), accessFlags := 16409, slot := 0, constantValue := 0 }, { name := "GREATER", type := (.object "com/example/treeline/treeline/simple/Relation"), accessFlags := 16409, slot := 1, constantValue := 0 }, { name := "LESS_OR_EQUAL", type := (.object "com/example/treeline/treeline/simple/Relation"), accessFlags := 16409, slot := 2, constantValue := 0 }, { name := "GREATER_OR_EQUAL", type := (.object "com/example/treeline/treeline/simple/Relation"), accessFlags := 16409, slot := 3, constantValue := 0 }, { name := "EQUAL", type := (.object "com/example/treeline/treeline/simple/Relation"), accessFlags := 16409, slot := 4, constantValue := 0 }, { name := "NOT_EQUAL", type := (.object "com/example/treeline/treeline/simple/Relation"), accessFlags := 16409, slot := 5, constantValue := 0 }, { name := "symbol", type := (.object "java/lang/String"), accessFlags := 18, slot := 3, constantValue := 0 }, { name := "$VALUES", type := (.array (.object "com/example/treeline/treeline/simple/Relation")), accessFlags := 4122, slot := 6, constantValue := 0 }]
  methods := #[k6m0, k6m1]
  instanceTypes := #[(.object "java/lang/String"), .int, .int, (.object "java/lang/String")]
  staticTypes := #[(.object "com/example/treeline/treeline/simple/Relation"), (.object "com/example/treeline/treeline/simple/Relation"), (.object "com/example/treeline/treeline/simple/Relation"), (.object "com/example/treeline/treeline/simple/Relation"), (.object "com/example/treeline/treeline/simple/Relation"), (.object "com/example/treeline/treeline/simple/Relation"), (.array (.object "com/example/treeline/treeline/simple/Relation"))]
  resolved := Array.replicate 86 none
  statics := some 0 }

def pool7 : Array CpInfo := pool [(2, .class_ 4), (1, u "java/lang/CharSequence"), (42, .class_ 48), (0, u "java/lang/CharSequence$1CodePointIterator"), (10, .class_ 60), (0, u "java/lang/CharSequence$1CharIterator"), (5, .class_ 67), (0, u "java/lang/Object")] 63

/-- java/lang/CharSequence -/
def k7 : Class := { plain "java/lang/CharSequence" (some 0) with
  accessFlags := 1537
  interfaces := #[]
  cf := some (fileOf pool7 2 #[.nestMembers #[47, 59]] #[] 1537 66 #[] #[])
  fields := #[]
  methods := #[]
  instanceTypes := #[]
  staticTypes := #[]
  resolved := Array.replicate 131 none
  statics := none }

def pool8 : Array CpInfo := pool [(1, .class_ 2), (0, u "java/lang/constant/ConstantDesc"), (0, .class_ 4), (0, u "java/lang/Object")] 32

/-- java/lang/constant/ConstantDesc -/
def k8 : Class := { plain "java/lang/constant/ConstantDesc" (some 0) with
  accessFlags := 1537
  interfaces := #[]
  cf := some (fileOf pool8 1 #[] #[] 1537 3 #[] #[])
  fields := #[]
  methods := #[]
  instanceTypes := #[]
  staticTypes := #[]
  resolved := Array.replicate 37 none
  statics := none }

def pool9 : Array CpInfo := pool [(2, .class_ 4), (1, u "java/lang/Object"), (0, u "<init>"), (0, u "()V"), (2, .fieldref 10 11), (0, .class_ 12), (0, .nameAndType 13 14), (0, u "java/lang/String"), (0, u "value"), (0, u "[B"), (0, .fieldref 10 16), (0, .nameAndType 17 18), (0, u "coder"), (0, u "B"), (2, u "hash"), (0, u "I"), (2, u "hashIsZero"), (0, u "Z"), (11, .fieldref 10 39), (0, .nameAndType 40 26), (0, u "COMPACT_STRINGS"), (66, .class_ 109), (1, u "java/lang/StringLatin1"), (32, u "()Z"), (191, u "()I"), (0, .methodref 10 336), (0, .nameAndType 17 337), (0, u "()B"), (25, u "([BI)C"), (27, u "(II)V"), (35, u "(I)C"), (64, .methodref 10 493), (0, .nameAndType 494 142), (0, u "isLatin1"), (0, .methodref 107 496), (0, .nameAndType 497 363), (0, u "charAt"), (3, u "checkIndex"), (5, u "length"), (67, .class_ 576), (0, u "java/lang/CharSequence"), (22, u "CASE_INSENSITIVE_ORDER"), (0, u "Ljava/util/Comparator;"), (452, .fieldref 1054 1055), (0, .class_ 1056), (0, .nameAndType 1057 1058), (0, u "jdk/internal/util/Preconditions"), (0, u "SIOOBE_FORMATTER"), (0, u "Ljava/util/function/BiFunction;"), (0, .methodref 1054 1060), (0, .nameAndType 501 1061), (0, u "(IILjava/util/function/BiFunction;)I"), (39, u "serialPersistentFields"), (0, u "[Ljava/io/ObjectStreamField;"), (0, .class_ 1104), (0, u "java/lang/String$CaseInsensitiveComparator"), (1, .class_ 1107), (0, u "java/io/Serializable"), (0, .class_ 1109), (0, u "java/lang/Comparable"), (0, .class_ 1111), (0, u "java/lang/constant/Constable"), (0, .class_ 1113), (0, u "java/lang/constant/ConstantDesc"), (2, u "serialVersionUID"), (0, u "J"), (3, u "REPL"), (0, u "C"), (2, u "LATIN1"), (1, u "UTF16")] 323

def k9m0 : Method := { name := "<init>", desc := "()V", sig := { parameters := [], returnType := none }, accessFlags := 1, code := none }
def k9c1 : Code := { maxStack := 2, maxLocals := 1, code := jdk_42_method_54_code, exceptionTable := #[], attributes := #[] }
def k9m1 : Method := { name := "length", desc := "()I", sig := { parameters := [], returnType := some .int }, accessFlags := 1, code := some k9c1 }
def k9c2 : Code := { maxStack := 2, maxLocals := 2, code := jdk_42_method_56_code, exceptionTable := #[], attributes := #[] }
def k9m2 : Method := { name := "charAt", desc := "(I)C", sig := { parameters := [.int], returnType := some .char }, accessFlags := 1, code := some k9c2 }
def k9c3 : Code := { maxStack := 1, maxLocals := 1, code := jdk_42_method_152_code, exceptionTable := #[], attributes := #[] }
def k9m3 : Method := { name := "coder", desc := "()B", sig := { parameters := [], returnType := some .byte }, accessFlags := 0, code := some k9c3 }
def k9c4 : Code := { maxStack := 1, maxLocals := 1, code := jdk_42_method_154_code, exceptionTable := #[], attributes := #[] }
def k9m4 : Method := { name := "isLatin1", desc := "()Z", sig := { parameters := [], returnType := some .boolean }, accessFlags := 0, code := some k9c4 }
def k9c5 : Code := { maxStack := 3, maxLocals := 2, code := jdk_42_method_155_code, exceptionTable := #[], attributes := #[] }
def k9m5 : Method := { name := "checkIndex", desc := "(II)V", sig := { parameters := [.int, .int], returnType := none }, accessFlags := 8, code := some k9c5 }
/-- java/lang/String -/
def k9 : Class := { plain "java/lang/String" (some 0) with
  accessFlags := 49
  interfaces := #[4, 3, 7, 2, 8]
  cf := some (fileOf pool9 10 #[.nestMembers #[1103]] #[{ accessFlags := 1, nameIndex := 5, descriptorIndex := 6, attributes := #[] }, { accessFlags := 1, nameIndex := 507, descriptorIndex := 334, attributes := #[] }, { accessFlags := 1, nameIndex := 497, descriptorIndex := 427, attributes := #[] }, { accessFlags := 0, nameIndex := 17, descriptorIndex := 337, attributes := #[] }, { accessFlags := 0, nameIndex := 494, descriptorIndex := 142, attributes := #[] }, { accessFlags := 8, nameIndex := 501, descriptorIndex := 391, attributes := #[] }] 49 2 #[1106, 1108, 575, 1110, 1112] #[{ accessFlags := 18, nameIndex := 13, descriptorIndex := 14, attributes := #[] }, { accessFlags := 18, nameIndex := 17, descriptorIndex := 18, attributes := #[] }, { accessFlags := 2, nameIndex := 21, descriptorIndex := 22, attributes := #[] }, { accessFlags := 2, nameIndex := 25, descriptorIndex := 26, attributes := #[] }, { accessFlags := 26, nameIndex := 1116, descriptorIndex := 1117, attributes := #[] }, { accessFlags := 24, nameIndex := 40, descriptorIndex := 26, attributes := #[] }, { accessFlags := 26, nameIndex := 1101, descriptorIndex := 1102, attributes := #[] }, { accessFlags := 26, nameIndex := 1121, descriptorIndex := 1122, attributes := #[] }, { accessFlags := 25, nameIndex := 599, descriptorIndex := 600, attributes := #[] }, { accessFlags := 24, nameIndex := 1125, descriptorIndex := 18, attributes := #[] }, { accessFlags := 24, nameIndex := 1127, descriptorIndex := 18, attributes := #[] }])
  fields := #[{ name := "value", type := (.array .byte), accessFlags := 18, slot := 0, constantValue := 0 }, { name := "coder", type := .byte, accessFlags := 18, slot := 1, constantValue := 0 }, { name := "hash", type := .int, accessFlags := 2, slot := 2, constantValue := 0 }, { name := "hashIsZero", type := .boolean, accessFlags := 2, slot := 3, constantValue := 0 }, { name := "serialVersionUID", type := .long, accessFlags := 26, slot := 0, constantValue := 0 }, { name := "COMPACT_STRINGS", type := .boolean, accessFlags := 24, slot := 1, constantValue := 0 }, { name := "serialPersistentFields", type := (.array (.object "java/io/ObjectStreamField")), accessFlags := 26, slot := 2, constantValue := 0 }, { name := "REPL", type := .char, accessFlags := 26, slot := 3, constantValue := 0 }, { name := "CASE_INSENSITIVE_ORDER", type := (.object "java/util/Comparator"), accessFlags := 25, slot := 4, constantValue := 0 }, { name := "LATIN1", type := .byte, accessFlags := 24, slot := 5, constantValue := 0 }, { name := "UTF16", type := .byte, accessFlags := 24, slot := 6, constantValue := 0 }]
  methods := #[k9m0, k9m1, k9m2, k9m3, k9m4, k9m5]
  instanceTypes := #[(.array .byte), .byte, .int, .boolean]
  staticTypes := #[.long, .boolean, (.array (.object "java/io/ObjectStreamField")), .char, (.object "java/util/Comparator"), .byte, .byte]
  resolved := Array.replicate 1451 none
  statics := some 1 }

def pool10 : Array CpInfo := pool [(1, .class_ 2), (0, u "java/lang/String"), (1, .class_ 6), (1, u "java/lang/Object"), (0, u "<init>"), (0, u "()V"), (0, .methodref 1 10), (0, .nameAndType 11 12), (0, u "checkIndex"), (0, u "(II)V"), (1, .class_ 16), (1, u "java/lang/StringLatin1"), (36, u "([BI)C"), (67, u "$assertionsDisabled"), (0, u "Z"), (98, .class_ 223), (1, u "java/lang/StringLatin1$LinesSpliterator"), (28, u "charAt"), (137, .class_ 391), (0, u "java/lang/StringLatin1$CharsSpliterator")] 3

def k10m0 : Method := { name := "<init>", desc := "()V", sig := { parameters := [], returnType := none }, accessFlags := 0, code := none }
def k10c1 : Code := { maxStack := 2, maxLocals := 2, code := jdk_43_method_2_code, exceptionTable := #[], attributes := #[] }
def k10m1 : Method := { name := "charAt", desc := "([BI)C", sig := { parameters := [(.array .byte), .int], returnType := some .char }, accessFlags := 9, code := some k10c1 }
/-- java/lang/StringLatin1 -/
def k10 : Class := { plain "java/lang/StringLatin1" (some 0) with
  accessFlags := 48
  interfaces := #[]
  cf := some (fileOf pool10 14 #[.nestMembers #[390, 221]] #[{ accessFlags := 0, nameIndex := 7, descriptorIndex := 8, attributes := #[] }, { accessFlags := 9, nameIndex := 252, descriptorIndex := 53, attributes := #[] }] 48 4 #[] #[{ accessFlags := 4120, nameIndex := 121, descriptorIndex := 122, attributes := #[] }])
  fields := #[{ name := "$assertionsDisabled", type := .boolean, accessFlags := 4120, slot := 0, constantValue := 0 }]
  methods := #[k10m0, k10m1]
  instanceTypes := #[]
  staticTypes := #[.boolean]
  resolved := Array.replicate 395 none
  statics := none }

def pool11 : Array CpInfo := pool [(2, .class_ 4), (1, u "java/lang/Object"), (0, u "<init>"), (0, u "()V"), (17, .class_ 26), (1, u "jdk/internal/util/Preconditions"), (6, u "checkIndex"), (21, .class_ 56), (0, u "jdk/internal/util/Preconditions$4"), (57, .class_ 115), (0, u "jdk/internal/util/Preconditions$1"), (7, u "SIOOBE_FORMATTER"), (0, u "Ljava/util/function/BiFunction;"), (0, .class_ 126), (0, u "jdk/internal/util/Preconditions$2"), (3, u "AIOOBE_FORMATTER"), (0, .class_ 132), (0, u "jdk/internal/util/Preconditions$3"), (3, u "IOOBE_FORMATTER"), (41, u "(IILjava/util/function/BiFunction;)I")] 15

def k11m0 : Method := { name := "<init>", desc := "()V", sig := { parameters := [], returnType := none }, accessFlags := 1, code := none }
def k11c1 : Code := { maxStack := 3, maxLocals := 3, code := jdk_41_method_11_code, exceptionTable := #[], attributes := #[] }
def k11m1 : Method := { name := "checkIndex", desc := "(IILjava/util/function/BiFunction;)I", sig := { parameters := [.int, .int, (.object "java/util/function/BiFunction")], returnType := some .int }, accessFlags := 9, code := some k11c1 }
/-- jdk/internal/util/Preconditions -/
def k11 : Class := { plain "jdk/internal/util/Preconditions" (some 0) with
  accessFlags := 33
  interfaces := #[]
  cf := some (fileOf pool11 24 #[.nestMembers #[55, 131, 125, 114]] #[{ accessFlags := 1, nameIndex := 5, descriptorIndex := 6, attributes := #[] }, { accessFlags := 9, nameIndex := 33, descriptorIndex := 178, attributes := #[] }] 33 2 #[] #[{ accessFlags := 25, nameIndex := 123, descriptorIndex := 124, attributes := #[] }, { accessFlags := 25, nameIndex := 130, descriptorIndex := 124, attributes := #[] }, { accessFlags := 25, nameIndex := 136, descriptorIndex := 124, attributes := #[] }])
  fields := #[{ name := "SIOOBE_FORMATTER", type := (.object "java/util/function/BiFunction"), accessFlags := 25, slot := 0, constantValue := 0 }, { name := "AIOOBE_FORMATTER", type := (.object "java/util/function/BiFunction"), accessFlags := 25, slot := 1, constantValue := 0 }, { name := "IOOBE_FORMATTER", type := (.object "java/util/function/BiFunction"), accessFlags := 25, slot := 2, constantValue := 0 }]
  methods := #[k11m0, k11m1]
  instanceTypes := #[]
  staticTypes := #[(.object "java/util/function/BiFunction"), (.object "java/util/function/BiFunction"), (.object "java/util/function/BiFunction")]
  resolved := Array.replicate 194 none
  statics := some 2 }

def pool12 : Array CpInfo := pool [(9, u "<init>"), (6, .class_ 18), (1, u "java/lang/Object"), (0, u "()V"), (1, .class_ 23), (1, u "jdk/internal/util/ArraysSupport"), (0, u "LOG2_ARRAY_LONG_INDEX_SCALE"), (0, u "I"), (2, u "U"), (0, u "Ljdk/internal/misc/Unsafe;"), (8, u "BIG_ENDIAN"), (0, u "Z"), (8, u "LOG2_BYTE_BIT_SIZE"), (4, u "LOG2_ARRAY_INT_INDEX_SCALE"), (54, u "JLA"), (0, u "Ljdk/internal/access/JavaLangAccess;"), (11, u "LOG2_ARRAY_BOOLEAN_INDEX_SCALE"), (9, u "LOG2_ARRAY_BYTE_INDEX_SCALE"), (5, u "LOG2_ARRAY_CHAR_INDEX_SCALE"), (5, u "LOG2_ARRAY_SHORT_INDEX_SCALE"), (18, u "LOG2_ARRAY_FLOAT_INDEX_SCALE"), (24, u "LOG2_ARRAY_DOUBLE_INDEX_SCALE"), (89, u "T_BOOLEAN"), (2, u "T_CHAR"), (1, u "T_FLOAT"), (1, u "T_DOUBLE"), (1, u "T_BYTE"), (1, u "T_SHORT"), (1, u "T_INT"), (1, u "T_LONG"), (1, u "SOFT_MAX_ARRAY_LENGTH")] 83

def k12m0 : Method := { name := "<init>", desc := "()V", sig := { parameters := [], returnType := none }, accessFlags := 2, code := none }
/-- jdk/internal/util/ArraysSupport -/
def k12 : Class := { plain "jdk/internal/util/ArraysSupport" (some 0) with
  accessFlags := 33
  interfaces := #[]
  cf := some (fileOf pool12 21 #[] #[{ accessFlags := 2, nameIndex := 9, descriptorIndex := 19, attributes := #[] }] 33 16 #[] #[{ accessFlags := 24, nameIndex := 28, descriptorIndex := 29, attributes := #[] }, { accessFlags := 26, nameIndex := 38, descriptorIndex := 39, attributes := #[] }, { accessFlags := 25, nameIndex := 121, descriptorIndex := 25, attributes := #[] }, { accessFlags := 25, nameIndex := 131, descriptorIndex := 25, attributes := #[] }, { accessFlags := 25, nameIndex := 137, descriptorIndex := 25, attributes := #[] }, { accessFlags := 25, nameIndex := 143, descriptorIndex := 25, attributes := #[] }, { accessFlags := 25, nameIndex := 53, descriptorIndex := 25, attributes := #[] }, { accessFlags := 25, nameIndex := 24, descriptorIndex := 25, attributes := #[] }, { accessFlags := 25, nameIndex := 162, descriptorIndex := 25, attributes := #[] }, { accessFlags := 25, nameIndex := 187, descriptorIndex := 25, attributes := #[] }, { accessFlags := 26, nameIndex := 48, descriptorIndex := 25, attributes := #[] }, { accessFlags := 25, nameIndex := 277, descriptorIndex := 25, attributes := #[] }, { accessFlags := 25, nameIndex := 280, descriptorIndex := 25, attributes := #[] }, { accessFlags := 25, nameIndex := 282, descriptorIndex := 25, attributes := #[] }, { accessFlags := 25, nameIndex := 284, descriptorIndex := 25, attributes := #[] }, { accessFlags := 25, nameIndex := 286, descriptorIndex := 25, attributes := #[] }, { accessFlags := 25, nameIndex := 288, descriptorIndex := 25, attributes := #[] }, { accessFlags := 25, nameIndex := 290, descriptorIndex := 25, attributes := #[] }, { accessFlags := 25, nameIndex := 292, descriptorIndex := 25, attributes := #[] }, { accessFlags := 26, nameIndex := 108, descriptorIndex := 109, attributes := #[] }, { accessFlags := 25, nameIndex := 294, descriptorIndex := 25, attributes := #[] }])
  fields := #[{ name := "U", type := (.object "jdk/internal/misc/Unsafe"), accessFlags := 24, slot := 0, constantValue := 0 }, { name := "BIG_ENDIAN", type := .boolean, accessFlags := 26, slot := 1, constantValue := 0 }, { name := "LOG2_ARRAY_BOOLEAN_INDEX_SCALE", type := .int, accessFlags := 25, slot := 2, constantValue := 0 }, { name := "LOG2_ARRAY_BYTE_INDEX_SCALE", type := .int, accessFlags := 25, slot := 3, constantValue := 0 }, { name := "LOG2_ARRAY_CHAR_INDEX_SCALE", type := .int, accessFlags := 25, slot := 4, constantValue := 0 }, { name := "LOG2_ARRAY_SHORT_INDEX_SCALE", type := .int, accessFlags := 25, slot := 5, constantValue := 0 }, { name := "LOG2_ARRAY_INT_INDEX_SCALE", type := .int, accessFlags := 25, slot := 6, constantValue := 0 }, { name := "LOG2_ARRAY_LONG_INDEX_SCALE", type := .int, accessFlags := 25, slot := 7, constantValue := 0 }, { name := "LOG2_ARRAY_FLOAT_INDEX_SCALE", type := .int, accessFlags := 25, slot := 8, constantValue := 0 }, { name := "LOG2_ARRAY_DOUBLE_INDEX_SCALE", type := .int, accessFlags := 25, slot := 9, constantValue := 0 }, { name := "LOG2_BYTE_BIT_SIZE", type := .int, accessFlags := 26, slot := 10, constantValue := 0 }, { name := "T_BOOLEAN", type := .int, accessFlags := 25, slot := 11, constantValue := 0 }, { name := "T_CHAR", type := .int, accessFlags := 25, slot := 12, constantValue := 0 }, { name := "T_FLOAT", type := .int, accessFlags := 25, slot := 13, constantValue := 0 }, { name := "T_DOUBLE", type := .int, accessFlags := 25, slot := 14, constantValue := 0 }, { name := "T_BYTE", type := .int, accessFlags := 25, slot := 15, constantValue := 0 }, { name := "T_SHORT", type := .int, accessFlags := 25, slot := 16, constantValue := 0 }, { name := "T_INT", type := .int, accessFlags := 25, slot := 17, constantValue := 0 }, { name := "T_LONG", type := .int, accessFlags := 25, slot := 18, constantValue := 0 }, { name := "JLA", type := (.object "jdk/internal/access/JavaLangAccess"), accessFlags := 26, slot := 19, constantValue := 0 }, { name := "SOFT_MAX_ARRAY_LENGTH", type := .int, accessFlags := 25, slot := 20, constantValue := 0 }]
  methods := #[k12m0]
  instanceTypes := #[]
  staticTypes := #[(.object "jdk/internal/misc/Unsafe"), .boolean, .int, .int, .int, .int, .int, .int, .int, .int, .int, .int, .int, .int, .int, .int, .int, .int, .int, (.object "jdk/internal/access/JavaLangAccess"), .int]
  resolved := Array.replicate 378 none
  statics := none }

def pool13 : Array CpInfo := pool [(1, u "java/lang/Cloneable"), (0, .class_ 1), (0, u "java/lang/Object"), (0, .class_ 3)] 3

/-- java/lang/Cloneable -/
def k13 : Class := { plain "java/lang/Cloneable" (some 0) with
  accessFlags := 1537
  interfaces := #[]
  cf := some (fileOf pool13 2 #[] #[] 1537 4 #[] #[])
  fields := #[]
  methods := #[]
  instanceTypes := #[]
  staticTypes := #[]
  resolved := Array.replicate 8 none
  statics := none }

/-- the primitive byte -/
def k14 : Class := { plain "byte" none with kind := .primitive 'B', accessFlags := 0x411 }
/-- [B -/
def k15 : Class := { plain "[B" (some 0) with kind := .array 14 .byte, interfaces := #[13, 4], accessFlags := 1041 }

/-- the primitive int -/
def k16 : Class := { plain "int" none with kind := .primitive 'I', accessFlags := 0x411 }
/-- [I -/
def k17 : Class := { plain "[I" (some 0) with kind := .array 16 .int, interfaces := #[13, 4], accessFlags := 1041 }

def heap : Heap := #[{ cls := 6, slots := #[.ref 5, .ref 8, .ref 11, .ref 14, .ref 17, .ref 20, .null], vm := .statics 6 },
  { cls := 9, slots := #[.long 0, .int 1, .null, .int 0, .null, .int 0, .int 0], vm := .statics 9 },
  { cls := 11, slots := #[.null, .null, .null], vm := .statics 11 },
  { cls := 15, slots := #[.int 60], vm := .none },
  { cls := 9, slots := #[.ref 3, .int 0, .int 0, .int 0], vm := .none },
  { cls := 6, slots := #[.null, .int 0, .int 0, .ref 4], vm := .none },
  { cls := 15, slots := #[.int 62], vm := .none },
  { cls := 9, slots := #[.ref 6, .int 0, .int 0, .int 0], vm := .none },
  { cls := 6, slots := #[.null, .int 1, .int 0, .ref 7], vm := .none },
  { cls := 15, slots := #[.int 60, .int 61], vm := .none },
  { cls := 9, slots := #[.ref 9, .int 0, .int 0, .int 0], vm := .none },
  { cls := 6, slots := #[.null, .int 2, .int 0, .ref 10], vm := .none },
  { cls := 15, slots := #[.int 62, .int 61], vm := .none },
  { cls := 9, slots := #[.ref 12, .int 0, .int 0, .int 0], vm := .none },
  { cls := 6, slots := #[.null, .int 3, .int 0, .ref 13], vm := .none },
  { cls := 15, slots := #[.int 61, .int 61], vm := .none },
  { cls := 9, slots := #[.ref 15, .int 0, .int 0, .int 0], vm := .none },
  { cls := 6, slots := #[.null, .int 4, .int 0, .ref 16], vm := .none },
  { cls := 15, slots := #[.int 33, .int 61], vm := .none },
  { cls := 9, slots := #[.ref 18, .int 0, .int 0, .int 0], vm := .none },
  { cls := 6, slots := #[.null, .int 5, .int 0, .ref 19], vm := .none }]
def classes : Array Class := #[k0, k1, k2, k3, k4, k5, k6, k7, k8, k9, k10, k11, k12, k13, k14, k15, k16, k17]
def interned : List (Array UInt16 × Addr) := []
def slotsUsed : Nat := 75
def theMethod : MethodId := ⟨1, 2⟩
def args0 : Array Value := #[.int 5]
def aboutOver (below : List Frame) : State where
  vm := { classes := classes, interned := interned.toArray }
  heap := heap
  slotsUsed := slotsUsed
  threads := #[{ frames := .invoking theMethod args0 :: below }]
def below0 : List Frame := [.native { method := ⟨0, 0⟩, args := #[] }]
def about1 : State := aboutOver below0
def p0 : Program := .bare "" "" ""
def e0 : Env := launch0.env 0 0 0
theorem w_frames : about1.frames = Frame.invoking theMethod args0 :: below0 := rfl
set_option maxRecDepth 65536 in
theorem w_args : argsFit about1.vm theMethod args0 = true := by decide +kernel
set_option maxRecDepth 65536 in
theorem w_heap : heapFits about1 = true := by decide +kernel
set_option maxRecDepth 65536 in
theorem w_runnable : about1.curStatus? = some .runnable := by decide +kernel
set_option maxRecDepth 65536 in
theorem w_alone : about1.alone = true := by decide +kernel
set_option maxRecDepth 65536 in
theorem w_named : about1.methodNamed? x = some theMethod := by decide +kernel
set_option maxRecDepth 65536 in
theorem w_hears : about1.hears theMethod below0 = true := by decide +kernel
set_option maxRecDepth 65536 in
theorem w_ripe : about1.ripe theMethod args0 below0 = true := by decide +kernel
theorem w_running : about1.status = .running := rfl
set_option maxRecDepth 65536 in
theorem w_room : about1.hasRoom e0.platform room_1 = true :=
  launch0.hasRoom_least _ room_1 (by decide +kernel) (by decide +kernel) (by decide +kernel) (by decide +kernel) (by decide +kernel) (by decide +kernel)
theorem allAtoms_all (ts : List Jvm.Cond) (a : Array Jvm.Value) (st : Jvm.State) : (allAtoms ts).before a st = ts.all (fun c => c.before a st) := by
  induction ts with
  | nil => rfl
  | cons c t ih =>
    show (Jvm.Cond.and c (allAtoms t)).before a st = _
    rw [Jvm.Cond.before_and, ih, List.all_cons]
def words1 : List Jvm.Cond := Jvm.Cond.code x code maxLocals ret :: tables_1
/-- a 'code' word, met by the world's own term for the bytes: nothing is compared byte by byte -/
theorem code_word {y : MethodName} {bytes : ByteArray} {mx : Nat} {rt : Option FieldType} {a : Array Value} {s : State} {m : MethodId} {meth : Method} {c : Code} (h1 : s.methodNamed? y = some m) (h2 : s.vm.method? m = some meth) (h3 : meth.code = some c) (h4 : c.code = bytes)
    (h5 : (c.maxLocals == mx && c.exceptionTable.isEmpty && decide (c.maxStack ≤ mostOperands) && decide (meth.sig.returnType = rt) && !meth.locks && decide (parseMethodDescriptor y.desc = some meth.sig)) = true) : (Jvm.Cond.code y bytes mx rt).before a s = true := by
  simp only [Bool.and_eq_true, beq_iff_eq, Bool.not_eq_true', decide_eq_true_eq] at h5
  obtain ⟨⟨⟨⟨⟨g1, g2⟩, g3⟩, g4⟩, g5⟩, g6⟩ := h5
  simp [Cond.before, Cond.holds, Cond.value, h1, h2, h3, h4, g1, g2, g3, g4, g5, g6]
def isCode : Jvm.Cond → Bool
  | .code _ _ _ _ => true
  | _ => false
theorem all_split {L : List Jvm.Cond} {P : Jvm.Cond → Bool} (h1 : L.all (fun c => isCode c || P c) = true) (h2 : ∀ c ∈ L.filter isCode, P c = true) : L.all P = true := by
  refine List.all_eq_true.mpr fun c hc => ?_
  have h := List.all_eq_true.mp h1 c hc
  rcases Bool.eq_false_or_eq_true (isCode c) with hi | hi
  · exact h2 c (List.mem_filter.mpr ⟨hc, hi⟩)
  · simpa [hi] using h
set_option maxRecDepth 65536 in
theorem w_c0 : (Jvm.Cond.code x code maxLocals ret).before args0 about1 = true := code_word (m := ⟨1, 2⟩) (meth := k1m2) (c := k1c2) (by decide +kernel) rfl rfl rfl (by decide +kernel)
set_option maxRecDepth 65536 in
theorem w_c1 : (Jvm.Cond.code ({ cls := "com/example/treeline/treeline/simple/RelationSwapsSidesPinLaw", name := "pick", desc := "(I)Lcom/example/treeline/treeline/simple/Relation;" } : Jvm.MethodName) method_2_code (1 : Nat) (Option.some (Jvm.ClassFile.FieldType.object "com/example/treeline/treeline/simple/Relation"))).before args0 about1 = true := code_word (m := ⟨1, 1⟩) (meth := k1m1) (c := k1c1) (by decide +kernel) rfl rfl rfl (by decide +kernel)
set_option maxRecDepth 65536 in
theorem w_c2 : (Jvm.Cond.code ({ cls := "com/example/treeline/treeline/simple/Relation", name := "symbol", desc := "()Ljava/lang/String;" } : Jvm.MethodName) prog_64_method_4_code (1 : Nat) (Option.some (Jvm.ClassFile.FieldType.object "java/lang/String"))).before args0 about1 = true := code_word (m := ⟨6, 0⟩) (meth := k6m0) (c := k6c0) (by decide +kernel) rfl rfl rfl (by decide +kernel)
set_option maxRecDepth 65536 in
theorem w_c3 : (Jvm.Cond.code ({ cls := "java/lang/String", name := "length", desc := "()I" } : Jvm.MethodName) jdk_42_method_54_code (1 : Nat) (Option.some Jvm.ClassFile.FieldType.int)).before args0 about1 = true := code_word (m := ⟨9, 1⟩) (meth := k9m1) (c := k9c1) (by decide +kernel) rfl rfl rfl (by decide +kernel)
set_option maxRecDepth 65536 in
theorem w_c4 : (Jvm.Cond.code ({ cls := "java/lang/String", name := "coder", desc := "()B" } : Jvm.MethodName) jdk_42_method_152_code (1 : Nat) (Option.some Jvm.ClassFile.FieldType.byte)).before args0 about1 = true := code_word (m := ⟨9, 3⟩) (meth := k9m3) (c := k9c3) (by decide +kernel) rfl rfl rfl (by decide +kernel)
set_option maxRecDepth 65536 in
theorem w_c5 : (Jvm.Cond.code ({ cls := "java/lang/String", name := "charAt", desc := "(I)C" } : Jvm.MethodName) jdk_42_method_56_code (2 : Nat) (Option.some Jvm.ClassFile.FieldType.char)).before args0 about1 = true := code_word (m := ⟨9, 2⟩) (meth := k9m2) (c := k9c2) (by decide +kernel) rfl rfl rfl (by decide +kernel)
set_option maxRecDepth 65536 in
theorem w_c6 : (Jvm.Cond.code ({ cls := "java/lang/String", name := "isLatin1", desc := "()Z" } : Jvm.MethodName) jdk_42_method_154_code (1 : Nat) (Option.some Jvm.ClassFile.FieldType.boolean)).before args0 about1 = true := code_word (m := ⟨9, 4⟩) (meth := k9m4) (c := k9c4) (by decide +kernel) rfl rfl rfl (by decide +kernel)
set_option maxRecDepth 65536 in
theorem w_c7 : (Jvm.Cond.code ({ cls := "java/lang/StringLatin1", name := "charAt", desc := "([BI)C" } : Jvm.MethodName) jdk_43_method_2_code (2 : Nat) (Option.some Jvm.ClassFile.FieldType.char)).before args0 about1 = true := code_word (m := ⟨10, 1⟩) (meth := k10m1) (c := k10c1) (by decide +kernel) rfl rfl rfl (by decide +kernel)
set_option maxRecDepth 65536 in
theorem w_c8 : (Jvm.Cond.code ({ cls := "java/lang/String", name := "checkIndex", desc := "(II)V" } : Jvm.MethodName) jdk_42_method_155_code (2 : Nat) (Option.none : Option Jvm.ClassFile.FieldType)).before args0 about1 = true := code_word (m := ⟨9, 5⟩) (meth := k9m5) (c := k9c5) (by decide +kernel) rfl rfl rfl (by decide +kernel)
set_option maxRecDepth 65536 in
theorem w_c9 : (Jvm.Cond.code ({ cls := "jdk/internal/util/Preconditions", name := "checkIndex", desc := "(IILjava/util/function/BiFunction;)I" } : Jvm.MethodName) jdk_41_method_11_code (3 : Nat) (Option.some Jvm.ClassFile.FieldType.int)).before args0 about1 = true := code_word (m := ⟨11, 1⟩) (meth := k11m1) (c := k11c1) (by decide +kernel) rfl rfl rfl (by decide +kernel)
set_option maxRecDepth 65536 in
theorem w_c10 : (Jvm.Cond.code ({ cls := "com/example/treeline/treeline/simple/Relation", name := "swapsSides", desc := "()Z" } : Jvm.MethodName) prog_64_method_5_code (1 : Nat) (Option.some Jvm.ClassFile.FieldType.boolean)).before args0 about1 = true := code_word (m := ⟨6, 1⟩) (meth := k6m1) (c := k6c1) (by decide +kernel) rfl rfl rfl (by decide +kernel)
def codes1 : List Jvm.Cond := [Jvm.Cond.code x code maxLocals ret, Jvm.Cond.code ({ cls := "com/example/treeline/treeline/simple/RelationSwapsSidesPinLaw", name := "pick", desc := "(I)Lcom/example/treeline/treeline/simple/Relation;" } : Jvm.MethodName) method_2_code (1 : Nat) (Option.some (Jvm.ClassFile.FieldType.object "com/example/treeline/treeline/simple/Relation")), Jvm.Cond.code ({ cls := "com/example/treeline/treeline/simple/Relation", name := "symbol", desc := "()Ljava/lang/String;" } : Jvm.MethodName) prog_64_method_4_code (1 : Nat) (Option.some (Jvm.ClassFile.FieldType.object "java/lang/String")), Jvm.Cond.code ({ cls := "java/lang/String", name := "length", desc := "()I" } : Jvm.MethodName) jdk_42_method_54_code (1 : Nat) (Option.some Jvm.ClassFile.FieldType.int), Jvm.Cond.code ({ cls := "java/lang/String", name := "coder", desc := "()B" } : Jvm.MethodName) jdk_42_method_152_code (1 : Nat) (Option.some Jvm.ClassFile.FieldType.byte), Jvm.Cond.code ({ cls := "java/lang/String", name := "charAt", desc := "(I)C" } : Jvm.MethodName) jdk_42_method_56_code (2 : Nat) (Option.some Jvm.ClassFile.FieldType.char), Jvm.Cond.code ({ cls := "java/lang/String", name := "isLatin1", desc := "()Z" } : Jvm.MethodName) jdk_42_method_154_code (1 : Nat) (Option.some Jvm.ClassFile.FieldType.boolean), Jvm.Cond.code ({ cls := "java/lang/StringLatin1", name := "charAt", desc := "([BI)C" } : Jvm.MethodName) jdk_43_method_2_code (2 : Nat) (Option.some Jvm.ClassFile.FieldType.char), Jvm.Cond.code ({ cls := "java/lang/String", name := "checkIndex", desc := "(II)V" } : Jvm.MethodName) jdk_42_method_155_code (2 : Nat) (Option.none : Option Jvm.ClassFile.FieldType), Jvm.Cond.code ({ cls := "jdk/internal/util/Preconditions", name := "checkIndex", desc := "(IILjava/util/function/BiFunction;)I" } : Jvm.MethodName) jdk_41_method_11_code (3 : Nat) (Option.some Jvm.ClassFile.FieldType.int), Jvm.Cond.code ({ cls := "com/example/treeline/treeline/simple/Relation", name := "swapsSides", desc := "()Z" } : Jvm.MethodName) prog_64_method_5_code (1 : Nat) (Option.some Jvm.ClassFile.FieldType.boolean)]
set_option maxRecDepth 65536 in
theorem codes_eq : words1.filter isCode = codes1 := rfl
theorem w_codes : ∀ c ∈ words1.filter isCode, c.before args0 about1 = true := by
  rw [codes_eq]
  intro c hc
  simp only [codes1, List.mem_cons, List.not_mem_nil, or_false] at hc
  rcases hc with rfl | rfl | rfl | rfl | rfl | rfl | rfl | rfl | rfl | rfl | rfl
  · exact w_c0
  · exact w_c1
  · exact w_c2
  · exact w_c3
  · exact w_c4
  · exact w_c5
  · exact w_c6
  · exact w_c7
  · exact w_c8
  · exact w_c9
  · exact w_c10
set_option maxRecDepth 65536 in
theorem w_t1 : (words1.take 24).all (fun c => isCode c || c.before args0 about1) = true := by decide +kernel
set_option maxRecDepth 65536 in
theorem w_t2 : ((words1.drop 24).take 24).all (fun c => isCode c || c.before args0 about1) = true := by decide +kernel
set_option maxRecDepth 65536 in
theorem w_t3 : ((words1.drop 24).drop 24).all (fun c => isCode c || c.before args0 about1) = true := by decide +kernel
theorem w_tables : (allAtoms (Jvm.Cond.code x code maxLocals ret :: tables_1)).before args0 about1 = true := by
  rw [allAtoms_all]
  show words1.all (fun c => c.before args0 about1) = true
  refine all_split ?_ w_codes
  rw [← List.take_append_drop 24 words1, List.all_append, w_t1, ← List.take_append_drop 24 (words1.drop 24), List.all_append, w_t2, w_t3]
  rfl
set_option maxRecDepth 65536 in
theorem w_rest : rest_1_c.before args0 about1 = true := by decide +kernel
set_option maxRecDepth 65536 in
theorem w_case : (Jvm.Cond.and given_1 narrow_1).before args0 about1 = true := by decide +kernel
theorem w_applies : (headSpec (Jvm.Cond.code x code maxLocals ret :: tables_1) room_1).applies x e0.platform about1 = true :=
  (Spec.applies_iff w_frames).mpr ⟨w_running, w_runnable, w_alone, w_named, w_hears, w_ripe, w_room, w_tables⟩
theorem atStart : AtStart classFile x code maxLocals ret World_1 tables_1 room_1 Calls_1 rest_1 Pre_1 launch0 p0 e0 about1 theMethod args0 below0 :=
  ⟨lists_1, trivial, launch0.admits_env _ _ _, launch0.least_env, fairChoices_fair.cas, fairChoices_fair.clock, w_frames, w_args, w_heap, w_applies, trivial, w_rest, w_case⟩
end start1
theorem witness_1 : WitnessClaimed_1 := ⟨start1.p0, start1.e0, start1.about1, start1.theMethod, start1.args0, start1.below0, start1.atStart⟩
end Jvm.Pilot.@@N@@
