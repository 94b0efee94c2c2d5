import JvmDerived
import JvmDerived.Pilot.@@N@@Statement
import JvmDerived.Pilot.@@N@@Code
set_option linter.unusedVariables false
set_option linter.unusedSimpArgs false
namespace Jvm.RoadKit
open Sem ClassFile Op Lib Jvm.Stand Jvm.Free Jvm.LawKit
section New
variable {p : Program} {l : Launch} {e : Env} {R : Room} {s : State} {m : MethodId} {args : Array Value} {below : List Frame} {meth : Method} {c : Code} {T : State} {locs : List Loc} {cells slots : Nat}
theorem retI (X : Stand p l e R s m args below meth c T locs cells slots) (hx : p.tables.exec = Jvm.exec) {pc : Nat} {Ls : Array Slot} {z : Int32} {rest : List Value} (hret : meth.sig.returnType = some .int) (hd : decode c.code pc = .ok (.ireturn, 1)) {fs : List Frame}
    (hl : ∀ (f : JFrame) (acts : List Action), f.method = m → f.locked = none → f.entered = [] → (doReturn e (T.setTop f) acts (some (.int z))).1 = T.setFrames fs) : Steps p.tables e below (T.setTop (mkF m pc Ls (.int z :: rest))) (T.setFrames fs) := by
  have hm' : T.vm.method? m = some meth := X.method'
  have hn : narrow .int (.int z) = .int z := rfl
  show Steps p.tables e below (T.setTop { method := m, pc := pc, locals := Ls, stack := _ :: rest, locked := none }) _
  jvm_step X.here [X.here.top, hx, hd, hm', hret, hn]
  first | (intro acts; rw [hl _ acts rfl rfl rfl]) | rw [hl _ _ rfl rfl rfl]
  exact Steps.refl _
end New
end Jvm.RoadKit
namespace Jvm.Pilot.@@N@@
open Jvm Jvm.ClassFile Sem Op Lib Jvm.Free Jvm.Stand Jvm.LawKit Jvm.RoadKit Bundle Jvm.Pilot.@@N@@.Jvm.D
theorem own_bt {P : Prop} [Decidable P] (h : P) : ifCond.holds .eq (if P then (1 : Int32) else (0 : Int32)) = false ∧ ifCond.holds .ne (if P then (1 : Int32) else (0 : Int32)) = true := by rw [if_pos h]; exact ⟨rfl, rfl⟩
theorem own_bf {P : Prop} [Decidable P] (h : ¬ P) : ifCond.holds .eq (if P then (1 : Int32) else (0 : Int32)) = true ∧ ifCond.holds .ne (if P then (1 : Int32) else (0 : Int32)) = false := by rw [if_neg h]; exact ⟨rfl, rfl⟩
theorem own_getI (L : List Int32) (i : Nat) : (List.map Value.int L).getD i (.int (0 : Int32)) = .int (L.getD i 0) := by
  simp only [List.getD_eq_getElem?_getD, List.getElem?_map]; cases L[i]? <;> rfl
theorem own_getJ (L : List Int64) (i : Nat) : (List.map Value.long L).getD i (.long (0 : Int64)) = .long (L.getD i 0) := by
  simp only [List.getD_eq_getElem?_getD, List.getElem?_map]; cases L[i]? <;> rfl
theorem own_setI (L : List Int32) (i : Nat) (x : Int32) : (List.map Value.int L).set i (.int x) = List.map Value.int (L.set i x) := (List.map_set).symm
theorem own_setJ (L : List Int64) (i : Nat) (x : Int64) : (List.map Value.long L).set i (.long x) = List.map Value.long (L.set i x) := (List.map_set).symm
theorem own_ns {Z : State} {h : Heap} {o : Addr} {C : String} (E : Exa Z h o C) : ∃ c : Cell, h[o]? = some c ∧ c.vm.isStatics = false := by
  obtain ⟨c, k, h1, -, -, h4, -⟩ := E; exact ⟨c, h1, h4⟩
theorem own_sta_keep {Z : State} {h h' : Heap} {ws : List Addr} {C n d : String} {v : Value} (S : Sta Z h C n d v) (K : Keep h h' ws) (q : ∀ w ∈ ws, ∃ c : Cell, h[w]? = some c ∧ c.vm.isStatics = false) : Sta Z h' C n d v := by
  obtain ⟨cf, i, k, f, st, cell, h1, h2, h3, h4, h5, h6, h7⟩ := S
  refine ⟨cf, i, k, f, st, cell, h1, h2, h3, h4, K.2.1 _ _ h5 (fun z => ?_), h6, h7⟩
  obtain ⟨c, e1, e2⟩ := q _ z
  cases h5.symm.trans e1; rw [e2] at h6; cases h6
theorem own_selp {s : State} {args args' : Array Value} {y z : MethodName} (hcls : z.cls = y.cls) (hnf : NotFace s z) (hz : (Cond.instanceMethod z).before args' s = true) (hpriv : s.PrivateAt y) (hinst : (Cond.instanceMethod y).before args s = true) (hy : y.cls ≠ "java/lang/invoke/MethodHandle" ∧ y.cls ≠ "java/lang/invoke/VarHandle") : (Cond.selects y.cls y y).before args s = true := by
  obtain ⟨mz, _, hnz, _⟩ := Cond.instanceMethod_spec hz
  obtain ⟨k, hk, hni⟩ := hnf mz hnz
  exact selects_self_of_private (by rw [← hcls]; exact findClass_of_methodNamed hnz) hk hni hpriv hinst hy
theorem own_swne {x k : Int32} {n : Int} (h : ¬ x = k) (e : k.toInt = n) : n ≠ x.toInt := fun q => h (Int32.toInt_inj.mp (by rw [e, q]))
theorem own_wS {Z : State} {a0 : Array Value} (hw : ∀ d ∈ tables_1, d.before a0 Z = true) : ∀ a ∈ Bundle.stringAtoms, a.before a0 Z = true := fun a ha => by
  simp only [Bundle.stringAtoms, List.mem_cons, List.not_mem_nil, or_false] at ha
  rcases ha with rfl | rfl | rfl | rfl | rfl | rfl | rfl
  · exact (hw _ (List.mem_of_getElem? (i := 18) rfl))
  · exact (hw _ (List.mem_of_getElem? (i := 19) rfl))
  · exact (hw _ (List.mem_of_getElem? (i := 20) rfl))
  · exact (hw _ (List.mem_of_getElem? (i := 21) rfl))
  · exact (hw _ (List.mem_of_getElem? (i := 22) rfl))
  · exact (hw _ (List.mem_of_getElem? (i := 23) rfl))
  · exact (hw _ (List.mem_of_getElem? (i := 24) rfl))
theorem d1_0 : decode method_2_code 0 = .ok (.iload_n 0, 1) := by decide +kernel
theorem d1_1 : decode method_2_code 1 = .ok (.ldc 7, 2) := by decide +kernel
theorem d1_3 : decode method_2_code 3 = .ok (.iand, 1) := by decide +kernel
theorem d1_4 : decode method_2_code 4 = .ok (.iconst 3, 1) := by decide +kernel
theorem d1_5 : decode method_2_code 5 = .ok (.irem, 1) := by decide +kernel
theorem d1_6 : decode method_2_code 6 = .ok (.istore_n 1, 1) := by decide +kernel
theorem d1_7 : decode method_2_code 7 = .ok (.iload_n 1, 1) := by decide +kernel
theorem d1_8 : decode method_2_code 8 = .ok (.ifCond .ne 7, 3) := by decide +kernel
theorem d1_11 : decode method_2_code 11 = .ok (.getstatic 8, 3) := by decide +kernel
theorem d1_14 : decode method_2_code 14 = .ok (.areturn, 1) := by decide +kernel
theorem d1_15 : decode method_2_code 15 = .ok (.iload_n 1, 1) := by decide +kernel
theorem d1_16 : decode method_2_code 16 = .ok (.iconst 1, 1) := by decide +kernel
theorem d1_17 : decode method_2_code 17 = .ok (.if_icmp .ne 7, 3) := by decide +kernel
theorem d1_20 : decode method_2_code 20 = .ok (.getstatic 14, 3) := by decide +kernel
theorem d1_23 : decode method_2_code 23 = .ok (.areturn, 1) := by decide +kernel
theorem d1_24 : decode method_2_code 24 = .ok (.getstatic 17, 3) := by decide +kernel
theorem d1_27 : decode method_2_code 27 = .ok (.areturn, 1) := by decide +kernel
theorem pn_0 : plainName "com/example/vireo/vireo/store/DispositionDroppedPinLaw" = true := by first | (simp [plainName, overriddenIn]; done) | decide +kernel
theorem ef_1 (m : MethodId) (x0 : Int32)  : entryFrame m #[(.int x0)] 2 = mkF m 0 #[.val (.int x0), .unset] [] := by first | (simp [entryFrame, mkF, argsToLocals, Value.category]; done) | rfl
def F1 (x0 : Int32) (sM : Addr) (sT : Addr) (sN : Addr) : Addr := if ((x0 &&& (2147483647 : Int32)) % (3 : Int32)) = (0 : Int32) then sM else (if ((x0 &&& (2147483647 : Int32)) % (3 : Int32)) = (1 : Int32) then sT else sN)
def Q1 (Z : State) (x0 : Int32) (sM : Addr) (sT : Addr) (sN : Addr) (h0 : Heap) (n0 : Nat) (vE : Option Value) (hE : Heap) (LE : List Loc) : Prop := vE = some (.ref (F1 x0 sM sT sN)) ∧ Fr n0 LE ∧ hE = h0
set_option maxRecDepth 65536 in
set_option maxHeartbeats 40000000 in
theorem rm1 (l : Launch) (Z : State) (a0 : Array Value) (hw : ∀ d ∈ tables_1, d.before a0 Z = true) (ws : List Jvm.Cond) (x0 : Int32) (sM : Addr) (sT : Addr) (sN : Addr) (h0 : Heap) (n0 : Nat) (Z0 : n0 ≤ h0.size) (S_sM : Sta Z h0 "com/example/vireo/vireo/UndeliverableReason" "MAX_DELIVERY_ATTEMPTS_EXCEEDED" "Lcom/example/vireo/vireo/UndeliverableReason;" (.ref sM)) (S_sT : Sta Z h0 "com/example/vireo/vireo/UndeliverableReason" "TIME_TO_LIVE_EXCEEDED" "Lcom/example/vireo/vireo/UndeliverableReason;" (.ref sT)) (S_sN : Sta Z h0 "com/example/vireo/vireo/UndeliverableReason" "NON_RETRIABLE_RESPONSE" "Lcom/example/vireo/vireo/UndeliverableReason;" (.ref sN)) :
    MetFree l (⟨"com/example/vireo/vireo/store/DispositionDroppedPinLaw", "pick", "(I)Lcom/example/vireo/vireo/UndeliverableReason;"⟩ : MethodName) (head1 (Jvm.Cond.code (⟨"com/example/vireo/vireo/store/DispositionDroppedPinLaw", "pick", "(I)Lcom/example/vireo/vireo/UndeliverableReason;"⟩ : MethodName) method_2_code 2 (some (.object "com/example/vireo/vireo/UndeliverableReason")) :: ws) ({ frames := 0, cells := 0, slots := 0, locals := 0 } : Room)) (fun a U => a = #[(.int x0)] ∧ Z.Warmed39 U.vm ∧ U.heap = h0) (fun _ _ _ _ _ => True) (fun _ U o U' => ∃ vE LE, o = .returned vE ∧ Q1 Z x0 sM sT sN h0 n0 vE U'.heap LE ∧ FrameEnd U o U' LE ({ frames := 0, cells := 0, slots := 0, locals := 0 } : Room).cells ({ frames := 0, cells := 0, slots := 0, locals := 0 } : Room).slots) := by
  refine MetFree.of_bodySF (plainFor_of_name pn_0) hisR ?_
  intro p e s m args below meth c s₁ Bd hml0 hP hK
  obtain ⟨rfl, hZ, hh⟩ := hP
  have hx := Bd.exec
  have hby := Bd.bytes
  have hml : c.maxLocals = 2 := hml0
  have hown : s.vm.findClass "com/example/vireo/vireo/store/DispositionDroppedPinLaw" = some m.cls := findClass_of_methodNamed Bd.named
  have hnm := (name_of_methodNamed Bd.named Bd.method).1
  have X0 : Stand p l e ({ frames := 0, cells := 0, slots := 0, locals := 0 } : Room) s m #[(.int x0)] below meth c s₁ [] 0 0 := Stand.of_body Bd
  have e0 : s₁.heap = h0 := by rw [← hh, Bd.state]; rfl
  have N0 := Fr.nil n0
  have st0 : Steps p.tables e below (s₁.setTop (entryFrame m #[(.int x0)] 2)) (s₁.setTop (mkF m 0 #[.val (.int x0), .unset] [])) := castTop (ef_1 m x0) (Steps.refl _)
  have st1 : Steps p.tables e below (s₁.setTop (entryFrame m #[(.int x0)] 2)) (s₁.setTop (mkF m 8 #[.val (.int x0), .val (.int ((x0 &&& (2147483647 : Int32)) % (3 : Int32)))] [(.int ((x0 &&& (2147483647 : Int32)) % (3 : Int32)))])) := st0.trans (by
      show Steps p.tables e below (s₁.setTop (mkF m 0 #[.val (.int x0), .unset] [])) _
      refine XS.iloadN X0.here hx rfl (hb hby d1_0) rfl ?_
      show Steps p.tables e below (s₁.setTop (mkF m 1 #[.val (.int x0), .unset] [(.int x0)])) _
      refine X0.ldcInt hx hown (mvT hZ (hw _ (List.mem_of_getElem? (i := 4) rfl))) (g := (mkF m 1 #[.val (.int x0), .unset] [(.int x0)])) rfl (hb hby d1_1) _ ?_
      show Steps p.tables e below (s₁.setTop (mkF m 3 #[.val (.int x0), .unset] [(.int (2147483647 : Int32)), (.int x0)])) _
      refine XS.iand X0.here hx rfl (hb hby d1_3) rfl ?_
      show Steps p.tables e below (s₁.setTop (mkF m 4 #[.val (.int x0), .unset] [(.int (x0 &&& (2147483647 : Int32)))])) _
      refine XS.iconst X0.here hx rfl (hb hby d1_4) ?_
      show Steps p.tables e below (s₁.setTop (mkF m 5 #[.val (.int x0), .unset] [(.int (3 : Int32)), (.int (x0 &&& (2147483647 : Int32)))])) _
      refine iremM X0 hx rfl (hb hby d1_5) rfl (by decide) ?_
      show Steps p.tables e below (s₁.setTop (mkF m 6 #[.val (.int x0), .unset] [(.int ((x0 &&& (2147483647 : Int32)) % (3 : Int32)))])) _
      refine XS.istoreN X0.here hx rfl (hb hby d1_6) rfl (l' := #[.val (.int x0), .val (.int ((x0 &&& (2147483647 : Int32)) % (3 : Int32)))]) rfl ?_
      show Steps p.tables e below (s₁.setTop (mkF m 7 #[.val (.int x0), .val (.int ((x0 &&& (2147483647 : Int32)) % (3 : Int32)))] [])) _
      refine XS.iloadN X0.here hx rfl (hb hby d1_7) rfl ?_
      exact Steps.refl _)
  by_cases hc2 : ((x0 &&& (2147483647 : Int32)) % (3 : Int32)) = (0 : Int32)
  · have st3 : Steps p.tables e below (s₁.setTop (entryFrame m #[(.int x0)] 2)) (s₁.setTop (mkF m 11 #[.val (.int x0), .val (.int ((x0 &&& (2147483647 : Int32)) % (3 : Int32)))] [])) := st1.trans (by
        show Steps p.tables e below (s₁.setTop (mkF m 8 #[.val (.int x0), .val (.int ((x0 &&& (2147483647 : Int32)) % (3 : Int32)))] [(.int ((x0 &&& (2147483647 : Int32)) % (3 : Int32)))])) _
        refine XS.ifNo X0.here hx rfl (hb hby d1_8) rfl ((if0 _ _).trans (teq hc2).2) ?_
        exact Steps.refl _)
    obtain ⟨T4, X4, e4, sr4⟩ := getS2 X0 hx hZ hown (host := "") (Or.inl (hw _ (List.mem_of_getElem? (i := 5) rfl))) Via.refl e0 S_sM (g := (mkF m 11 #[.val (.int x0), .val (.int ((x0 &&& (2147483647 : Int32)) % (3 : Int32)))] [])) rfl (hb hby d1_11)
    have st5 : Steps p.tables e below (s₁.setTop (entryFrame m #[(.int x0)] 2)) (T4.setTop (mkF m 14 #[.val (.int x0), .val (.int ((x0 &&& (2147483647 : Int32)) % (3 : Int32)))] [(.ref sM)])) := st3.trans (sr4 _ (Steps.refl _))
    obtain ⟨fs, hr, hrun, hended, hW, hsame⟩ := X4.leave (v := some (.ref sM)) (fun h => by rw [Bd.returns] at h; cases h)
    refine ⟨_, _, st5.trans ?_, hrun, hended, _, _, rfl, ?_, ⟨_, rfl⟩, hW, hsame.mono (by decide) (by decide)⟩
    · exact retOut X4 hx (t := (.object "com/example/vireo/vireo/UndeliverableReason")) Bd.returns rfl (Or.inr (Or.inr (Or.inr (Or.inr ⟨rfl, rfl, rfl⟩)))) (hb hby d1_14) hr
    · show Q1 Z x0 sM sT sN h0 n0 _ T4.heap _
      rw [e4]
      exact ⟨by rw [F1, if_pos hc2], N0, rfl⟩
  · have st6 : Steps p.tables e below (s₁.setTop (entryFrame m #[(.int x0)] 2)) (s₁.setTop (mkF m 17 #[.val (.int x0), .val (.int ((x0 &&& (2147483647 : Int32)) % (3 : Int32)))] [(.int (1 : Int32)), (.int ((x0 &&& (2147483647 : Int32)) % (3 : Int32)))])) := st1.trans (by
        show Steps p.tables e below (s₁.setTop (mkF m 8 #[.val (.int x0), .val (.int ((x0 &&& (2147483647 : Int32)) % (3 : Int32)))] [(.int ((x0 &&& (2147483647 : Int32)) % (3 : Int32)))])) _
        refine XS.ifYes X0.here hx rfl (pc0 := 8) (pc' := 15) rfl (hb hby d1_8) rfl ((if0 _ _).trans (feq hc2).2) (by decide) (by decide) ?_
        show Steps p.tables e below (s₁.setTop (mkF m 15 #[.val (.int x0), .val (.int ((x0 &&& (2147483647 : Int32)) % (3 : Int32)))] [])) _
        refine XS.iloadN X0.here hx rfl (hb hby d1_15) rfl ?_
        show Steps p.tables e below (s₁.setTop (mkF m 16 #[.val (.int x0), .val (.int ((x0 &&& (2147483647 : Int32)) % (3 : Int32)))] [(.int ((x0 &&& (2147483647 : Int32)) % (3 : Int32)))])) _
        refine XS.iconst X0.here hx rfl (hb hby d1_16) ?_
        exact Steps.refl _)
    by_cases hc7 : ((x0 &&& (2147483647 : Int32)) % (3 : Int32)) = (1 : Int32)
    · have st8 : Steps p.tables e below (s₁.setTop (entryFrame m #[(.int x0)] 2)) (s₁.setTop (mkF m 20 #[.val (.int x0), .val (.int ((x0 &&& (2147483647 : Int32)) % (3 : Int32)))] [])) := st6.trans (by
          show Steps p.tables e below (s₁.setTop (mkF m 17 #[.val (.int x0), .val (.int ((x0 &&& (2147483647 : Int32)) % (3 : Int32)))] [(.int (1 : Int32)), (.int ((x0 &&& (2147483647 : Int32)) % (3 : Int32)))])) _
          refine XS.icmpNo X0.here hx rfl (hb hby d1_17) rfl (teq hc7).2 ?_
          exact Steps.refl _)
      obtain ⟨T9, X9, e9, sr9⟩ := getS2 X0 hx hZ hown (host := "") (Or.inl (hw _ (List.mem_of_getElem? (i := 67) rfl))) Via.refl e0 S_sT (g := (mkF m 20 #[.val (.int x0), .val (.int ((x0 &&& (2147483647 : Int32)) % (3 : Int32)))] [])) rfl (hb hby d1_20)
      have st10 : Steps p.tables e below (s₁.setTop (entryFrame m #[(.int x0)] 2)) (T9.setTop (mkF m 23 #[.val (.int x0), .val (.int ((x0 &&& (2147483647 : Int32)) % (3 : Int32)))] [(.ref sT)])) := st8.trans (sr9 _ (Steps.refl _))
      obtain ⟨fs, hr, hrun, hended, hW, hsame⟩ := X9.leave (v := some (.ref sT)) (fun h => by rw [Bd.returns] at h; cases h)
      refine ⟨_, _, st10.trans ?_, hrun, hended, _, _, rfl, ?_, ⟨_, rfl⟩, hW, hsame.mono (by decide) (by decide)⟩
      · exact retOut X9 hx (t := (.object "com/example/vireo/vireo/UndeliverableReason")) Bd.returns rfl (Or.inr (Or.inr (Or.inr (Or.inr ⟨rfl, rfl, rfl⟩)))) (hb hby d1_23) hr
      · show Q1 Z x0 sM sT sN h0 n0 _ T9.heap _
        rw [e9]
        exact ⟨by rw [F1, if_neg hc2, if_pos hc7], N0, rfl⟩
    · have st11 : Steps p.tables e below (s₁.setTop (entryFrame m #[(.int x0)] 2)) (s₁.setTop (mkF m 24 #[.val (.int x0), .val (.int ((x0 &&& (2147483647 : Int32)) % (3 : Int32)))] [])) := st6.trans (by
          show Steps p.tables e below (s₁.setTop (mkF m 17 #[.val (.int x0), .val (.int ((x0 &&& (2147483647 : Int32)) % (3 : Int32)))] [(.int (1 : Int32)), (.int ((x0 &&& (2147483647 : Int32)) % (3 : Int32)))])) _
          refine XS.icmpYes X0.here hx rfl (pc0 := 17) (pc' := 24) rfl (hb hby d1_17) rfl (feq hc7).2 (by decide) (by decide) ?_
          exact Steps.refl _)
      obtain ⟨T12, X12, e12, sr12⟩ := getS2 X0 hx hZ hown (host := "") (Or.inl (hw _ (List.mem_of_getElem? (i := 65) rfl))) Via.refl e0 S_sN (g := (mkF m 24 #[.val (.int x0), .val (.int ((x0 &&& (2147483647 : Int32)) % (3 : Int32)))] [])) rfl (hb hby d1_24)
      have st13 : Steps p.tables e below (s₁.setTop (entryFrame m #[(.int x0)] 2)) (T12.setTop (mkF m 27 #[.val (.int x0), .val (.int ((x0 &&& (2147483647 : Int32)) % (3 : Int32)))] [(.ref sN)])) := st11.trans (sr12 _ (Steps.refl _))
      obtain ⟨fs, hr, hrun, hended, hW, hsame⟩ := X12.leave (v := some (.ref sN)) (fun h => by rw [Bd.returns] at h; cases h)
      refine ⟨_, _, st13.trans ?_, hrun, hended, _, _, rfl, ?_, ⟨_, rfl⟩, hW, hsame.mono (by decide) (by decide)⟩
      · exact retOut X12 hx (t := (.object "com/example/vireo/vireo/UndeliverableReason")) Bd.returns rfl (Or.inr (Or.inr (Or.inr (Or.inr ⟨rfl, rfl, rfl⟩)))) (hb hby d1_27) hr
      · show Q1 Z x0 sM sT sN h0 n0 _ T12.heap _
        rw [e12]
        exact ⟨by rw [F1, if_neg hc2, if_neg hc7], N0, rfl⟩
theorem d5_0 : decode jdk_30_method_1_code 0 = .ok (.aload_n 0, 1) := by decide +kernel
theorem d5_1 : decode jdk_30_method_1_code 1 = .ok (.invokespecial 1, 3) := by decide +kernel
theorem d5_4 : decode jdk_30_method_1_code 4 = .ok (.return_, 1) := by decide +kernel
theorem pn_1 : plainName "java/lang/Record" = true := by first | (simp [plainName, overriddenIn]; done) | decide +kernel
theorem ef_5 (m : MethodId) (x0 : Addr)  : entryFrame m #[(.ref x0)] 1 = mkF m 0 #[.val (.ref x0)] [] := by first | (simp [entryFrame, mkF, argsToLocals, Value.category]; done) | rfl
def Q5 (Z : State) (x0 : Addr) (h0 : Heap) (n0 : Nat) (vE : Option Value) (hE : Heap) (LE : List Loc) : Prop := vE = none ∧ Fr n0 LE ∧ hE = h0
set_option maxRecDepth 65536 in
set_option maxHeartbeats 40000000 in
theorem rm5 (l : Launch) (Z : State) (a0 : Array Value) (hw : ∀ d ∈ tables_1, d.before a0 Z = true) (ws : List Jvm.Cond) (x0 : Addr) (h0 : Heap) (n0 : Nat) (Z0 : n0 ≤ h0.size) :
    MetFree l (⟨"java/lang/Record", "<init>", "()V"⟩ : MethodName) (head1 (Jvm.Cond.code (⟨"java/lang/Record", "<init>", "()V"⟩ : MethodName) jdk_30_method_1_code 1 none :: ws) ({ frames := 1, cells := 0, slots := 0, locals := 12 } : Room)) (fun a U => a = #[(.ref x0)] ∧ Z.Warmed39 U.vm ∧ U.heap = h0) (fun _ _ _ _ _ => True) (fun _ U o U' => ∃ vE LE, o = .returned vE ∧ Q5 Z x0 h0 n0 vE U'.heap LE ∧ FrameEnd U o U' LE ({ frames := 1, cells := 0, slots := 0, locals := 12 } : Room).cells ({ frames := 1, cells := 0, slots := 0, locals := 12 } : Room).slots) := by
  refine MetFree.of_bodySF (plainFor_of_name pn_1) hisR ?_
  intro p e s m args below meth c s₁ Bd hml0 hP hK
  obtain ⟨rfl, hZ, hh⟩ := hP
  have hx := Bd.exec
  have hby := Bd.bytes
  have hml : c.maxLocals = 1 := hml0
  have hown : s.vm.findClass "java/lang/Record" = some m.cls := findClass_of_methodNamed Bd.named
  have hnm := (name_of_methodNamed Bd.named Bd.method).1
  have X0 : Stand p l e ({ frames := 1, cells := 0, slots := 0, locals := 12 } : Room) s m #[(.ref x0)] below meth c s₁ [] 0 0 := Stand.of_body Bd
  have e0 : s₁.heap = h0 := by rw [← hh, Bd.state]; rfl
  have N0 := Fr.nil n0
  have st0 : Steps p.tables e below (s₁.setTop (entryFrame m #[(.ref x0)] 1)) (s₁.setTop (mkF m 0 #[.val (.ref x0)] [])) := castTop (ef_5 m x0) (Steps.refl _)
  have st1 : Steps p.tables e below (s₁.setTop (entryFrame m #[(.ref x0)] 1)) (s₁.setTop (mkF m 1 #[.val (.ref x0)] [(.ref x0)])) := st0.trans (by
      show Steps p.tables e below (s₁.setTop (mkF m 0 #[.val (.ref x0)] [])) _
      refine XS.aloadN X0.here hx rfl (hb hby d5_0) rfl rfl ?_
      exact Steps.refl _)
  obtain ⟨T2, X2, e2, sr2⟩ := initO X0 hx hZ hown (hw _ (List.mem_of_getElem? (i := 39) rfl)) (hw _ (List.mem_of_getElem? (i := 40) rfl)) (hw _ (List.mem_of_getElem? (i := 41) rfl)) e0 (g := (mkF m 1 #[.val (.ref x0)] [(.ref x0)])) rfl (by rw [hml]; rfl) rfl (hb hby d5_1) (by decide) (W := 0) (by show 2 * 0 + _ ≤ _; exact Nat.le_of_eq rfl) (by decide)
  have st3 : Steps p.tables e below (s₁.setTop (entryFrame m #[(.ref x0)] 1)) (T2.setTop (mkF m 4 #[.val (.ref x0)] [])) := st1.trans (sr2 _ (Steps.refl _))
  obtain ⟨fs, hr, hrun, hended, hW, hsame⟩ := X2.leave (v := none) (fun _ => rfl)
  refine ⟨_, _, st3.trans ?_, hrun, hended, _, _, rfl, ?_, ⟨_, rfl⟩, hW, hsame.mono (by decide) (by decide)⟩
  · exact X2.returnOut hx Bd.returns (hb hby d5_4) hr
  · show Q5 Z x0 h0 n0 _ T2.heap _
    rw [e2]
    exact ⟨rfl, N0, rfl⟩
theorem d3_0 : decode jdk_31_method_11_code 0 = .ok (.aload_n 0, 1) := by decide +kernel
theorem d3_1 : decode jdk_31_method_11_code 1 = .ok (.ifnonnull 12, 3) := by decide +kernel
theorem d3_13 : decode jdk_31_method_11_code 13 = .ok (.aload_n 0, 1) := by decide +kernel
theorem d3_14 : decode jdk_31_method_11_code 14 = .ok (.areturn, 1) := by decide +kernel
theorem pn_2 : plainName "java/util/Objects" = true := by first | (simp [plainName, overriddenIn]; done) | decide +kernel
theorem ef_3 (m : MethodId) (x0 : Addr) (x1 : Addr)  : entryFrame m #[(.ref x0), (.ref x1)] 2 = mkF m 0 #[.val (.ref x0), .val (.ref x1)] [] := by first | (simp [entryFrame, mkF, argsToLocals, Value.category]; done) | rfl
def Q3 (Z : State) (x0 : Addr) (x1 : Addr) (h0 : Heap) (n0 : Nat) (vE : Option Value) (hE : Heap) (LE : List Loc) : Prop := vE = some (.ref x0) ∧ Fr n0 LE ∧ hE = h0
set_option maxRecDepth 65536 in
set_option maxHeartbeats 40000000 in
theorem rm3 (l : Launch) (Z : State) (a0 : Array Value) (hw : ∀ d ∈ tables_1, d.before a0 Z = true) (ws : List Jvm.Cond) (x0 : Addr) (x1 : Addr) (h0 : Heap) (n0 : Nat) (Z0 : n0 ≤ h0.size) :
    MetFree l (⟨"java/util/Objects", "requireNonNull", "(Ljava/lang/Object;Ljava/lang/String;)Ljava/lang/Object;"⟩ : MethodName) (head1 (Jvm.Cond.code (⟨"java/util/Objects", "requireNonNull", "(Ljava/lang/Object;Ljava/lang/String;)Ljava/lang/Object;"⟩ : MethodName) jdk_31_method_11_code 2 (some (.object "java/lang/Object")) :: ws) ({ frames := 0, cells := 0, slots := 0, locals := 0 } : Room)) (fun a U => a = #[(.ref x0), (.ref x1)] ∧ Z.Warmed39 U.vm ∧ U.heap = h0) (fun _ _ _ _ _ => True) (fun _ U o U' => ∃ vE LE, o = .returned vE ∧ Q3 Z x0 x1 h0 n0 vE U'.heap LE ∧ FrameEnd U o U' LE ({ frames := 0, cells := 0, slots := 0, locals := 0 } : Room).cells ({ frames := 0, cells := 0, slots := 0, locals := 0 } : Room).slots) := by
  refine MetFree.of_bodySF (plainFor_of_name pn_2) hisR ?_
  intro p e s m args below meth c s₁ Bd hml0 hP hK
  obtain ⟨rfl, hZ, hh⟩ := hP
  have hx := Bd.exec
  have hby := Bd.bytes
  have hml : c.maxLocals = 2 := hml0
  have hown : s.vm.findClass "java/util/Objects" = some m.cls := findClass_of_methodNamed Bd.named
  have hnm := (name_of_methodNamed Bd.named Bd.method).1
  have X0 : Stand p l e ({ frames := 0, cells := 0, slots := 0, locals := 0 } : Room) s m #[(.ref x0), (.ref x1)] below meth c s₁ [] 0 0 := Stand.of_body Bd
  have e0 : s₁.heap = h0 := by rw [← hh, Bd.state]; rfl
  have N0 := Fr.nil n0
  have st0 : Steps p.tables e below (s₁.setTop (entryFrame m #[(.ref x0), (.ref x1)] 2)) (s₁.setTop (mkF m 0 #[.val (.ref x0), .val (.ref x1)] [])) := castTop (ef_3 m x0 x1) (Steps.refl _)
  have st1 : Steps p.tables e below (s₁.setTop (entryFrame m #[(.ref x0), (.ref x1)] 2)) (s₁.setTop (mkF m 14 #[.val (.ref x0), .val (.ref x1)] [(.ref x0)])) := st0.trans (by
      show Steps p.tables e below (s₁.setTop (mkF m 0 #[.val (.ref x0), .val (.ref x1)] [])) _
      refine XS.aloadN X0.here hx rfl (hb hby d3_0) rfl rfl ?_
      show Steps p.tables e below (s₁.setTop (mkF m 1 #[.val (.ref x0), .val (.ref x1)] [(.ref x0)])) _
      refine XS.ifnonnullYes X0.here hx rfl (pc0 := 1) (pc' := 13) rfl (hb hby d3_1) rfl (by decide) (by decide) ?_
      show Steps p.tables e below (s₁.setTop (mkF m 13 #[.val (.ref x0), .val (.ref x1)] [])) _
      refine XS.aloadN X0.here hx rfl (hb hby d3_13) rfl rfl ?_
      exact Steps.refl _)
  obtain ⟨fs, hr, hrun, hended, hW, hsame⟩ := X0.leave (v := some (.ref x0)) (fun h => by rw [Bd.returns] at h; cases h)
  refine ⟨_, _, st1.trans ?_, hrun, hended, _, _, rfl, ?_, ⟨_, rfl⟩, hW, hsame.mono (by decide) (by decide)⟩
  · exact retOut X0 hx (t := (.object "java/lang/Object")) Bd.returns rfl (Or.inr (Or.inr (Or.inr (Or.inr ⟨rfl, rfl, rfl⟩)))) (hb hby d3_14) hr
  · show Q3 Z x0 x1 h0 n0 _ s₁.heap _
    rw [e0]
    exact ⟨rfl, N0, rfl⟩
theorem pd_0 : parseMethodDescriptor "()V" = some ⟨[], none⟩ := by decide +kernel
theorem pd_1 : parseMethodDescriptor "(Ljava/lang/Object;Ljava/lang/String;)Ljava/lang/Object;" = some ⟨[(.object "java/lang/Object"), (.object "java/lang/String")], some (.object "java/lang/Object")⟩ := by decide +kernel
theorem d4_0 : decode prog_15_method_1_code 0 = .ok (.aload_n 0, 1) := by decide +kernel
theorem d4_1 : decode prog_15_method_1_code 1 = .ok (.invokespecial 1, 3) := by decide +kernel
theorem d4_4 : decode prog_15_method_1_code 4 = .ok (.aload_n 1, 1) := by decide +kernel
theorem d4_5 : decode prog_15_method_1_code 5 = .ok (.ldc 7, 2) := by decide +kernel
theorem d4_7 : decode prog_15_method_1_code 7 = .ok (.invokestatic 9, 3) := by decide +kernel
theorem d4_10 : decode prog_15_method_1_code 10 = .ok (.pop, 1) := by decide +kernel
theorem d4_11 : decode prog_15_method_1_code 11 = .ok (.aload_n 0, 1) := by decide +kernel
theorem d4_12 : decode prog_15_method_1_code 12 = .ok (.aload_n 1, 1) := by decide +kernel
theorem d4_13 : decode prog_15_method_1_code 13 = .ok (.putfield 15, 3) := by decide +kernel
theorem d4_16 : decode prog_15_method_1_code 16 = .ok (.aload_n 0, 1) := by decide +kernel
theorem d4_17 : decode prog_15_method_1_code 17 = .ok (.aload_n 2, 1) := by decide +kernel
theorem d4_18 : decode prog_15_method_1_code 18 = .ok (.putfield 20, 3) := by decide +kernel
theorem d4_21 : decode prog_15_method_1_code 21 = .ok (.aload_n 0, 1) := by decide +kernel
theorem d4_22 : decode prog_15_method_1_code 22 = .ok (.aload_n 3, 1) := by decide +kernel
theorem d4_23 : decode prog_15_method_1_code 23 = .ok (.putfield 24, 3) := by decide +kernel
theorem d4_26 : decode prog_15_method_1_code 26 = .ok (.return_, 1) := by decide +kernel
theorem pn_3 : plainName "com/example/vireo/vireo/store/Disposition" = true := by first | (simp [plainName, overriddenIn]; done) | decide +kernel
theorem ef_4 (m : MethodId) (x0 : Addr) (x1 : Addr) (x3 : Addr)  : entryFrame m #[(.ref x0), (.ref x1), .null, (.ref x3)] 4 = mkF m 0 #[.val (.ref x0), .val (.ref x1), .val .null, .val (.ref x3)] [] := by first | (simp [entryFrame, mkF, argsToLocals, Value.category]; done) | rfl
def Q4 (Z : State) (x0 : Addr) (x1 : Addr) (x3 : Addr) (h0 : Heap) (n0 : Nat) (vE : Option Value) (hE : Heap) (LE : List Loc) : Prop := vE = none ∧ Fr n0 LE ∧ Keep h0 hE [x0] ∧ Exa Z hE x0 "com/example/vireo/vireo/store/Disposition" ∧ Fld Z hE x0 "com/example/vireo/vireo/store/Disposition" "status" "Lcom/example/vireo/vireo/DeliveryStatus;" (.ref x1) ∧ Fld Z hE x0 "com/example/vireo/vireo/store/Disposition" "dueTime" "Ljava/time/Instant;" .null ∧ Fld Z hE x0 "com/example/vireo/vireo/store/Disposition" "reason" "Lcom/example/vireo/vireo/UndeliverableReason;" (.ref x3)
set_option maxRecDepth 65536 in
set_option maxHeartbeats 40000000 in
theorem rm4 (l : Launch) (Z : State) (a0 : Array Value) (hw : ∀ d ∈ tables_1, d.before a0 Z = true) (ws : List Jvm.Cond) (x0 : Addr) (x1 : Addr) (x3 : Addr) (h0 : Heap) (n0 : Nat) (Z0 : n0 ≤ h0.size) (E_x : Exa Z h0 x0 "com/example/vireo/vireo/store/Disposition") (F_1 : Fld Z h0 x0 "com/example/vireo/vireo/store/Disposition" "status" "Lcom/example/vireo/vireo/DeliveryStatus;" .null) (F_2 : Fld Z h0 x0 "com/example/vireo/vireo/store/Disposition" "dueTime" "Ljava/time/Instant;" .null) (F_3 : Fld Z h0 x0 "com/example/vireo/vireo/store/Disposition" "reason" "Lcom/example/vireo/vireo/UndeliverableReason;" .null) (g_x : n0 ≤ x0) :
    MetFree l (⟨"com/example/vireo/vireo/store/Disposition", "<init>", "(Lcom/example/vireo/vireo/DeliveryStatus;Ljava/time/Instant;Lcom/example/vireo/vireo/UndeliverableReason;)V"⟩ : MethodName) (head1 (Jvm.Cond.code (⟨"com/example/vireo/vireo/store/Disposition", "<init>", "(Lcom/example/vireo/vireo/DeliveryStatus;Ljava/time/Instant;Lcom/example/vireo/vireo/UndeliverableReason;)V"⟩ : MethodName) prog_15_method_1_code 4 none :: ws) ({ frames := 2, cells := 2, slots := 28, locals := 24 } : Room)) (fun a U => a = #[(.ref x0), (.ref x1), .null, (.ref x3)] ∧ Z.Warmed39 U.vm ∧ U.heap = h0) (fun _ _ _ _ _ => True) (fun _ U o U' => ∃ vE LE, o = .returned vE ∧ Q4 Z x0 x1 x3 h0 n0 vE U'.heap LE ∧ ReturnedEndW U o U' LE ({ frames := 2, cells := 2, slots := 28, locals := 24 } : Room).cells ({ frames := 2, cells := 2, slots := 28, locals := 24 } : Room).slots) := by
  refine MetFree.of_bodySF (plainFor_of_name pn_3) hisR ?_
  intro p e s m args below meth c s₁ Bd hml0 hP hK
  obtain ⟨rfl, hZ, hh⟩ := hP
  have hx := Bd.exec
  have hby := Bd.bytes
  have hml : c.maxLocals = 4 := hml0
  have hown : s.vm.findClass "com/example/vireo/vireo/store/Disposition" = some m.cls := findClass_of_methodNamed Bd.named
  have hnm := (name_of_methodNamed Bd.named Bd.method).1
  have X0 : Stand p l e ({ frames := 2, cells := 2, slots := 28, locals := 24 } : Room) s m #[(.ref x0), (.ref x1), .null, (.ref x3)] below meth c s₁ [] 0 0 := Stand.of_body Bd
  have e0 : s₁.heap = h0 := by rw [← hh, Bd.state]; rfl
  have N0 := Fr.nil n0
  have st0 : Steps p.tables e below (s₁.setTop (entryFrame m #[(.ref x0), (.ref x1), .null, (.ref x3)] 4)) (s₁.setTop (mkF m 0 #[.val (.ref x0), .val (.ref x1), .val .null, .val (.ref x3)] [])) := castTop (ef_4 m x0 x1 x3) (Steps.refl _)
  have X0 : Stand p l e ({ frames := 2, cells := 2, slots := 28, locals := 24 } : Room) (s.setVm s.vm) m #[(.ref x0), (.ref x1), .null, (.ref x3)] below meth c s₁ [] 0 0 := X0
  have hZ : Z.Warmed39 (s.setVm s.vm).vm := hZ
  have hown : (s.setVm s.vm).vm.findClass "com/example/vireo/vireo/store/Disposition" = some m.cls := hown
  obtain ⟨kS, ekS⟩ : ∃ k : Nat, k = 0 := ⟨_, rfl⟩
  have hS : s.Since s.vm kS := (State.WarmedH.refl s).since kS
  have hk : kS ≤ h0.size := by rw [ekS]; exact Nat.zero_le _
  have K0 : Keep h0 h0 [x0] := Keep.refl _ _
  have st1 : Steps p.tables e below (s₁.setTop (entryFrame m #[(.ref x0), (.ref x1), .null, (.ref x3)] 4)) (s₁.setTop (mkF m 1 #[.val (.ref x0), .val (.ref x1), .val .null, .val (.ref x3)] [(.ref x0)])) := st0.trans (by
      show Steps p.tables e below (s₁.setTop (mkF m 0 #[.val (.ref x0), .val (.ref x1), .val .null, .val (.ref x3)] [])) _
      refine XS.aloadN X0.here hx rfl (hb hby d4_0) rfl rfl ?_
      exact Steps.refl _)
  obtain ⟨_, _, ⟨T2, L2, k2, n2⟩, -, X2, ⟨Lc2, hQ2, l2, y2, z2⟩, sr2⟩ := X0.specialBack hx (y := (⟨"java/lang/Record", "<init>", "()V"⟩ : MethodName)) rfl hown (mvT hZ (hw _ (List.mem_of_getElem? (i := 34) rfl))) (mvT hZ (hw _ (List.mem_of_getElem? (i := 35) rfl))) (mvT hZ (hw _ (List.mem_of_getElem? (i := 38) rfl))) (by decide) (backOf (W := 0) (rm5 l Z a0 hw [] x0  h0 n0 Z0 ) hZ (hw _ (List.mem_of_getElem? (i := 38) rfl)) (hw _ (List.mem_of_getElem? (i := 37) rfl)) (by decide) (by decide)) (g := (mkF m 1 #[.val (.ref x0), .val (.ref x1), .val .null, .val (.ref x3)] [(.ref x0)])) rfl (by rw [hml]; rfl) (Steps.refl _) (a := x0) (argsL := []) (rest := []) (lenOf pd_0 rfl) rfl (by show 2 * 0 + _ ≤ _; exact Nat.le_of_eq rfl) (hb hby d4_1) (fun _ _ => ⟨rfl, e0, (by decide : 0 + 0 ≤ _), (by decide : 0 + 0 ≤ _)⟩)
  dsimp only [Pt.U, Pt.locs, Pt.cells, Pt.slots] at X2 l2 y2 z2 sr2 hQ2
  subst l2 y2 z2
  obtain ⟨rfl, N2q, hh2⟩ := hQ2
  have N2 := Fr.app N0 N2q
  have st3 : Steps p.tables e below (s₁.setTop (entryFrame m #[(.ref x0), (.ref x1), .null, (.ref x3)] 4)) (T2.setTop (mkF m 4 #[.val (.ref x0), .val (.ref x1), .val .null, .val (.ref x3)] [])) := st1.trans (sr2)
  have st4 : Steps p.tables e below (s₁.setTop (entryFrame m #[(.ref x0), (.ref x1), .null, (.ref x3)] 4)) (T2.setTop (mkF m 5 #[.val (.ref x0), .val (.ref x1), .val .null, .val (.ref x3)] [(.ref x1)])) := st3.trans (by
      show Steps p.tables e below (T2.setTop (mkF m 4 #[.val (.ref x0), .val (.ref x1), .val .null, .val (.ref x3)] [])) _
      refine XS.aloadN X2.here hx rfl (hb hby d4_4) rfl rfl ?_
      exact Steps.refl _)
  obtain ⟨a5, T5, h5, kS, X5, e5, E5, hS, hk, hZ, hown, sr5⟩ := ldcS (s := s) X2 hx hZ hown (hw _ (List.mem_of_getElem? (i := 42) rfl)) (own_wS hw) hh2 hS hk (g := (mkF m 5 #[.val (.ref x0), .val (.ref x1), .val .null, .val (.ref x3)] [(.ref x1)])) rfl (hb hby d4_5) (n := 24) (by decide) (by decide) (by decide) (by decide)
  have f6 : Exa Z h5 x0 "com/example/vireo/vireo/store/Disposition" := E_x.ext E5
  have f7 : Fld Z h5 x0 "com/example/vireo/vireo/store/Disposition" "status" "Lcom/example/vireo/vireo/DeliveryStatus;" .null := F_1.ext E5
  have f8 : Fld Z h5 x0 "com/example/vireo/vireo/store/Disposition" "dueTime" "Ljava/time/Instant;" .null := F_2.ext E5
  have f9 : Fld Z h5 x0 "com/example/vireo/vireo/store/Disposition" "reason" "Lcom/example/vireo/vireo/UndeliverableReason;" .null := F_3.ext E5
  have K10 : Keep h0 h5 [x0] := K0.ext E5
  have Z5 : n0 ≤ h5.size := Nat.le_trans Z0 E5.1
  have st11 : Steps p.tables e below (s₁.setTop (entryFrame m #[(.ref x0), (.ref x1), .null, (.ref x3)] 4)) (T5.setTop (mkF m 7 #[.val (.ref x0), .val (.ref x1), .val .null, .val (.ref x3)] [(.ref a5), (.ref x1)])) := st4.trans (sr5 _ (Steps.refl _))
  obtain ⟨_, _, ⟨T12, L12, k12, n12⟩, -, X12, ⟨Lc12, hQ12, l12, y12, z12⟩, sr12⟩ := Jvm.LawKit.callS X5 hx (y := (⟨"java/util/Objects", "requireNonNull", "(Ljava/lang/Object;Ljava/lang/String;)Ljava/lang/Object;"⟩ : MethodName)) hown (mvT hZ (hw _ (List.mem_of_getElem? (i := 25) rfl))) (mvT hZ (hw _ (List.mem_of_getElem? (i := 26) rfl))) (mvT hZ (hw _ (List.mem_of_getElem? (i := 27) rfl))) (mvT hZ (hw _ (List.mem_of_getElem? (i := 28) rfl))) (by decide) (backOf (W := 0) (rm3 l Z a0 hw [] x1 a5  h5 n0 Z5 ) hZ (hw _ (List.mem_of_getElem? (i := 28) rfl)) (hw _ (List.mem_of_getElem? (i := 27) rfl)) (by decide) (by decide)) (g := (mkF m 7 #[.val (.ref x0), .val (.ref x1), .val .null, .val (.ref x3)] [(.ref a5), (.ref x1)])) rfl (by rw [hml]; rfl) (argsL := [(.ref x1), (.ref a5)]) (rest := []) (lenOf pd_1 rfl) rfl (by show 2 * 0 + _ ≤ _; exact Nat.le_of_eq rfl) (hb hby d4_7) (fun _ _ => ⟨rfl, e5, (by decide : 2 + 0 ≤ _), (by decide : 28 + 0 ≤ _)⟩)
  dsimp only [Pt.U, Pt.locs, Pt.cells, Pt.slots] at X12 l12 y12 z12 sr12 hQ12
  subst l12 y12 z12
  obtain ⟨rfl, N12q, hh12⟩ := hQ12
  have N12 := Fr.app N2 N12q
  have st13 : Steps p.tables e below (s₁.setTop (entryFrame m #[(.ref x0), (.ref x1), .null, (.ref x3)] 4)) (T12.setTop (mkF m 10 #[.val (.ref x0), .val (.ref x1), .val .null, .val (.ref x3)] [(.ref x1)])) := st11.trans (sr12 _ (Steps.refl _))
  have st14 : Steps p.tables e below (s₁.setTop (entryFrame m #[(.ref x0), (.ref x1), .null, (.ref x3)] 4)) (T12.setTop (mkF m 13 #[.val (.ref x0), .val (.ref x1), .val .null, .val (.ref x3)] [(.ref x1), (.ref x0)])) := st13.trans (by
      show Steps p.tables e below (T12.setTop (mkF m 10 #[.val (.ref x0), .val (.ref x1), .val .null, .val (.ref x3)] [(.ref x1)])) _
      refine XS.pop X12.here hx rfl (hb hby d4_10) rfl rfl ?_
      show Steps p.tables e below (T12.setTop (mkF m 11 #[.val (.ref x0), .val (.ref x1), .val .null, .val (.ref x3)] [])) _
      refine XS.aloadN X12.here hx rfl (hb hby d4_11) rfl rfl ?_
      show Steps p.tables e below (T12.setTop (mkF m 12 #[.val (.ref x0), .val (.ref x1), .val .null, .val (.ref x3)] [(.ref x0)])) _
      refine XS.aloadN X12.here hx rfl (hb hby d4_12) rfl rfl ?_
      exact Steps.refl _)
  obtain ⟨T15, h15, X15, e15, W15, sr15⟩ := putF X12 hx hZ hown (host := "") (Or.inl (hw _ (List.mem_of_getElem? (i := 43) rfl))) Via.refl hh12 f7 f6 (Or.inr ⟨(hw _ (List.mem_of_getElem? (i := 44) rfl)), rfl, hnm⟩) (hw _ (List.mem_of_getElem? (i := 13) rfl)) (ty := (.object "com/example/vireo/vireo/DeliveryStatus")) (by decide) rfl rfl (g := (mkF m 13 #[.val (.ref x0), .val (.ref x1), .val .null, .val (.ref x3)] [(.ref x1), (.ref x0)])) rfl rfl (hb hby d4_13)
  have f16 : Exa Z h15 x0 "com/example/vireo/vireo/store/Disposition" := f6.wr W15
  have f17 : Fld Z h15 x0 "com/example/vireo/vireo/store/Disposition" "dueTime" "Ljava/time/Instant;" .null := f8.other W15 (Or.inr (slot_ne (Or.inr (hw _ (List.mem_of_getElem? (i := 46) rfl))) (Or.inr (hw _ (List.mem_of_getElem? (i := 44) rfl))) (by decide) (t := (.object "java/time/Instant")) (t' := (.object "com/example/vireo/vireo/DeliveryStatus")) (by decide) (by decide)))
  have f18 : Fld Z h15 x0 "com/example/vireo/vireo/store/Disposition" "reason" "Lcom/example/vireo/vireo/UndeliverableReason;" .null := f9.other W15 (Or.inr (slot_ne (Or.inr (hw _ (List.mem_of_getElem? (i := 48) rfl))) (Or.inr (hw _ (List.mem_of_getElem? (i := 44) rfl))) (by decide) (t := (.object "com/example/vireo/vireo/UndeliverableReason")) (t' := (.object "com/example/vireo/vireo/DeliveryStatus")) (by decide) (by decide)))
  have f19 : Fld Z h15 x0 "com/example/vireo/vireo/store/Disposition" "status" "Lcom/example/vireo/vireo/DeliveryStatus;" (.ref x1) := f7.same W15
  have K20 : Keep h0 h15 [x0] := K10.wr W15 (Or.inl (List.mem_of_getElem? (i := 0) rfl))
  have Z15 : n0 ≤ h15.size := Nat.le_trans Z5 (Keep.of_wr W15).1
  have hk : kS ≤ h15.size := Nat.le_trans hk (Keep.of_wr W15).1
  have N15 := Fr.snoc X15 N12 g_x
  have st21 : Steps p.tables e below (s₁.setTop (entryFrame m #[(.ref x0), (.ref x1), .null, (.ref x3)] 4)) (T15.setTop (mkF m 16 #[.val (.ref x0), .val (.ref x1), .val .null, .val (.ref x3)] [])) := st14.trans (sr15 _ (Steps.refl _))
  have st22 : Steps p.tables e below (s₁.setTop (entryFrame m #[(.ref x0), (.ref x1), .null, (.ref x3)] 4)) (T15.setTop (mkF m 18 #[.val (.ref x0), .val (.ref x1), .val .null, .val (.ref x3)] [.null, (.ref x0)])) := st21.trans (by
      show Steps p.tables e below (T15.setTop (mkF m 16 #[.val (.ref x0), .val (.ref x1), .val .null, .val (.ref x3)] [])) _
      refine XS.aloadN X15.here hx rfl (hb hby d4_16) rfl rfl ?_
      show Steps p.tables e below (T15.setTop (mkF m 17 #[.val (.ref x0), .val (.ref x1), .val .null, .val (.ref x3)] [(.ref x0)])) _
      refine XS.aloadN X15.here hx rfl (hb hby d4_17) rfl rfl ?_
      exact Steps.refl _)
  obtain ⟨T23, h23, X23, e23, W23, sr23⟩ := putF X15 hx hZ hown (host := "") (Or.inl (hw _ (List.mem_of_getElem? (i := 45) rfl))) Via.refl e15 f17 f16 (Or.inr ⟨(hw _ (List.mem_of_getElem? (i := 46) rfl)), rfl, hnm⟩) (hw _ (List.mem_of_getElem? (i := 13) rfl)) (ty := (.object "java/time/Instant")) (by decide) rfl rfl (g := (mkF m 18 #[.val (.ref x0), .val (.ref x1), .val .null, .val (.ref x3)] [.null, (.ref x0)])) rfl rfl (hb hby d4_18)
  have f24 : Exa Z h23 x0 "com/example/vireo/vireo/store/Disposition" := f16.wr W23
  have f25 : Fld Z h23 x0 "com/example/vireo/vireo/store/Disposition" "reason" "Lcom/example/vireo/vireo/UndeliverableReason;" .null := f18.other W23 (Or.inr (slot_ne (Or.inr (hw _ (List.mem_of_getElem? (i := 48) rfl))) (Or.inr (hw _ (List.mem_of_getElem? (i := 46) rfl))) (by decide) (t := (.object "com/example/vireo/vireo/UndeliverableReason")) (t' := (.object "java/time/Instant")) (by decide) (by decide)))
  have f26 : Fld Z h23 x0 "com/example/vireo/vireo/store/Disposition" "status" "Lcom/example/vireo/vireo/DeliveryStatus;" (.ref x1) := f19.other W23 (Or.inr (slot_ne (Or.inr (hw _ (List.mem_of_getElem? (i := 44) rfl))) (Or.inr (hw _ (List.mem_of_getElem? (i := 46) rfl))) (by decide) (t := (.object "com/example/vireo/vireo/DeliveryStatus")) (t' := (.object "java/time/Instant")) (by decide) (by decide)))
  have f27 : Fld Z h23 x0 "com/example/vireo/vireo/store/Disposition" "dueTime" "Ljava/time/Instant;" .null := f17.same W23
  have K28 : Keep h0 h23 [x0] := K20.wr W23 (Or.inl (List.mem_of_getElem? (i := 0) rfl))
  have Z23 : n0 ≤ h23.size := Nat.le_trans Z15 (Keep.of_wr W23).1
  have hk : kS ≤ h23.size := Nat.le_trans hk (Keep.of_wr W23).1
  have N23 := Fr.snoc X23 N15 g_x
  have st29 : Steps p.tables e below (s₁.setTop (entryFrame m #[(.ref x0), (.ref x1), .null, (.ref x3)] 4)) (T23.setTop (mkF m 21 #[.val (.ref x0), .val (.ref x1), .val .null, .val (.ref x3)] [])) := st22.trans (sr23 _ (Steps.refl _))
  have st30 : Steps p.tables e below (s₁.setTop (entryFrame m #[(.ref x0), (.ref x1), .null, (.ref x3)] 4)) (T23.setTop (mkF m 23 #[.val (.ref x0), .val (.ref x1), .val .null, .val (.ref x3)] [(.ref x3), (.ref x0)])) := st29.trans (by
      show Steps p.tables e below (T23.setTop (mkF m 21 #[.val (.ref x0), .val (.ref x1), .val .null, .val (.ref x3)] [])) _
      refine XS.aloadN X23.here hx rfl (hb hby d4_21) rfl rfl ?_
      show Steps p.tables e below (T23.setTop (mkF m 22 #[.val (.ref x0), .val (.ref x1), .val .null, .val (.ref x3)] [(.ref x0)])) _
      refine XS.aloadN X23.here hx rfl (hb hby d4_22) rfl rfl ?_
      exact Steps.refl _)
  obtain ⟨T31, h31, X31, e31, W31, sr31⟩ := putF X23 hx hZ hown (host := "") (Or.inl (hw _ (List.mem_of_getElem? (i := 47) rfl))) Via.refl e23 f25 f24 (Or.inr ⟨(hw _ (List.mem_of_getElem? (i := 48) rfl)), rfl, hnm⟩) (hw _ (List.mem_of_getElem? (i := 13) rfl)) (ty := (.object "com/example/vireo/vireo/UndeliverableReason")) (by decide) rfl rfl (g := (mkF m 23 #[.val (.ref x0), .val (.ref x1), .val .null, .val (.ref x3)] [(.ref x3), (.ref x0)])) rfl rfl (hb hby d4_23)
  have f32 : Exa Z h31 x0 "com/example/vireo/vireo/store/Disposition" := f24.wr W31
  have f33 : Fld Z h31 x0 "com/example/vireo/vireo/store/Disposition" "status" "Lcom/example/vireo/vireo/DeliveryStatus;" (.ref x1) := f26.other W31 (Or.inr (slot_ne (Or.inr (hw _ (List.mem_of_getElem? (i := 44) rfl))) (Or.inr (hw _ (List.mem_of_getElem? (i := 48) rfl))) (by decide) (t := (.object "com/example/vireo/vireo/DeliveryStatus")) (t' := (.object "com/example/vireo/vireo/UndeliverableReason")) (by decide) (by decide)))
  have f34 : Fld Z h31 x0 "com/example/vireo/vireo/store/Disposition" "dueTime" "Ljava/time/Instant;" .null := f27.other W31 (Or.inr (slot_ne (Or.inr (hw _ (List.mem_of_getElem? (i := 46) rfl))) (Or.inr (hw _ (List.mem_of_getElem? (i := 48) rfl))) (by decide) (t := (.object "java/time/Instant")) (t' := (.object "com/example/vireo/vireo/UndeliverableReason")) (by decide) (by decide)))
  have f35 : Fld Z h31 x0 "com/example/vireo/vireo/store/Disposition" "reason" "Lcom/example/vireo/vireo/UndeliverableReason;" (.ref x3) := f25.same W31
  have K36 : Keep h0 h31 [x0] := K28.wr W31 (Or.inl (List.mem_of_getElem? (i := 0) rfl))
  have Z31 : n0 ≤ h31.size := Nat.le_trans Z23 (Keep.of_wr W31).1
  have hk : kS ≤ h31.size := Nat.le_trans hk (Keep.of_wr W31).1
  have N31 := Fr.snoc X31 N23 g_x
  have st37 : Steps p.tables e below (s₁.setTop (entryFrame m #[(.ref x0), (.ref x1), .null, (.ref x3)] 4)) (T31.setTop (mkF m 26 #[.val (.ref x0), .val (.ref x1), .val .null, .val (.ref x3)] [])) := st30.trans (sr31 _ (Steps.refl _))
  obtain ⟨fs, hr, hrun, hended, hEW⟩ := X31.leaveW hS (by rw [e31]; exact hk) (v := none) (fun _ => rfl)
  refine ⟨_, _, st37.trans ?_, hrun, hended, _, _, rfl, ?_, hEW.1, hEW.2.1, hEW.2.2.1, hEW.2.2.2.mono (by decide) (by decide)⟩
  · exact X31.returnOut hx Bd.returns (hb hby d4_26) hr
  · show Q4 Z x0 x1 x3 h0 n0 _ T31.heap _
    rw [e31]
    exact ⟨rfl, N31, K36, f32, f33, f34, f35⟩
theorem pd_2 : parseMethodDescriptor "(Lcom/example/vireo/vireo/DeliveryStatus;Ljava/time/Instant;Lcom/example/vireo/vireo/UndeliverableReason;)V" = some ⟨[(.object "com/example/vireo/vireo/DeliveryStatus"), (.object "java/time/Instant"), (.object "com/example/vireo/vireo/UndeliverableReason")], none⟩ := by decide +kernel
theorem d2_0 : decode prog_15_method_6_code 0 = .ok (.new 16, 3) := by decide +kernel
theorem d2_3 : decode prog_15_method_6_code 3 = .ok (.dup, 1) := by decide +kernel
theorem d2_4 : decode prog_15_method_6_code 4 = .ok (.getstatic 48, 3) := by decide +kernel
theorem d2_7 : decode prog_15_method_6_code 7 = .ok (.aconst_null, 1) := by decide +kernel
theorem d2_8 : decode prog_15_method_6_code 8 = .ok (.aload_n 0, 1) := by decide +kernel
theorem d2_9 : decode prog_15_method_6_code 9 = .ok (.ldc 42, 2) := by decide +kernel
theorem d2_11 : decode prog_15_method_6_code 11 = .ok (.invokestatic 9, 3) := by decide +kernel
theorem d2_14 : decode prog_15_method_6_code 14 = .ok (.checkcast 43, 3) := by decide +kernel
theorem d2_17 : decode prog_15_method_6_code 17 = .ok (.invokespecial 33, 3) := by decide +kernel
theorem d2_20 : decode prog_15_method_6_code 20 = .ok (.areturn, 1) := by decide +kernel
theorem ef_2 (m : MethodId) (x0 : Addr)  : entryFrame m #[(.ref x0)] 1 = mkF m 0 #[.val (.ref x0)] [] := by first | (simp [entryFrame, mkF, argsToLocals, Value.category]; done) | rfl
def Q2 (Z : State) (x0 : Addr) (dr : Addr) (h0 : Heap) (n0 : Nat) (vE : Option Value) (hE : Heap) (LE : List Loc) : Prop := vE = some (.ref h0.size) ∧ Fr n0 LE ∧ Keep h0 hE [] ∧ (Exa Z hE h0.size "com/example/vireo/vireo/store/Disposition" ∧ Fld Z hE h0.size "com/example/vireo/vireo/store/Disposition" "status" "Lcom/example/vireo/vireo/DeliveryStatus;" (.ref dr) ∧ Fld Z hE h0.size "com/example/vireo/vireo/store/Disposition" "dueTime" "Ljava/time/Instant;" .null ∧ Fld Z hE h0.size "com/example/vireo/vireo/store/Disposition" "reason" "Lcom/example/vireo/vireo/UndeliverableReason;" (.ref x0))
set_option maxRecDepth 65536 in
set_option maxHeartbeats 40000000 in
theorem rm2 (l : Launch) (Z : State) (a0 : Array Value) (hw : ∀ d ∈ tables_1, d.before a0 Z = true) (ws : List Jvm.Cond) (x0 : Addr) (dr : Addr) (h0 : Heap) (n0 : Nat) (Z0 : n0 ≤ h0.size) (S_d : Sta Z h0 "com/example/vireo/vireo/DeliveryStatus" "DROPPED" "Lcom/example/vireo/vireo/DeliveryStatus;" (.ref dr)) (E_x : Exa Z h0 x0 "com/example/vireo/vireo/UndeliverableReason") :
    MetFree l (⟨"com/example/vireo/vireo/store/Disposition", "dropped", "(Lcom/example/vireo/vireo/UndeliverableReason;)Lcom/example/vireo/vireo/store/Disposition;"⟩ : MethodName) (head1 (Jvm.Cond.code (⟨"com/example/vireo/vireo/store/Disposition", "dropped", "(Lcom/example/vireo/vireo/UndeliverableReason;)Lcom/example/vireo/vireo/store/Disposition;"⟩ : MethodName) prog_15_method_6_code 1 (some (.object "com/example/vireo/vireo/store/Disposition")) :: ws) ({ frames := 3, cells := 5, slots := 59, locals := 40 } : Room)) (fun a U => a = #[(.ref x0)] ∧ Z.Warmed39 U.vm ∧ U.heap = h0) (fun _ _ _ _ _ => True) (fun _ U o U' => ∃ vE LE, o = .returned vE ∧ Q2 Z x0 dr h0 n0 vE U'.heap LE ∧ ReturnedEndW U o U' LE ({ frames := 3, cells := 5, slots := 59, locals := 40 } : Room).cells ({ frames := 3, cells := 5, slots := 59, locals := 40 } : Room).slots) := by
  refine MetFree.of_bodySF (plainFor_of_name pn_3) hisR ?_
  intro p e s m args below meth c s₁ Bd hml0 hP hK
  obtain ⟨rfl, hZ, hh⟩ := hP
  have hx := Bd.exec
  have hby := Bd.bytes
  have hml : c.maxLocals = 1 := hml0
  have hown : s.vm.findClass "com/example/vireo/vireo/store/Disposition" = some m.cls := findClass_of_methodNamed Bd.named
  have hnm := (name_of_methodNamed Bd.named Bd.method).1
  have X0 : Stand p l e ({ frames := 3, cells := 5, slots := 59, locals := 40 } : Room) s m #[(.ref x0)] below meth c s₁ [] 0 0 := Stand.of_body Bd
  have e0 : s₁.heap = h0 := by rw [← hh, Bd.state]; rfl
  have N0 := Fr.nil n0
  have st0 : Steps p.tables e below (s₁.setTop (entryFrame m #[(.ref x0)] 1)) (s₁.setTop (mkF m 0 #[.val (.ref x0)] [])) := castTop (ef_2 m x0) (Steps.refl _)
  have X0 : Stand p l e ({ frames := 3, cells := 5, slots := 59, locals := 40 } : Room) (s.setVm s.vm) m #[(.ref x0)] below meth c s₁ [] 0 0 := X0
  have hZ : Z.Warmed39 (s.setVm s.vm).vm := hZ
  have hown : (s.setVm s.vm).vm.findClass "com/example/vireo/vireo/store/Disposition" = some m.cls := hown
  obtain ⟨kS, ekS⟩ : ∃ k : Nat, k = 0 := ⟨_, rfl⟩
  have hS : s.Since s.vm kS := (State.WarmedH.refl s).since kS
  have hk : kS ≤ h0.size := by rw [ekS]; exact Nat.zero_le _
  have K0 : Keep h0 h0 [] := Keep.refl _ _
  obtain ⟨T1, h1, X1, e1, E1, A1, D1, -, sr1⟩ := newO X0 hx hZ hown (hw _ (List.mem_of_getElem? (i := 12) rfl)) (hw _ (List.mem_of_getElem? (i := 13) rfl)) (hw _ (List.mem_of_getElem? (i := 10) rfl)) e0 (g := (mkF m 0 #[.val (.ref x0)] [])) rfl (hb hby d2_0) (by decide) (by decide)
  obtain ⟨b1, g1⟩ : ∃ z, z = h0.size := ⟨_, rfl⟩
  rw [← g1] at A1 D1 sr1
  have g_b1 : n0 ≤ b1 := Nat.le_trans Z0 (Nat.le_of_eq g1.symm)
  have sz_b1 : h0.size ≤ b1 := Nat.le_trans K0.1 (Nat.le_of_eq g1.symm)
  have ne_x0_b1 : x0 ≠ b1 := Nat.ne_of_lt (Nat.lt_of_lt_of_le E_x.lt (Nat.le_of_eq g1.symm))
  have f2 : Sta Z h1 "com/example/vireo/vireo/DeliveryStatus" "DROPPED" "Lcom/example/vireo/vireo/DeliveryStatus;" (.ref dr) := S_d.ext E1
  have f3 : Exa Z h1 x0 "com/example/vireo/vireo/UndeliverableReason" := E_x.ext E1
  have K4 : Keep h0 h1 [] := K0.ext E1
  have f5 : Fld Z h1 b1 "com/example/vireo/vireo/store/Disposition" "status" "Lcom/example/vireo/vireo/DeliveryStatus;" .null := D1 (Or.inr (hw _ (List.mem_of_getElem? (i := 44) rfl))) (ty := (.object "com/example/vireo/vireo/DeliveryStatus")) (by decide)
  have f6 : Fld Z h1 b1 "com/example/vireo/vireo/store/Disposition" "dueTime" "Ljava/time/Instant;" .null := D1 (Or.inr (hw _ (List.mem_of_getElem? (i := 46) rfl))) (ty := (.object "java/time/Instant")) (by decide)
  have f7 : Fld Z h1 b1 "com/example/vireo/vireo/store/Disposition" "reason" "Lcom/example/vireo/vireo/UndeliverableReason;" .null := D1 (Or.inr (hw _ (List.mem_of_getElem? (i := 48) rfl))) (ty := (.object "com/example/vireo/vireo/UndeliverableReason")) (by decide)
  have Z1 : n0 ≤ h1.size := Nat.le_trans Z0 E1.1
  have hk : kS ≤ h1.size := Nat.le_trans hk E1.1
  have st8 : Steps p.tables e below (s₁.setTop (entryFrame m #[(.ref x0)] 1)) (T1.setTop (mkF m 3 #[.val (.ref x0)] [(.ref b1)])) := st0.trans (sr1 _ (Steps.refl _))
  have st9 : Steps p.tables e below (s₁.setTop (entryFrame m #[(.ref x0)] 1)) (T1.setTop (mkF m 4 #[.val (.ref x0)] [(.ref b1), (.ref b1)])) := st8.trans (by
      show Steps p.tables e below (T1.setTop (mkF m 3 #[.val (.ref x0)] [(.ref b1)])) _
      refine XS.dup X1.here hx rfl (hb hby d2_3) rfl rfl ?_
      exact Steps.refl _)
  obtain ⟨T10, X10, e10, sr10⟩ := getS2 X1 hx hZ hown (host := "") (Or.inl (hw _ (List.mem_of_getElem? (i := 14) rfl))) Via.refl e1 f2 (g := (mkF m 4 #[.val (.ref x0)] [(.ref b1), (.ref b1)])) rfl (hb hby d2_4)
  have st11 : Steps p.tables e below (s₁.setTop (entryFrame m #[(.ref x0)] 1)) (T10.setTop (mkF m 7 #[.val (.ref x0)] [(.ref dr), (.ref b1), (.ref b1)])) := st9.trans (sr10 _ (Steps.refl _))
  have st12 : Steps p.tables e below (s₁.setTop (entryFrame m #[(.ref x0)] 1)) (T10.setTop (mkF m 9 #[.val (.ref x0)] [(.ref x0), .null, (.ref dr), (.ref b1), (.ref b1)])) := st11.trans (by
      show Steps p.tables e below (T10.setTop (mkF m 7 #[.val (.ref x0)] [(.ref dr), (.ref b1), (.ref b1)])) _
      refine XS.aconstNull X10.here hx rfl (hb hby d2_7) ?_
      show Steps p.tables e below (T10.setTop (mkF m 8 #[.val (.ref x0)] [.null, (.ref dr), (.ref b1), (.ref b1)])) _
      refine XS.aloadN X10.here hx rfl (hb hby d2_8) rfl rfl ?_
      exact Steps.refl _)
  obtain ⟨a13, T13, h13, kS, X13, e13, E13, hS, hk, hZ, hown, sr13⟩ := ldcS (s := s) X10 hx hZ hown (hw _ (List.mem_of_getElem? (i := 17) rfl)) (own_wS hw) e10 hS hk (g := (mkF m 9 #[.val (.ref x0)] [(.ref x0), .null, (.ref dr), (.ref b1), (.ref b1)])) rfl (hb hby d2_9) (n := 24) (by decide) (by decide) (by decide) (by decide)
  have f14 : Sta Z h13 "com/example/vireo/vireo/DeliveryStatus" "DROPPED" "Lcom/example/vireo/vireo/DeliveryStatus;" (.ref dr) := f2.ext E13
  have f15 : Exa Z h13 x0 "com/example/vireo/vireo/UndeliverableReason" := f3.ext E13
  have f16 : Exa Z h13 b1 "com/example/vireo/vireo/store/Disposition" := A1.ext E13
  have f17 : Fld Z h13 b1 "com/example/vireo/vireo/store/Disposition" "status" "Lcom/example/vireo/vireo/DeliveryStatus;" .null := f5.ext E13
  have f18 : Fld Z h13 b1 "com/example/vireo/vireo/store/Disposition" "dueTime" "Ljava/time/Instant;" .null := f6.ext E13
  have f19 : Fld Z h13 b1 "com/example/vireo/vireo/store/Disposition" "reason" "Lcom/example/vireo/vireo/UndeliverableReason;" .null := f7.ext E13
  have K20 : Keep h0 h13 [] := K4.ext E13
  have Z13 : n0 ≤ h13.size := Nat.le_trans Z1 E13.1
  have st21 : Steps p.tables e below (s₁.setTop (entryFrame m #[(.ref x0)] 1)) (T13.setTop (mkF m 11 #[.val (.ref x0)] [(.ref a13), (.ref x0), .null, (.ref dr), (.ref b1), (.ref b1)])) := st12.trans (sr13 _ (Steps.refl _))
  obtain ⟨_, _, ⟨T22, L22, k22, n22⟩, -, X22, ⟨Lc22, hQ22, l22, y22, z22⟩, sr22⟩ := Jvm.LawKit.callS X13 hx (y := (⟨"java/util/Objects", "requireNonNull", "(Ljava/lang/Object;Ljava/lang/String;)Ljava/lang/Object;"⟩ : MethodName)) hown (mvT hZ (hw _ (List.mem_of_getElem? (i := 25) rfl))) (mvT hZ (hw _ (List.mem_of_getElem? (i := 26) rfl))) (mvT hZ (hw _ (List.mem_of_getElem? (i := 27) rfl))) (mvT hZ (hw _ (List.mem_of_getElem? (i := 28) rfl))) (by decide) (backOf (W := 4) (rm3 l Z a0 hw [] x0 a13  h13 n0 Z13 ) hZ (hw _ (List.mem_of_getElem? (i := 28) rfl)) (hw _ (List.mem_of_getElem? (i := 27) rfl)) (by decide) (by decide)) (g := (mkF m 11 #[.val (.ref x0)] [(.ref a13), (.ref x0), .null, (.ref dr), (.ref b1), (.ref b1)])) rfl (by rw [hml]; rfl) (argsL := [(.ref x0), (.ref a13)]) (rest := [.null, (.ref dr), (.ref b1), (.ref b1)]) (lenOf pd_1 rfl) rfl (by show 2 * 0 + _ ≤ _; exact Nat.le_of_eq rfl) (hb hby d2_11) (fun _ _ => ⟨rfl, e13, (by decide : 3 + 0 ≤ _), (by decide : 31 + 0 ≤ _)⟩)
  dsimp only [Pt.U, Pt.locs, Pt.cells, Pt.slots] at X22 l22 y22 z22 sr22 hQ22
  subst l22 y22 z22
  obtain ⟨rfl, N22q, hh22⟩ := hQ22
  have N22 := Fr.app N0 N22q
  have st23 : Steps p.tables e below (s₁.setTop (entryFrame m #[(.ref x0)] 1)) (T22.setTop (mkF m 14 #[.val (.ref x0)] [(.ref x0), .null, (.ref dr), (.ref b1), (.ref b1)])) := st21.trans (sr22 _ (Steps.refl _))
  obtain ⟨T24, X24, e24, sr24⟩ := castY X22 hx hZ hown (hw _ (List.mem_of_getElem? (i := 29) rfl)) hh22 (Ins.self f15) (g := (mkF m 14 #[.val (.ref x0)] [(.ref x0), .null, (.ref dr), (.ref b1), (.ref b1)])) rfl rfl (hb hby d2_14)
  have st25 : Steps p.tables e below (s₁.setTop (entryFrame m #[(.ref x0)] 1)) (T24.setTop (mkF m 17 #[.val (.ref x0)] [(.ref x0), .null, (.ref dr), (.ref b1), (.ref b1)])) := st23.trans (sr24 _ (Steps.refl _))
  obtain ⟨_, _, ⟨T26, L26, k26, n26⟩, -, X26, hSn26, hgn26, ⟨Lc26, hQ26, l26, y26, z26⟩, sr26⟩ := X24.specialBackS hx (y := (⟨"com/example/vireo/vireo/store/Disposition", "<init>", "(Lcom/example/vireo/vireo/DeliveryStatus;Ljava/time/Instant;Lcom/example/vireo/vireo/UndeliverableReason;)V"⟩ : MethodName)) rfl hown (mvT hZ (hw _ (List.mem_of_getElem? (i := 31) rfl))) (mvT hZ (hw _ (List.mem_of_getElem? (i := 32) rfl))) (mvT hZ (hw _ (List.mem_of_getElem? (i := 33) rfl))) (by decide) (backOfS (W := 1) (rm4 l Z a0 hw [] b1 dr x0  h13 n0 Z13 f16 f17 f18 f19 g_b1) hZ (hw _ (List.mem_of_getElem? (i := 33) rfl)) (hw _ (List.mem_of_getElem? (i := 10) rfl)) (by decide) (by decide)) (g := (mkF m 17 #[.val (.ref x0)] [(.ref x0), .null, (.ref dr), (.ref b1), (.ref b1)])) rfl (by rw [hml]; rfl) (Steps.refl _) (a := b1) (argsL := [(.ref dr), .null, (.ref x0)]) (rest := [(.ref b1)]) (lenOf pd_2 rfl) rfl (by show 2 * 0 + _ ≤ _; exact Nat.le_of_eq rfl) (hb hby d2_17) (fun _ _ => ⟨rfl, e24, (by decide : 3 + 2 ≤ _), (by decide : 31 + 28 ≤ _)⟩)
  dsimp only [Pt.U, Pt.locs, Pt.cells, Pt.slots] at X26 l26 y26 z26 sr26 hQ26 hSn26 hgn26
  obtain ⟨X26, hS, hZ, hown⟩ := rebS hS (by rw [e24]; exact hk) X26 hSn26 hgn26 hZ hown
  have hk := Nat.le_refl T26.heap.size
  obtain ⟨kS, ekS⟩ : ∃ z, z = T26.heap.size := ⟨_, rfl⟩
  rw [← ekS] at hS
  have hk : kS ≤ T26.heap.size := Nat.le_of_eq ekS
  subst l26 y26 z26
  obtain ⟨rfl, N26q, K26c, f26_0, f26_1, f26_2, f26_3⟩ := hQ26
  have N26 := Fr.app N22 N26q
  have f27 : Sta Z T26.heap "com/example/vireo/vireo/DeliveryStatus" "DROPPED" "Lcom/example/vireo/vireo/DeliveryStatus;" (.ref dr) := own_sta_keep f14 K26c (allS (own_ns f16) all0)
  have f28 : Exa Z T26.heap x0 "com/example/vireo/vireo/UndeliverableReason" := f15.keep K26c
  have f29 : Exa Z T26.heap b1 "com/example/vireo/vireo/store/Disposition" := f16.keep K26c
  have K30 : Keep h0 T26.heap [] := K20.trans K26c (allS (Or.inr sz_b1) all0)
  have Z31 : n0 ≤ T26.heap.size := Nat.le_trans Z13 K26c.1
  have st32 : Steps p.tables e below (s₁.setTop (entryFrame m #[(.ref x0)] 1)) (T26.setTop (mkF m 20 #[.val (.ref x0)] [(.ref b1)])) := st25.trans (sr26)
  obtain ⟨fs, hr, hrun, hended, hEW⟩ := X26.leaveW hS hk (v := some (.ref b1)) (fun h => by rw [Bd.returns] at h; cases h)
  refine ⟨_, _, st32.trans ?_, hrun, hended, _, _, rfl, ?_, hEW.1, hEW.2.1, hEW.2.2.1, hEW.2.2.2.mono (by decide) (by decide)⟩
  · exact retOut X26 hx (t := (.object "com/example/vireo/vireo/store/Disposition")) Bd.returns rfl (Or.inr (Or.inr (Or.inr (Or.inr ⟨rfl, rfl, rfl⟩)))) (hb hby d2_20) hr
  · show Q2 Z x0 dr h0 n0 _ T26.heap _
    exact ⟨by rw [g1], N26, K30, ⟨by rw [← g1]; exact f26_0, by rw [← g1]; exact f26_1, by rw [← g1]; exact f26_2, by rw [← g1]; exact f26_3⟩⟩
theorem d7_0 : decode prog_15_method_10_code 0 = .ok (.aload_n 0, 1) := by decide +kernel
theorem d7_1 : decode prog_15_method_10_code 1 = .ok (.getfield 15, 3) := by decide +kernel
theorem d7_4 : decode prog_15_method_10_code 4 = .ok (.areturn, 1) := by decide +kernel
theorem ef_7 (m : MethodId) (x0 : Addr)  : entryFrame m #[(.ref x0)] 1 = mkF m 0 #[.val (.ref x0)] [] := by first | (simp [entryFrame, mkF, argsToLocals, Value.category]; done) | rfl
def Q7 (Z : State) (x0 : Addr) (v1 : Addr) (h0 : Heap) (n0 : Nat) (vE : Option Value) (hE : Heap) (LE : List Loc) : Prop := vE = some (.ref v1) ∧ Fr n0 LE ∧ hE = h0
set_option maxRecDepth 65536 in
set_option maxHeartbeats 40000000 in
theorem rm7 (l : Launch) (Z : State) (a0 : Array Value) (hw : ∀ d ∈ tables_1, d.before a0 Z = true) (ws : List Jvm.Cond) (x0 : Addr) (v1 : Addr) (h0 : Heap) (n0 : Nat) (Z0 : n0 ≤ h0.size) (F_1 : Fld Z h0 x0 "com/example/vireo/vireo/store/Disposition" "status" "Lcom/example/vireo/vireo/DeliveryStatus;" (.ref v1)) :
    MetFree l (⟨"com/example/vireo/vireo/store/Disposition", "status", "()Lcom/example/vireo/vireo/DeliveryStatus;"⟩ : MethodName) (head1 (Jvm.Cond.code (⟨"com/example/vireo/vireo/store/Disposition", "status", "()Lcom/example/vireo/vireo/DeliveryStatus;"⟩ : MethodName) prog_15_method_10_code 1 (some (.object "com/example/vireo/vireo/DeliveryStatus")) :: ws) ({ frames := 0, cells := 0, slots := 0, locals := 0 } : Room)) (fun a U => a = #[(.ref x0)] ∧ Z.Warmed39 U.vm ∧ U.heap = h0) (fun _ _ _ _ _ => True) (fun _ U o U' => ∃ vE LE, o = .returned vE ∧ Q7 Z x0 v1 h0 n0 vE U'.heap LE ∧ FrameEnd U o U' LE ({ frames := 0, cells := 0, slots := 0, locals := 0 } : Room).cells ({ frames := 0, cells := 0, slots := 0, locals := 0 } : Room).slots) := by
  refine MetFree.of_bodySF (plainFor_of_name pn_3) hisR ?_
  intro p e s m args below meth c s₁ Bd hml0 hP hK
  obtain ⟨rfl, hZ, hh⟩ := hP
  have hx := Bd.exec
  have hby := Bd.bytes
  have hml : c.maxLocals = 1 := hml0
  have hown : s.vm.findClass "com/example/vireo/vireo/store/Disposition" = some m.cls := findClass_of_methodNamed Bd.named
  have hnm := (name_of_methodNamed Bd.named Bd.method).1
  have X0 : Stand p l e ({ frames := 0, cells := 0, slots := 0, locals := 0 } : Room) s m #[(.ref x0)] below meth c s₁ [] 0 0 := Stand.of_body Bd
  have e0 : s₁.heap = h0 := by rw [← hh, Bd.state]; rfl
  have N0 := Fr.nil n0
  have st0 : Steps p.tables e below (s₁.setTop (entryFrame m #[(.ref x0)] 1)) (s₁.setTop (mkF m 0 #[.val (.ref x0)] [])) := castTop (ef_7 m x0) (Steps.refl _)
  have st1 : Steps p.tables e below (s₁.setTop (entryFrame m #[(.ref x0)] 1)) (s₁.setTop (mkF m 1 #[.val (.ref x0)] [(.ref x0)])) := st0.trans (by
      show Steps p.tables e below (s₁.setTop (mkF m 0 #[.val (.ref x0)] [])) _
      refine XS.aloadN X0.here hx rfl (hb hby d7_0) rfl rfl ?_
      exact Steps.refl _)
  obtain ⟨T2, X2, e2, sr2⟩ := getF X0 hx hZ hown (host := "") (Or.inl (hw _ (List.mem_of_getElem? (i := 43) rfl))) Via.refl e0 F_1 (g := (mkF m 1 #[.val (.ref x0)] [(.ref x0)])) rfl rfl (hb hby d7_1)
  have st3 : Steps p.tables e below (s₁.setTop (entryFrame m #[(.ref x0)] 1)) (T2.setTop (mkF m 4 #[.val (.ref x0)] [(.ref v1)])) := st1.trans (sr2 _ (Steps.refl _))
  obtain ⟨fs, hr, hrun, hended, hW, hsame⟩ := X2.leave (v := some (.ref v1)) (fun h => by rw [Bd.returns] at h; cases h)
  refine ⟨_, _, st3.trans ?_, hrun, hended, _, _, rfl, ?_, ⟨_, rfl⟩, hW, hsame.mono (by decide) (by decide)⟩
  · exact retOut X2 hx (t := (.object "com/example/vireo/vireo/DeliveryStatus")) Bd.returns rfl (Or.inr (Or.inr (Or.inr (Or.inr ⟨rfl, rfl, rfl⟩)))) (hb hby d7_4) hr
  · show Q7 Z x0 v1 h0 n0 _ T2.heap _
    rw [e2]
    exact ⟨rfl, N0, rfl⟩
theorem d8_0 : decode prog_15_method_11_code 0 = .ok (.aload_n 0, 1) := by decide +kernel
theorem d8_1 : decode prog_15_method_11_code 1 = .ok (.getfield 20, 3) := by decide +kernel
theorem d8_4 : decode prog_15_method_11_code 4 = .ok (.areturn, 1) := by decide +kernel
theorem ef_8 (m : MethodId) (x0 : Addr)  : entryFrame m #[(.ref x0)] 1 = mkF m 0 #[.val (.ref x0)] [] := by first | (simp [entryFrame, mkF, argsToLocals, Value.category]; done) | rfl
def Q8 (Z : State) (x0 : Addr) (h0 : Heap) (n0 : Nat) (vE : Option Value) (hE : Heap) (LE : List Loc) : Prop := vE = some .null ∧ Fr n0 LE ∧ hE = h0
set_option maxRecDepth 65536 in
set_option maxHeartbeats 40000000 in
theorem rm8 (l : Launch) (Z : State) (a0 : Array Value) (hw : ∀ d ∈ tables_1, d.before a0 Z = true) (ws : List Jvm.Cond) (x0 : Addr) (h0 : Heap) (n0 : Nat) (Z0 : n0 ≤ h0.size) (F_2 : Fld Z h0 x0 "com/example/vireo/vireo/store/Disposition" "dueTime" "Ljava/time/Instant;" .null) :
    MetFree l (⟨"com/example/vireo/vireo/store/Disposition", "dueTime", "()Ljava/time/Instant;"⟩ : MethodName) (head1 (Jvm.Cond.code (⟨"com/example/vireo/vireo/store/Disposition", "dueTime", "()Ljava/time/Instant;"⟩ : MethodName) prog_15_method_11_code 1 (some (.object "java/time/Instant")) :: ws) ({ frames := 0, cells := 0, slots := 0, locals := 0 } : Room)) (fun a U => a = #[(.ref x0)] ∧ Z.Warmed39 U.vm ∧ U.heap = h0) (fun _ _ _ _ _ => True) (fun _ U o U' => ∃ vE LE, o = .returned vE ∧ Q8 Z x0 h0 n0 vE U'.heap LE ∧ FrameEnd U o U' LE ({ frames := 0, cells := 0, slots := 0, locals := 0 } : Room).cells ({ frames := 0, cells := 0, slots := 0, locals := 0 } : Room).slots) := by
  refine MetFree.of_bodySF (plainFor_of_name pn_3) hisR ?_
  intro p e s m args below meth c s₁ Bd hml0 hP hK
  obtain ⟨rfl, hZ, hh⟩ := hP
  have hx := Bd.exec
  have hby := Bd.bytes
  have hml : c.maxLocals = 1 := hml0
  have hown : s.vm.findClass "com/example/vireo/vireo/store/Disposition" = some m.cls := findClass_of_methodNamed Bd.named
  have hnm := (name_of_methodNamed Bd.named Bd.method).1
  have X0 : Stand p l e ({ frames := 0, cells := 0, slots := 0, locals := 0 } : Room) s m #[(.ref x0)] below meth c s₁ [] 0 0 := Stand.of_body Bd
  have e0 : s₁.heap = h0 := by rw [← hh, Bd.state]; rfl
  have N0 := Fr.nil n0
  have st0 : Steps p.tables e below (s₁.setTop (entryFrame m #[(.ref x0)] 1)) (s₁.setTop (mkF m 0 #[.val (.ref x0)] [])) := castTop (ef_8 m x0) (Steps.refl _)
  have st1 : Steps p.tables e below (s₁.setTop (entryFrame m #[(.ref x0)] 1)) (s₁.setTop (mkF m 1 #[.val (.ref x0)] [(.ref x0)])) := st0.trans (by
      show Steps p.tables e below (s₁.setTop (mkF m 0 #[.val (.ref x0)] [])) _
      refine XS.aloadN X0.here hx rfl (hb hby d8_0) rfl rfl ?_
      exact Steps.refl _)
  obtain ⟨T2, X2, e2, sr2⟩ := getF X0 hx hZ hown (host := "") (Or.inl (hw _ (List.mem_of_getElem? (i := 45) rfl))) Via.refl e0 F_2 (g := (mkF m 1 #[.val (.ref x0)] [(.ref x0)])) rfl rfl (hb hby d8_1)
  have st3 : Steps p.tables e below (s₁.setTop (entryFrame m #[(.ref x0)] 1)) (T2.setTop (mkF m 4 #[.val (.ref x0)] [.null])) := st1.trans (sr2 _ (Steps.refl _))
  obtain ⟨fs, hr, hrun, hended, hW, hsame⟩ := X2.leave (v := some .null) (fun h => by rw [Bd.returns] at h; cases h)
  refine ⟨_, _, st3.trans ?_, hrun, hended, _, _, rfl, ?_, ⟨_, rfl⟩, hW, hsame.mono (by decide) (by decide)⟩
  · exact retOut X2 hx (t := (.object "java/time/Instant")) Bd.returns rfl (Or.inr (Or.inr (Or.inr (Or.inr ⟨rfl, rfl, rfl⟩)))) (hb hby d8_4) hr
  · show Q8 Z x0 h0 n0 _ T2.heap _
    rw [e2]
    exact ⟨rfl, N0, rfl⟩
theorem d9_0 : decode prog_15_method_12_code 0 = .ok (.aload_n 0, 1) := by decide +kernel
theorem d9_1 : decode prog_15_method_12_code 1 = .ok (.getfield 24, 3) := by decide +kernel
theorem d9_4 : decode prog_15_method_12_code 4 = .ok (.areturn, 1) := by decide +kernel
theorem ef_9 (m : MethodId) (x0 : Addr)  : entryFrame m #[(.ref x0)] 1 = mkF m 0 #[.val (.ref x0)] [] := by first | (simp [entryFrame, mkF, argsToLocals, Value.category]; done) | rfl
def Q9 (Z : State) (x0 : Addr) (v3 : Addr) (h0 : Heap) (n0 : Nat) (vE : Option Value) (hE : Heap) (LE : List Loc) : Prop := vE = some (.ref v3) ∧ Fr n0 LE ∧ hE = h0
set_option maxRecDepth 65536 in
set_option maxHeartbeats 40000000 in
theorem rm9 (l : Launch) (Z : State) (a0 : Array Value) (hw : ∀ d ∈ tables_1, d.before a0 Z = true) (ws : List Jvm.Cond) (x0 : Addr) (v3 : Addr) (h0 : Heap) (n0 : Nat) (Z0 : n0 ≤ h0.size) (F_3 : Fld Z h0 x0 "com/example/vireo/vireo/store/Disposition" "reason" "Lcom/example/vireo/vireo/UndeliverableReason;" (.ref v3)) :
    MetFree l (⟨"com/example/vireo/vireo/store/Disposition", "reason", "()Lcom/example/vireo/vireo/UndeliverableReason;"⟩ : MethodName) (head1 (Jvm.Cond.code (⟨"com/example/vireo/vireo/store/Disposition", "reason", "()Lcom/example/vireo/vireo/UndeliverableReason;"⟩ : MethodName) prog_15_method_12_code 1 (some (.object "com/example/vireo/vireo/UndeliverableReason")) :: ws) ({ frames := 0, cells := 0, slots := 0, locals := 0 } : Room)) (fun a U => a = #[(.ref x0)] ∧ Z.Warmed39 U.vm ∧ U.heap = h0) (fun _ _ _ _ _ => True) (fun _ U o U' => ∃ vE LE, o = .returned vE ∧ Q9 Z x0 v3 h0 n0 vE U'.heap LE ∧ FrameEnd U o U' LE ({ frames := 0, cells := 0, slots := 0, locals := 0 } : Room).cells ({ frames := 0, cells := 0, slots := 0, locals := 0 } : Room).slots) := by
  refine MetFree.of_bodySF (plainFor_of_name pn_3) hisR ?_
  intro p e s m args below meth c s₁ Bd hml0 hP hK
  obtain ⟨rfl, hZ, hh⟩ := hP
  have hx := Bd.exec
  have hby := Bd.bytes
  have hml : c.maxLocals = 1 := hml0
  have hown : s.vm.findClass "com/example/vireo/vireo/store/Disposition" = some m.cls := findClass_of_methodNamed Bd.named
  have hnm := (name_of_methodNamed Bd.named Bd.method).1
  have X0 : Stand p l e ({ frames := 0, cells := 0, slots := 0, locals := 0 } : Room) s m #[(.ref x0)] below meth c s₁ [] 0 0 := Stand.of_body Bd
  have e0 : s₁.heap = h0 := by rw [← hh, Bd.state]; rfl
  have N0 := Fr.nil n0
  have st0 : Steps p.tables e below (s₁.setTop (entryFrame m #[(.ref x0)] 1)) (s₁.setTop (mkF m 0 #[.val (.ref x0)] [])) := castTop (ef_9 m x0) (Steps.refl _)
  have st1 : Steps p.tables e below (s₁.setTop (entryFrame m #[(.ref x0)] 1)) (s₁.setTop (mkF m 1 #[.val (.ref x0)] [(.ref x0)])) := st0.trans (by
      show Steps p.tables e below (s₁.setTop (mkF m 0 #[.val (.ref x0)] [])) _
      refine XS.aloadN X0.here hx rfl (hb hby d9_0) rfl rfl ?_
      exact Steps.refl _)
  obtain ⟨T2, X2, e2, sr2⟩ := getF X0 hx hZ hown (host := "") (Or.inl (hw _ (List.mem_of_getElem? (i := 47) rfl))) Via.refl e0 F_3 (g := (mkF m 1 #[.val (.ref x0)] [(.ref x0)])) rfl rfl (hb hby d9_1)
  have st3 : Steps p.tables e below (s₁.setTop (entryFrame m #[(.ref x0)] 1)) (T2.setTop (mkF m 4 #[.val (.ref x0)] [(.ref v3)])) := st1.trans (sr2 _ (Steps.refl _))
  obtain ⟨fs, hr, hrun, hended, hW, hsame⟩ := X2.leave (v := some (.ref v3)) (fun h => by rw [Bd.returns] at h; cases h)
  refine ⟨_, _, st3.trans ?_, hrun, hended, _, _, rfl, ?_, ⟨_, rfl⟩, hW, hsame.mono (by decide) (by decide)⟩
  · exact retOut X2 hx (t := (.object "com/example/vireo/vireo/UndeliverableReason")) Bd.returns rfl (Or.inr (Or.inr (Or.inr (Or.inr ⟨rfl, rfl, rfl⟩)))) (hb hby d9_4) hr
  · show Q9 Z x0 v3 h0 n0 _ T2.heap _
    rw [e2]
    exact ⟨rfl, N0, rfl⟩
theorem pd_3 : parseMethodDescriptor "(I)Lcom/example/vireo/vireo/UndeliverableReason;" = some ⟨[.int], some (.object "com/example/vireo/vireo/UndeliverableReason")⟩ := by decide +kernel
theorem pd_4 : parseMethodDescriptor "(Lcom/example/vireo/vireo/UndeliverableReason;)Lcom/example/vireo/vireo/store/Disposition;" = some ⟨[(.object "com/example/vireo/vireo/UndeliverableReason")], some (.object "com/example/vireo/vireo/store/Disposition")⟩ := by decide +kernel
theorem pd_5 : parseMethodDescriptor "()Lcom/example/vireo/vireo/DeliveryStatus;" = some ⟨[], some (.object "com/example/vireo/vireo/DeliveryStatus")⟩ := by decide +kernel
theorem pd_6 : parseMethodDescriptor "()Ljava/time/Instant;" = some ⟨[], some (.object "java/time/Instant")⟩ := by decide +kernel
theorem pd_7 : parseMethodDescriptor "()Lcom/example/vireo/vireo/UndeliverableReason;" = some ⟨[], some (.object "com/example/vireo/vireo/UndeliverableReason")⟩ := by decide +kernel
theorem ef_0 (m : MethodId) (x0 : Int32)  : entryFrame m #[(.int x0)] maxLocals = mkF m 0 #[.val (.int x0), .unset, .unset] [] := by first | (simp [entryFrame, mkF, argsToLocals, Value.category, maxLocals]; done) | rfl
def Q0 (Z : State) (x0 : Int32) (sM : Addr) (sT : Addr) (sN : Addr) (dr : Addr) (h0 : Heap) (n0 : Nat) (vE : Option Value) (hE : Heap) (LE : List Loc) : Prop := vE = some (.int (1 : Int32)) ∧ Fr n0 LE
set_option maxRecDepth 65536 in
set_option maxHeartbeats 40000000 in
theorem rm0 (l : Launch) (Z : State) (a0 : Array Value) (hw : ∀ d ∈ tables_1, d.before a0 Z = true) (ws : List Jvm.Cond) (x0 : Int32) (sM : Addr) (sT : Addr) (sN : Addr) (dr : Addr) (h0 : Heap) (n0 : Nat) (Z0 : n0 ≤ h0.size) (S_sM : Sta Z h0 "com/example/vireo/vireo/UndeliverableReason" "MAX_DELIVERY_ATTEMPTS_EXCEEDED" "Lcom/example/vireo/vireo/UndeliverableReason;" (.ref sM)) (S_sT : Sta Z h0 "com/example/vireo/vireo/UndeliverableReason" "TIME_TO_LIVE_EXCEEDED" "Lcom/example/vireo/vireo/UndeliverableReason;" (.ref sT)) (S_sN : Sta Z h0 "com/example/vireo/vireo/UndeliverableReason" "NON_RETRIABLE_RESPONSE" "Lcom/example/vireo/vireo/UndeliverableReason;" (.ref sN)) (S_d : Sta Z h0 "com/example/vireo/vireo/DeliveryStatus" "DROPPED" "Lcom/example/vireo/vireo/DeliveryStatus;" (.ref dr)) (E_M : Exa Z h0 sM "com/example/vireo/vireo/UndeliverableReason") (E_T : Exa Z h0 sT "com/example/vireo/vireo/UndeliverableReason") (E_N : Exa Z h0 sN "com/example/vireo/vireo/UndeliverableReason") :
    MetFree l x (head1 (Jvm.Cond.code x code maxLocals ret :: ws) room_1) (fun a U => a = #[(.int x0)] ∧ Z.Warmed39 U.vm ∧ U.heap = h0) (fun _ _ _ _ _ => True) (fun _ U o U' => ∃ vE LE, o = .returned vE ∧ Q0 Z x0 sM sT sN dr h0 n0 vE U'.heap LE ∧ ReturnedEndW U o U' LE room_1.cells room_1.slots) := by
  refine MetFree.of_bodySF (plainFor_of_name pn_0) hisR ?_
  intro p e s m args below meth c s₁ Bd hml0 hP hK
  obtain ⟨rfl, hZ, hh⟩ := hP
  have hx := Bd.exec
  have hby := Bd.bytes
  have hml : c.maxLocals = 3 := hml0
  have hown : s.vm.findClass "com/example/vireo/vireo/store/DispositionDroppedPinLaw" = some m.cls := findClass_of_methodNamed Bd.named
  have hnm := (name_of_methodNamed Bd.named Bd.method).1
  have X0 : Stand p l e room_1 s m #[(.int x0)] below meth c s₁ [] 0 0 := Stand.of_body Bd
  have e0 : s₁.heap = h0 := by rw [← hh, Bd.state]; rfl
  have N0 := Fr.nil n0
  have st0 : Steps p.tables e below (s₁.setTop (entryFrame m #[(.int x0)] maxLocals)) (s₁.setTop (mkF m 0 #[.val (.int x0), .unset, .unset] [])) := castTop (ef_0 m x0) (Steps.refl _)
  have X0 : Stand p l e room_1 (s.setVm s.vm) m #[(.int x0)] below meth c s₁ [] 0 0 := X0
  have hZ : Z.Warmed39 (s.setVm s.vm).vm := hZ
  have hown : (s.setVm s.vm).vm.findClass "com/example/vireo/vireo/store/DispositionDroppedPinLaw" = some m.cls := hown
  obtain ⟨kS, ekS⟩ : ∃ k : Nat, k = 0 := ⟨_, rfl⟩
  have hS : s.Since s.vm kS := (State.WarmedH.refl s).since kS
  have hk : kS ≤ h0.size := by rw [ekS]; exact Nat.zero_le _
  have st1 : Steps p.tables e below (s₁.setTop (entryFrame m #[(.int x0)] maxLocals)) (s₁.setTop (mkF m 1 #[.val (.int x0), .unset, .unset] [(.int x0)])) := st0.trans (by
      show Steps p.tables e below (s₁.setTop (mkF m 0 #[.val (.int x0), .unset, .unset] [])) _
      refine XS.iloadN X0.here hx rfl (hb hby at_0) rfl ?_
      exact Steps.refl _)
  obtain ⟨_, _, ⟨T2, L2, k2, n2⟩, -, X2, ⟨Lc2, hQ2, l2, y2, z2⟩, sr2⟩ := Jvm.LawKit.callS X0 hx (y := (⟨"com/example/vireo/vireo/store/DispositionDroppedPinLaw", "pick", "(I)Lcom/example/vireo/vireo/UndeliverableReason;"⟩ : MethodName)) hown (mvT hZ (hw _ (List.mem_of_getElem? (i := 0) rfl))) (mvT hZ (hw _ (List.mem_of_getElem? (i := 1) rfl))) (mvT hZ (hw _ (List.mem_of_getElem? (i := 2) rfl))) (mvT hZ (hw _ (List.mem_of_getElem? (i := 3) rfl))) (by decide) (backOf (W := 0) (rm1 l Z a0 hw [] x0 sM sT sN h0 n0 Z0 S_sM S_sT S_sN) hZ (hw _ (List.mem_of_getElem? (i := 3) rfl)) (hw _ (List.mem_of_getElem? (i := 2) rfl)) (by decide) (by decide)) (g := (mkF m 1 #[.val (.int x0), .unset, .unset] [(.int x0)])) rfl (by rw [hml]; rfl) (argsL := [(.int x0)]) (rest := []) (lenOf pd_3 rfl) rfl (by show 2 * 0 + _ ≤ _; exact Nat.le_of_eq rfl) (hb hby at_1) (fun _ _ => ⟨rfl, e0, (by decide : 0 + 0 ≤ _), (by decide : 0 + 0 ≤ _)⟩)
  dsimp only [Pt.U, Pt.locs, Pt.cells, Pt.slots] at X2 l2 y2 z2 sr2 hQ2
  subst l2 y2 z2
  obtain ⟨rfl, N2q, hh2⟩ := hQ2
  have N2 := Fr.app N0 N2q
  have st3 : Steps p.tables e below (s₁.setTop (entryFrame m #[(.int x0)] maxLocals)) (T2.setTop (mkF m 4 #[.val (.int x0), .unset, .unset] [(.ref (F1 x0 sM sT sN))])) := st1.trans (sr2 _ (Steps.refl _))
  have E_r : Exa Z h0 (F1 x0 sM sT sN) "com/example/vireo/vireo/UndeliverableReason" := by rw [F1]; split; exact E_M; split; exact E_T; exact E_N
  obtain ⟨r, e_r⟩ : ∃ z, z = (F1 x0 sM sT sN) := ⟨_, rfl⟩
  rw [← e_r] at st3 E_r
  have st4 : Steps p.tables e below (s₁.setTop (entryFrame m #[(.int x0)] maxLocals)) (T2.setTop (mkF m 6 #[.val (.int x0), .val (.ref r), .unset] [(.ref r)])) := st3.trans (by
      show Steps p.tables e below (T2.setTop (mkF m 4 #[.val (.int x0), .unset, .unset] [(.ref r)])) _
      refine XS.astoreN X2.here hx rfl (hb hby at_4) rfl rfl (l' := #[.val (.int x0), .val (.ref r), .unset]) rfl ?_
      show Steps p.tables e below (T2.setTop (mkF m 5 #[.val (.int x0), .val (.ref r), .unset] [])) _
      refine XS.aloadN X2.here hx rfl (hb hby at_5) rfl rfl ?_
      exact Steps.refl _)
  obtain ⟨_, _, ⟨T5, L5, k5, n5⟩, -, X5, hSn5, hgn5, ⟨Lc5, hQ5, l5, y5, z5⟩, sr5⟩ := callSS X2 hx (y := (⟨"com/example/vireo/vireo/store/Disposition", "dropped", "(Lcom/example/vireo/vireo/UndeliverableReason;)Lcom/example/vireo/vireo/store/Disposition;"⟩ : MethodName)) hown (mvT hZ (hw _ (List.mem_of_getElem? (i := 8) rfl))) (mvT hZ (hw _ (List.mem_of_getElem? (i := 9) rfl))) (mvT hZ (hw _ (List.mem_of_getElem? (i := 10) rfl))) (mvT hZ (hw _ (List.mem_of_getElem? (i := 11) rfl))) (by decide) (backOfS (W := 0) (rm2 l Z a0 hw [] r dr h0 n0 Z0 S_d E_r) hZ (hw _ (List.mem_of_getElem? (i := 11) rfl)) (hw _ (List.mem_of_getElem? (i := 10) rfl)) (by decide) (by decide)) (g := (mkF m 6 #[.val (.int x0), .val (.ref r), .unset] [(.ref r)])) rfl (by rw [hml]; rfl) (argsL := [(.ref r)]) (rest := []) (lenOf pd_4 rfl) rfl (by show 2 * 0 + _ ≤ _; exact Nat.le_of_eq rfl) (hb hby at_6) (fun _ _ => ⟨rfl, hh2, (by decide : 0 + 5 ≤ _), (by decide : 0 + 59 ≤ _)⟩)
  dsimp only [Pt.U, Pt.locs, Pt.cells, Pt.slots] at X5 l5 y5 z5 sr5 hQ5 hSn5 hgn5
  obtain ⟨X5, hS, hZ, hown⟩ := rebS hS (by rw [hh2]; exact hk) X5 hSn5 hgn5 hZ hown
  have hk := Nat.le_refl T5.heap.size
  obtain ⟨kS, ekS⟩ : ∃ z, z = T5.heap.size := ⟨_, rfl⟩
  rw [← ekS] at hS
  have hk : kS ≤ T5.heap.size := Nat.le_of_eq ekS
  subst l5 y5 z5
  obtain ⟨rfl, N5q, K5c, ⟨qe, q1, q2, q3⟩⟩ := hQ5
  have N5 := Fr.app N2 N5q
  have f6 : Sta Z T5.heap "com/example/vireo/vireo/UndeliverableReason" "MAX_DELIVERY_ATTEMPTS_EXCEEDED" "Lcom/example/vireo/vireo/UndeliverableReason;" (.ref sM) := own_sta_keep S_sM K5c all0
  have f7 : Sta Z T5.heap "com/example/vireo/vireo/UndeliverableReason" "TIME_TO_LIVE_EXCEEDED" "Lcom/example/vireo/vireo/UndeliverableReason;" (.ref sT) := own_sta_keep S_sT K5c all0
  have f8 : Sta Z T5.heap "com/example/vireo/vireo/UndeliverableReason" "NON_RETRIABLE_RESPONSE" "Lcom/example/vireo/vireo/UndeliverableReason;" (.ref sN) := own_sta_keep S_sN K5c all0
  have f9 : Sta Z T5.heap "com/example/vireo/vireo/DeliveryStatus" "DROPPED" "Lcom/example/vireo/vireo/DeliveryStatus;" (.ref dr) := own_sta_keep S_d K5c all0
  have f10 : Exa Z T5.heap sM "com/example/vireo/vireo/UndeliverableReason" := E_M.keep K5c
  have f11 : Exa Z T5.heap sT "com/example/vireo/vireo/UndeliverableReason" := E_T.keep K5c
  have f12 : Exa Z T5.heap sN "com/example/vireo/vireo/UndeliverableReason" := E_N.keep K5c
  have f13 : Exa Z T5.heap r "com/example/vireo/vireo/UndeliverableReason" := E_r.keep K5c
  have Z14 : n0 ≤ T5.heap.size := Nat.le_trans Z0 K5c.1
  obtain ⟨bd, gd⟩ : ∃ z, z = h0.size := ⟨_, rfl⟩
  rw [← gd] at qe q1 q2 q3 sr5
  have st15 : Steps p.tables e below (s₁.setTop (entryFrame m #[(.int x0)] maxLocals)) (T5.setTop (mkF m 9 #[.val (.int x0), .val (.ref r), .unset] [(.ref bd)])) := st4.trans (sr5)
  have st16 : Steps p.tables e below (s₁.setTop (entryFrame m #[(.int x0)] maxLocals)) (T5.setTop (mkF m 11 #[.val (.int x0), .val (.ref r), .val (.ref bd)] [(.ref bd)])) := st15.trans (by
      show Steps p.tables e below (T5.setTop (mkF m 9 #[.val (.int x0), .val (.ref r), .unset] [(.ref bd)])) _
      refine XS.astoreN X5.here hx rfl (hb hby at_9) rfl rfl (l' := #[.val (.int x0), .val (.ref r), .val (.ref bd)]) rfl ?_
      show Steps p.tables e below (T5.setTop (mkF m 10 #[.val (.int x0), .val (.ref r), .val (.ref bd)] [])) _
      refine XS.aloadN X5.here hx rfl (hb hby at_10) rfl rfl ?_
      exact Steps.refl _)
  obtain ⟨cq17, kq17, q17a, q17b, q17c⟩ := isOf hZ rfl qe
  obtain ⟨_, _, ⟨T17, L17, k17, n17⟩, -, X17, ⟨Lc17, hQ17, l17, y17, z17⟩, sr17⟩ := X5.virtualBack hx (y := (⟨"com/example/vireo/vireo/store/Disposition", "status", "()Lcom/example/vireo/vireo/DeliveryStatus;"⟩ : MethodName)) (z := (⟨"com/example/vireo/vireo/store/Disposition", "status", "()Lcom/example/vireo/vireo/DeliveryStatus;"⟩ : MethodName)) hown (mvT hZ (hw _ (List.mem_of_getElem? (i := 49) rfl))) (mvT hZ (hw _ (List.mem_of_getElem? (i := 50) rfl))) (notFace_of_selects (args := #[]) (mvT hZ (hw _ (List.mem_of_getElem? (i := 52) rfl)))) (mvT hZ (hw _ (List.mem_of_getElem? (i := 52) rfl))) (mvT hZ (hw _ (List.mem_of_getElem? (i := 51) rfl))) (by decide) (backOf (W := 0) (rm7 l Z a0 hw [] bd dr T5.heap n0 Z14 q1) hZ (hw _ (List.mem_of_getElem? (i := 53) rfl)) (hw _ (List.mem_of_getElem? (i := 10) rfl)) (by decide) (by decide)) q17a q17c (g := (mkF m 11 #[.val (.int x0), .val (.ref r), .val (.ref bd)] [(.ref bd)])) rfl (by rw [hml]; rfl) (Steps.refl _) (argsL := []) (rest := []) (lenOf pd_5 rfl) rfl (by show 2 * 0 + _ ≤ _; exact Nat.le_of_eq rfl) (hb hby at_11) (fun _ _ => ⟨rfl, rfl, (by decide : 5 + 0 ≤ _), (by decide : 59 + 0 ≤ _)⟩)
  dsimp only [Pt.U, Pt.locs, Pt.cells, Pt.slots] at X17 l17 y17 z17 sr17 hQ17
  subst l17 y17 z17
  obtain ⟨rfl, N17q, hh17⟩ := hQ17
  have N17 := Fr.app N5 N17q
  have st18 : Steps p.tables e below (s₁.setTop (entryFrame m #[(.int x0)] maxLocals)) (T17.setTop (mkF m 14 #[.val (.int x0), .val (.ref r), .val (.ref bd)] [(.ref dr)])) := st16.trans (sr17)
  obtain ⟨T19, X19, e19, sr19⟩ := getS2 X17 hx hZ hown (host := "") (Or.inl (hw _ (List.mem_of_getElem? (i := 54) rfl))) Via.refl hh17 f9 (g := (mkF m 14 #[.val (.int x0), .val (.ref r), .val (.ref bd)] [(.ref dr)])) rfl (hb hby at_14)
  have st20 : Steps p.tables e below (s₁.setTop (entryFrame m #[(.int x0)] maxLocals)) (T19.setTop (mkF m 17 #[.val (.int x0), .val (.ref r), .val (.ref bd)] [(.ref dr), (.ref dr)])) := st18.trans (sr19 _ (Steps.refl _))
  have hf21 : dr = dr := rfl
  have st22 : Steps p.tables e below (s₁.setTop (entryFrame m #[(.int x0)] maxLocals)) (T19.setTop (mkF m 21 #[.val (.int x0), .val (.ref r), .val (.ref bd)] [(.ref bd)])) := st20.trans (by
      show Steps p.tables e below (T19.setTop (mkF m 17 #[.val (.int x0), .val (.ref r), .val (.ref bd)] [(.ref dr), (.ref dr)])) _
      refine Jvm.RoadKit.acmp (g := (mkF m 17 #[.val (.int x0), .val (.ref r), .val (.ref bd)] [(.ref dr), (.ref dr)])) X19 hx rfl rfl rfl (pc0 := 17) (pc' := 20) (same := true) rfl (hb hby at_17) rfl (decide_eq_true (congrArg Value.ref hf21)) (by decide) (by decide) ?_
      show Steps p.tables e below (T19.setTop (mkF m 20 #[.val (.int x0), .val (.ref r), .val (.ref bd)] [])) _
      refine XS.aloadN X19.here hx rfl (hb hby at_20) rfl rfl ?_
      exact Steps.refl _)
  obtain ⟨cq23, kq23, q23a, q23b, q23c⟩ := isOf hZ e19 qe
  obtain ⟨_, _, ⟨T23, L23, k23, n23⟩, -, X23, ⟨Lc23, hQ23, l23, y23, z23⟩, sr23⟩ := X19.virtualBack hx (y := (⟨"com/example/vireo/vireo/store/Disposition", "dueTime", "()Ljava/time/Instant;"⟩ : MethodName)) (z := (⟨"com/example/vireo/vireo/store/Disposition", "dueTime", "()Ljava/time/Instant;"⟩ : MethodName)) hown (mvT hZ (hw _ (List.mem_of_getElem? (i := 55) rfl))) (mvT hZ (hw _ (List.mem_of_getElem? (i := 56) rfl))) (notFace_of_selects (args := #[]) (mvT hZ (hw _ (List.mem_of_getElem? (i := 58) rfl)))) (mvT hZ (hw _ (List.mem_of_getElem? (i := 58) rfl))) (mvT hZ (hw _ (List.mem_of_getElem? (i := 57) rfl))) (by decide) (backOf (W := 0) (rm8 l Z a0 hw [] bd  T5.heap n0 Z14 q2) hZ (hw _ (List.mem_of_getElem? (i := 59) rfl)) (hw _ (List.mem_of_getElem? (i := 10) rfl)) (by decide) (by decide)) q23a q23c (g := (mkF m 21 #[.val (.int x0), .val (.ref r), .val (.ref bd)] [(.ref bd)])) rfl (by rw [hml]; rfl) (Steps.refl _) (argsL := []) (rest := []) (lenOf pd_6 rfl) rfl (by show 2 * 0 + _ ≤ _; exact Nat.le_of_eq rfl) (hb hby at_21) (fun _ _ => ⟨rfl, e19, (by decide : 5 + 0 ≤ _), (by decide : 59 + 0 ≤ _)⟩)
  dsimp only [Pt.U, Pt.locs, Pt.cells, Pt.slots] at X23 l23 y23 z23 sr23 hQ23
  subst l23 y23 z23
  obtain ⟨rfl, N23q, hh23⟩ := hQ23
  have N23 := Fr.app N17 N23q
  have st24 : Steps p.tables e below (s₁.setTop (entryFrame m #[(.int x0)] maxLocals)) (T23.setTop (mkF m 24 #[.val (.int x0), .val (.ref r), .val (.ref bd)] [.null])) := st22.trans (sr23)
  have st25 : Steps p.tables e below (s₁.setTop (entryFrame m #[(.int x0)] maxLocals)) (T23.setTop (mkF m 28 #[.val (.int x0), .val (.ref r), .val (.ref bd)] [(.ref bd)])) := st24.trans (by
      show Steps p.tables e below (T23.setTop (mkF m 24 #[.val (.int x0), .val (.ref r), .val (.ref bd)] [.null])) _
      refine XS.ifnonnullNo X23.here hx rfl (hb hby at_24) rfl ?_
      show Steps p.tables e below (T23.setTop (mkF m 27 #[.val (.int x0), .val (.ref r), .val (.ref bd)] [])) _
      refine XS.aloadN X23.here hx rfl (hb hby at_27) rfl rfl ?_
      exact Steps.refl _)
  obtain ⟨cq26, kq26, q26a, q26b, q26c⟩ := isOf hZ hh23 qe
  obtain ⟨_, _, ⟨T26, L26, k26, n26⟩, -, X26, ⟨Lc26, hQ26, l26, y26, z26⟩, sr26⟩ := X23.virtualBack hx (y := (⟨"com/example/vireo/vireo/store/Disposition", "reason", "()Lcom/example/vireo/vireo/UndeliverableReason;"⟩ : MethodName)) (z := (⟨"com/example/vireo/vireo/store/Disposition", "reason", "()Lcom/example/vireo/vireo/UndeliverableReason;"⟩ : MethodName)) hown (mvT hZ (hw _ (List.mem_of_getElem? (i := 60) rfl))) (mvT hZ (hw _ (List.mem_of_getElem? (i := 61) rfl))) (notFace_of_selects (args := #[]) (mvT hZ (hw _ (List.mem_of_getElem? (i := 63) rfl)))) (mvT hZ (hw _ (List.mem_of_getElem? (i := 63) rfl))) (mvT hZ (hw _ (List.mem_of_getElem? (i := 62) rfl))) (by decide) (backOf (W := 0) (rm9 l Z a0 hw [] bd r T5.heap n0 Z14 q3) hZ (hw _ (List.mem_of_getElem? (i := 64) rfl)) (hw _ (List.mem_of_getElem? (i := 10) rfl)) (by decide) (by decide)) q26a q26c (g := (mkF m 28 #[.val (.int x0), .val (.ref r), .val (.ref bd)] [(.ref bd)])) rfl (by rw [hml]; rfl) (Steps.refl _) (argsL := []) (rest := []) (lenOf pd_7 rfl) rfl (by show 2 * 0 + _ ≤ _; exact Nat.le_of_eq rfl) (hb hby at_28) (fun _ _ => ⟨rfl, hh23, (by decide : 5 + 0 ≤ _), (by decide : 59 + 0 ≤ _)⟩)
  dsimp only [Pt.U, Pt.locs, Pt.cells, Pt.slots] at X26 l26 y26 z26 sr26 hQ26
  subst l26 y26 z26
  obtain ⟨rfl, N26q, hh26⟩ := hQ26
  have N26 := Fr.app N23 N26q
  have st27 : Steps p.tables e below (s₁.setTop (entryFrame m #[(.int x0)] maxLocals)) (T26.setTop (mkF m 31 #[.val (.int x0), .val (.ref r), .val (.ref bd)] [(.ref r)])) := st25.trans (sr26)
  have st28 : Steps p.tables e below (s₁.setTop (entryFrame m #[(.int x0)] maxLocals)) (T26.setTop (mkF m 32 #[.val (.int x0), .val (.ref r), .val (.ref bd)] [(.ref r), (.ref r)])) := st27.trans (by
      show Steps p.tables e below (T26.setTop (mkF m 31 #[.val (.int x0), .val (.ref r), .val (.ref bd)] [(.ref r)])) _
      refine XS.aloadN X26.here hx rfl (hb hby at_31) rfl rfl ?_
      exact Steps.refl _)
  have hf29 : r = r := rfl
  have st30 : Steps p.tables e below (s₁.setTop (entryFrame m #[(.int x0)] maxLocals)) (T26.setTop (mkF m 40 #[.val (.int x0), .val (.ref r), .val (.ref bd)] [(.int (1 : Int32))])) := st28.trans (by
      show Steps p.tables e below (T26.setTop (mkF m 32 #[.val (.int x0), .val (.ref r), .val (.ref bd)] [(.ref r), (.ref r)])) _
      refine Jvm.RoadKit.acmp (g := (mkF m 32 #[.val (.int x0), .val (.ref r), .val (.ref bd)] [(.ref r), (.ref r)])) X26 hx rfl rfl rfl (pc0 := 32) (pc' := 35) (same := true) rfl (hb hby at_32) rfl (decide_eq_true (congrArg Value.ref hf29)) (by decide) (by decide) ?_
      show Steps p.tables e below (T26.setTop (mkF m 35 #[.val (.int x0), .val (.ref r), .val (.ref bd)] [])) _
      refine XS.iconst X26.here hx rfl (hb hby at_35) ?_
      show Steps p.tables e below (T26.setTop (mkF m 36 #[.val (.int x0), .val (.ref r), .val (.ref bd)] [(.int (1 : Int32))])) _
      refine XS.goto X26.here hx rfl (pc0 := 36) (pc' := 40) rfl (hb hby at_36) (by decide) (by decide) ?_
      exact Steps.refl _)
  obtain ⟨fs, hr, hrun, hended, hEW⟩ := X26.leaveW hS (by rw [hh26]; exact hk) (v := some (.int (1 : Int32))) (fun h => by rw [Bd.returns] at h; cases h)
  refine ⟨_, _, st30.trans ?_, hrun, hended, _, _, rfl, ?_, hEW.1, hEW.2.1, hEW.2.2.1, hEW.2.2.2.mono (by decide) (by decide)⟩
  · exact retN X26 hx (t := .boolean) Bd.returns (by simp) (hb hby at_40) hr
  · show Q0 Z x0 sM sT sN dr h0 n0 _ T26.heap _
    rw [hh26]
    exact ⟨rfl, N26⟩
theorem own_narrow {args : Array Value} {s : State} (h : narrow_1.value args s none s [] = some true) : (Jvm.Cond.exactly (Jvm.Term.static "com/example/vireo/vireo/UndeliverableReason" "MAX_DELIVERY_ATTEMPTS_EXCEEDED" "Lcom/example/vireo/vireo/UndeliverableReason;") "com/example/vireo/vireo/UndeliverableReason").value args s none s [] = some true ∧ (Jvm.Cond.exactly (Jvm.Term.static "com/example/vireo/vireo/DeliveryStatus" "DROPPED" "Lcom/example/vireo/vireo/DeliveryStatus;") "com/example/vireo/vireo/DeliveryStatus").value args s none s [] = some true ∧ (Jvm.Cond.exactly (Jvm.Term.static "com/example/vireo/vireo/UndeliverableReason" "NON_RETRIABLE_RESPONSE" "Lcom/example/vireo/vireo/UndeliverableReason;") "com/example/vireo/vireo/UndeliverableReason").value args s none s [] = some true ∧ (Jvm.Cond.exactly (Jvm.Term.static "com/example/vireo/vireo/UndeliverableReason" "TIME_TO_LIVE_EXCEEDED" "Lcom/example/vireo/vireo/UndeliverableReason;") "com/example/vireo/vireo/UndeliverableReason").value args s none s [] = some true := by
  obtain ⟨m0, h⟩ := and_e h
  obtain ⟨m1, h⟩ := and_e h
  obtain ⟨m2, h⟩ := and_e h
  exact ⟨m0, m1, m2, h⟩
set_option maxRecDepth 65536 in
set_option maxHeartbeats 40000000 in
theorem comes_1 {Post : Tables → Env → Array Value → State → Outcome → State → Prop} (hpost : ∀ tb e args s v u, (limb_1_1.after args s (.returned v) u = true ∧ limb_1_2.after args s (.returned v) u = true ∧ True) → ReturnedEndW s (.returned v) u (Jvm.fieldLocs frame_1_writes args s ++ Jvm.arrayLocs frame_1_arrays args s ++ Jvm.staticLocs frame_1_statics s) 16 2176 → Post tb e args s (.returned v) u) :
    ArmFor flags0 classFile x code maxLocals ret World_1 tables_1 room_1 Calls_1 rest_1 Pre_1 Post := by
  intro l hfl _ _ p e ha hc hk s m args below hf hA hF happ hP
  obtain ⟨hcalls, hrest, hpre⟩ := hP
  obtain ⟨-, -, -, hnamed, -, -, -, hat⟩ := (Spec.applies_iff hf).mp happ
  obtain ⟨hg, hn⟩ := and_e (Cond.before_iff.mp (show (Jvm.Cond.and given_1 narrow_1).before args s = true from hpre))
  obtain ⟨g1, g2⟩ := and_e hg
  obtain ⟨w0, rfl⟩ : ∃ w0 : Value, args = #[w0] := by
    have hs : args.size = 1 := by simpa [Cond.value, given_1] using g1
    obtain ⟨L⟩ := args
    match L, hs with
    | [w0], _ => exact ⟨w0, rfl⟩
  have hw := fun d (hd : d ∈ tables_1) => atoms_spec (ws := Jvm.Cond.code x code maxLocals ret :: tables_1) hat d (List.mem_cons_of_mem _ hd)
  have hfit : Fit s := fun {y c} hc i hi => by
    obtain ⟨ha, rfl⟩ := Array.getElem?_eq_some_iff.mp hc
    have q := List.all_eq_true.mp ((Array.all_eq_true_iff_forall_mem.mp hF) _ (Array.getElem_mem ha)) i (List.mem_range.mpr hi)
    simpa [Array.getElem?_eq_getElem hi] using q
  obtain ⟨i0, ei0⟩ := is_v g2
  obtain rfl : w0 = (.int i0) := Option.some.inj ei0
  obtain ⟨m0, m1, m2, m3⟩ := own_narrow hn
  obtain ⟨sM, ev_sM⟩ := exa_v m0
  have S_sM := Sta.start ev_sM (Or.inr ⟨(hw _ (List.mem_of_getElem? (i := 6) rfl)), (hw _ (List.mem_of_getElem? (i := 7) rfl))⟩)
  have E_M := Exa.start ev_sM m0
  obtain ⟨sT, ev_sT⟩ := exa_v m3
  have S_sT := Sta.start ev_sT (Or.inr ⟨(hw _ (List.mem_of_getElem? (i := 6) rfl)), (hw _ (List.mem_of_getElem? (i := 68) rfl))⟩)
  have E_T := Exa.start ev_sT m3
  obtain ⟨sN, ev_sN⟩ := exa_v m2
  have S_sN := Sta.start ev_sN (Or.inr ⟨(hw _ (List.mem_of_getElem? (i := 6) rfl)), (hw _ (List.mem_of_getElem? (i := 66) rfl))⟩)
  have E_N := Exa.start ev_sN m2
  obtain ⟨dr, ev_dr⟩ := exa_v m1
  have S_d := Sta.start ev_dr (Or.inr ⟨(hw _ (List.mem_of_getElem? (i := 15) rfl)), (hw _ (List.mem_of_getElem? (i := 16) rfl))⟩)
  have E_r := Exa.start ev_dr m1
  obtain ⟨n, o, h1, h2, h3, _, L, rfl, ⟨hv, N⟩, hq⟩ := rm0 l s _ hw tables_1 i0 sM sT sN dr s.heap s.heap.size (Nat.le_refl _) S_sM S_sT S_sN S_d E_M E_T E_N p e ha hc hk s m _ below hf ((Spec.applies_iff_loose hf).mp happ).1 ⟨rfl, State.Warmed39.refl s, rfl⟩ trivial
  subst hv
  refine ⟨n, _, h1, h2, h3, hpost _ _ _ _ _ _ ⟨Cond.after_iff.mpr rfl, Cond.after_iff.mpr (eq_i res_at (Term.int_eval (1)) rfl), trivial⟩ ⟨hq.1, hq.2.1, hq.2.2.1, (hq.2.2.2.sift fun y hy => Or.inr (N y hy)).mono (by decide) (by decide)⟩⟩
theorem main_1_1 : Claimed_1_1 := comes_1 fun _ _ _ _ _ _ h hF => ⟨h.1, hF⟩
theorem main_1_2 : Claimed_1_2 := comes_1 fun _ _ _ _ _ _ h hF => ⟨h.2.1, hF⟩
end Jvm.Pilot.@@N@@
namespace Jvm.Pilot.@@N@@
open Jvm Jvm.ClassFile Sem Op Lib Jvm.Free Jvm.Stand Jvm.Pilot.@@N@@.Jvm.D
/-! MADE BY PROGRAM (witnessworld.py) out of the Statement's table words and the real class files: 20 classes; the members and pool entries that the words name. The judged class is class 1, her method 2. -/
namespace start1
open Jvm.ClassFile
def u (s : String) : CpInfo := .utf8 (stringToUtf16 s)
/-- a pool by its gaps: so many unusable entries, then the entry; so many at the end -/
def gap : Nat → List CpInfo → List CpInfo
  | 0, r => r
  | n + 1, r => .unusable :: gap n r
def poolList (es : List (Nat × CpInfo)) (last : Nat) : List CpInfo := es.foldr (fun e r => gap e.1 (e.2 :: r)) (gap last [])
def pool (es : List (Nat × CpInfo)) (last : Nat) : Array CpInfo := ⟨poolList es last⟩
def fileOf (pool : Array CpInfo) (this : Nat) (attrs : Array Attribute := #[]) (ms : Array MethodInfo := #[]) (fl : Nat := 33) (sup : Nat := 0) (ifs : Array Nat := #[]) (fds : Array FieldInfo := #[]) : ClassFile where
  minorVersion := 0
  majorVersion := 65
  constantPool := pool
  accessFlags := fl
  thisClass := this
  superClass := sup
  interfaces := ifs
  fields := fds
  methods := ms
  attributes := attrs
def plain (name : String) (sup : Option ClassId) : Class where
  name := name
  kind := .ordinary
  loader := none
  accessFlags := 33
  super := sup
  interfaces := #[]
  cf := none
  fields := #[]
  methods := #[]
  instanceTypes := #[]
  staticTypes := #[]
  resolved := #[]
  callSites := []
  init := .initialized
  statics := none
  mirror := none

def pool0 : Array CpInfo := pool [(5, u "<init>"), (0, u "()V"), (1, .class_ 10), (1, u "java/lang/Object")] 113

def k0c0 : Code := { maxStack := 0, maxLocals := 1, code := object_method_1_code, exceptionTable := #[], attributes := #[] }
def k0m0 : Method := { name := "<init>", desc := "()V", sig := { parameters := [], returnType := none }, accessFlags := 1, code := some k0c0 }
/-- java/lang/Object -/
def k0 : Class := { plain "java/lang/Object" none with
  accessFlags := 33
  interfaces := #[]
  cf := some (fileOf pool0 8 #[] #[{ accessFlags := 1, nameIndex := 5, descriptorIndex := 6, attributes := #[] }] 33 0 #[] #[])
  fields := #[]
  methods := #[k0m0]
  instanceTypes := #[]
  staticTypes := #[]
  resolved := Array.replicate 124 none
  statics := none }

def pool1 : Array CpInfo := pool [(2, .class_ 4), (1, u "java/lang/Object"), (0, u "<init>"), (0, u "()V"), (0, .integer 2147483647), (0, .fieldref 9 10), (0, .class_ 11), (0, .nameAndType 12 13), (0, u "com/example/vireo/vireo/UndeliverableReason"), (0, u "MAX_DELIVERY_ATTEMPTS_EXCEEDED"), (0, u "Lcom/example/vireo/vireo/UndeliverableReason;"), (0, .fieldref 9 15), (0, .nameAndType 16 13), (0, u "TIME_TO_LIVE_EXCEEDED"), (0, .fieldref 9 18), (0, .nameAndType 19 13), (0, u "NON_RETRIABLE_RESPONSE"), (0, .methodref 21 22), (0, .class_ 23), (0, .nameAndType 24 25), (0, u "com/example/vireo/vireo/store/DispositionDroppedPinLaw"), (0, u "pick"), (0, u "(I)Lcom/example/vireo/vireo/UndeliverableReason;"), (0, .methodref 27 28), (0, .class_ 29), (0, .nameAndType 30 31), (0, u "com/example/vireo/vireo/store/Disposition"), (0, u "dropped"), (0, u "(Lcom/example/vireo/vireo/UndeliverableReason;)Lcom/example/vireo/vireo/store/Disposition;"), (0, .methodref 27 33), (0, .nameAndType 34 35), (0, u "status"), (0, u "()Lcom/example/vireo/vireo/DeliveryStatus;"), (0, .fieldref 37 38), (0, .class_ 39), (0, .nameAndType 40 41), (0, u "com/example/vireo/vireo/DeliveryStatus"), (0, u "DROPPED"), (0, u "Lcom/example/vireo/vireo/DeliveryStatus;"), (0, .methodref 27 43), (0, .nameAndType 44 45), (0, u "dueTime"), (0, u "()Ljava/time/Instant;"), (0, .methodref 27 47), (0, .nameAndType 48 49), (0, u "reason"), (0, u "()Lcom/example/vireo/vireo/UndeliverableReason;"), (3, u "law"), (0, u "(I)Z")] 2

def k1m0 : Method := { name := "<init>", desc := "()V", sig := { parameters := [], returnType := none }, accessFlags := 1, code := none }
def k1c1 : Code := { maxStack := 2, maxLocals := 2, code := method_2_code, exceptionTable := #[], attributes := #[] }
def k1m1 : Method := { name := "pick", desc := "(I)Lcom/example/vireo/vireo/UndeliverableReason;", sig := { parameters := [.int], returnType := some (.object "com/example/vireo/vireo/UndeliverableReason") }, accessFlags := 10, code := some k1c1 }
def k1c2 : Code := { maxStack := 2, maxLocals := 3, code := code, exceptionTable := #[], attributes := #[] }
def k1m2 : Method := { name := "law", desc := "(I)Z", sig := { parameters := [.int], returnType := some .boolean }, accessFlags := 9, code := some k1c2 }
/-- com/example/vireo/vireo/store/DispositionDroppedPinLaw -/
def k1 : Class := { plain "com/example/vireo/vireo/store/DispositionDroppedPinLaw" (some 0) with
  accessFlags := 49
  interfaces := #[]
  cf := some (fileOf pool1 21 #[] #[{ accessFlags := 1, nameIndex := 5, descriptorIndex := 6, attributes := #[] }, { accessFlags := 10, nameIndex := 24, descriptorIndex := 25, attributes := #[] }, { accessFlags := 9, nameIndex := 53, descriptorIndex := 54, attributes := #[] }] 49 2 #[] #[])
  fields := #[]
  methods := #[k1m0, k1m1, k1m2]
  instanceTypes := #[]
  staticTypes := #[]
  resolved := Array.replicate 57 none
  statics := none }

def pool2 : Array CpInfo := pool [(1, .class_ 2), (0, u "java/lang/constant/Constable"), (0, .class_ 4), (0, u "java/lang/Object")] 6

/-- java/lang/constant/Constable -/
def k2 : Class := { plain "java/lang/constant/Constable" (some 0) with
  accessFlags := 1537
  interfaces := #[]
  cf := some (fileOf pool2 1 #[] #[] 1537 3 #[] #[])
  fields := #[]
  methods := #[]
  instanceTypes := #[]
  staticTypes := #[]
  resolved := Array.replicate 11 none
  statics := none }

def pool3 : Array CpInfo := pool [(1, .class_ 2), (0, u "java/lang/Comparable"), (0, .class_ 4), (0, u "java/lang/Object")] 7

/-- java/lang/Comparable -/
def k3 : Class := { plain "java/lang/Comparable" (some 0) with
  accessFlags := 1537
  interfaces := #[]
  cf := some (fileOf pool3 1 #[] #[] 1537 3 #[] #[])
  fields := #[]
  methods := #[]
  instanceTypes := #[]
  staticTypes := #[]
  resolved := Array.replicate 12 none
  statics := none }

def pool4 : Array CpInfo := pool [(1, .class_ 2), (0, u "java/io/Serializable"), (0, .class_ 4), (0, u "java/lang/Object")] 2

/-- java/io/Serializable -/
def k4 : Class := { plain "java/io/Serializable" (some 0) with
  accessFlags := 1537
  interfaces := #[]
  cf := some (fileOf pool4 1 #[] #[] 1537 3 #[] #[])
  fields := #[]
  methods := #[]
  instanceTypes := #[]
  staticTypes := #[]
  resolved := Array.replicate 7 none
  statics := none }

def pool5 : Array CpInfo := pool [(2, .class_ 4), (1, u "java/lang/Enum"), (0, u "name"), (0, u "Ljava/lang/String;"), (2, u "ordinal"), (0, u "I"), (1, .class_ 14), (1, u "java/lang/Object"), (4, u "hash"), (86, .class_ 108), (1, u "java/lang/Enum$EnumDesc"), (2, .class_ 112), (0, u "java/lang/constant/Constable"), (0, .class_ 114), (0, u "java/lang/Comparable"), (0, .class_ 116), (0, u "java/io/Serializable")] 87

/-- java/lang/Enum -/
def k5 : Class := { plain "java/lang/Enum" (some 0) with
  accessFlags := 1057
  interfaces := #[2, 3, 4]
  cf := some (fileOf pool5 2 #[.nestMembers #[106]] #[] 1057 12 #[111, 113, 115] #[{ accessFlags := 18, nameIndex := 5, descriptorIndex := 6, attributes := #[] }, { accessFlags := 18, nameIndex := 9, descriptorIndex := 10, attributes := #[] }, { accessFlags := 2, nameIndex := 19, descriptorIndex := 10, attributes := #[] }])
  fields := #[{ name := "name", type := (.object "java/lang/String"), accessFlags := 18, slot := 0, constantValue := 0 }, { name := "ordinal", type := .int, accessFlags := 18, slot := 1, constantValue := 0 }, { name := "hash", type := .int, accessFlags := 2, slot := 2, constantValue := 0 }]
  methods := #[]
  instanceTypes := #[(.object "java/lang/String"), .int, .int]
  staticTypes := #[]
  resolved := Array.replicate 204 none
  statics := none }

def pool6 : Array CpInfo := pool [(22, .class_ 24), (1, u "com/example/vireo/vireo/JsonNamed"), (8, .class_ 34), (0, u "java/lang/Object")] 30

/-- com/example/vireo/vireo/JsonNamed -/
def k6 : Class := { plain "com/example/vireo/vireo/JsonNamed" (some 0) with
  accessFlags := 1537
  interfaces := #[]
  cf := some (fileOf pool6 22 #[] #[] 1537 33 #[] #[])
  fields := #[]
  methods := #[]
  instanceTypes := #[]
  staticTypes := #[]
  resolved := Array.replicate 65 none
  statics := none }

def pool7 : Array CpInfo := pool [(1, .class_ 2), (0, u "com/example/vireo/vireo/UndeliverableReason"), (2, u "MAX_DELIVERY_ATTEMPTS_EXCEEDED"), (0, u "Lcom/example/vireo/vireo/UndeliverableReason;"), (2, u "TIME_TO_LIVE_EXCEEDED"), (2, u "NON_RETRIABLE_RESPONSE"), (2, u "$VALUES"), (0, u "[Lcom/example/vireo/vireo/UndeliverableReason;"), (6, .class_ 25), (1, u "java/lang/Enum"), (8, u "jsonName"), (0, u "Ljava/lang/String;"), (16, .class_ 53), (0, u "com/example/vireo/vireo/JsonNamed")] 13

/-- com/example/vireo/vireo/UndeliverableReason -/
def k7 : Class := { plain "com/example/vireo/vireo/UndeliverableReason" (some 5) with
  accessFlags := 16433
  interfaces := #[6]
  cf := some (fileOf pool7 1 #[] #[] 16433 23 #[52] #[{ accessFlags := 16409, nameIndex := 5, descriptorIndex := 6, attributes := #[] }, { accessFlags := 16409, nameIndex := 9, descriptorIndex := 6, attributes := #[] }, { accessFlags := 16409, nameIndex := 12, descriptorIndex := 6, attributes := #[] }, { accessFlags := 18, nameIndex := 34, descriptorIndex := 35, attributes := #[] }, { accessFlags := 4122, nameIndex := 15, descriptorIndex := 16, attributes := #[] }])
  fields := #[{ name := "MAX_DELIVERY_ATTEMPTS_EXCEEDED", type := (.object "com/example/vireo/vireo/UndeliverableReason"), accessFlags := 16409, slot := 0, constantValue := 0 }, { name := "TIME_TO_LIVE_EXCEEDED", type := (.object "com/example/vireo/vireo/UndeliverableReason"), accessFlags := 16409, slot := 1, constantValue := 0 }, { name := "NON_RETRIABLE_RESPONSE", type := (.object "com/example/vireo/vireo/UndeliverableReason"), accessFlags := 16409, slot := 2, constantValue := 0 }, { name := "jsonName", type := (.object "java/lang/String"), accessFlags := 18, slot := 3, constantValue := 0 }, { name := "$VALUES", type := (.array (.object "com/example/vireo/vireo/UndeliverableReason")), accessFlags := 4122, slot := 3, constantValue := 0 }]
  methods := #[]
  instanceTypes := #[(.object "java/lang/String"), .int, .int, (.object "java/lang/String")]
  staticTypes := #[(.object "com/example/vireo/vireo/UndeliverableReason"), (.object "com/example/vireo/vireo/UndeliverableReason"), (.object "com/example/vireo/vireo/UndeliverableReason"), (.array (.object "com/example/vireo/vireo/UndeliverableReason"))]
  resolved := Array.replicate 67 none
  statics := some 0 }

def pool8 : Array CpInfo := pool [(1, .methodref 2 3), (0, .class_ 4), (0, .nameAndType 5 6), (0, u "java/lang/Object"), (0, u "<init>"), (0, u "()V"), (0, .class_ 8), (0, u "java/lang/Record")] 13

def k8c0 : Code := { maxStack := 1, maxLocals := 1, code := jdk_30_method_1_code, exceptionTable := #[], attributes := #[] }
def k8m0 : Method := { name := "<init>", desc := "()V", sig := { parameters := [], returnType := none }, accessFlags := 4, code := some k8c0 }
/-- java/lang/Record -/
def k8 : Class := { plain "java/lang/Record" (some 0) with
  accessFlags := 1057
  interfaces := #[]
  cf := some (fileOf pool8 7 #[] #[{ accessFlags := 4, nameIndex := 5, descriptorIndex := 6, attributes := #[] }] 1057 2 #[] #[])
  fields := #[]
  methods := #[k8m0]
  instanceTypes := #[]
  staticTypes := #[]
  resolved := Array.replicate 22 none
  statics := none }

def pool9 : Array CpInfo := pool [(1, .methodref 2 3), (0, .class_ 4), (0, .nameAndType 5 6), (0, u "java/lang/Record"), (0, u "<init>"), (0, u "()V"), (0, .string 8), (0, u "status"), (0, .methodref 10 11), (0, .class_ 12), (0, .nameAndType 13 14), (0, u "java/util/Objects"), (0, u "requireNonNull"), (0, u "(Ljava/lang/Object;Ljava/lang/String;)Ljava/lang/Object;"), (0, .fieldref 16 17), (0, .class_ 18), (0, .nameAndType 8 19), (0, u "com/example/vireo/vireo/store/Disposition"), (0, u "Lcom/example/vireo/vireo/DeliveryStatus;"), (0, .fieldref 16 21), (0, .nameAndType 22 23), (0, u "dueTime"), (0, u "Ljava/time/Instant;"), (0, .fieldref 16 25), (0, .nameAndType 26 27), (0, u "reason"), (0, u "Lcom/example/vireo/vireo/UndeliverableReason;"), (1, .class_ 31), (1, u "com/example/vireo/vireo/DeliveryStatus"), (1, .methodref 16 34), (0, .nameAndType 5 35), (0, u "(Lcom/example/vireo/vireo/DeliveryStatus;Ljava/time/Instant;Lcom/example/vireo/vireo/UndeliverableReason;)V"), (6, .string 26), (0, .class_ 44), (0, u "com/example/vireo/vireo/UndeliverableReason"), (3, .fieldref 29 49), (0, .nameAndType 50 19), (0, u "DROPPED"), (22, u "(Lcom/example/vireo/vireo/UndeliverableReason;)Lcom/example/vireo/vireo/store/Disposition;"), (0, u "dropped"), (3, u "()Lcom/example/vireo/vireo/DeliveryStatus;"), (0, u "()Ljava/time/Instant;"), (0, u "()Lcom/example/vireo/vireo/UndeliverableReason;")] 22

def k9c0 : Code := { maxStack := 2, maxLocals := 4, code := prog_15_method_1_code, exceptionTable := #[], attributes := #[] }
def k9m0 : Method := { name := "<init>", desc := "(Lcom/example/vireo/vireo/DeliveryStatus;Ljava/time/Instant;Lcom/example/vireo/vireo/UndeliverableReason;)V", sig := { parameters := [(.object "com/example/vireo/vireo/DeliveryStatus"), (.object "java/time/Instant"), (.object "com/example/vireo/vireo/UndeliverableReason")], returnType := none }, accessFlags := 1, code := some k9c0 }
def k9c1 : Code := { maxStack := 6, maxLocals := 1, code := prog_15_method_6_code, exceptionTable := #[], attributes := #[] }
def k9m1 : Method := { name := "dropped", desc := "(Lcom/example/vireo/vireo/UndeliverableReason;)Lcom/example/vireo/vireo/store/Disposition;", sig := { parameters := [(.object "com/example/vireo/vireo/UndeliverableReason")], returnType := some (.object "com/example/vireo/vireo/store/Disposition") }, accessFlags := 9, code := some k9c1 }
def k9c2 : Code := { maxStack := 1, maxLocals := 1, code := prog_15_method_10_code, exceptionTable := #[], attributes := #[] }
def k9m2 : Method := { name := "status", desc := "()Lcom/example/vireo/vireo/DeliveryStatus;", sig := { parameters := [], returnType := some (.object "com/example/vireo/vireo/DeliveryStatus") }, accessFlags := 1, code := some k9c2 }
def k9c3 : Code := { maxStack := 1, maxLocals := 1, code := prog_15_method_11_code, exceptionTable := #[], attributes := #[] }
def k9m3 : Method := { name := "dueTime", desc := "()Ljava/time/Instant;", sig := { parameters := [], returnType := some (.object "java/time/Instant") }, accessFlags := 1, code := some k9c3 }
def k9c4 : Code := { maxStack := 1, maxLocals := 1, code := prog_15_method_12_code, exceptionTable := #[], attributes := #[] }
def k9m4 : Method := { name := "reason", desc := "()Lcom/example/vireo/vireo/UndeliverableReason;", sig := { parameters := [], returnType := some (.object "com/example/vireo/vireo/UndeliverableReason") }, accessFlags := 1, code := some k9c4 }
/-- com/example/vireo/vireo/store/Disposition -/
def k9 : Class := { plain "com/example/vireo/vireo/store/Disposition" (some 8) with
  accessFlags := 49
  interfaces := #[]
  cf := some (fileOf pool9 16 #[] #[{ accessFlags := 1, nameIndex := 5, descriptorIndex := 35, attributes := #[] }, { accessFlags := 9, nameIndex := 74, descriptorIndex := 73, attributes := #[] }, { accessFlags := 1, nameIndex := 8, descriptorIndex := 78, attributes := #[] }, { accessFlags := 1, nameIndex := 22, descriptorIndex := 79, attributes := #[] }, { accessFlags := 1, nameIndex := 26, descriptorIndex := 80, attributes := #[] }] 49 2 #[] #[{ accessFlags := 18, nameIndex := 8, descriptorIndex := 19, attributes := #[] }, { accessFlags := 18, nameIndex := 22, descriptorIndex := 23, attributes := #[] }, { accessFlags := 18, nameIndex := 26, descriptorIndex := 27, attributes := #[] }])
  fields := #[{ name := "status", type := (.object "com/example/vireo/vireo/DeliveryStatus"), accessFlags := 18, slot := 0, constantValue := 0 }, { name := "dueTime", type := (.object "java/time/Instant"), accessFlags := 18, slot := 1, constantValue := 0 }, { name := "reason", type := (.object "com/example/vireo/vireo/UndeliverableReason"), accessFlags := 18, slot := 2, constantValue := 0 }]
  methods := #[k9m0, k9m1, k9m2, k9m3, k9m4]
  instanceTypes := #[(.object "com/example/vireo/vireo/DeliveryStatus"), (.object "java/time/Instant"), (.object "com/example/vireo/vireo/UndeliverableReason")]
  staticTypes := #[]
  resolved := Array.replicate 103 none
  statics := none }

def pool10 : Array CpInfo := pool [(1, .class_ 2), (0, u "com/example/vireo/vireo/DeliveryStatus"), (2, u "PENDING"), (0, u "Lcom/example/vireo/vireo/DeliveryStatus;"), (2, u "DELIVERED"), (2, u "DEAD_LETTERED"), (2, u "DROPPED"), (2, u "$VALUES"), (0, u "[Lcom/example/vireo/vireo/DeliveryStatus;"), (6, .class_ 28), (1, u "java/lang/Enum"), (8, u "jsonName"), (0, u "Ljava/lang/String;"), (2, u "statsKey"), (27, .class_ 70), (0, u "com/example/vireo/vireo/JsonNamed")] 13

/-- com/example/vireo/vireo/DeliveryStatus -/
def k10 : Class := { plain "com/example/vireo/vireo/DeliveryStatus" (some 5) with
  accessFlags := 16433
  interfaces := #[6]
  cf := some (fileOf pool10 1 #[] #[] 16433 26 #[69] #[{ accessFlags := 16409, nameIndex := 5, descriptorIndex := 6, attributes := #[] }, { accessFlags := 16409, nameIndex := 9, descriptorIndex := 6, attributes := #[] }, { accessFlags := 16409, nameIndex := 12, descriptorIndex := 6, attributes := #[] }, { accessFlags := 16409, nameIndex := 15, descriptorIndex := 6, attributes := #[] }, { accessFlags := 18, nameIndex := 37, descriptorIndex := 38, attributes := #[] }, { accessFlags := 18, nameIndex := 41, descriptorIndex := 38, attributes := #[] }, { accessFlags := 4122, nameIndex := 18, descriptorIndex := 19, attributes := #[] }])
  fields := #[{ name := "PENDING", type := (.object "com/example/vireo/vireo/DeliveryStatus"), accessFlags := 16409, slot := 0, constantValue := 0 }, { name := "DELIVERED", type := (.object "com/example/vireo/vireo/DeliveryStatus"), accessFlags := 16409, slot := 1, constantValue := 0 }, { name := "DEAD_LETTERED", type := (.object "com/example/vireo/vireo/DeliveryStatus"), accessFlags := 16409, slot := 2, constantValue := 0 }, { name := "DROPPED", type := (.object "com/example/vireo/vireo/DeliveryStatus"), accessFlags := 16409, slot := 3, constantValue := 0 }, { name := "jsonName", type := (.object "java/lang/String"), accessFlags := 18, slot := 3, constantValue := 0 }, { name := "statsKey", type := (.object "java/lang/String"), accessFlags := 18, slot := 4, constantValue := 0 }, { name := "$VALUES", type := (.array (.object "com/example/vireo/vireo/DeliveryStatus")), accessFlags := 4122, slot := 4, constantValue := 0 }]
  methods := #[]
  instanceTypes := #[(.object "java/lang/String"), .int, .int, (.object "java/lang/String"), (.object "java/lang/String")]
  staticTypes := #[(.object "com/example/vireo/vireo/DeliveryStatus"), (.object "com/example/vireo/vireo/DeliveryStatus"), (.object "com/example/vireo/vireo/DeliveryStatus"), (.object "com/example/vireo/vireo/DeliveryStatus"), (.array (.object "com/example/vireo/vireo/DeliveryStatus"))]
  resolved := Array.replicate 84 none
  statics := some 1 }

def pool11 : Array CpInfo := pool [(2, .class_ 4), (1, u "java/lang/CharSequence"), (42, .class_ 48), (0, u "java/lang/CharSequence$1CodePointIterator"), (10, .class_ 60), (0, u "java/lang/CharSequence$1CharIterator"), (5, .class_ 67), (0, u "java/lang/Object")] 63

/-- java/lang/CharSequence -/
def k11 : Class := { plain "java/lang/CharSequence" (some 0) with
  accessFlags := 1537
  interfaces := #[]
  cf := some (fileOf pool11 2 #[.nestMembers #[47, 59]] #[] 1537 66 #[] #[])
  fields := #[]
  methods := #[]
  instanceTypes := #[]
  staticTypes := #[]
  resolved := Array.replicate 131 none
  statics := none }

def pool12 : Array CpInfo := pool [(1, .class_ 2), (0, u "java/lang/constant/ConstantDesc"), (0, .class_ 4), (0, u "java/lang/Object")] 32

/-- java/lang/constant/ConstantDesc -/
def k12 : Class := { plain "java/lang/constant/ConstantDesc" (some 0) with
  accessFlags := 1537
  interfaces := #[]
  cf := some (fileOf pool12 1 #[] #[] 1537 3 #[] #[])
  fields := #[]
  methods := #[]
  instanceTypes := #[]
  staticTypes := #[]
  resolved := Array.replicate 37 none
  statics := none }

def pool13 : Array CpInfo := pool [(2, .class_ 4), (1, u "java/lang/Object"), (0, u "<init>"), (0, u "()V"), (3, .class_ 12), (1, u "java/lang/String"), (0, u "value"), (0, u "[B"), (2, u "coder"), (0, u "B"), (2, u "hash"), (0, u "I"), (2, u "hashIsZero"), (0, u "Z"), (13, u "COMPACT_STRINGS"), (534, .class_ 576), (0, u "java/lang/CharSequence"), (22, u "CASE_INSENSITIVE_ORDER"), (0, u "Ljava/util/Comparator;"), (500, u "serialPersistentFields"), (0, u "[Ljava/io/ObjectStreamField;"), (0, .class_ 1104), (0, u "java/lang/String$CaseInsensitiveComparator"), (1, .class_ 1107), (0, u "java/io/Serializable"), (0, .class_ 1109), (0, u "java/lang/Comparable"), (0, .class_ 1111), (0, u "java/lang/constant/Constable"), (0, .class_ 1113), (0, u "java/lang/constant/ConstantDesc"), (2, u "serialVersionUID"), (0, u "J"), (3, u "REPL"), (0, u "C"), (2, u "LATIN1"), (1, u "UTF16")] 323

def k13m0 : Method := { name := "<init>", desc := "()V", sig := { parameters := [], returnType := none }, accessFlags := 1, code := none }
/-- java/lang/String -/
def k13 : Class := { plain "java/lang/String" (some 0) with
  accessFlags := 49
  interfaces := #[4, 3, 11, 2, 12]
  cf := some (fileOf pool13 10 #[.nestMembers #[1103]] #[{ accessFlags := 1, nameIndex := 5, descriptorIndex := 6, attributes := #[] }] 49 2 #[1106, 1108, 575, 1110, 1112] #[{ accessFlags := 18, nameIndex := 13, descriptorIndex := 14, attributes := #[] }, { accessFlags := 18, nameIndex := 17, descriptorIndex := 18, attributes := #[] }, { accessFlags := 2, nameIndex := 21, descriptorIndex := 22, attributes := #[] }, { accessFlags := 2, nameIndex := 25, descriptorIndex := 26, attributes := #[] }, { accessFlags := 26, nameIndex := 1116, descriptorIndex := 1117, attributes := #[] }, { accessFlags := 24, nameIndex := 40, descriptorIndex := 26, attributes := #[] }, { accessFlags := 26, nameIndex := 1101, descriptorIndex := 1102, attributes := #[] }, { accessFlags := 26, nameIndex := 1121, descriptorIndex := 1122, attributes := #[] }, { accessFlags := 25, nameIndex := 599, descriptorIndex := 600, attributes := #[] }, { accessFlags := 24, nameIndex := 1125, descriptorIndex := 18, attributes := #[] }, { accessFlags := 24, nameIndex := 1127, descriptorIndex := 18, attributes := #[] }])
  fields := #[{ name := "value", type := (.array .byte), accessFlags := 18, slot := 0, constantValue := 0 }, { name := "coder", type := .byte, accessFlags := 18, slot := 1, constantValue := 0 }, { name := "hash", type := .int, accessFlags := 2, slot := 2, constantValue := 0 }, { name := "hashIsZero", type := .boolean, accessFlags := 2, slot := 3, constantValue := 0 }, { name := "serialVersionUID", type := .long, accessFlags := 26, slot := 0, constantValue := 0 }, { name := "COMPACT_STRINGS", type := .boolean, accessFlags := 24, slot := 1, constantValue := 0 }, { name := "serialPersistentFields", type := (.array (.object "java/io/ObjectStreamField")), accessFlags := 26, slot := 2, constantValue := 0 }, { name := "REPL", type := .char, accessFlags := 26, slot := 3, constantValue := 0 }, { name := "CASE_INSENSITIVE_ORDER", type := (.object "java/util/Comparator"), accessFlags := 25, slot := 4, constantValue := 0 }, { name := "LATIN1", type := .byte, accessFlags := 24, slot := 5, constantValue := 0 }, { name := "UTF16", type := .byte, accessFlags := 24, slot := 6, constantValue := 0 }]
  methods := #[k13m0]
  instanceTypes := #[(.array .byte), .byte, .int, .boolean]
  staticTypes := #[.long, .boolean, (.array (.object "java/io/ObjectStreamField")), .char, (.object "java/util/Comparator"), .byte, .byte]
  resolved := Array.replicate 1451 none
  statics := none }

def pool14 : Array CpInfo := pool [(2, .class_ 4), (1, u "java/lang/Object"), (0, u "<init>"), (0, u "()V"), (35, .class_ 44), (1, u "java/util/Objects"), (0, u "requireNonNull"), (48, u "(Ljava/lang/Object;Ljava/lang/String;)Ljava/lang/Object;")] 89

def k14m0 : Method := { name := "<init>", desc := "()V", sig := { parameters := [], returnType := none }, accessFlags := 2, code := none }
def k14c1 : Code := { maxStack := 3, maxLocals := 2, code := jdk_31_method_11_code, exceptionTable := #[], attributes := #[] }
def k14m1 : Method := { name := "requireNonNull", desc := "(Ljava/lang/Object;Ljava/lang/String;)Ljava/lang/Object;", sig := { parameters := [(.object "java/lang/Object"), (.object "java/lang/String")], returnType := some (.object "java/lang/Object") }, accessFlags := 9, code := some k14c1 }
/-- java/util/Objects -/
def k14 : Class := { plain "java/util/Objects" (some 0) with
  accessFlags := 49
  interfaces := #[]
  cf := some (fileOf pool14 42 #[] #[{ accessFlags := 2, nameIndex := 5, descriptorIndex := 6, attributes := #[] }, { accessFlags := 9, nameIndex := 45, descriptorIndex := 94, attributes := #[] }] 49 2 #[] #[])
  fields := #[]
  methods := #[k14m0, k14m1]
  instanceTypes := #[]
  staticTypes := #[]
  resolved := Array.replicate 184 none
  statics := none }

def pool15 : Array CpInfo := pool [(1, u "java/lang/Cloneable"), (0, .class_ 1), (0, u "java/lang/Object"), (0, .class_ 3)] 3

/-- java/lang/Cloneable -/
def k15 : Class := { plain "java/lang/Cloneable" (some 0) with
  accessFlags := 1537
  interfaces := #[]
  cf := some (fileOf pool15 2 #[] #[] 1537 4 #[] #[])
  fields := #[]
  methods := #[]
  instanceTypes := #[]
  staticTypes := #[]
  resolved := Array.replicate 8 none
  statics := none }

/-- the primitive byte -/
def k16 : Class := { plain "byte" none with kind := .primitive 'B', accessFlags := 0x411 }
/-- [B -/
def k17 : Class := { plain "[B" (some 0) with kind := .array 16 .byte, interfaces := #[15, 4], accessFlags := 1041 }

/-- the primitive int -/
def k18 : Class := { plain "int" none with kind := .primitive 'I', accessFlags := 0x411 }
/-- [I -/
def k19 : Class := { plain "[I" (some 0) with kind := .array 18 .int, interfaces := #[15, 4], accessFlags := 1041 }

def heap : Heap := #[{ cls := 7, slots := #[.ref 2, .ref 3, .ref 4, .null], vm := .statics 7 },
  { cls := 10, slots := #[.null, .null, .null, .ref 5, .null], vm := .statics 10 },
  { cls := 7, slots := #[.null, .int 0, .int 0, .null], vm := .none },
  { cls := 7, slots := #[.null, .int 0, .int 0, .null], vm := .none },
  { cls := 7, slots := #[.null, .int 0, .int 0, .null], vm := .none },
  { cls := 10, slots := #[.null, .int 0, .int 0, .null, .null], vm := .none }]
def classes : Array Class := #[k0, k1, k2, k3, k4, k5, k6, k7, k8, k9, k10, k11, k12, k13, k14, k15, k16, k17, k18, k19]
def interned : List (Array UInt16 × Addr) := []
def slotsUsed : Nat := 26
def theMethod : MethodId := ⟨1, 2⟩
def args0 : Array Value := #[.int 5]
def aboutOver (below : List Frame) : State where
  vm := { classes := classes, interned := interned.toArray }
  heap := heap
  slotsUsed := slotsUsed
  threads := #[{ frames := .invoking theMethod args0 :: below }]
def below0 : List Frame := [.native { method := ⟨0, 0⟩, args := #[] }]
def about1 : State := aboutOver below0
def p0 : Program := .bare "" "" ""
def e0 : Env := launch0.env 0 0 0
theorem w_frames : about1.frames = Frame.invoking theMethod args0 :: below0 := rfl
set_option maxRecDepth 65536 in
theorem w_args : argsFit about1.vm theMethod args0 = true := by decide +kernel
set_option maxRecDepth 65536 in
theorem w_heap : heapFits about1 = true := by decide +kernel
set_option maxRecDepth 65536 in
theorem w_runnable : about1.curStatus? = some .runnable := by decide +kernel
set_option maxRecDepth 65536 in
theorem w_alone : about1.alone = true := by decide +kernel
set_option maxRecDepth 65536 in
theorem w_named : about1.methodNamed? x = some theMethod := by decide +kernel
set_option maxRecDepth 65536 in
theorem w_hears : about1.hears theMethod below0 = true := by decide +kernel
set_option maxRecDepth 65536 in
theorem w_ripe : about1.ripe theMethod args0 below0 = true := by decide +kernel
theorem w_running : about1.status = .running := rfl
set_option maxRecDepth 65536 in
theorem w_room : about1.hasRoom e0.platform room_1 = true :=
  launch0.hasRoom_least _ room_1 (by decide +kernel) (by decide +kernel) (by decide +kernel) (by decide +kernel) (by decide +kernel) (by decide +kernel)
theorem allAtoms_all (ts : List Jvm.Cond) (a : Array Jvm.Value) (st : Jvm.State) : (allAtoms ts).before a st = ts.all (fun c => c.before a st) := by
  induction ts with
  | nil => rfl
  | cons c t ih =>
    show (Jvm.Cond.and c (allAtoms t)).before a st = _
    rw [Jvm.Cond.before_and, ih, List.all_cons]
def words1 : List Jvm.Cond := Jvm.Cond.code x code maxLocals ret :: tables_1
/-- a 'code' word, met by the world's own term for the bytes: nothing is compared byte by byte -/
theorem code_word {y : MethodName} {bytes : ByteArray} {mx : Nat} {rt : Option FieldType} {a : Array Value} {s : State} {m : MethodId} {meth : Method} {c : Code} (h1 : s.methodNamed? y = some m) (h2 : s.vm.method? m = some meth) (h3 : meth.code = some c) (h4 : c.code = bytes)
    (h5 : (c.maxLocals == mx && c.exceptionTable.isEmpty && decide (c.maxStack ≤ mostOperands) && decide (meth.sig.returnType = rt) && !meth.locks && decide (parseMethodDescriptor y.desc = some meth.sig)) = true) : (Jvm.Cond.code y bytes mx rt).before a s = true := by
  simp only [Bool.and_eq_true, beq_iff_eq, Bool.not_eq_true', decide_eq_true_eq] at h5
  obtain ⟨⟨⟨⟨⟨g1, g2⟩, g3⟩, g4⟩, g5⟩, g6⟩ := h5
  simp [Cond.before, Cond.holds, Cond.value, h1, h2, h3, h4, g1, g2, g3, g4, g5, g6]
def isCode : Jvm.Cond → Bool
  | .code _ _ _ _ => true
  | _ => false
theorem all_split {L : List Jvm.Cond} {P : Jvm.Cond → Bool} (h1 : L.all (fun c => isCode c || P c) = true) (h2 : ∀ c ∈ L.filter isCode, P c = true) : L.all P = true := by
  refine List.all_eq_true.mpr fun c hc => ?_
  have h := List.all_eq_true.mp h1 c hc
  rcases Bool.eq_false_or_eq_true (isCode c) with hi | hi
  · exact h2 c (List.mem_filter.mpr ⟨hc, hi⟩)
  · simpa [hi] using h
set_option maxRecDepth 65536 in
theorem w_c0 : (Jvm.Cond.code x code maxLocals ret).before args0 about1 = true := code_word (m := ⟨1, 2⟩) (meth := k1m2) (c := k1c2) (by decide +kernel) rfl rfl rfl (by decide +kernel)
set_option maxRecDepth 65536 in
theorem w_c1 : (Jvm.Cond.code ({ cls := "com/example/vireo/vireo/store/DispositionDroppedPinLaw", name := "pick", desc := "(I)Lcom/example/vireo/vireo/UndeliverableReason;" } : Jvm.MethodName) method_2_code (2 : Nat) (Option.some (Jvm.ClassFile.FieldType.object "com/example/vireo/vireo/UndeliverableReason"))).before args0 about1 = true := code_word (m := ⟨1, 1⟩) (meth := k1m1) (c := k1c1) (by decide +kernel) rfl rfl rfl (by decide +kernel)
set_option maxRecDepth 65536 in
theorem w_c2 : (Jvm.Cond.code ({ cls := "com/example/vireo/vireo/store/Disposition", name := "dropped", desc := "(Lcom/example/vireo/vireo/UndeliverableReason;)Lcom/example/vireo/vireo/store/Disposition;" } : Jvm.MethodName) prog_15_method_6_code (1 : Nat) (Option.some (Jvm.ClassFile.FieldType.object "com/example/vireo/vireo/store/Disposition"))).before args0 about1 = true := code_word (m := ⟨9, 1⟩) (meth := k9m1) (c := k9c1) (by decide +kernel) rfl rfl rfl (by decide +kernel)
set_option maxRecDepth 65536 in
theorem w_c3 : (Jvm.Cond.code ({ cls := "java/util/Objects", name := "requireNonNull", desc := "(Ljava/lang/Object;Ljava/lang/String;)Ljava/lang/Object;" } : Jvm.MethodName) jdk_31_method_11_code (2 : Nat) (Option.some (Jvm.ClassFile.FieldType.object "java/lang/Object"))).before args0 about1 = true := code_word (m := ⟨14, 1⟩) (meth := k14m1) (c := k14c1) (by decide +kernel) rfl rfl rfl (by decide +kernel)
set_option maxRecDepth 65536 in
theorem w_c4 : (Jvm.Cond.code ({ cls := "com/example/vireo/vireo/store/Disposition", name := "<init>", desc := "(Lcom/example/vireo/vireo/DeliveryStatus;Ljava/time/Instant;Lcom/example/vireo/vireo/UndeliverableReason;)V" } : Jvm.MethodName) prog_15_method_1_code (4 : Nat) (Option.none : Option Jvm.ClassFile.FieldType)).before args0 about1 = true := code_word (m := ⟨9, 0⟩) (meth := k9m0) (c := k9c0) (by decide +kernel) rfl rfl rfl (by decide +kernel)
set_option maxRecDepth 65536 in
theorem w_c5 : (Jvm.Cond.code ({ cls := "java/lang/Record", name := "<init>", desc := "()V" } : Jvm.MethodName) jdk_30_method_1_code (1 : Nat) (Option.none : Option Jvm.ClassFile.FieldType)).before args0 about1 = true := code_word (m := ⟨8, 0⟩) (meth := k8m0) (c := k8c0) (by decide +kernel) rfl rfl rfl (by decide +kernel)
set_option maxRecDepth 65536 in
theorem w_c6 : (Jvm.Cond.code ({ cls := "java/lang/Object", name := "<init>", desc := "()V" } : Jvm.MethodName) object_method_1_code (1 : Nat) (Option.none : Option Jvm.ClassFile.FieldType)).before args0 about1 = true := code_word (m := ⟨0, 0⟩) (meth := k0m0) (c := k0c0) (by decide +kernel) rfl rfl rfl (by decide +kernel)
set_option maxRecDepth 65536 in
theorem w_c7 : (Jvm.Cond.code ({ cls := "com/example/vireo/vireo/store/Disposition", name := "status", desc := "()Lcom/example/vireo/vireo/DeliveryStatus;" } : Jvm.MethodName) prog_15_method_10_code (1 : Nat) (Option.some (Jvm.ClassFile.FieldType.object "com/example/vireo/vireo/DeliveryStatus"))).before args0 about1 = true := code_word (m := ⟨9, 2⟩) (meth := k9m2) (c := k9c2) (by decide +kernel) rfl rfl rfl (by decide +kernel)
set_option maxRecDepth 65536 in
theorem w_c8 : (Jvm.Cond.code ({ cls := "com/example/vireo/vireo/store/Disposition", name := "dueTime", desc := "()Ljava/time/Instant;" } : Jvm.MethodName) prog_15_method_11_code (1 : Nat) (Option.some (Jvm.ClassFile.FieldType.object "java/time/Instant"))).before args0 about1 = true := code_word (m := ⟨9, 3⟩) (meth := k9m3) (c := k9c3) (by decide +kernel) rfl rfl rfl (by decide +kernel)
set_option maxRecDepth 65536 in
theorem w_c9 : (Jvm.Cond.code ({ cls := "com/example/vireo/vireo/store/Disposition", name := "reason", desc := "()Lcom/example/vireo/vireo/UndeliverableReason;" } : Jvm.MethodName) prog_15_method_12_code (1 : Nat) (Option.some (Jvm.ClassFile.FieldType.object "com/example/vireo/vireo/UndeliverableReason"))).before args0 about1 = true := code_word (m := ⟨9, 4⟩) (meth := k9m4) (c := k9c4) (by decide +kernel) rfl rfl rfl (by decide +kernel)
def codes1 : List Jvm.Cond := [Jvm.Cond.code x code maxLocals ret, Jvm.Cond.code ({ cls := "com/example/vireo/vireo/store/DispositionDroppedPinLaw", name := "pick", desc := "(I)Lcom/example/vireo/vireo/UndeliverableReason;" } : Jvm.MethodName) method_2_code (2 : Nat) (Option.some (Jvm.ClassFile.FieldType.object "com/example/vireo/vireo/UndeliverableReason")), Jvm.Cond.code ({ cls := "com/example/vireo/vireo/store/Disposition", name := "dropped", desc := "(Lcom/example/vireo/vireo/UndeliverableReason;)Lcom/example/vireo/vireo/store/Disposition;" } : Jvm.MethodName) prog_15_method_6_code (1 : Nat) (Option.some (Jvm.ClassFile.FieldType.object "com/example/vireo/vireo/store/Disposition")), Jvm.Cond.code ({ cls := "java/util/Objects", name := "requireNonNull", desc := "(Ljava/lang/Object;Ljava/lang/String;)Ljava/lang/Object;" } : Jvm.MethodName) jdk_31_method_11_code (2 : Nat) (Option.some (Jvm.ClassFile.FieldType.object "java/lang/Object")), Jvm.Cond.code ({ cls := "com/example/vireo/vireo/store/Disposition", name := "<init>", desc := "(Lcom/example/vireo/vireo/DeliveryStatus;Ljava/time/Instant;Lcom/example/vireo/vireo/UndeliverableReason;)V" } : Jvm.MethodName) prog_15_method_1_code (4 : Nat) (Option.none : Option Jvm.ClassFile.FieldType), Jvm.Cond.code ({ cls := "java/lang/Record", name := "<init>", desc := "()V" } : Jvm.MethodName) jdk_30_method_1_code (1 : Nat) (Option.none : Option Jvm.ClassFile.FieldType), Jvm.Cond.code ({ cls := "java/lang/Object", name := "<init>", desc := "()V" } : Jvm.MethodName) object_method_1_code (1 : Nat) (Option.none : Option Jvm.ClassFile.FieldType), Jvm.Cond.code ({ cls := "com/example/vireo/vireo/store/Disposition", name := "status", desc := "()Lcom/example/vireo/vireo/DeliveryStatus;" } : Jvm.MethodName) prog_15_method_10_code (1 : Nat) (Option.some (Jvm.ClassFile.FieldType.object "com/example/vireo/vireo/DeliveryStatus")), Jvm.Cond.code ({ cls := "com/example/vireo/vireo/store/Disposition", name := "dueTime", desc := "()Ljava/time/Instant;" } : Jvm.MethodName) prog_15_method_11_code (1 : Nat) (Option.some (Jvm.ClassFile.FieldType.object "java/time/Instant")), Jvm.Cond.code ({ cls := "com/example/vireo/vireo/store/Disposition", name := "reason", desc := "()Lcom/example/vireo/vireo/UndeliverableReason;" } : Jvm.MethodName) prog_15_method_12_code (1 : Nat) (Option.some (Jvm.ClassFile.FieldType.object "com/example/vireo/vireo/UndeliverableReason"))]
set_option maxRecDepth 65536 in
theorem codes_eq : words1.filter isCode = codes1 := rfl
theorem w_codes : ∀ c ∈ words1.filter isCode, c.before args0 about1 = true := by
  rw [codes_eq]
  intro c hc
  simp only [codes1, List.mem_cons, List.not_mem_nil, or_false] at hc
  rcases hc with rfl | rfl | rfl | rfl | rfl | rfl | rfl | rfl | rfl | rfl
  · exact w_c0
  · exact w_c1
  · exact w_c2
  · exact w_c3
  · exact w_c4
  · exact w_c5
  · exact w_c6
  · exact w_c7
  · exact w_c8
  · exact w_c9
set_option maxRecDepth 65536 in
theorem w_t1 : (words1.take 24).all (fun c => isCode c || c.before args0 about1) = true := by decide +kernel
set_option maxRecDepth 65536 in
theorem w_t2 : ((words1.drop 24).take 24).all (fun c => isCode c || c.before args0 about1) = true := by decide +kernel
set_option maxRecDepth 65536 in
theorem w_t3 : ((words1.drop 24).drop 24).all (fun c => isCode c || c.before args0 about1) = true := by decide +kernel
theorem w_tables : (allAtoms (Jvm.Cond.code x code maxLocals ret :: tables_1)).before args0 about1 = true := by
  rw [allAtoms_all]
  show words1.all (fun c => c.before args0 about1) = true
  refine all_split ?_ w_codes
  rw [← List.take_append_drop 24 words1, List.all_append, w_t1, ← List.take_append_drop 24 (words1.drop 24), List.all_append, w_t2, w_t3]
  rfl
set_option maxRecDepth 65536 in
theorem w_case : (Jvm.Cond.and given_1 narrow_1).before args0 about1 = true := by decide +kernel
theorem w_applies : (headSpec (Jvm.Cond.code x code maxLocals ret :: tables_1) room_1).applies x e0.platform about1 = true :=
  (Spec.applies_iff w_frames).mpr ⟨w_running, w_runnable, w_alone, w_named, w_hears, w_ripe, w_room, w_tables⟩
theorem atStart : AtStart classFile x code maxLocals ret World_1 tables_1 room_1 Calls_1 rest_1 Pre_1 launch0 p0 e0 about1 theMethod args0 below0 :=
  ⟨lists_1, trivial, launch0.admits_env _ _ _, launch0.least_env, fairChoices_fair.cas, fairChoices_fair.clock, w_frames, w_args, w_heap, w_applies, trivial, trivial, w_case⟩
end start1
theorem witness_1 : WitnessClaimed_1 := ⟨start1.p0, start1.e0, start1.about1, start1.theMethod, start1.args0, start1.below0, start1.atStart⟩
end Jvm.Pilot.@@N@@
