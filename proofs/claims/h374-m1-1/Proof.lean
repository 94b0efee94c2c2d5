import JvmDerived
import JvmDerived.Pilot.@@N@@Statement
import JvmDerived.Pilot.@@N@@Code
set_option linter.unusedVariables false
set_option linter.unusedSimpArgs false
namespace Jvm.RoadKit
open Sem ClassFile Op Lib Jvm.Stand Jvm.Free Jvm.LawKit
section New
variable {p : Program} {l : Launch} {e : Env} {R : Room} {s : State} {m : MethodId} {args : Array Value} {below : List Frame} {meth : Method} {c : Code} {T : State} {locs : List Loc} {cells slots : Nat}
theorem retI (X : Stand p l e R s m args below meth c T locs cells slots) (hx : p.tables.exec = Jvm.exec) {pc : Nat} {Ls : Array Slot} {z : Int32} {rest : List Value} (hret : meth.sig.returnType = some .int) (hd : decode c.code pc = .ok (.ireturn, 1)) {fs : List Frame}
    (hl : ∀ (f : JFrame) (acts : List Action), f.method = m → f.locked = none → f.entered = [] → (doReturn e (T.setTop f) acts (some (.int z))).1 = T.setFrames fs) : Steps p.tables e below (T.setTop (mkF m pc Ls (.int z :: rest))) (T.setFrames fs) := by
  have hm' : T.vm.method? m = some meth := X.method'
  have hn : narrow .int (.int z) = .int z := rfl
  show Steps p.tables e below (T.setTop { method := m, pc := pc, locals := Ls, stack := _ :: rest, locked := none }) _
  jvm_step X.here [X.here.top, hx, hd, hm', hret, hn]
  first | (intro acts; rw [hl _ acts rfl rfl rfl]) | rw [hl _ _ rfl rfl rfl]
  exact Steps.refl _
end New
end Jvm.RoadKit
namespace Jvm.Pilot.@@N@@
open Jvm Jvm.ClassFile Sem Op Lib Jvm.Free Jvm.Stand Jvm.LawKit Jvm.RoadKit Bundle Jvm.Pilot.@@N@@.Jvm.D
theorem own_bt {P : Prop} [Decidable P] (h : P) : ifCond.holds .eq (if P then (1 : Int32) else (0 : Int32)) = false ∧ ifCond.holds .ne (if P then (1 : Int32) else (0 : Int32)) = true := by rw [if_pos h]; exact ⟨rfl, rfl⟩
theorem own_bf {P : Prop} [Decidable P] (h : ¬ P) : ifCond.holds .eq (if P then (1 : Int32) else (0 : Int32)) = true ∧ ifCond.holds .ne (if P then (1 : Int32) else (0 : Int32)) = false := by rw [if_neg h]; exact ⟨rfl, rfl⟩
theorem own_getI (L : List Int32) (i : Nat) : (List.map Value.int L).getD i (.int (0 : Int32)) = .int (L.getD i 0) := by
  simp only [List.getD_eq_getElem?_getD, List.getElem?_map]; cases L[i]? <;> rfl
theorem own_getJ (L : List Int64) (i : Nat) : (List.map Value.long L).getD i (.long (0 : Int64)) = .long (L.getD i 0) := by
  simp only [List.getD_eq_getElem?_getD, List.getElem?_map]; cases L[i]? <;> rfl
theorem own_setI (L : List Int32) (i : Nat) (x : Int32) : (List.map Value.int L).set i (.int x) = List.map Value.int (L.set i x) := (List.map_set).symm
theorem own_setJ (L : List Int64) (i : Nat) (x : Int64) : (List.map Value.long L).set i (.long x) = List.map Value.long (L.set i x) := (List.map_set).symm
theorem own_swne {x k : Int32} {n : Int} (h : ¬ x = k) (e : k.toInt = n) : n ≠ x.toInt := fun q => h (Int32.toInt_inj.mp (by rw [e, q]))
theorem d1_0 : decode jdk_29_method_66_code 0 = .ok (.lload_n 0, 1) := by decide +kernel
theorem d1_1 : decode jdk_29_method_66_code 1 = .ok (.lload_n 2, 1) := by decide +kernel
theorem d1_2 : decode jdk_29_method_66_code 2 = .ok (.lcmp, 1) := by decide +kernel
theorem d1_3 : decode jdk_29_method_66_code 3 = .ok (.ifCond .lt 7, 3) := by decide +kernel
theorem d1_6 : decode jdk_29_method_66_code 6 = .ok (.lload_n 0, 1) := by decide +kernel
theorem d1_7 : decode jdk_29_method_66_code 7 = .ok (.goto 4, 3) := by decide +kernel
theorem d1_10 : decode jdk_29_method_66_code 10 = .ok (.lload_n 2, 1) := by decide +kernel
theorem d1_11 : decode jdk_29_method_66_code 11 = .ok (.lreturn, 1) := by decide +kernel
theorem ef_1 (m : MethodId) (x0 : Int64) (x1 : Int64)  : entryFrame m #[(.long x0), (.long x1)] 4 = mkF m 0 #[.val (.long x0), .second, .val (.long x1), .second] [] := by first | (simp [entryFrame, mkF, argsToLocals, Value.category]; done) | rfl
def F1 (x0 : Int64) (x1 : Int64) : Int64 := if x0 < x1 then x1 else x0
def Q1 (Z : State) (x0 : Int64) (x1 : Int64) (h0 : Heap) (n0 : Nat) (v : Option Value) (h : Heap) (L : List Loc) : Prop := v = some (.long (F1 x0 x1)) ∧ Fr n0 L ∧ h = h0
set_option maxRecDepth 65536 in
set_option maxHeartbeats 40000000 in
theorem rm1 (l : Launch) (Z : State) (a0 : Array Value) (hw : ∀ d ∈ tables_1, d.before a0 Z = true) (ws : List Jvm.Cond) (x0 : Int64) (x1 : Int64) (h0 : Heap) (n0 : Nat) (Z0 : n0 ≤ h0.size) :
    MetFree l (⟨"java/lang/Math", "max", "(JJ)J"⟩ : MethodName) (head1 (Jvm.Cond.code (⟨"java/lang/Math", "max", "(JJ)J"⟩ : MethodName) jdk_29_method_66_code 4 (some .long) :: ws) ({ frames := 0, cells := 0, slots := 0, locals := 0 } : Room)) (fun a U => a = #[(.long x0), (.long x1)] ∧ Z.Warmed39 U.vm ∧ U.heap = h0) (fun _ _ _ _ _ => True) (fun _ U o U' => ∃ v L, o = .returned v ∧ Q1 Z x0 x1 h0 n0 v U'.heap L ∧ FrameEnd U o U' L ({ frames := 0, cells := 0, slots := 0, locals := 0 } : Room).cells ({ frames := 0, cells := 0, slots := 0, locals := 0 } : Room).slots) := by
  refine MetFree.of_bodySF (Jvm.Free.JP.mathPlain rfl (by decide +kernel)) hisR ?_
  intro p e s m args below meth c s₁ Bd hml0 hP hK
  obtain ⟨rfl, hZ, hh⟩ := hP
  have hx := Bd.exec
  have hby := Bd.bytes
  have hml : c.maxLocals = 4 := hml0
  have hown : s.vm.findClass "java/lang/Math" = some m.cls := findClass_of_methodNamed Bd.named
  have hnm := (name_of_methodNamed Bd.named Bd.method).1
  have X0 : Stand p l e ({ frames := 0, cells := 0, slots := 0, locals := 0 } : Room) s m #[(.long x0), (.long x1)] below meth c s₁ [] 0 0 := Stand.of_body Bd
  have e0 : s₁.heap = h0 := by rw [← hh, Bd.state]; rfl
  have N0 := Fr.nil n0
  have st0 : Steps p.tables e below (s₁.setTop (entryFrame m #[(.long x0), (.long x1)] 4)) (s₁.setTop (mkF m 0 #[.val (.long x0), .second, .val (.long x1), .second] [])) := castTop (ef_1 m x0 x1) (Steps.refl _)
  have st1 : Steps p.tables e below (s₁.setTop (entryFrame m #[(.long x0), (.long x1)] 4)) (s₁.setTop (mkF m 3 #[.val (.long x0), .second, .val (.long x1), .second] [(.int (lcmpW x0 x1))])) := st0.trans (by
      show Steps p.tables e below (s₁.setTop (mkF m 0 #[.val (.long x0), .second, .val (.long x1), .second] [])) _
      refine XS.lloadN X0.here hx rfl (hb hby d1_0) rfl ?_
      show Steps p.tables e below (s₁.setTop (mkF m 1 #[.val (.long x0), .second, .val (.long x1), .second] [(.long x0)])) _
      refine XS.lloadN X0.here hx rfl (hb hby d1_1) rfl ?_
      show Steps p.tables e below (s₁.setTop (mkF m 2 #[.val (.long x0), .second, .val (.long x1), .second] [(.long x1), (.long x0)])) _
      refine XS.lcmp X0.here hx rfl (hb hby d1_2) rfl ?_
      exact Steps.refl _)
  by_cases hc2 : x0 < x1
  · have st3 : Steps p.tables e below (s₁.setTop (entryFrame m #[(.long x0), (.long x1)] 4)) (s₁.setTop (mkF m 11 #[.val (.long x0), .second, .val (.long x1), .second] [(.long x1)])) := st1.trans (by
        show Steps p.tables e below (s₁.setTop (mkF m 3 #[.val (.long x0), .second, .val (.long x1), .second] [(.int (lcmpW x0 x1))])) _
        refine XS.ifYes X0.here hx rfl (pc0 := 3) (pc' := 10) rfl (hb hby d1_3) rfl ((if0 _ _).trans (tlt ((lw_lt _ _).mpr hc2)).1) (by decide) (by decide) ?_
        show Steps p.tables e below (s₁.setTop (mkF m 10 #[.val (.long x0), .second, .val (.long x1), .second] [])) _
        refine XS.lloadN X0.here hx rfl (hb hby d1_10) rfl ?_
        exact Steps.refl _)
    obtain ⟨fs, hr, hrun, hended, hW, hsame⟩ := X0.leave (v := some (.long x1)) (fun h => by rw [Bd.returns] at h; cases h)
    refine ⟨_, _, st3.trans ?_, hrun, hended, _, _, rfl, ?_, ⟨_, rfl⟩, hW, hsame.mono (by decide) (by decide)⟩
    · jvm_step X0.here [X0.here.top, hx, (hb hby d1_11), X0.method', Bd.returns, narrow]
      first | (intro acts; rw [hr _ acts rfl rfl rfl]) | rw [hr _ _ rfl rfl rfl]
      exact Steps.refl _
    · show Q1 Z x0 x1 h0 n0 _ s₁.heap _
      rw [e0]
      exact ⟨by rw [F1, if_pos hc2], N0, rfl⟩
  · have st4 : Steps p.tables e below (s₁.setTop (entryFrame m #[(.long x0), (.long x1)] 4)) (s₁.setTop (mkF m 11 #[.val (.long x0), .second, .val (.long x1), .second] [(.long x0)])) := st1.trans (by
        show Steps p.tables e below (s₁.setTop (mkF m 3 #[.val (.long x0), .second, .val (.long x1), .second] [(.int (lcmpW x0 x1))])) _
        refine XS.ifNo X0.here hx rfl (hb hby d1_3) rfl ((if0 _ _).trans (flt (fun q => hc2 ((lw_lt _ _).mp q))).1) ?_
        show Steps p.tables e below (s₁.setTop (mkF m 6 #[.val (.long x0), .second, .val (.long x1), .second] [])) _
        refine XS.lloadN X0.here hx rfl (hb hby d1_6) rfl ?_
        show Steps p.tables e below (s₁.setTop (mkF m 7 #[.val (.long x0), .second, .val (.long x1), .second] [(.long x0)])) _
        refine XS.goto X0.here hx rfl (pc0 := 7) (pc' := 11) rfl (hb hby d1_7) (by decide) (by decide) ?_
        exact Steps.refl _)
    obtain ⟨fs, hr, hrun, hended, hW, hsame⟩ := X0.leave (v := some (.long x0)) (fun h => by rw [Bd.returns] at h; cases h)
    refine ⟨_, _, st4.trans ?_, hrun, hended, _, _, rfl, ?_, ⟨_, rfl⟩, hW, hsame.mono (by decide) (by decide)⟩
    · jvm_step X0.here [X0.here.top, hx, (hb hby d1_11), X0.method', Bd.returns, narrow]
      first | (intro acts; rw [hr _ acts rfl rfl rfl]) | rw [hr _ _ rfl rfl rfl]
      exact Steps.refl _
    · show Q1 Z x0 x1 h0 n0 _ s₁.heap _
      rw [e0]
      exact ⟨by rw [F1, if_neg hc2], N0, rfl⟩
theorem d2_0 : decode prog_21_method_1_code 0 = .ok (.aload_n 0, 1) := by decide +kernel
theorem d2_1 : decode prog_21_method_1_code 1 = .ok (.invokespecial 3, 3) := by decide +kernel
theorem d2_4 : decode prog_21_method_1_code 4 = .ok (.lload_n 1, 1) := by decide +kernel
theorem d2_5 : decode prog_21_method_1_code 5 = .ok (.lconst 1, 1) := by decide +kernel
theorem d2_6 : decode prog_21_method_1_code 6 = .ok (.lcmp, 1) := by decide +kernel
theorem d2_7 : decode prog_21_method_1_code 7 = .ok (.ifCond .ge 17, 3) := by decide +kernel
theorem d2_24 : decode prog_21_method_1_code 24 = .ok (.aload_n 0, 1) := by decide +kernel
theorem d2_25 : decode prog_21_method_1_code 25 = .ok (.lload_n 1, 1) := by decide +kernel
theorem d2_26 : decode prog_21_method_1_code 26 = .ok (.putfield 18, 3) := by decide +kernel
theorem d2_29 : decode prog_21_method_1_code 29 = .ok (.return_, 1) := by decide +kernel
theorem pn_0 : plainName "com/example/treeline/treeline/common/StepLimit" = true := by first | (simp [plainName, overriddenIn]; done) | decide +kernel
theorem ef_2 (m : MethodId) (x0 : Addr) (x1 : Int64)  : entryFrame m #[(.ref x0), (.long x1)] 3 = mkF m 0 #[.val (.ref x0), .val (.long x1), .second] [] := by first | (simp [entryFrame, mkF, argsToLocals, Value.category]; done) | rfl
def Q2 (Z : State) (x0 : Addr) (x1 : Int64) (h0 : Heap) (n0 : Nat) (v : Option Value) (h : Heap) (L : List Loc) : Prop := v = none ∧ Fr n0 L ∧ Keep h0 h [x0] ∧ Exa Z h x0 "com/example/treeline/treeline/common/StepLimit" ∧ Fld Z h x0 "com/example/treeline/treeline/common/StepLimit" "max" "J" (.long x1) ∧ Fld Z h x0 "com/example/treeline/treeline/common/StepLimit" "taken" "J" (.long (0 : Int64))
set_option maxRecDepth 65536 in
set_option maxHeartbeats 40000000 in
theorem rm2 (l : Launch) (Z : State) (a0 : Array Value) (hw : ∀ d ∈ tables_1, d.before a0 Z = true) (ws : List Jvm.Cond) (x0 : Addr) (x1 : Int64) (h0 : Heap) (n0 : Nat) (Z0 : n0 ≤ h0.size) (E_x : Exa Z h0 x0 "com/example/treeline/treeline/common/StepLimit") (F_m : Fld Z h0 x0 "com/example/treeline/treeline/common/StepLimit" "max" "J" (.long (0 : Int64))) (F_t : Fld Z h0 x0 "com/example/treeline/treeline/common/StepLimit" "taken" "J" (.long (0 : Int64))) (g_x : n0 ≤ x0) (hm : ¬ x1 < (1 : Int64)) :
    MetFree l (⟨"com/example/treeline/treeline/common/StepLimit", "<init>", "(J)V"⟩ : MethodName) (head1 (Jvm.Cond.code (⟨"com/example/treeline/treeline/common/StepLimit", "<init>", "(J)V"⟩ : MethodName) prog_21_method_1_code 3 none :: ws) ({ frames := 1, cells := 0, slots := 0, locals := 12 } : Room)) (fun a U => a = #[(.ref x0), (.long x1)] ∧ Z.Warmed39 U.vm ∧ U.heap = h0) (fun _ _ _ _ _ => True) (fun _ U o U' => ∃ v L, o = .returned v ∧ Q2 Z x0 x1 h0 n0 v U'.heap L ∧ FrameEnd U o U' L ({ frames := 1, cells := 0, slots := 0, locals := 12 } : Room).cells ({ frames := 1, cells := 0, slots := 0, locals := 12 } : Room).slots) := by
  refine MetFree.of_bodySF (plainFor_of_name pn_0) hisR ?_
  intro p e s m args below meth c s₁ Bd hml0 hP hK
  obtain ⟨rfl, hZ, hh⟩ := hP
  have hx := Bd.exec
  have hby := Bd.bytes
  have hml : c.maxLocals = 3 := hml0
  have hown : s.vm.findClass "com/example/treeline/treeline/common/StepLimit" = some m.cls := findClass_of_methodNamed Bd.named
  have hnm := (name_of_methodNamed Bd.named Bd.method).1
  have X0 : Stand p l e ({ frames := 1, cells := 0, slots := 0, locals := 12 } : Room) s m #[(.ref x0), (.long x1)] below meth c s₁ [] 0 0 := Stand.of_body Bd
  have e0 : s₁.heap = h0 := by rw [← hh, Bd.state]; rfl
  have N0 := Fr.nil n0
  have st0 : Steps p.tables e below (s₁.setTop (entryFrame m #[(.ref x0), (.long x1)] 3)) (s₁.setTop (mkF m 0 #[.val (.ref x0), .val (.long x1), .second] [])) := castTop (ef_2 m x0 x1) (Steps.refl _)
  have K0 : Keep h0 h0 [x0] := Keep.refl _ _
  have st1 : Steps p.tables e below (s₁.setTop (entryFrame m #[(.ref x0), (.long x1)] 3)) (s₁.setTop (mkF m 1 #[.val (.ref x0), .val (.long x1), .second] [(.ref x0)])) := st0.trans (by
      show Steps p.tables e below (s₁.setTop (mkF m 0 #[.val (.ref x0), .val (.long x1), .second] [])) _
      refine XS.aloadN X0.here hx rfl (hb hby d2_0) rfl rfl ?_
      exact Steps.refl _)
  obtain ⟨T2, X2, e2, sr2⟩ := initO X0 hx hZ hown (hw _ (List.mem_of_getElem? (i := 11) rfl)) (hw _ (List.mem_of_getElem? (i := 12) rfl)) (hw _ (List.mem_of_getElem? (i := 13) rfl)) e0 (g := (mkF m 1 #[.val (.ref x0), .val (.long x1), .second] [(.ref x0)])) rfl (by rw [hml]; rfl) rfl (hb hby d2_1) (by decide) (W := 0) (by show 2 * 0 + _ ≤ _; exact Nat.le_of_eq rfl) (by decide)
  have st3 : Steps p.tables e below (s₁.setTop (entryFrame m #[(.ref x0), (.long x1)] 3)) (T2.setTop (mkF m 4 #[.val (.ref x0), .val (.long x1), .second] [])) := st1.trans (sr2 _ (Steps.refl _))
  have st4 : Steps p.tables e below (s₁.setTop (entryFrame m #[(.ref x0), (.long x1)] 3)) (T2.setTop (mkF m 7 #[.val (.ref x0), .val (.long x1), .second] [(.int (lcmpW x1 (1 : Int64)))])) := st3.trans (by
      show Steps p.tables e below (T2.setTop (mkF m 4 #[.val (.ref x0), .val (.long x1), .second] [])) _
      refine XS.lloadN X2.here hx rfl (hb hby d2_4) rfl ?_
      show Steps p.tables e below (T2.setTop (mkF m 5 #[.val (.ref x0), .val (.long x1), .second] [(.long x1)])) _
      refine XS.lconst X2.here hx rfl (hb hby d2_5) ?_
      show Steps p.tables e below (T2.setTop (mkF m 6 #[.val (.ref x0), .val (.long x1), .second] [(.long (1 : Int64)), (.long x1)])) _
      refine XS.lcmp X2.here hx rfl (hb hby d2_6) rfl ?_
      exact Steps.refl _)
  have hf5 : ¬ (x1 < (1 : Int64)) := hm
  have st6 : Steps p.tables e below (s₁.setTop (entryFrame m #[(.ref x0), (.long x1)] 3)) (T2.setTop (mkF m 26 #[.val (.ref x0), .val (.long x1), .second] [(.long x1), (.ref x0)])) := st4.trans (by
      show Steps p.tables e below (T2.setTop (mkF m 7 #[.val (.ref x0), .val (.long x1), .second] [(.int (lcmpW x1 (1 : Int64)))])) _
      refine XS.ifYes X2.here hx rfl (pc0 := 7) (pc' := 24) rfl (hb hby d2_7) rfl ((if0 _ _).trans (flt (fun q => hf5 ((lw_lt _ _).mp q))).2.1) (by decide) (by decide) ?_
      show Steps p.tables e below (T2.setTop (mkF m 24 #[.val (.ref x0), .val (.long x1), .second] [])) _
      refine XS.aloadN X2.here hx rfl (hb hby d2_24) rfl rfl ?_
      show Steps p.tables e below (T2.setTop (mkF m 25 #[.val (.ref x0), .val (.long x1), .second] [(.ref x0)])) _
      refine XS.lloadN X2.here hx rfl (hb hby d2_25) rfl ?_
      exact Steps.refl _)
  obtain ⟨T7, h7, X7, e7, W7, sr7⟩ := putF X2 hx hZ hown (host := "") (Or.inl (hw _ (List.mem_of_getElem? (i := 14) rfl))) Via.refl e2 F_m E_x (Or.inr ⟨(hw _ (List.mem_of_getElem? (i := 15) rfl)), rfl, hnm⟩) (hw _ (List.mem_of_getElem? (i := 6) rfl)) (ty := .long) (by decide) rfl rfl (g := (mkF m 26 #[.val (.ref x0), .val (.long x1), .second] [(.long x1), (.ref x0)])) rfl rfl (hb hby d2_26)
  have f8 : Exa Z h7 x0 "com/example/treeline/treeline/common/StepLimit" := E_x.wr W7
  have f9 : Fld Z h7 x0 "com/example/treeline/treeline/common/StepLimit" "taken" "J" (.long (0 : Int64)) := F_t.other W7 (Or.inr (slot_ne (Or.inl (hw _ (List.mem_of_getElem? (i := 22) rfl))) (Or.inr (hw _ (List.mem_of_getElem? (i := 15) rfl))) (by decide) (t := .long) (t' := .long) (by decide) (by decide)))
  have f10 : Fld Z h7 x0 "com/example/treeline/treeline/common/StepLimit" "max" "J" (.long x1) := F_m.same W7
  have K11 : Keep h0 h7 [x0] := K0.wr W7 (Or.inl (List.mem_of_getElem? (i := 0) rfl))
  have Z7 : n0 ≤ h7.size := Nat.le_trans Z0 (Keep.of_wr W7).1
  have N7 := Fr.snoc X7 N0 g_x
  have st12 : Steps p.tables e below (s₁.setTop (entryFrame m #[(.ref x0), (.long x1)] 3)) (T7.setTop (mkF m 29 #[.val (.ref x0), .val (.long x1), .second] [])) := st6.trans (sr7 _ (Steps.refl _))
  obtain ⟨fs, hr, hrun, hended, hW, hsame⟩ := X7.leave (v := none) (fun _ => rfl)
  refine ⟨_, _, st12.trans ?_, hrun, hended, _, _, rfl, ?_, ⟨_, rfl⟩, hW, hsame.mono (by decide) (by decide)⟩
  · exact X7.returnOut hx Bd.returns (hb hby d2_29) hr
  · show Q2 Z x0 x1 h0 n0 _ T7.heap _
    rw [e7]
    exact ⟨rfl, N7, K11, f8, f10, f9⟩
theorem own_tk (mx i i' : Int64) (hm : ¬ mx < (1 : Int64)) (hii : i' = i + 1) (hi : 0 ≤ i.toInt ∧ i.toInt < 1000) : ((if mx < i then mx else i) = mx → mx < i') ∧ (¬ (if mx < i then mx else i) = mx → ¬ mx < i' ∧ (if mx < i then mx else i) + 1 = i') := by
  have k1 : (1 : Int64).toInt = 1 := by decide
  have e := c_ladd i 1
  have r := rng64 (i + 1)
  rw [k1] at e
  rw [Int64.lt_iff_toInt_lt, k1] at hm
  subst hii
  constructor
  · intro h
    rw [Int64.lt_iff_toInt_lt]
    by_cases q : mx < i
    · rw [Int64.lt_iff_toInt_lt] at q; omega
    · rw [if_neg q] at h; subst h; omega
  · intro h
    by_cases q : mx < i
    · rw [if_pos q] at h; exact absurd rfl h
    · rw [if_neg q] at h ⊢
      have h' : i.toInt ≠ mx.toInt := fun z => h (Int64.toInt_inj.mp z)
      rw [Int64.lt_iff_toInt_lt] at q ⊢
      exact ⟨by omega, rfl⟩
theorem own_max1 (y : Int64) : ¬ F1 (1 : Int64) y < (1 : Int64) := by
  unfold F1
  have k1 : (1 : Int64).toInt = 1 := by decide
  split
  · rename_i h; rw [Int64.lt_iff_toInt_lt] at *; omega
  · rw [Int64.lt_iff_toInt_lt]; omega
theorem own_and7 (x : Int64) : ¬ ((x &&& (7 : Int64)) + (1 : Int64)) < (1 : Int64) := by
  have k1 : (1 : Int64).toInt = 1 := by decide
  have e1 : (x &&& 7).toInt = x.toInt % (2 ^ 3 : Nat) := c_maskL x 7 3 (by decide) (by decide)
  have e2 := c_ladd (x &&& 7) 1
  have r := rng64 ((x &&& 7) + 1)
  rw [k1] at e2
  rw [Int64.lt_iff_toInt_lt, k1]; omega
theorem d4_0 : decode prog_21_method_2_code 0 = .ok (.aload_n 0, 1) := by decide +kernel
theorem d4_1 : decode prog_21_method_2_code 1 = .ok (.getfield 24, 3) := by decide +kernel
theorem d4_4 : decode prog_21_method_2_code 4 = .ok (.aload_n 0, 1) := by decide +kernel
theorem d4_5 : decode prog_21_method_2_code 5 = .ok (.getfield 18, 3) := by decide +kernel
theorem d4_8 : decode prog_21_method_2_code 8 = .ok (.lcmp, 1) := by decide +kernel
theorem d4_9 : decode prog_21_method_2_code 9 = .ok (.ifCond .ne 5, 3) := by decide +kernel
theorem d4_12 : decode prog_21_method_2_code 12 = .ok (.iconst 0, 1) := by decide +kernel
theorem d4_13 : decode prog_21_method_2_code 13 = .ok (.ireturn, 1) := by decide +kernel
theorem d4_14 : decode prog_21_method_2_code 14 = .ok (.aload_n 0, 1) := by decide +kernel
theorem d4_15 : decode prog_21_method_2_code 15 = .ok (.dup, 1) := by decide +kernel
theorem d4_16 : decode prog_21_method_2_code 16 = .ok (.getfield 24, 3) := by decide +kernel
theorem d4_19 : decode prog_21_method_2_code 19 = .ok (.lconst 1, 1) := by decide +kernel
theorem d4_20 : decode prog_21_method_2_code 20 = .ok (.ladd, 1) := by decide +kernel
theorem d4_21 : decode prog_21_method_2_code 21 = .ok (.putfield 24, 3) := by decide +kernel
theorem d4_24 : decode prog_21_method_2_code 24 = .ok (.iconst 1, 1) := by decide +kernel
theorem d4_25 : decode prog_21_method_2_code 25 = .ok (.ireturn, 1) := by decide +kernel
theorem ef_4 (m : MethodId) (x0 : Addr)  : entryFrame m #[(.ref x0)] 1 = mkF m 0 #[.val (.ref x0)] [] := by first | (simp [entryFrame, mkF, argsToLocals, Value.category]; done) | rfl
def Q4 (Z : State) (x0 : Addr) (mx : Int64) (i : Int64) (i' : Int64) (h0 : Heap) (n0 : Nat) (v : Option Value) (h : Heap) (L : List Loc) : Prop := v = some (.int (if mx < i' then (0 : Int32) else (1 : Int32))) ∧ Fr n0 L ∧ Keep h0 h [x0] ∧ Exa Z h x0 "com/example/treeline/treeline/common/StepLimit" ∧ Fld Z h x0 "com/example/treeline/treeline/common/StepLimit" "max" "J" (.long mx) ∧ Fld Z h x0 "com/example/treeline/treeline/common/StepLimit" "taken" "J" (.long (if mx < i' then mx else i'))
set_option maxRecDepth 65536 in
set_option maxHeartbeats 40000000 in
theorem rm4 (l : Launch) (Z : State) (a0 : Array Value) (hw : ∀ d ∈ tables_1, d.before a0 Z = true) (ws : List Jvm.Cond) (x0 : Addr) (mx : Int64) (i : Int64) (i' : Int64) (h0 : Heap) (n0 : Nat) (Z0 : n0 ≤ h0.size) (E_x : Exa Z h0 x0 "com/example/treeline/treeline/common/StepLimit") (F_m : Fld Z h0 x0 "com/example/treeline/treeline/common/StepLimit" "max" "J" (.long mx)) (F_t : Fld Z h0 x0 "com/example/treeline/treeline/common/StepLimit" "taken" "J" (.long (if mx < i then mx else i))) (g_x : n0 ≤ x0) (hm : ¬ mx < (1 : Int64)) (hii : i' = i + 1) (hi : 0 ≤ i.toInt ∧ i.toInt < 1000) :
    MetFree l (⟨"com/example/treeline/treeline/common/StepLimit", "take", "()Z"⟩ : MethodName) (head1 (Jvm.Cond.code (⟨"com/example/treeline/treeline/common/StepLimit", "take", "()Z"⟩ : MethodName) prog_21_method_2_code 1 (some .boolean) :: ws) ({ frames := 0, cells := 0, slots := 0, locals := 0 } : Room)) (fun a U => a = #[(.ref x0)] ∧ Z.Warmed39 U.vm ∧ U.heap = h0) (fun _ _ _ _ _ => True) (fun _ U o U' => ∃ v L, o = .returned v ∧ Q4 Z x0 mx i i' h0 n0 v U'.heap L ∧ FrameEnd U o U' L ({ frames := 0, cells := 0, slots := 0, locals := 0 } : Room).cells ({ frames := 0, cells := 0, slots := 0, locals := 0 } : Room).slots) := by
  refine MetFree.of_bodySF (plainFor_of_name pn_0) hisR ?_
  intro p e s m args below meth c s₁ Bd hml0 hP hK
  obtain ⟨rfl, hZ, hh⟩ := hP
  have hx := Bd.exec
  have hby := Bd.bytes
  have hml : c.maxLocals = 1 := hml0
  have hown : s.vm.findClass "com/example/treeline/treeline/common/StepLimit" = some m.cls := findClass_of_methodNamed Bd.named
  have hnm := (name_of_methodNamed Bd.named Bd.method).1
  have X0 : Stand p l e ({ frames := 0, cells := 0, slots := 0, locals := 0 } : Room) s m #[(.ref x0)] below meth c s₁ [] 0 0 := Stand.of_body Bd
  have e0 : s₁.heap = h0 := by rw [← hh, Bd.state]; rfl
  have N0 := Fr.nil n0
  have st0 : Steps p.tables e below (s₁.setTop (entryFrame m #[(.ref x0)] 1)) (s₁.setTop (mkF m 0 #[.val (.ref x0)] [])) := castTop (ef_4 m x0) (Steps.refl _)
  have K0 : Keep h0 h0 [x0] := Keep.refl _ _
  have st1 : Steps p.tables e below (s₁.setTop (entryFrame m #[(.ref x0)] 1)) (s₁.setTop (mkF m 1 #[.val (.ref x0)] [(.ref x0)])) := st0.trans (by
      show Steps p.tables e below (s₁.setTop (mkF m 0 #[.val (.ref x0)] [])) _
      refine XS.aloadN X0.here hx rfl (hb hby d4_0) rfl rfl ?_
      exact Steps.refl _)
  obtain ⟨T2, X2, e2, sr2⟩ := getF X0 hx hZ hown (host := "") (Or.inl (hw _ (List.mem_of_getElem? (i := 21) rfl))) Via.refl e0 F_t (g := (mkF m 1 #[.val (.ref x0)] [(.ref x0)])) rfl rfl (hb hby d4_1)
  have st3 : Steps p.tables e below (s₁.setTop (entryFrame m #[(.ref x0)] 1)) (T2.setTop (mkF m 4 #[.val (.ref x0)] [(.long (if mx < i then mx else i))])) := st1.trans (sr2 _ (Steps.refl _))
  have st4 : Steps p.tables e below (s₁.setTop (entryFrame m #[(.ref x0)] 1)) (T2.setTop (mkF m 5 #[.val (.ref x0)] [(.ref x0), (.long (if mx < i then mx else i))])) := st3.trans (by
      show Steps p.tables e below (T2.setTop (mkF m 4 #[.val (.ref x0)] [(.long (if mx < i then mx else i))])) _
      refine XS.aloadN X2.here hx rfl (hb hby d4_4) rfl rfl ?_
      exact Steps.refl _)
  obtain ⟨T5, X5, e5, sr5⟩ := getF X2 hx hZ hown (host := "") (Or.inl (hw _ (List.mem_of_getElem? (i := 14) rfl))) Via.refl e2 F_m (g := (mkF m 5 #[.val (.ref x0)] [(.ref x0), (.long (if mx < i then mx else i))])) rfl rfl (hb hby d4_5)
  have st6 : Steps p.tables e below (s₁.setTop (entryFrame m #[(.ref x0)] 1)) (T5.setTop (mkF m 8 #[.val (.ref x0)] [(.long mx), (.long (if mx < i then mx else i))])) := st4.trans (sr5 _ (Steps.refl _))
  have st7 : Steps p.tables e below (s₁.setTop (entryFrame m #[(.ref x0)] 1)) (T5.setTop (mkF m 9 #[.val (.ref x0)] [(.int (lcmpW (if mx < i then mx else i) mx))])) := st6.trans (by
      show Steps p.tables e below (T5.setTop (mkF m 8 #[.val (.ref x0)] [(.long mx), (.long (if mx < i then mx else i))])) _
      refine XS.lcmp X5.here hx rfl (hb hby d4_8) rfl ?_
      exact Steps.refl _)
  by_cases hc8 : (if mx < i then mx else i) = mx
  · have st9 : Steps p.tables e below (s₁.setTop (entryFrame m #[(.ref x0)] 1)) (T5.setTop (mkF m 13 #[.val (.ref x0)] [(.int (0 : Int32))])) := st7.trans (by
        show Steps p.tables e below (T5.setTop (mkF m 9 #[.val (.ref x0)] [(.int (lcmpW (if mx < i then mx else i) mx))])) _
        refine XS.ifNo X5.here hx rfl (hb hby d4_9) rfl ((if0 _ _).trans (teq ((lw_eq _ _).mpr hc8)).2) ?_
        show Steps p.tables e below (T5.setTop (mkF m 12 #[.val (.ref x0)] [])) _
        refine XS.iconst X5.here hx rfl (hb hby d4_12) ?_
        exact Steps.refl _)
    obtain ⟨fs, hr, hrun, hended, hW, hsame⟩ := X5.leave (v := some (.int (0 : Int32))) (fun h => by rw [Bd.returns] at h; cases h)
    refine ⟨_, _, st9.trans ?_, hrun, hended, _, _, rfl, ?_, ⟨_, rfl⟩, hW, hsame.mono (by decide) (by decide)⟩
    · exact retN X5 hx (t := .boolean) Bd.returns (by simp) (hb hby d4_13) hr
    · show Q4 Z x0 mx i i' h0 n0 _ T5.heap _
      rw [e5]
      exact ⟨by rw [if_pos ((own_tk mx i i' hm hii hi).1 hc8)], N0, K0, E_x, F_m, (by rw [if_pos ((own_tk mx i i' hm hii hi).1 hc8)]; rw [hc8] at F_t; exact F_t)⟩
  · have st10 : Steps p.tables e below (s₁.setTop (entryFrame m #[(.ref x0)] 1)) (T5.setTop (mkF m 16 #[.val (.ref x0)] [(.ref x0), (.ref x0)])) := st7.trans (by
        show Steps p.tables e below (T5.setTop (mkF m 9 #[.val (.ref x0)] [(.int (lcmpW (if mx < i then mx else i) mx))])) _
        refine XS.ifYes X5.here hx rfl (pc0 := 9) (pc' := 14) rfl (hb hby d4_9) rfl ((if0 _ _).trans (feq (fun q => hc8 ((lw_eq _ _).mp q))).2) (by decide) (by decide) ?_
        show Steps p.tables e below (T5.setTop (mkF m 14 #[.val (.ref x0)] [])) _
        refine XS.aloadN X5.here hx rfl (hb hby d4_14) rfl rfl ?_
        show Steps p.tables e below (T5.setTop (mkF m 15 #[.val (.ref x0)] [(.ref x0)])) _
        refine XS.dup X5.here hx rfl (hb hby d4_15) rfl rfl ?_
        exact Steps.refl _)
    obtain ⟨T11, X11, e11, sr11⟩ := getF X5 hx hZ hown (host := "") (Or.inl (hw _ (List.mem_of_getElem? (i := 21) rfl))) Via.refl e5 F_t (g := (mkF m 16 #[.val (.ref x0)] [(.ref x0), (.ref x0)])) rfl rfl (hb hby d4_16)
    have st12 : Steps p.tables e below (s₁.setTop (entryFrame m #[(.ref x0)] 1)) (T11.setTop (mkF m 19 #[.val (.ref x0)] [(.long (if mx < i then mx else i)), (.ref x0)])) := st10.trans (sr11 _ (Steps.refl _))
    have st13 : Steps p.tables e below (s₁.setTop (entryFrame m #[(.ref x0)] 1)) (T11.setTop (mkF m 21 #[.val (.ref x0)] [(.long ((if mx < i then mx else i) + (1 : Int64))), (.ref x0)])) := st12.trans (by
        show Steps p.tables e below (T11.setTop (mkF m 19 #[.val (.ref x0)] [(.long (if mx < i then mx else i)), (.ref x0)])) _
        refine XS.lconst X11.here hx rfl (hb hby d4_19) ?_
        show Steps p.tables e below (T11.setTop (mkF m 20 #[.val (.ref x0)] [(.long (1 : Int64)), (.long (if mx < i then mx else i)), (.ref x0)])) _
        refine XS.ladd X11.here hx rfl (hb hby d4_20) rfl ?_
        exact Steps.refl _)
    obtain ⟨T14, h14, X14, e14, W14, sr14⟩ := putF X11 hx hZ hown (host := "") (Or.inl (hw _ (List.mem_of_getElem? (i := 21) rfl))) Via.refl e11 F_t E_x (Or.inl (hw _ (List.mem_of_getElem? (i := 22) rfl))) (hw _ (List.mem_of_getElem? (i := 6) rfl)) (ty := .long) (by decide) rfl rfl (g := (mkF m 21 #[.val (.ref x0)] [(.long ((if mx < i then mx else i) + (1 : Int64))), (.ref x0)])) rfl rfl (hb hby d4_21)
    have f15 : Exa Z h14 x0 "com/example/treeline/treeline/common/StepLimit" := E_x.wr W14
    have f16 : Fld Z h14 x0 "com/example/treeline/treeline/common/StepLimit" "max" "J" (.long mx) := F_m.other W14 (Or.inr (slot_ne (Or.inr (hw _ (List.mem_of_getElem? (i := 15) rfl))) (Or.inl (hw _ (List.mem_of_getElem? (i := 22) rfl))) (by decide) (t := .long) (t' := .long) (by decide) (by decide)))
    have f17 : Fld Z h14 x0 "com/example/treeline/treeline/common/StepLimit" "taken" "J" (.long ((if mx < i then mx else i) + (1 : Int64))) := F_t.same W14
    have K18 : Keep h0 h14 [x0] := K0.wr W14 (Or.inl (List.mem_of_getElem? (i := 0) rfl))
    have Z14 : n0 ≤ h14.size := Nat.le_trans Z0 (Keep.of_wr W14).1
    have N14 := Fr.snoc X14 N0 g_x
    have st19 : Steps p.tables e below (s₁.setTop (entryFrame m #[(.ref x0)] 1)) (T14.setTop (mkF m 24 #[.val (.ref x0)] [])) := st13.trans (sr14 _ (Steps.refl _))
    have st20 : Steps p.tables e below (s₁.setTop (entryFrame m #[(.ref x0)] 1)) (T14.setTop (mkF m 25 #[.val (.ref x0)] [(.int (1 : Int32))])) := st19.trans (by
        show Steps p.tables e below (T14.setTop (mkF m 24 #[.val (.ref x0)] [])) _
        refine XS.iconst X14.here hx rfl (hb hby d4_24) ?_
        exact Steps.refl _)
    obtain ⟨fs, hr, hrun, hended, hW, hsame⟩ := X14.leave (v := some (.int (1 : Int32))) (fun h => by rw [Bd.returns] at h; cases h)
    refine ⟨_, _, st20.trans ?_, hrun, hended, _, _, rfl, ?_, ⟨_, rfl⟩, hW, hsame.mono (by decide) (by decide)⟩
    · exact retN X14 hx (t := .boolean) Bd.returns (by simp) (hb hby d4_25) hr
    · show Q4 Z x0 mx i i' h0 n0 _ T14.heap _
      rw [e14]
      exact ⟨by rw [if_neg ((own_tk mx i i' hm hii hi).2 hc8).1], N14, K18, f15, f16, (by rw [if_neg ((own_tk mx i i' hm hii hi).2 hc8).1]; rw [((own_tk mx i i' hm hii hi).2 hc8).2] at f17; exact f17)⟩
theorem pd_0 : parseMethodDescriptor "(JJ)J" = some ⟨[.long, .long], some .long⟩ := by decide +kernel
theorem pd_1 : parseMethodDescriptor "(J)V" = some ⟨[.long], none⟩ := by decide +kernel
theorem pd_2 : parseMethodDescriptor "()Z" = some ⟨[], some .boolean⟩ := by decide +kernel
theorem pn_1 : plainName "com/example/treeline/treeline/common/StepLimitTakePinLaw" = true := by first | (simp [plainName, overriddenIn]; done) | decide +kernel
theorem ef_0 (m : MethodId) (x0 : Int64) (x1 : Int32)  : entryFrame m #[(.long x0), (.int x1)] maxLocals = mkF m 0 #[.val (.long x0), .second, .val (.int x1), .unset, .unset, .unset, .unset, .unset, .unset, .unset, .unset, .unset] [] := by first | (simp [entryFrame, mkF, argsToLocals, Value.category, maxLocals]; done) | rfl
def Q0 (Z : State) (x0 : Int64) (x1 : Int32) (h0 : Heap) (n0 : Nat) (v : Option Value) (h : Heap) (L : List Loc) : Prop := v = some (.int (1 : Int32)) ∧ Fr n0 L
set_option maxRecDepth 65536 in
set_option maxHeartbeats 40000000 in
theorem rm0 (l : Launch) (Z : State) (a0 : Array Value) (hw : ∀ d ∈ tables_1, d.before a0 Z = true) (ws : List Jvm.Cond) (x0 : Int64) (x1 : Int32) (h0 : Heap) (n0 : Nat) (Z0 : n0 ≤ h0.size) :
    MetFree l x (head1 (Jvm.Cond.code x code maxLocals ret :: ws) room_1) (fun a U => a = #[(.long x0), (.int x1)] ∧ Z.Warmed39 U.vm ∧ U.heap = h0) (fun _ _ _ _ _ => True) (fun _ U o U' => ∃ v L, o = .returned v ∧ Q0 Z x0 x1 h0 n0 v U'.heap L ∧ FrameEnd U o U' L room_1.cells room_1.slots) := by
  refine MetFree.of_bodySF (plainFor_of_name pn_1) hisR ?_
  intro p e s m args below meth c s₁ Bd hml0 hP hK
  obtain ⟨rfl, hZ, hh⟩ := hP
  have hx := Bd.exec
  have hby := Bd.bytes
  have hml : c.maxLocals = 12 := hml0
  have hown : s.vm.findClass "com/example/treeline/treeline/common/StepLimitTakePinLaw" = some m.cls := findClass_of_methodNamed Bd.named
  have hnm := (name_of_methodNamed Bd.named Bd.method).1
  have X0 : Stand p l e room_1 s m #[(.long x0), (.int x1)] below meth c s₁ [] 0 0 := Stand.of_body Bd
  have e0 : s₁.heap = h0 := by rw [← hh, Bd.state]; rfl
  have N0 := Fr.nil n0
  have st0 : Steps p.tables e below (s₁.setTop (entryFrame m #[(.long x0), (.int x1)] maxLocals)) (s₁.setTop (mkF m 0 #[.val (.long x0), .second, .val (.int x1), .unset, .unset, .unset, .unset, .unset, .unset, .unset, .unset, .unset] [])) := castTop (ef_0 m x0 x1) (Steps.refl _)
  have st1 : Steps p.tables e below (s₁.setTop (entryFrame m #[(.long x0), (.int x1)] maxLocals)) (s₁.setTop (mkF m 3 #[.val (.long x0), .second, .val (.int x1), .unset, .unset, .unset, .unset, .unset, .unset, .unset, .unset, .unset] [(.int (x1 &&& (1 : Int32)))])) := st0.trans (by
      show Steps p.tables e below (s₁.setTop (mkF m 0 #[.val (.long x0), .second, .val (.int x1), .unset, .unset, .unset, .unset, .unset, .unset, .unset, .unset, .unset] [])) _
      refine XS.iloadN X0.here hx rfl (hb hby at_0) rfl ?_
      show Steps p.tables e below (s₁.setTop (mkF m 1 #[.val (.long x0), .second, .val (.int x1), .unset, .unset, .unset, .unset, .unset, .unset, .unset, .unset, .unset] [(.int x1)])) _
      refine XS.iconst X0.here hx rfl (hb hby at_1) ?_
      show Steps p.tables e below (s₁.setTop (mkF m 2 #[.val (.long x0), .second, .val (.int x1), .unset, .unset, .unset, .unset, .unset, .unset, .unset, .unset, .unset] [(.int (1 : Int32)), (.int x1)])) _
      refine XS.iand X0.here hx rfl (hb hby at_2) rfl ?_
      exact Steps.refl _)
  by_cases hc2 : (x1 &&& (1 : Int32)) = (0 : Int32)
  · have st3 : Steps p.tables e below (s₁.setTop (entryFrame m #[(.long x0), (.int x1)] maxLocals)) (s₁.setTop (mkF m 22 #[.val (.long x0), .second, .val (.int x1), .unset, .unset, .unset, .unset, .unset, .unset, .unset, .unset, .unset] [(.long (x0 &&& (9223372036854775807 : Int64))), (.long (1 : Int64))])) := st1.trans (by
        show Steps p.tables e below (s₁.setTop (mkF m 3 #[.val (.long x0), .second, .val (.int x1), .unset, .unset, .unset, .unset, .unset, .unset, .unset, .unset, .unset] [(.int (x1 &&& (1 : Int32)))])) _
        refine XS.ifYes X0.here hx rfl (pc0 := 3) (pc' := 16) rfl (hb hby at_3) rfl ((if0 _ _).trans (teq hc2).1) (by decide) (by decide) ?_
        show Steps p.tables e below (s₁.setTop (mkF m 16 #[.val (.long x0), .second, .val (.int x1), .unset, .unset, .unset, .unset, .unset, .unset, .unset, .unset, .unset] [])) _
        refine XS.lconst X0.here hx rfl (hb hby at_16) ?_
        show Steps p.tables e below (s₁.setTop (mkF m 17 #[.val (.long x0), .second, .val (.int x1), .unset, .unset, .unset, .unset, .unset, .unset, .unset, .unset, .unset] [(.long (1 : Int64))])) _
        refine XS.lloadN X0.here hx rfl (hb hby at_17) rfl ?_
        show Steps p.tables e below (s₁.setTop (mkF m 18 #[.val (.long x0), .second, .val (.int x1), .unset, .unset, .unset, .unset, .unset, .unset, .unset, .unset, .unset] [(.long x0), (.long (1 : Int64))])) _
        refine X0.ldc2Long hx hown (mvT hZ (hw _ (List.mem_of_getElem? (i := 0) rfl))) (g := (mkF m 18 #[.val (.long x0), .second, .val (.int x1), .unset, .unset, .unset, .unset, .unset, .unset, .unset, .unset, .unset] [(.long x0), (.long (1 : Int64))])) rfl (hb hby at_18) _ ?_
        show Steps p.tables e below (s₁.setTop (mkF m 21 #[.val (.long x0), .second, .val (.int x1), .unset, .unset, .unset, .unset, .unset, .unset, .unset, .unset, .unset] [(.long (9223372036854775807 : Int64)), (.long x0), (.long (1 : Int64))])) _
        refine XS.land X0.here hx rfl (hb hby at_21) rfl ?_
        exact Steps.refl _)
    obtain ⟨_, _, ⟨T4, L4, k4, n4⟩, -, X4, ⟨Lc4, hQ4, l4, y4, z4⟩, sr4⟩ := Jvm.LawKit.callS X0 hx (y := (⟨"java/lang/Math", "max", "(JJ)J"⟩ : MethodName)) hown (mvT hZ (hw _ (List.mem_of_getElem? (i := 1) rfl))) (mvT hZ (hw _ (List.mem_of_getElem? (i := 2) rfl))) (mvT hZ (hw _ (List.mem_of_getElem? (i := 3) rfl))) (mvT hZ (hw _ (List.mem_of_getElem? (i := 4) rfl))) (by decide) (backOf (W := 0) (rm1 l Z a0 hw [] (1 : Int64) (x0 &&& (9223372036854775807 : Int64))  h0 n0 Z0 ) hZ (hw _ (List.mem_of_getElem? (i := 4) rfl)) (hw _ (List.mem_of_getElem? (i := 3) rfl)) (by decide) (by decide)) (g := (mkF m 22 #[.val (.long x0), .second, .val (.int x1), .unset, .unset, .unset, .unset, .unset, .unset, .unset, .unset, .unset] [(.long (x0 &&& (9223372036854775807 : Int64))), (.long (1 : Int64))])) rfl (by rw [hml]; rfl) (argsL := [(.long (1 : Int64)), (.long (x0 &&& (9223372036854775807 : Int64)))]) (rest := []) (lenOf pd_0 rfl) rfl (by show 2 * 0 + _ ≤ _; exact Nat.le_of_eq rfl) (hb hby at_22) (fun _ _ => ⟨rfl, e0, (by decide : 0 + 0 ≤ _), (by decide : 0 + 0 ≤ _)⟩)
    dsimp only [Pt.U, Pt.locs, Pt.cells, Pt.slots] at X4 l4 y4 z4 sr4 hQ4
    subst l4 y4 z4
    obtain ⟨rfl, N4q, hh4⟩ := hQ4
    have N4 := Fr.app N0 N4q
    have st5 : Steps p.tables e below (s₁.setTop (entryFrame m #[(.long x0), (.int x1)] maxLocals)) (T4.setTop (mkF m 25 #[.val (.long x0), .second, .val (.int x1), .unset, .unset, .unset, .unset, .unset, .unset, .unset, .unset, .unset] [(.long (F1 (1 : Int64) (x0 &&& (9223372036854775807 : Int64))))])) := st3.trans (sr4 _ (Steps.refl _))
    have hm : ¬ (F1 (1 : Int64) (x0 &&& (9223372036854775807 : Int64))) < (1 : Int64) := own_max1 _
    obtain ⟨mx, hmx⟩ : ∃ z, z = (F1 (1 : Int64) (x0 &&& (9223372036854775807 : Int64))) := ⟨_, rfl⟩
    rw [← hmx] at st5 hm
    have st6 : Steps p.tables e below (s₁.setTop (entryFrame m #[(.long x0), (.int x1)] maxLocals)) (T4.setTop (mkF m 26 #[.val (.long x0), .second, .val (.int x1), .val (.long mx), .second, .unset, .unset, .unset, .unset, .unset, .unset, .unset] [])) := st5.trans (by
        show Steps p.tables e below (T4.setTop (mkF m 25 #[.val (.long x0), .second, .val (.int x1), .unset, .unset, .unset, .unset, .unset, .unset, .unset, .unset, .unset] [(.long mx)])) _
        refine XS.lstoreN X4.here hx rfl (hb hby at_25) rfl (l' := #[.val (.long x0), .second, .val (.int x1), .val (.long mx), .second, .unset, .unset, .unset, .unset, .unset, .unset, .unset]) rfl ?_
        exact Steps.refl _)
    obtain ⟨T7, h7, X7, e7, E7, A7, D7, -, sr7⟩ := newO X4 hx hZ hown (hw _ (List.mem_of_getElem? (i := 5) rfl)) (hw _ (List.mem_of_getElem? (i := 6) rfl)) (hw _ (List.mem_of_getElem? (i := 7) rfl)) hh4 (g := (mkF m 26 #[.val (.long x0), .second, .val (.int x1), .val (.long mx), .second, .unset, .unset, .unset, .unset, .unset, .unset, .unset] [])) rfl (hb hby at_26) (by decide) (by decide)
    obtain ⟨b7, g7⟩ : ∃ z, z = h0.size := ⟨_, rfl⟩
    rw [← g7] at A7 D7 sr7
    have g_b7 : n0 ≤ b7 := Nat.le_trans Z0 (Nat.le_of_eq g7.symm)
    have f8 : Fld Z h7 b7 "com/example/treeline/treeline/common/StepLimit" "max" "J" (.long (0 : Int64)) := D7 (Or.inr (hw _ (List.mem_of_getElem? (i := 15) rfl))) (ty := .long) (by decide)
    have f9 : Fld Z h7 b7 "com/example/treeline/treeline/common/StepLimit" "taken" "J" (.long (0 : Int64)) := D7 (Or.inl (hw _ (List.mem_of_getElem? (i := 22) rfl))) (ty := .long) (by decide)
    have Z7 : n0 ≤ h7.size := Nat.le_trans Z0 E7.1
    have st10 : Steps p.tables e below (s₁.setTop (entryFrame m #[(.long x0), (.int x1)] maxLocals)) (T7.setTop (mkF m 29 #[.val (.long x0), .second, .val (.int x1), .val (.long mx), .second, .unset, .unset, .unset, .unset, .unset, .unset, .unset] [(.ref b7)])) := st6.trans (sr7 _ (Steps.refl _))
    have st11 : Steps p.tables e below (s₁.setTop (entryFrame m #[(.long x0), (.int x1)] maxLocals)) (T7.setTop (mkF m 31 #[.val (.long x0), .second, .val (.int x1), .val (.long mx), .second, .unset, .unset, .unset, .unset, .unset, .unset, .unset] [(.long mx), (.ref b7), (.ref b7)])) := st10.trans (by
        show Steps p.tables e below (T7.setTop (mkF m 29 #[.val (.long x0), .second, .val (.int x1), .val (.long mx), .second, .unset, .unset, .unset, .unset, .unset, .unset, .unset] [(.ref b7)])) _
        refine XS.dup X7.here hx rfl (hb hby at_29) rfl rfl ?_
        show Steps p.tables e below (T7.setTop (mkF m 30 #[.val (.long x0), .second, .val (.int x1), .val (.long mx), .second, .unset, .unset, .unset, .unset, .unset, .unset, .unset] [(.ref b7), (.ref b7)])) _
        refine XS.lloadN X7.here hx rfl (hb hby at_30) rfl ?_
        exact Steps.refl _)
    obtain ⟨_, _, ⟨T12, L12, k12, n12⟩, -, X12, ⟨Lc12, hQ12, l12, y12, z12⟩, sr12⟩ := X7.specialBack hx (y := (⟨"com/example/treeline/treeline/common/StepLimit", "<init>", "(J)V"⟩ : MethodName)) rfl hown (mvT hZ (hw _ (List.mem_of_getElem? (i := 8) rfl))) (mvT hZ (hw _ (List.mem_of_getElem? (i := 9) rfl))) (mvT hZ (hw _ (List.mem_of_getElem? (i := 10) rfl))) (by decide) (backOf (W := 1) (rm2 l Z a0 hw [] b7 mx  h7 n0 Z7 A7 f8 f9 g_b7 hm) hZ (hw _ (List.mem_of_getElem? (i := 10) rfl)) (hw _ (List.mem_of_getElem? (i := 7) rfl)) (by decide) (by decide)) (g := (mkF m 31 #[.val (.long x0), .second, .val (.int x1), .val (.long mx), .second, .unset, .unset, .unset, .unset, .unset, .unset, .unset] [(.long mx), (.ref b7), (.ref b7)])) rfl (by rw [hml]; rfl) (Steps.refl _) (a := b7) (argsL := [(.long mx)]) (rest := [(.ref b7)]) (lenOf pd_1 rfl) rfl (by show 2 * 0 + _ ≤ _; exact Nat.le_of_eq rfl) (hb hby at_31) (fun _ _ => ⟨rfl, e7, (by decide : 1 + 0 ≤ _), (by decide : 2 + 0 ≤ _)⟩)
    dsimp only [Pt.U, Pt.locs, Pt.cells, Pt.slots] at X12 l12 y12 z12 sr12 hQ12
    subst l12 y12 z12
    obtain ⟨rfl, N12q, K12c, f12_0, f12_1, f12_2⟩ := hQ12
    have N12 := Fr.app N4 N12q
    have f13 : Exa Z T12.heap b7 "com/example/treeline/treeline/common/StepLimit" := A7.keep K12c
    have Z14 : n0 ≤ T12.heap.size := Nat.le_trans Z7 K12c.1
    have st15 : Steps p.tables e below (s₁.setTop (entryFrame m #[(.long x0), (.int x1)] maxLocals)) (T12.setTop (mkF m 34 #[.val (.long x0), .second, .val (.int x1), .val (.long mx), .second, .unset, .unset, .unset, .unset, .unset, .unset, .unset] [(.ref b7)])) := st11.trans (sr12)
    have st16 : Steps p.tables e below (s₁.setTop (entryFrame m #[(.long x0), (.int x1)] maxLocals)) (T12.setTop (mkF m 38 #[.val (.long x0), .second, .val (.int x1), .val (.long mx), .second, .val (.ref b7), .unset, .unset, .unset, .unset, .unset, .unset] [(.ref b7)])) := st15.trans (by
        show Steps p.tables e below (T12.setTop (mkF m 34 #[.val (.long x0), .second, .val (.int x1), .val (.long mx), .second, .unset, .unset, .unset, .unset, .unset, .unset, .unset] [(.ref b7)])) _
        refine XS.astore X12.here hx rfl (hb hby at_34) rfl rfl (l' := #[.val (.long x0), .second, .val (.int x1), .val (.long mx), .second, .val (.ref b7), .unset, .unset, .unset, .unset, .unset, .unset]) rfl ?_
        show Steps p.tables e below (T12.setTop (mkF m 36 #[.val (.long x0), .second, .val (.int x1), .val (.long mx), .second, .val (.ref b7), .unset, .unset, .unset, .unset, .unset, .unset] [])) _
        refine XS.aload X12.here hx rfl (hb hby at_36) rfl rfl ?_
        exact Steps.refl _)
    have ft0 : Fld Z T12.heap b7 "com/example/treeline/treeline/common/StepLimit" "taken" "J" (.long (if mx < (0 : Int64) then mx else (0 : Int64))) := by rw [if_neg (show ¬ mx < (0 : Int64) from fun q => by have k1 : (1 : Int64).toInt = 1 := (by decide); have k0 : (0 : Int64).toInt = 0 := (by decide); rw [Int64.lt_iff_toInt_lt] at *; omega)]; exact f12_2
    obtain ⟨cq17, kq17, q17a, q17b, q17c⟩ := isOf hZ rfl f12_0
    obtain ⟨_, _, ⟨T17, L17, k17, n17⟩, -, X17, ⟨Lc17, hQ17, l17, y17, z17⟩, sr17⟩ := X12.virtualBack hx (y := (⟨"com/example/treeline/treeline/common/StepLimit", "take", "()Z"⟩ : MethodName)) (z := (⟨"com/example/treeline/treeline/common/StepLimit", "take", "()Z"⟩ : MethodName)) hown (mvT hZ (hw _ (List.mem_of_getElem? (i := 16) rfl))) (mvT hZ (hw _ (List.mem_of_getElem? (i := 17) rfl))) (notFace_of_selects (args := #[]) (mvT hZ (hw _ (List.mem_of_getElem? (i := 19) rfl)))) (mvT hZ (hw _ (List.mem_of_getElem? (i := 19) rfl))) (mvT hZ (hw _ (List.mem_of_getElem? (i := 18) rfl))) (by decide) (backOf (W := 0) (rm4 l Z a0 hw [] b7 mx (0 : Int64) (1 : Int64) T12.heap n0 Z14 f12_0 f12_1 ft0 g_b7 hm (by decide) (by decide)) hZ (hw _ (List.mem_of_getElem? (i := 20) rfl)) (hw _ (List.mem_of_getElem? (i := 7) rfl)) (by decide) (by decide)) q17a q17c (g := (mkF m 38 #[.val (.long x0), .second, .val (.int x1), .val (.long mx), .second, .val (.ref b7), .unset, .unset, .unset, .unset, .unset, .unset] [(.ref b7)])) rfl (by rw [hml]; rfl) (Steps.refl _) (argsL := []) (rest := []) (lenOf pd_2 rfl) rfl (by show 2 * 0 + _ ≤ _; exact Nat.le_of_eq rfl) (hb hby at_38) (fun _ _ => ⟨rfl, rfl, (by decide : 1 + 0 ≤ _), (by decide : 2 + 0 ≤ _)⟩)
    dsimp only [Pt.U, Pt.locs, Pt.cells, Pt.slots] at X17 l17 y17 z17 sr17 hQ17
    subst l17 y17 z17
    obtain ⟨rfl, N17q, K17c, f17_0, f17_1, f17_2⟩ := hQ17
    have N17 := Fr.app N12 N17q
    have f18 : Exa Z T17.heap b7 "com/example/treeline/treeline/common/StepLimit" := f12_0.keep K17c
    have Z19 : n0 ≤ T17.heap.size := Nat.le_trans Z14 K17c.1
    have st20 : Steps p.tables e below (s₁.setTop (entryFrame m #[(.long x0), (.int x1)] maxLocals)) (T17.setTop (mkF m 41 #[.val (.long x0), .second, .val (.int x1), .val (.long mx), .second, .val (.ref b7), .unset, .unset, .unset, .unset, .unset, .unset] [(.int (if mx < (1 : Int64) then (0 : Int32) else (1 : Int32)))])) := st16.trans (sr17)
    have st21 : Steps p.tables e below (s₁.setTop (entryFrame m #[(.long x0), (.int x1)] maxLocals)) (T17.setTop (mkF m 45 #[.val (.long x0), .second, .val (.int x1), .val (.long mx), .second, .val (.ref b7), .val (.int (if mx < (1 : Int64) then (0 : Int32) else (1 : Int32))), .unset, .unset, .unset, .unset, .unset] [(.ref b7)])) := st20.trans (by
        show Steps p.tables e below (T17.setTop (mkF m 41 #[.val (.long x0), .second, .val (.int x1), .val (.long mx), .second, .val (.ref b7), .unset, .unset, .unset, .unset, .unset, .unset] [(.int (if mx < (1 : Int64) then (0 : Int32) else (1 : Int32)))])) _
        refine XS.istore X17.here hx rfl (hb hby at_41) rfl (l' := #[.val (.long x0), .second, .val (.int x1), .val (.long mx), .second, .val (.ref b7), .val (.int (if mx < (1 : Int64) then (0 : Int32) else (1 : Int32))), .unset, .unset, .unset, .unset, .unset]) rfl ?_
        show Steps p.tables e below (T17.setTop (mkF m 43 #[.val (.long x0), .second, .val (.int x1), .val (.long mx), .second, .val (.ref b7), .val (.int (if mx < (1 : Int64) then (0 : Int32) else (1 : Int32))), .unset, .unset, .unset, .unset, .unset] [])) _
        refine XS.aload X17.here hx rfl (hb hby at_43) rfl rfl ?_
        exact Steps.refl _)
    obtain ⟨cq22, kq22, q22a, q22b, q22c⟩ := isOf hZ rfl f17_0
    obtain ⟨_, _, ⟨T22, L22, k22, n22⟩, -, X22, ⟨Lc22, hQ22, l22, y22, z22⟩, sr22⟩ := X17.virtualBack hx (y := (⟨"com/example/treeline/treeline/common/StepLimit", "take", "()Z"⟩ : MethodName)) (z := (⟨"com/example/treeline/treeline/common/StepLimit", "take", "()Z"⟩ : MethodName)) hown (mvT hZ (hw _ (List.mem_of_getElem? (i := 16) rfl))) (mvT hZ (hw _ (List.mem_of_getElem? (i := 17) rfl))) (notFace_of_selects (args := #[]) (mvT hZ (hw _ (List.mem_of_getElem? (i := 19) rfl)))) (mvT hZ (hw _ (List.mem_of_getElem? (i := 19) rfl))) (mvT hZ (hw _ (List.mem_of_getElem? (i := 18) rfl))) (by decide) (backOf (W := 0) (rm4 l Z a0 hw [] b7 mx (1 : Int64) (2 : Int64) T17.heap n0 Z19 f17_0 f17_1 f17_2 g_b7 hm (by decide) (by decide)) hZ (hw _ (List.mem_of_getElem? (i := 20) rfl)) (hw _ (List.mem_of_getElem? (i := 7) rfl)) (by decide) (by decide)) q22a q22c (g := (mkF m 45 #[.val (.long x0), .second, .val (.int x1), .val (.long mx), .second, .val (.ref b7), .val (.int (if mx < (1 : Int64) then (0 : Int32) else (1 : Int32))), .unset, .unset, .unset, .unset, .unset] [(.ref b7)])) rfl (by rw [hml]; rfl) (Steps.refl _) (argsL := []) (rest := []) (lenOf pd_2 rfl) rfl (by show 2 * 0 + _ ≤ _; exact Nat.le_of_eq rfl) (hb hby at_45) (fun _ _ => ⟨rfl, rfl, (by decide : 1 + 0 ≤ _), (by decide : 2 + 0 ≤ _)⟩)
    dsimp only [Pt.U, Pt.locs, Pt.cells, Pt.slots] at X22 l22 y22 z22 sr22 hQ22
    subst l22 y22 z22
    obtain ⟨rfl, N22q, K22c, f22_0, f22_1, f22_2⟩ := hQ22
    have N22 := Fr.app N17 N22q
    have f23 : Exa Z T22.heap b7 "com/example/treeline/treeline/common/StepLimit" := f17_0.keep K22c
    have Z24 : n0 ≤ T22.heap.size := Nat.le_trans Z19 K22c.1
    have st25 : Steps p.tables e below (s₁.setTop (entryFrame m #[(.long x0), (.int x1)] maxLocals)) (T22.setTop (mkF m 48 #[.val (.long x0), .second, .val (.int x1), .val (.long mx), .second, .val (.ref b7), .val (.int (if mx < (1 : Int64) then (0 : Int32) else (1 : Int32))), .unset, .unset, .unset, .unset, .unset] [(.int (if mx < (2 : Int64) then (0 : Int32) else (1 : Int32)))])) := st21.trans (sr22)
    have st26 : Steps p.tables e below (s₁.setTop (entryFrame m #[(.long x0), (.int x1)] maxLocals)) (T22.setTop (mkF m 52 #[.val (.long x0), .second, .val (.int x1), .val (.long mx), .second, .val (.ref b7), .val (.int (if mx < (1 : Int64) then (0 : Int32) else (1 : Int32))), .val (.int (if mx < (2 : Int64) then (0 : Int32) else (1 : Int32))), .unset, .unset, .unset, .unset] [(.ref b7)])) := st25.trans (by
        show Steps p.tables e below (T22.setTop (mkF m 48 #[.val (.long x0), .second, .val (.int x1), .val (.long mx), .second, .val (.ref b7), .val (.int (if mx < (1 : Int64) then (0 : Int32) else (1 : Int32))), .unset, .unset, .unset, .unset, .unset] [(.int (if mx < (2 : Int64) then (0 : Int32) else (1 : Int32)))])) _
        refine XS.istore X22.here hx rfl (hb hby at_48) rfl (l' := #[.val (.long x0), .second, .val (.int x1), .val (.long mx), .second, .val (.ref b7), .val (.int (if mx < (1 : Int64) then (0 : Int32) else (1 : Int32))), .val (.int (if mx < (2 : Int64) then (0 : Int32) else (1 : Int32))), .unset, .unset, .unset, .unset]) rfl ?_
        show Steps p.tables e below (T22.setTop (mkF m 50 #[.val (.long x0), .second, .val (.int x1), .val (.long mx), .second, .val (.ref b7), .val (.int (if mx < (1 : Int64) then (0 : Int32) else (1 : Int32))), .val (.int (if mx < (2 : Int64) then (0 : Int32) else (1 : Int32))), .unset, .unset, .unset, .unset] [])) _
        refine XS.aload X22.here hx rfl (hb hby at_50) rfl rfl ?_
        exact Steps.refl _)
    obtain ⟨cq27, kq27, q27a, q27b, q27c⟩ := isOf hZ rfl f22_0
    obtain ⟨_, _, ⟨T27, L27, k27, n27⟩, -, X27, ⟨Lc27, hQ27, l27, y27, z27⟩, sr27⟩ := X22.virtualBack hx (y := (⟨"com/example/treeline/treeline/common/StepLimit", "take", "()Z"⟩ : MethodName)) (z := (⟨"com/example/treeline/treeline/common/StepLimit", "take", "()Z"⟩ : MethodName)) hown (mvT hZ (hw _ (List.mem_of_getElem? (i := 16) rfl))) (mvT hZ (hw _ (List.mem_of_getElem? (i := 17) rfl))) (notFace_of_selects (args := #[]) (mvT hZ (hw _ (List.mem_of_getElem? (i := 19) rfl)))) (mvT hZ (hw _ (List.mem_of_getElem? (i := 19) rfl))) (mvT hZ (hw _ (List.mem_of_getElem? (i := 18) rfl))) (by decide) (backOf (W := 0) (rm4 l Z a0 hw [] b7 mx (2 : Int64) (3 : Int64) T22.heap n0 Z24 f22_0 f22_1 f22_2 g_b7 hm (by decide) (by decide)) hZ (hw _ (List.mem_of_getElem? (i := 20) rfl)) (hw _ (List.mem_of_getElem? (i := 7) rfl)) (by decide) (by decide)) q27a q27c (g := (mkF m 52 #[.val (.long x0), .second, .val (.int x1), .val (.long mx), .second, .val (.ref b7), .val (.int (if mx < (1 : Int64) then (0 : Int32) else (1 : Int32))), .val (.int (if mx < (2 : Int64) then (0 : Int32) else (1 : Int32))), .unset, .unset, .unset, .unset] [(.ref b7)])) rfl (by rw [hml]; rfl) (Steps.refl _) (argsL := []) (rest := []) (lenOf pd_2 rfl) rfl (by show 2 * 0 + _ ≤ _; exact Nat.le_of_eq rfl) (hb hby at_52) (fun _ _ => ⟨rfl, rfl, (by decide : 1 + 0 ≤ _), (by decide : 2 + 0 ≤ _)⟩)
    dsimp only [Pt.U, Pt.locs, Pt.cells, Pt.slots] at X27 l27 y27 z27 sr27 hQ27
    subst l27 y27 z27
    obtain ⟨rfl, N27q, K27c, f27_0, f27_1, f27_2⟩ := hQ27
    have N27 := Fr.app N22 N27q
    have f28 : Exa Z T27.heap b7 "com/example/treeline/treeline/common/StepLimit" := f22_0.keep K27c
    have Z29 : n0 ≤ T27.heap.size := Nat.le_trans Z24 K27c.1
    have st30 : Steps p.tables e below (s₁.setTop (entryFrame m #[(.long x0), (.int x1)] maxLocals)) (T27.setTop (mkF m 55 #[.val (.long x0), .second, .val (.int x1), .val (.long mx), .second, .val (.ref b7), .val (.int (if mx < (1 : Int64) then (0 : Int32) else (1 : Int32))), .val (.int (if mx < (2 : Int64) then (0 : Int32) else (1 : Int32))), .unset, .unset, .unset, .unset] [(.int (if mx < (3 : Int64) then (0 : Int32) else (1 : Int32)))])) := st26.trans (sr27)
    have st31 : Steps p.tables e below (s₁.setTop (entryFrame m #[(.long x0), (.int x1)] maxLocals)) (T27.setTop (mkF m 59 #[.val (.long x0), .second, .val (.int x1), .val (.long mx), .second, .val (.ref b7), .val (.int (if mx < (1 : Int64) then (0 : Int32) else (1 : Int32))), .val (.int (if mx < (2 : Int64) then (0 : Int32) else (1 : Int32))), .val (.int (if mx < (3 : Int64) then (0 : Int32) else (1 : Int32))), .unset, .unset, .unset] [(.ref b7)])) := st30.trans (by
        show Steps p.tables e below (T27.setTop (mkF m 55 #[.val (.long x0), .second, .val (.int x1), .val (.long mx), .second, .val (.ref b7), .val (.int (if mx < (1 : Int64) then (0 : Int32) else (1 : Int32))), .val (.int (if mx < (2 : Int64) then (0 : Int32) else (1 : Int32))), .unset, .unset, .unset, .unset] [(.int (if mx < (3 : Int64) then (0 : Int32) else (1 : Int32)))])) _
        refine XS.istore X27.here hx rfl (hb hby at_55) rfl (l' := #[.val (.long x0), .second, .val (.int x1), .val (.long mx), .second, .val (.ref b7), .val (.int (if mx < (1 : Int64) then (0 : Int32) else (1 : Int32))), .val (.int (if mx < (2 : Int64) then (0 : Int32) else (1 : Int32))), .val (.int (if mx < (3 : Int64) then (0 : Int32) else (1 : Int32))), .unset, .unset, .unset]) rfl ?_
        show Steps p.tables e below (T27.setTop (mkF m 57 #[.val (.long x0), .second, .val (.int x1), .val (.long mx), .second, .val (.ref b7), .val (.int (if mx < (1 : Int64) then (0 : Int32) else (1 : Int32))), .val (.int (if mx < (2 : Int64) then (0 : Int32) else (1 : Int32))), .val (.int (if mx < (3 : Int64) then (0 : Int32) else (1 : Int32))), .unset, .unset, .unset] [])) _
        refine XS.aload X27.here hx rfl (hb hby at_57) rfl rfl ?_
        exact Steps.refl _)
    obtain ⟨cq32, kq32, q32a, q32b, q32c⟩ := isOf hZ rfl f27_0
    obtain ⟨_, _, ⟨T32, L32, k32, n32⟩, -, X32, ⟨Lc32, hQ32, l32, y32, z32⟩, sr32⟩ := X27.virtualBack hx (y := (⟨"com/example/treeline/treeline/common/StepLimit", "take", "()Z"⟩ : MethodName)) (z := (⟨"com/example/treeline/treeline/common/StepLimit", "take", "()Z"⟩ : MethodName)) hown (mvT hZ (hw _ (List.mem_of_getElem? (i := 16) rfl))) (mvT hZ (hw _ (List.mem_of_getElem? (i := 17) rfl))) (notFace_of_selects (args := #[]) (mvT hZ (hw _ (List.mem_of_getElem? (i := 19) rfl)))) (mvT hZ (hw _ (List.mem_of_getElem? (i := 19) rfl))) (mvT hZ (hw _ (List.mem_of_getElem? (i := 18) rfl))) (by decide) (backOf (W := 0) (rm4 l Z a0 hw [] b7 mx (3 : Int64) (4 : Int64) T27.heap n0 Z29 f27_0 f27_1 f27_2 g_b7 hm (by decide) (by decide)) hZ (hw _ (List.mem_of_getElem? (i := 20) rfl)) (hw _ (List.mem_of_getElem? (i := 7) rfl)) (by decide) (by decide)) q32a q32c (g := (mkF m 59 #[.val (.long x0), .second, .val (.int x1), .val (.long mx), .second, .val (.ref b7), .val (.int (if mx < (1 : Int64) then (0 : Int32) else (1 : Int32))), .val (.int (if mx < (2 : Int64) then (0 : Int32) else (1 : Int32))), .val (.int (if mx < (3 : Int64) then (0 : Int32) else (1 : Int32))), .unset, .unset, .unset] [(.ref b7)])) rfl (by rw [hml]; rfl) (Steps.refl _) (argsL := []) (rest := []) (lenOf pd_2 rfl) rfl (by show 2 * 0 + _ ≤ _; exact Nat.le_of_eq rfl) (hb hby at_59) (fun _ _ => ⟨rfl, rfl, (by decide : 1 + 0 ≤ _), (by decide : 2 + 0 ≤ _)⟩)
    dsimp only [Pt.U, Pt.locs, Pt.cells, Pt.slots] at X32 l32 y32 z32 sr32 hQ32
    subst l32 y32 z32
    obtain ⟨rfl, N32q, K32c, f32_0, f32_1, f32_2⟩ := hQ32
    have N32 := Fr.app N27 N32q
    have f33 : Exa Z T32.heap b7 "com/example/treeline/treeline/common/StepLimit" := f27_0.keep K32c
    have Z34 : n0 ≤ T32.heap.size := Nat.le_trans Z29 K32c.1
    have st35 : Steps p.tables e below (s₁.setTop (entryFrame m #[(.long x0), (.int x1)] maxLocals)) (T32.setTop (mkF m 62 #[.val (.long x0), .second, .val (.int x1), .val (.long mx), .second, .val (.ref b7), .val (.int (if mx < (1 : Int64) then (0 : Int32) else (1 : Int32))), .val (.int (if mx < (2 : Int64) then (0 : Int32) else (1 : Int32))), .val (.int (if mx < (3 : Int64) then (0 : Int32) else (1 : Int32))), .unset, .unset, .unset] [(.int (if mx < (4 : Int64) then (0 : Int32) else (1 : Int32)))])) := st31.trans (sr32)
    have st36 : Steps p.tables e below (s₁.setTop (entryFrame m #[(.long x0), (.int x1)] maxLocals)) (T32.setTop (mkF m 66 #[.val (.long x0), .second, .val (.int x1), .val (.long mx), .second, .val (.ref b7), .val (.int (if mx < (1 : Int64) then (0 : Int32) else (1 : Int32))), .val (.int (if mx < (2 : Int64) then (0 : Int32) else (1 : Int32))), .val (.int (if mx < (3 : Int64) then (0 : Int32) else (1 : Int32))), .val (.int (if mx < (4 : Int64) then (0 : Int32) else (1 : Int32))), .unset, .unset] [(.ref b7)])) := st35.trans (by
        show Steps p.tables e below (T32.setTop (mkF m 62 #[.val (.long x0), .second, .val (.int x1), .val (.long mx), .second, .val (.ref b7), .val (.int (if mx < (1 : Int64) then (0 : Int32) else (1 : Int32))), .val (.int (if mx < (2 : Int64) then (0 : Int32) else (1 : Int32))), .val (.int (if mx < (3 : Int64) then (0 : Int32) else (1 : Int32))), .unset, .unset, .unset] [(.int (if mx < (4 : Int64) then (0 : Int32) else (1 : Int32)))])) _
        refine XS.istore X32.here hx rfl (hb hby at_62) rfl (l' := #[.val (.long x0), .second, .val (.int x1), .val (.long mx), .second, .val (.ref b7), .val (.int (if mx < (1 : Int64) then (0 : Int32) else (1 : Int32))), .val (.int (if mx < (2 : Int64) then (0 : Int32) else (1 : Int32))), .val (.int (if mx < (3 : Int64) then (0 : Int32) else (1 : Int32))), .val (.int (if mx < (4 : Int64) then (0 : Int32) else (1 : Int32))), .unset, .unset]) rfl ?_
        show Steps p.tables e below (T32.setTop (mkF m 64 #[.val (.long x0), .second, .val (.int x1), .val (.long mx), .second, .val (.ref b7), .val (.int (if mx < (1 : Int64) then (0 : Int32) else (1 : Int32))), .val (.int (if mx < (2 : Int64) then (0 : Int32) else (1 : Int32))), .val (.int (if mx < (3 : Int64) then (0 : Int32) else (1 : Int32))), .val (.int (if mx < (4 : Int64) then (0 : Int32) else (1 : Int32))), .unset, .unset] [])) _
        refine XS.aload X32.here hx rfl (hb hby at_64) rfl rfl ?_
        exact Steps.refl _)
    obtain ⟨cq37, kq37, q37a, q37b, q37c⟩ := isOf hZ rfl f32_0
    obtain ⟨_, _, ⟨T37, L37, k37, n37⟩, -, X37, ⟨Lc37, hQ37, l37, y37, z37⟩, sr37⟩ := X32.virtualBack hx (y := (⟨"com/example/treeline/treeline/common/StepLimit", "take", "()Z"⟩ : MethodName)) (z := (⟨"com/example/treeline/treeline/common/StepLimit", "take", "()Z"⟩ : MethodName)) hown (mvT hZ (hw _ (List.mem_of_getElem? (i := 16) rfl))) (mvT hZ (hw _ (List.mem_of_getElem? (i := 17) rfl))) (notFace_of_selects (args := #[]) (mvT hZ (hw _ (List.mem_of_getElem? (i := 19) rfl)))) (mvT hZ (hw _ (List.mem_of_getElem? (i := 19) rfl))) (mvT hZ (hw _ (List.mem_of_getElem? (i := 18) rfl))) (by decide) (backOf (W := 0) (rm4 l Z a0 hw [] b7 mx (4 : Int64) (5 : Int64) T32.heap n0 Z34 f32_0 f32_1 f32_2 g_b7 hm (by decide) (by decide)) hZ (hw _ (List.mem_of_getElem? (i := 20) rfl)) (hw _ (List.mem_of_getElem? (i := 7) rfl)) (by decide) (by decide)) q37a q37c (g := (mkF m 66 #[.val (.long x0), .second, .val (.int x1), .val (.long mx), .second, .val (.ref b7), .val (.int (if mx < (1 : Int64) then (0 : Int32) else (1 : Int32))), .val (.int (if mx < (2 : Int64) then (0 : Int32) else (1 : Int32))), .val (.int (if mx < (3 : Int64) then (0 : Int32) else (1 : Int32))), .val (.int (if mx < (4 : Int64) then (0 : Int32) else (1 : Int32))), .unset, .unset] [(.ref b7)])) rfl (by rw [hml]; rfl) (Steps.refl _) (argsL := []) (rest := []) (lenOf pd_2 rfl) rfl (by show 2 * 0 + _ ≤ _; exact Nat.le_of_eq rfl) (hb hby at_66) (fun _ _ => ⟨rfl, rfl, (by decide : 1 + 0 ≤ _), (by decide : 2 + 0 ≤ _)⟩)
    dsimp only [Pt.U, Pt.locs, Pt.cells, Pt.slots] at X37 l37 y37 z37 sr37 hQ37
    subst l37 y37 z37
    obtain ⟨rfl, N37q, K37c, f37_0, f37_1, f37_2⟩ := hQ37
    have N37 := Fr.app N32 N37q
    have f38 : Exa Z T37.heap b7 "com/example/treeline/treeline/common/StepLimit" := f32_0.keep K37c
    have Z39 : n0 ≤ T37.heap.size := Nat.le_trans Z34 K37c.1
    have st40 : Steps p.tables e below (s₁.setTop (entryFrame m #[(.long x0), (.int x1)] maxLocals)) (T37.setTop (mkF m 69 #[.val (.long x0), .second, .val (.int x1), .val (.long mx), .second, .val (.ref b7), .val (.int (if mx < (1 : Int64) then (0 : Int32) else (1 : Int32))), .val (.int (if mx < (2 : Int64) then (0 : Int32) else (1 : Int32))), .val (.int (if mx < (3 : Int64) then (0 : Int32) else (1 : Int32))), .val (.int (if mx < (4 : Int64) then (0 : Int32) else (1 : Int32))), .unset, .unset] [(.int (if mx < (5 : Int64) then (0 : Int32) else (1 : Int32)))])) := st36.trans (sr37)
    have st41 : Steps p.tables e below (s₁.setTop (entryFrame m #[(.long x0), (.int x1)] maxLocals)) (T37.setTop (mkF m 73 #[.val (.long x0), .second, .val (.int x1), .val (.long mx), .second, .val (.ref b7), .val (.int (if mx < (1 : Int64) then (0 : Int32) else (1 : Int32))), .val (.int (if mx < (2 : Int64) then (0 : Int32) else (1 : Int32))), .val (.int (if mx < (3 : Int64) then (0 : Int32) else (1 : Int32))), .val (.int (if mx < (4 : Int64) then (0 : Int32) else (1 : Int32))), .val (.int (if mx < (5 : Int64) then (0 : Int32) else (1 : Int32))), .unset] [(.ref b7)])) := st40.trans (by
        show Steps p.tables e below (T37.setTop (mkF m 69 #[.val (.long x0), .second, .val (.int x1), .val (.long mx), .second, .val (.ref b7), .val (.int (if mx < (1 : Int64) then (0 : Int32) else (1 : Int32))), .val (.int (if mx < (2 : Int64) then (0 : Int32) else (1 : Int32))), .val (.int (if mx < (3 : Int64) then (0 : Int32) else (1 : Int32))), .val (.int (if mx < (4 : Int64) then (0 : Int32) else (1 : Int32))), .unset, .unset] [(.int (if mx < (5 : Int64) then (0 : Int32) else (1 : Int32)))])) _
        refine XS.istore X37.here hx rfl (hb hby at_69) rfl (l' := #[.val (.long x0), .second, .val (.int x1), .val (.long mx), .second, .val (.ref b7), .val (.int (if mx < (1 : Int64) then (0 : Int32) else (1 : Int32))), .val (.int (if mx < (2 : Int64) then (0 : Int32) else (1 : Int32))), .val (.int (if mx < (3 : Int64) then (0 : Int32) else (1 : Int32))), .val (.int (if mx < (4 : Int64) then (0 : Int32) else (1 : Int32))), .val (.int (if mx < (5 : Int64) then (0 : Int32) else (1 : Int32))), .unset]) rfl ?_
        show Steps p.tables e below (T37.setTop (mkF m 71 #[.val (.long x0), .second, .val (.int x1), .val (.long mx), .second, .val (.ref b7), .val (.int (if mx < (1 : Int64) then (0 : Int32) else (1 : Int32))), .val (.int (if mx < (2 : Int64) then (0 : Int32) else (1 : Int32))), .val (.int (if mx < (3 : Int64) then (0 : Int32) else (1 : Int32))), .val (.int (if mx < (4 : Int64) then (0 : Int32) else (1 : Int32))), .val (.int (if mx < (5 : Int64) then (0 : Int32) else (1 : Int32))), .unset] [])) _
        refine XS.aload X37.here hx rfl (hb hby at_71) rfl rfl ?_
        exact Steps.refl _)
    obtain ⟨cq42, kq42, q42a, q42b, q42c⟩ := isOf hZ rfl f37_0
    obtain ⟨_, _, ⟨T42, L42, k42, n42⟩, -, X42, ⟨Lc42, hQ42, l42, y42, z42⟩, sr42⟩ := X37.virtualBack hx (y := (⟨"com/example/treeline/treeline/common/StepLimit", "take", "()Z"⟩ : MethodName)) (z := (⟨"com/example/treeline/treeline/common/StepLimit", "take", "()Z"⟩ : MethodName)) hown (mvT hZ (hw _ (List.mem_of_getElem? (i := 16) rfl))) (mvT hZ (hw _ (List.mem_of_getElem? (i := 17) rfl))) (notFace_of_selects (args := #[]) (mvT hZ (hw _ (List.mem_of_getElem? (i := 19) rfl)))) (mvT hZ (hw _ (List.mem_of_getElem? (i := 19) rfl))) (mvT hZ (hw _ (List.mem_of_getElem? (i := 18) rfl))) (by decide) (backOf (W := 0) (rm4 l Z a0 hw [] b7 mx (5 : Int64) (6 : Int64) T37.heap n0 Z39 f37_0 f37_1 f37_2 g_b7 hm (by decide) (by decide)) hZ (hw _ (List.mem_of_getElem? (i := 20) rfl)) (hw _ (List.mem_of_getElem? (i := 7) rfl)) (by decide) (by decide)) q42a q42c (g := (mkF m 73 #[.val (.long x0), .second, .val (.int x1), .val (.long mx), .second, .val (.ref b7), .val (.int (if mx < (1 : Int64) then (0 : Int32) else (1 : Int32))), .val (.int (if mx < (2 : Int64) then (0 : Int32) else (1 : Int32))), .val (.int (if mx < (3 : Int64) then (0 : Int32) else (1 : Int32))), .val (.int (if mx < (4 : Int64) then (0 : Int32) else (1 : Int32))), .val (.int (if mx < (5 : Int64) then (0 : Int32) else (1 : Int32))), .unset] [(.ref b7)])) rfl (by rw [hml]; rfl) (Steps.refl _) (argsL := []) (rest := []) (lenOf pd_2 rfl) rfl (by show 2 * 0 + _ ≤ _; exact Nat.le_of_eq rfl) (hb hby at_73) (fun _ _ => ⟨rfl, rfl, (by decide : 1 + 0 ≤ _), (by decide : 2 + 0 ≤ _)⟩)
    dsimp only [Pt.U, Pt.locs, Pt.cells, Pt.slots] at X42 l42 y42 z42 sr42 hQ42
    subst l42 y42 z42
    obtain ⟨rfl, N42q, K42c, f42_0, f42_1, f42_2⟩ := hQ42
    have N42 := Fr.app N37 N42q
    have f43 : Exa Z T42.heap b7 "com/example/treeline/treeline/common/StepLimit" := f37_0.keep K42c
    have Z44 : n0 ≤ T42.heap.size := Nat.le_trans Z39 K42c.1
    have st45 : Steps p.tables e below (s₁.setTop (entryFrame m #[(.long x0), (.int x1)] maxLocals)) (T42.setTop (mkF m 76 #[.val (.long x0), .second, .val (.int x1), .val (.long mx), .second, .val (.ref b7), .val (.int (if mx < (1 : Int64) then (0 : Int32) else (1 : Int32))), .val (.int (if mx < (2 : Int64) then (0 : Int32) else (1 : Int32))), .val (.int (if mx < (3 : Int64) then (0 : Int32) else (1 : Int32))), .val (.int (if mx < (4 : Int64) then (0 : Int32) else (1 : Int32))), .val (.int (if mx < (5 : Int64) then (0 : Int32) else (1 : Int32))), .unset] [(.int (if mx < (6 : Int64) then (0 : Int32) else (1 : Int32)))])) := st41.trans (sr42)
    have st46 : Steps p.tables e below (s₁.setTop (entryFrame m #[(.long x0), (.int x1)] maxLocals)) (T42.setTop (mkF m 83 #[.val (.long x0), .second, .val (.int x1), .val (.long mx), .second, .val (.ref b7), .val (.int (if mx < (1 : Int64) then (0 : Int32) else (1 : Int32))), .val (.int (if mx < (2 : Int64) then (0 : Int32) else (1 : Int32))), .val (.int (if mx < (3 : Int64) then (0 : Int32) else (1 : Int32))), .val (.int (if mx < (4 : Int64) then (0 : Int32) else (1 : Int32))), .val (.int (if mx < (5 : Int64) then (0 : Int32) else (1 : Int32))), .val (.int (if mx < (6 : Int64) then (0 : Int32) else (1 : Int32)))] [(.int (lcmpW (1 : Int64) mx)), (.int (if mx < (1 : Int64) then (0 : Int32) else (1 : Int32)))])) := st45.trans (by
        show Steps p.tables e below (T42.setTop (mkF m 76 #[.val (.long x0), .second, .val (.int x1), .val (.long mx), .second, .val (.ref b7), .val (.int (if mx < (1 : Int64) then (0 : Int32) else (1 : Int32))), .val (.int (if mx < (2 : Int64) then (0 : Int32) else (1 : Int32))), .val (.int (if mx < (3 : Int64) then (0 : Int32) else (1 : Int32))), .val (.int (if mx < (4 : Int64) then (0 : Int32) else (1 : Int32))), .val (.int (if mx < (5 : Int64) then (0 : Int32) else (1 : Int32))), .unset] [(.int (if mx < (6 : Int64) then (0 : Int32) else (1 : Int32)))])) _
        refine XS.istore X42.here hx rfl (hb hby at_76) rfl (l' := #[.val (.long x0), .second, .val (.int x1), .val (.long mx), .second, .val (.ref b7), .val (.int (if mx < (1 : Int64) then (0 : Int32) else (1 : Int32))), .val (.int (if mx < (2 : Int64) then (0 : Int32) else (1 : Int32))), .val (.int (if mx < (3 : Int64) then (0 : Int32) else (1 : Int32))), .val (.int (if mx < (4 : Int64) then (0 : Int32) else (1 : Int32))), .val (.int (if mx < (5 : Int64) then (0 : Int32) else (1 : Int32))), .val (.int (if mx < (6 : Int64) then (0 : Int32) else (1 : Int32)))]) rfl ?_
        show Steps p.tables e below (T42.setTop (mkF m 78 #[.val (.long x0), .second, .val (.int x1), .val (.long mx), .second, .val (.ref b7), .val (.int (if mx < (1 : Int64) then (0 : Int32) else (1 : Int32))), .val (.int (if mx < (2 : Int64) then (0 : Int32) else (1 : Int32))), .val (.int (if mx < (3 : Int64) then (0 : Int32) else (1 : Int32))), .val (.int (if mx < (4 : Int64) then (0 : Int32) else (1 : Int32))), .val (.int (if mx < (5 : Int64) then (0 : Int32) else (1 : Int32))), .val (.int (if mx < (6 : Int64) then (0 : Int32) else (1 : Int32)))] [])) _
        refine XS.iload X42.here hx rfl (hb hby at_78) rfl ?_
        show Steps p.tables e below (T42.setTop (mkF m 80 #[.val (.long x0), .second, .val (.int x1), .val (.long mx), .second, .val (.ref b7), .val (.int (if mx < (1 : Int64) then (0 : Int32) else (1 : Int32))), .val (.int (if mx < (2 : Int64) then (0 : Int32) else (1 : Int32))), .val (.int (if mx < (3 : Int64) then (0 : Int32) else (1 : Int32))), .val (.int (if mx < (4 : Int64) then (0 : Int32) else (1 : Int32))), .val (.int (if mx < (5 : Int64) then (0 : Int32) else (1 : Int32))), .val (.int (if mx < (6 : Int64) then (0 : Int32) else (1 : Int32)))] [(.int (if mx < (1 : Int64) then (0 : Int32) else (1 : Int32)))])) _
        refine XS.lconst X42.here hx rfl (hb hby at_80) ?_
        show Steps p.tables e below (T42.setTop (mkF m 81 #[.val (.long x0), .second, .val (.int x1), .val (.long mx), .second, .val (.ref b7), .val (.int (if mx < (1 : Int64) then (0 : Int32) else (1 : Int32))), .val (.int (if mx < (2 : Int64) then (0 : Int32) else (1 : Int32))), .val (.int (if mx < (3 : Int64) then (0 : Int32) else (1 : Int32))), .val (.int (if mx < (4 : Int64) then (0 : Int32) else (1 : Int32))), .val (.int (if mx < (5 : Int64) then (0 : Int32) else (1 : Int32))), .val (.int (if mx < (6 : Int64) then (0 : Int32) else (1 : Int32)))] [(.long (1 : Int64)), (.int (if mx < (1 : Int64) then (0 : Int32) else (1 : Int32)))])) _
        refine XS.lloadN X42.here hx rfl (hb hby at_81) rfl ?_
        show Steps p.tables e below (T42.setTop (mkF m 82 #[.val (.long x0), .second, .val (.int x1), .val (.long mx), .second, .val (.ref b7), .val (.int (if mx < (1 : Int64) then (0 : Int32) else (1 : Int32))), .val (.int (if mx < (2 : Int64) then (0 : Int32) else (1 : Int32))), .val (.int (if mx < (3 : Int64) then (0 : Int32) else (1 : Int32))), .val (.int (if mx < (4 : Int64) then (0 : Int32) else (1 : Int32))), .val (.int (if mx < (5 : Int64) then (0 : Int32) else (1 : Int32))), .val (.int (if mx < (6 : Int64) then (0 : Int32) else (1 : Int32)))] [(.long mx), (.long (1 : Int64)), (.int (if mx < (1 : Int64) then (0 : Int32) else (1 : Int32)))])) _
        refine XS.lcmp X42.here hx rfl (hb hby at_82) rfl ?_
        exact Steps.refl _)
    have st48 : Steps p.tables e below (s₁.setTop (entryFrame m #[(.long x0), (.int x1)] maxLocals)) (T42.setTop (mkF m 91 #[.val (.long x0), .second, .val (.int x1), .val (.long mx), .second, .val (.ref b7), .val (.int (if mx < (1 : Int64) then (0 : Int32) else (1 : Int32))), .val (.int (if mx < (2 : Int64) then (0 : Int32) else (1 : Int32))), .val (.int (if mx < (3 : Int64) then (0 : Int32) else (1 : Int32))), .val (.int (if mx < (4 : Int64) then (0 : Int32) else (1 : Int32))), .val (.int (if mx < (5 : Int64) then (0 : Int32) else (1 : Int32))), .val (.int (if mx < (6 : Int64) then (0 : Int32) else (1 : Int32)))] [(.int (if mx < (1 : Int64) then (0 : Int32) else (1 : Int32))), (.int (if mx < (1 : Int64) then (0 : Int32) else (1 : Int32)))])) := st46.trans (by
        show Steps p.tables e below (T42.setTop (mkF m 83 #[.val (.long x0), .second, .val (.int x1), .val (.long mx), .second, .val (.ref b7), .val (.int (if mx < (1 : Int64) then (0 : Int32) else (1 : Int32))), .val (.int (if mx < (2 : Int64) then (0 : Int32) else (1 : Int32))), .val (.int (if mx < (3 : Int64) then (0 : Int32) else (1 : Int32))), .val (.int (if mx < (4 : Int64) then (0 : Int32) else (1 : Int32))), .val (.int (if mx < (5 : Int64) then (0 : Int32) else (1 : Int32))), .val (.int (if mx < (6 : Int64) then (0 : Int32) else (1 : Int32)))] [(.int (lcmpW (1 : Int64) mx)), (.int (if mx < (1 : Int64) then (0 : Int32) else (1 : Int32)))])) _
        by_cases hc47 : mx < (1 : Int64)
        · show Steps p.tables e below (T42.setTop (mkF m 83 #[.val (.long x0), .second, .val (.int x1), .val (.long mx), .second, .val (.ref b7), .val (.int (if mx < (1 : Int64) then (0 : Int32) else (1 : Int32))), .val (.int (if mx < (2 : Int64) then (0 : Int32) else (1 : Int32))), .val (.int (if mx < (3 : Int64) then (0 : Int32) else (1 : Int32))), .val (.int (if mx < (4 : Int64) then (0 : Int32) else (1 : Int32))), .val (.int (if mx < (5 : Int64) then (0 : Int32) else (1 : Int32))), .val (.int (if mx < (6 : Int64) then (0 : Int32) else (1 : Int32)))] [(.int (lcmpW (1 : Int64) mx)), (.int (if mx < (1 : Int64) then (0 : Int32) else (1 : Int32)))])) _
          refine XS.ifYes X42.here hx rfl (pc0 := 83) (pc' := 90) rfl (hb hby at_83) rfl ((if0 _ _).trans (tlt ((lw_gt _ _).mpr hc47)).2.2.1) (by decide) (by decide) ?_
          show Steps p.tables e below (T42.setTop (mkF m 90 #[.val (.long x0), .second, .val (.int x1), .val (.long mx), .second, .val (.ref b7), .val (.int (if mx < (1 : Int64) then (0 : Int32) else (1 : Int32))), .val (.int (if mx < (2 : Int64) then (0 : Int32) else (1 : Int32))), .val (.int (if mx < (3 : Int64) then (0 : Int32) else (1 : Int32))), .val (.int (if mx < (4 : Int64) then (0 : Int32) else (1 : Int32))), .val (.int (if mx < (5 : Int64) then (0 : Int32) else (1 : Int32))), .val (.int (if mx < (6 : Int64) then (0 : Int32) else (1 : Int32)))] [(.int (if mx < (1 : Int64) then (0 : Int32) else (1 : Int32)))])) _
          refine XS.iconst X42.here hx rfl (hb hby at_90) ?_
          simp only [if_pos hc47]
          exact Steps.refl _
        · show Steps p.tables e below (T42.setTop (mkF m 83 #[.val (.long x0), .second, .val (.int x1), .val (.long mx), .second, .val (.ref b7), .val (.int (if mx < (1 : Int64) then (0 : Int32) else (1 : Int32))), .val (.int (if mx < (2 : Int64) then (0 : Int32) else (1 : Int32))), .val (.int (if mx < (3 : Int64) then (0 : Int32) else (1 : Int32))), .val (.int (if mx < (4 : Int64) then (0 : Int32) else (1 : Int32))), .val (.int (if mx < (5 : Int64) then (0 : Int32) else (1 : Int32))), .val (.int (if mx < (6 : Int64) then (0 : Int32) else (1 : Int32)))] [(.int (lcmpW (1 : Int64) mx)), (.int (if mx < (1 : Int64) then (0 : Int32) else (1 : Int32)))])) _
          refine XS.ifNo X42.here hx rfl (hb hby at_83) rfl ((if0 _ _).trans (flt (fun q => hc47 ((lw_gt _ _).mp q))).2.2.1) ?_
          show Steps p.tables e below (T42.setTop (mkF m 86 #[.val (.long x0), .second, .val (.int x1), .val (.long mx), .second, .val (.ref b7), .val (.int (if mx < (1 : Int64) then (0 : Int32) else (1 : Int32))), .val (.int (if mx < (2 : Int64) then (0 : Int32) else (1 : Int32))), .val (.int (if mx < (3 : Int64) then (0 : Int32) else (1 : Int32))), .val (.int (if mx < (4 : Int64) then (0 : Int32) else (1 : Int32))), .val (.int (if mx < (5 : Int64) then (0 : Int32) else (1 : Int32))), .val (.int (if mx < (6 : Int64) then (0 : Int32) else (1 : Int32)))] [(.int (if mx < (1 : Int64) then (0 : Int32) else (1 : Int32)))])) _
          refine XS.iconst X42.here hx rfl (hb hby at_86) ?_
          show Steps p.tables e below (T42.setTop (mkF m 87 #[.val (.long x0), .second, .val (.int x1), .val (.long mx), .second, .val (.ref b7), .val (.int (if mx < (1 : Int64) then (0 : Int32) else (1 : Int32))), .val (.int (if mx < (2 : Int64) then (0 : Int32) else (1 : Int32))), .val (.int (if mx < (3 : Int64) then (0 : Int32) else (1 : Int32))), .val (.int (if mx < (4 : Int64) then (0 : Int32) else (1 : Int32))), .val (.int (if mx < (5 : Int64) then (0 : Int32) else (1 : Int32))), .val (.int (if mx < (6 : Int64) then (0 : Int32) else (1 : Int32)))] [(.int (1 : Int32)), (.int (if mx < (1 : Int64) then (0 : Int32) else (1 : Int32)))])) _
          refine XS.goto X42.here hx rfl (pc0 := 87) (pc' := 91) rfl (hb hby at_87) (by decide) (by decide) ?_
          simp only [if_neg hc47]
          exact Steps.refl _
        )
    have hf49 : (if mx < (1 : Int64) then (0 : Int32) else (1 : Int32)) = (if mx < (1 : Int64) then (0 : Int32) else (1 : Int32)) := rfl
    have st50 : Steps p.tables e below (s₁.setTop (entryFrame m #[(.long x0), (.int x1)] maxLocals)) (T42.setTop (mkF m 101 #[.val (.long x0), .second, .val (.int x1), .val (.long mx), .second, .val (.ref b7), .val (.int (if mx < (1 : Int64) then (0 : Int32) else (1 : Int32))), .val (.int (if mx < (2 : Int64) then (0 : Int32) else (1 : Int32))), .val (.int (if mx < (3 : Int64) then (0 : Int32) else (1 : Int32))), .val (.int (if mx < (4 : Int64) then (0 : Int32) else (1 : Int32))), .val (.int (if mx < (5 : Int64) then (0 : Int32) else (1 : Int32))), .val (.int (if mx < (6 : Int64) then (0 : Int32) else (1 : Int32)))] [(.int (lcmpW (2 : Int64) mx)), (.int (if mx < (2 : Int64) then (0 : Int32) else (1 : Int32)))])) := st48.trans (by
        show Steps p.tables e below (T42.setTop (mkF m 91 #[.val (.long x0), .second, .val (.int x1), .val (.long mx), .second, .val (.ref b7), .val (.int (if mx < (1 : Int64) then (0 : Int32) else (1 : Int32))), .val (.int (if mx < (2 : Int64) then (0 : Int32) else (1 : Int32))), .val (.int (if mx < (3 : Int64) then (0 : Int32) else (1 : Int32))), .val (.int (if mx < (4 : Int64) then (0 : Int32) else (1 : Int32))), .val (.int (if mx < (5 : Int64) then (0 : Int32) else (1 : Int32))), .val (.int (if mx < (6 : Int64) then (0 : Int32) else (1 : Int32)))] [(.int (if mx < (1 : Int64) then (0 : Int32) else (1 : Int32))), (.int (if mx < (1 : Int64) then (0 : Int32) else (1 : Int32)))])) _
        refine XS.icmpNo X42.here hx rfl (hb hby at_91) rfl (teq hf49).2 ?_
        show Steps p.tables e below (T42.setTop (mkF m 94 #[.val (.long x0), .second, .val (.int x1), .val (.long mx), .second, .val (.ref b7), .val (.int (if mx < (1 : Int64) then (0 : Int32) else (1 : Int32))), .val (.int (if mx < (2 : Int64) then (0 : Int32) else (1 : Int32))), .val (.int (if mx < (3 : Int64) then (0 : Int32) else (1 : Int32))), .val (.int (if mx < (4 : Int64) then (0 : Int32) else (1 : Int32))), .val (.int (if mx < (5 : Int64) then (0 : Int32) else (1 : Int32))), .val (.int (if mx < (6 : Int64) then (0 : Int32) else (1 : Int32)))] [])) _
        refine XS.iload X42.here hx rfl (hb hby at_94) rfl ?_
        show Steps p.tables e below (T42.setTop (mkF m 96 #[.val (.long x0), .second, .val (.int x1), .val (.long mx), .second, .val (.ref b7), .val (.int (if mx < (1 : Int64) then (0 : Int32) else (1 : Int32))), .val (.int (if mx < (2 : Int64) then (0 : Int32) else (1 : Int32))), .val (.int (if mx < (3 : Int64) then (0 : Int32) else (1 : Int32))), .val (.int (if mx < (4 : Int64) then (0 : Int32) else (1 : Int32))), .val (.int (if mx < (5 : Int64) then (0 : Int32) else (1 : Int32))), .val (.int (if mx < (6 : Int64) then (0 : Int32) else (1 : Int32)))] [(.int (if mx < (2 : Int64) then (0 : Int32) else (1 : Int32)))])) _
        refine X42.ldc2Long hx hown (mvT hZ (hw _ (List.mem_of_getElem? (i := 23) rfl))) (g := (mkF m 96 #[.val (.long x0), .second, .val (.int x1), .val (.long mx), .second, .val (.ref b7), .val (.int (if mx < (1 : Int64) then (0 : Int32) else (1 : Int32))), .val (.int (if mx < (2 : Int64) then (0 : Int32) else (1 : Int32))), .val (.int (if mx < (3 : Int64) then (0 : Int32) else (1 : Int32))), .val (.int (if mx < (4 : Int64) then (0 : Int32) else (1 : Int32))), .val (.int (if mx < (5 : Int64) then (0 : Int32) else (1 : Int32))), .val (.int (if mx < (6 : Int64) then (0 : Int32) else (1 : Int32)))] [(.int (if mx < (2 : Int64) then (0 : Int32) else (1 : Int32)))])) rfl (hb hby at_96) _ ?_
        show Steps p.tables e below (T42.setTop (mkF m 99 #[.val (.long x0), .second, .val (.int x1), .val (.long mx), .second, .val (.ref b7), .val (.int (if mx < (1 : Int64) then (0 : Int32) else (1 : Int32))), .val (.int (if mx < (2 : Int64) then (0 : Int32) else (1 : Int32))), .val (.int (if mx < (3 : Int64) then (0 : Int32) else (1 : Int32))), .val (.int (if mx < (4 : Int64) then (0 : Int32) else (1 : Int32))), .val (.int (if mx < (5 : Int64) then (0 : Int32) else (1 : Int32))), .val (.int (if mx < (6 : Int64) then (0 : Int32) else (1 : Int32)))] [(.long (2 : Int64)), (.int (if mx < (2 : Int64) then (0 : Int32) else (1 : Int32)))])) _
        refine XS.lloadN X42.here hx rfl (hb hby at_99) rfl ?_
        show Steps p.tables e below (T42.setTop (mkF m 100 #[.val (.long x0), .second, .val (.int x1), .val (.long mx), .second, .val (.ref b7), .val (.int (if mx < (1 : Int64) then (0 : Int32) else (1 : Int32))), .val (.int (if mx < (2 : Int64) then (0 : Int32) else (1 : Int32))), .val (.int (if mx < (3 : Int64) then (0 : Int32) else (1 : Int32))), .val (.int (if mx < (4 : Int64) then (0 : Int32) else (1 : Int32))), .val (.int (if mx < (5 : Int64) then (0 : Int32) else (1 : Int32))), .val (.int (if mx < (6 : Int64) then (0 : Int32) else (1 : Int32)))] [(.long mx), (.long (2 : Int64)), (.int (if mx < (2 : Int64) then (0 : Int32) else (1 : Int32)))])) _
        refine XS.lcmp X42.here hx rfl (hb hby at_100) rfl ?_
        exact Steps.refl _)
    have st52 : Steps p.tables e below (s₁.setTop (entryFrame m #[(.long x0), (.int x1)] maxLocals)) (T42.setTop (mkF m 109 #[.val (.long x0), .second, .val (.int x1), .val (.long mx), .second, .val (.ref b7), .val (.int (if mx < (1 : Int64) then (0 : Int32) else (1 : Int32))), .val (.int (if mx < (2 : Int64) then (0 : Int32) else (1 : Int32))), .val (.int (if mx < (3 : Int64) then (0 : Int32) else (1 : Int32))), .val (.int (if mx < (4 : Int64) then (0 : Int32) else (1 : Int32))), .val (.int (if mx < (5 : Int64) then (0 : Int32) else (1 : Int32))), .val (.int (if mx < (6 : Int64) then (0 : Int32) else (1 : Int32)))] [(.int (if mx < (2 : Int64) then (0 : Int32) else (1 : Int32))), (.int (if mx < (2 : Int64) then (0 : Int32) else (1 : Int32)))])) := st50.trans (by
        show Steps p.tables e below (T42.setTop (mkF m 101 #[.val (.long x0), .second, .val (.int x1), .val (.long mx), .second, .val (.ref b7), .val (.int (if mx < (1 : Int64) then (0 : Int32) else (1 : Int32))), .val (.int (if mx < (2 : Int64) then (0 : Int32) else (1 : Int32))), .val (.int (if mx < (3 : Int64) then (0 : Int32) else (1 : Int32))), .val (.int (if mx < (4 : Int64) then (0 : Int32) else (1 : Int32))), .val (.int (if mx < (5 : Int64) then (0 : Int32) else (1 : Int32))), .val (.int (if mx < (6 : Int64) then (0 : Int32) else (1 : Int32)))] [(.int (lcmpW (2 : Int64) mx)), (.int (if mx < (2 : Int64) then (0 : Int32) else (1 : Int32)))])) _
        by_cases hc51 : mx < (2 : Int64)
        · show Steps p.tables e below (T42.setTop (mkF m 101 #[.val (.long x0), .second, .val (.int x1), .val (.long mx), .second, .val (.ref b7), .val (.int (if mx < (1 : Int64) then (0 : Int32) else (1 : Int32))), .val (.int (if mx < (2 : Int64) then (0 : Int32) else (1 : Int32))), .val (.int (if mx < (3 : Int64) then (0 : Int32) else (1 : Int32))), .val (.int (if mx < (4 : Int64) then (0 : Int32) else (1 : Int32))), .val (.int (if mx < (5 : Int64) then (0 : Int32) else (1 : Int32))), .val (.int (if mx < (6 : Int64) then (0 : Int32) else (1 : Int32)))] [(.int (lcmpW (2 : Int64) mx)), (.int (if mx < (2 : Int64) then (0 : Int32) else (1 : Int32)))])) _
          refine XS.ifYes X42.here hx rfl (pc0 := 101) (pc' := 108) rfl (hb hby at_101) rfl ((if0 _ _).trans (tlt ((lw_gt _ _).mpr hc51)).2.2.1) (by decide) (by decide) ?_
          show Steps p.tables e below (T42.setTop (mkF m 108 #[.val (.long x0), .second, .val (.int x1), .val (.long mx), .second, .val (.ref b7), .val (.int (if mx < (1 : Int64) then (0 : Int32) else (1 : Int32))), .val (.int (if mx < (2 : Int64) then (0 : Int32) else (1 : Int32))), .val (.int (if mx < (3 : Int64) then (0 : Int32) else (1 : Int32))), .val (.int (if mx < (4 : Int64) then (0 : Int32) else (1 : Int32))), .val (.int (if mx < (5 : Int64) then (0 : Int32) else (1 : Int32))), .val (.int (if mx < (6 : Int64) then (0 : Int32) else (1 : Int32)))] [(.int (if mx < (2 : Int64) then (0 : Int32) else (1 : Int32)))])) _
          refine XS.iconst X42.here hx rfl (hb hby at_108) ?_
          simp only [if_pos hc51]
          exact Steps.refl _
        · show Steps p.tables e below (T42.setTop (mkF m 101 #[.val (.long x0), .second, .val (.int x1), .val (.long mx), .second, .val (.ref b7), .val (.int (if mx < (1 : Int64) then (0 : Int32) else (1 : Int32))), .val (.int (if mx < (2 : Int64) then (0 : Int32) else (1 : Int32))), .val (.int (if mx < (3 : Int64) then (0 : Int32) else (1 : Int32))), .val (.int (if mx < (4 : Int64) then (0 : Int32) else (1 : Int32))), .val (.int (if mx < (5 : Int64) then (0 : Int32) else (1 : Int32))), .val (.int (if mx < (6 : Int64) then (0 : Int32) else (1 : Int32)))] [(.int (lcmpW (2 : Int64) mx)), (.int (if mx < (2 : Int64) then (0 : Int32) else (1 : Int32)))])) _
          refine XS.ifNo X42.here hx rfl (hb hby at_101) rfl ((if0 _ _).trans (flt (fun q => hc51 ((lw_gt _ _).mp q))).2.2.1) ?_
          show Steps p.tables e below (T42.setTop (mkF m 104 #[.val (.long x0), .second, .val (.int x1), .val (.long mx), .second, .val (.ref b7), .val (.int (if mx < (1 : Int64) then (0 : Int32) else (1 : Int32))), .val (.int (if mx < (2 : Int64) then (0 : Int32) else (1 : Int32))), .val (.int (if mx < (3 : Int64) then (0 : Int32) else (1 : Int32))), .val (.int (if mx < (4 : Int64) then (0 : Int32) else (1 : Int32))), .val (.int (if mx < (5 : Int64) then (0 : Int32) else (1 : Int32))), .val (.int (if mx < (6 : Int64) then (0 : Int32) else (1 : Int32)))] [(.int (if mx < (2 : Int64) then (0 : Int32) else (1 : Int32)))])) _
          refine XS.iconst X42.here hx rfl (hb hby at_104) ?_
          show Steps p.tables e below (T42.setTop (mkF m 105 #[.val (.long x0), .second, .val (.int x1), .val (.long mx), .second, .val (.ref b7), .val (.int (if mx < (1 : Int64) then (0 : Int32) else (1 : Int32))), .val (.int (if mx < (2 : Int64) then (0 : Int32) else (1 : Int32))), .val (.int (if mx < (3 : Int64) then (0 : Int32) else (1 : Int32))), .val (.int (if mx < (4 : Int64) then (0 : Int32) else (1 : Int32))), .val (.int (if mx < (5 : Int64) then (0 : Int32) else (1 : Int32))), .val (.int (if mx < (6 : Int64) then (0 : Int32) else (1 : Int32)))] [(.int (1 : Int32)), (.int (if mx < (2 : Int64) then (0 : Int32) else (1 : Int32)))])) _
          refine XS.goto X42.here hx rfl (pc0 := 105) (pc' := 109) rfl (hb hby at_105) (by decide) (by decide) ?_
          simp only [if_neg hc51]
          exact Steps.refl _
        )
    have hf53 : (if mx < (2 : Int64) then (0 : Int32) else (1 : Int32)) = (if mx < (2 : Int64) then (0 : Int32) else (1 : Int32)) := rfl
    have st54 : Steps p.tables e below (s₁.setTop (entryFrame m #[(.long x0), (.int x1)] maxLocals)) (T42.setTop (mkF m 119 #[.val (.long x0), .second, .val (.int x1), .val (.long mx), .second, .val (.ref b7), .val (.int (if mx < (1 : Int64) then (0 : Int32) else (1 : Int32))), .val (.int (if mx < (2 : Int64) then (0 : Int32) else (1 : Int32))), .val (.int (if mx < (3 : Int64) then (0 : Int32) else (1 : Int32))), .val (.int (if mx < (4 : Int64) then (0 : Int32) else (1 : Int32))), .val (.int (if mx < (5 : Int64) then (0 : Int32) else (1 : Int32))), .val (.int (if mx < (6 : Int64) then (0 : Int32) else (1 : Int32)))] [(.int (lcmpW (3 : Int64) mx)), (.int (if mx < (3 : Int64) then (0 : Int32) else (1 : Int32)))])) := st52.trans (by
        show Steps p.tables e below (T42.setTop (mkF m 109 #[.val (.long x0), .second, .val (.int x1), .val (.long mx), .second, .val (.ref b7), .val (.int (if mx < (1 : Int64) then (0 : Int32) else (1 : Int32))), .val (.int (if mx < (2 : Int64) then (0 : Int32) else (1 : Int32))), .val (.int (if mx < (3 : Int64) then (0 : Int32) else (1 : Int32))), .val (.int (if mx < (4 : Int64) then (0 : Int32) else (1 : Int32))), .val (.int (if mx < (5 : Int64) then (0 : Int32) else (1 : Int32))), .val (.int (if mx < (6 : Int64) then (0 : Int32) else (1 : Int32)))] [(.int (if mx < (2 : Int64) then (0 : Int32) else (1 : Int32))), (.int (if mx < (2 : Int64) then (0 : Int32) else (1 : Int32)))])) _
        refine XS.icmpNo X42.here hx rfl (hb hby at_109) rfl (teq hf53).2 ?_
        show Steps p.tables e below (T42.setTop (mkF m 112 #[.val (.long x0), .second, .val (.int x1), .val (.long mx), .second, .val (.ref b7), .val (.int (if mx < (1 : Int64) then (0 : Int32) else (1 : Int32))), .val (.int (if mx < (2 : Int64) then (0 : Int32) else (1 : Int32))), .val (.int (if mx < (3 : Int64) then (0 : Int32) else (1 : Int32))), .val (.int (if mx < (4 : Int64) then (0 : Int32) else (1 : Int32))), .val (.int (if mx < (5 : Int64) then (0 : Int32) else (1 : Int32))), .val (.int (if mx < (6 : Int64) then (0 : Int32) else (1 : Int32)))] [])) _
        refine XS.iload X42.here hx rfl (hb hby at_112) rfl ?_
        show Steps p.tables e below (T42.setTop (mkF m 114 #[.val (.long x0), .second, .val (.int x1), .val (.long mx), .second, .val (.ref b7), .val (.int (if mx < (1 : Int64) then (0 : Int32) else (1 : Int32))), .val (.int (if mx < (2 : Int64) then (0 : Int32) else (1 : Int32))), .val (.int (if mx < (3 : Int64) then (0 : Int32) else (1 : Int32))), .val (.int (if mx < (4 : Int64) then (0 : Int32) else (1 : Int32))), .val (.int (if mx < (5 : Int64) then (0 : Int32) else (1 : Int32))), .val (.int (if mx < (6 : Int64) then (0 : Int32) else (1 : Int32)))] [(.int (if mx < (3 : Int64) then (0 : Int32) else (1 : Int32)))])) _
        refine X42.ldc2Long hx hown (mvT hZ (hw _ (List.mem_of_getElem? (i := 24) rfl))) (g := (mkF m 114 #[.val (.long x0), .second, .val (.int x1), .val (.long mx), .second, .val (.ref b7), .val (.int (if mx < (1 : Int64) then (0 : Int32) else (1 : Int32))), .val (.int (if mx < (2 : Int64) then (0 : Int32) else (1 : Int32))), .val (.int (if mx < (3 : Int64) then (0 : Int32) else (1 : Int32))), .val (.int (if mx < (4 : Int64) then (0 : Int32) else (1 : Int32))), .val (.int (if mx < (5 : Int64) then (0 : Int32) else (1 : Int32))), .val (.int (if mx < (6 : Int64) then (0 : Int32) else (1 : Int32)))] [(.int (if mx < (3 : Int64) then (0 : Int32) else (1 : Int32)))])) rfl (hb hby at_114) _ ?_
        show Steps p.tables e below (T42.setTop (mkF m 117 #[.val (.long x0), .second, .val (.int x1), .val (.long mx), .second, .val (.ref b7), .val (.int (if mx < (1 : Int64) then (0 : Int32) else (1 : Int32))), .val (.int (if mx < (2 : Int64) then (0 : Int32) else (1 : Int32))), .val (.int (if mx < (3 : Int64) then (0 : Int32) else (1 : Int32))), .val (.int (if mx < (4 : Int64) then (0 : Int32) else (1 : Int32))), .val (.int (if mx < (5 : Int64) then (0 : Int32) else (1 : Int32))), .val (.int (if mx < (6 : Int64) then (0 : Int32) else (1 : Int32)))] [(.long (3 : Int64)), (.int (if mx < (3 : Int64) then (0 : Int32) else (1 : Int32)))])) _
        refine XS.lloadN X42.here hx rfl (hb hby at_117) rfl ?_
        show Steps p.tables e below (T42.setTop (mkF m 118 #[.val (.long x0), .second, .val (.int x1), .val (.long mx), .second, .val (.ref b7), .val (.int (if mx < (1 : Int64) then (0 : Int32) else (1 : Int32))), .val (.int (if mx < (2 : Int64) then (0 : Int32) else (1 : Int32))), .val (.int (if mx < (3 : Int64) then (0 : Int32) else (1 : Int32))), .val (.int (if mx < (4 : Int64) then (0 : Int32) else (1 : Int32))), .val (.int (if mx < (5 : Int64) then (0 : Int32) else (1 : Int32))), .val (.int (if mx < (6 : Int64) then (0 : Int32) else (1 : Int32)))] [(.long mx), (.long (3 : Int64)), (.int (if mx < (3 : Int64) then (0 : Int32) else (1 : Int32)))])) _
        refine XS.lcmp X42.here hx rfl (hb hby at_118) rfl ?_
        exact Steps.refl _)
    have st56 : Steps p.tables e below (s₁.setTop (entryFrame m #[(.long x0), (.int x1)] maxLocals)) (T42.setTop (mkF m 127 #[.val (.long x0), .second, .val (.int x1), .val (.long mx), .second, .val (.ref b7), .val (.int (if mx < (1 : Int64) then (0 : Int32) else (1 : Int32))), .val (.int (if mx < (2 : Int64) then (0 : Int32) else (1 : Int32))), .val (.int (if mx < (3 : Int64) then (0 : Int32) else (1 : Int32))), .val (.int (if mx < (4 : Int64) then (0 : Int32) else (1 : Int32))), .val (.int (if mx < (5 : Int64) then (0 : Int32) else (1 : Int32))), .val (.int (if mx < (6 : Int64) then (0 : Int32) else (1 : Int32)))] [(.int (if mx < (3 : Int64) then (0 : Int32) else (1 : Int32))), (.int (if mx < (3 : Int64) then (0 : Int32) else (1 : Int32)))])) := st54.trans (by
        show Steps p.tables e below (T42.setTop (mkF m 119 #[.val (.long x0), .second, .val (.int x1), .val (.long mx), .second, .val (.ref b7), .val (.int (if mx < (1 : Int64) then (0 : Int32) else (1 : Int32))), .val (.int (if mx < (2 : Int64) then (0 : Int32) else (1 : Int32))), .val (.int (if mx < (3 : Int64) then (0 : Int32) else (1 : Int32))), .val (.int (if mx < (4 : Int64) then (0 : Int32) else (1 : Int32))), .val (.int (if mx < (5 : Int64) then (0 : Int32) else (1 : Int32))), .val (.int (if mx < (6 : Int64) then (0 : Int32) else (1 : Int32)))] [(.int (lcmpW (3 : Int64) mx)), (.int (if mx < (3 : Int64) then (0 : Int32) else (1 : Int32)))])) _
        by_cases hc55 : mx < (3 : Int64)
        · show Steps p.tables e below (T42.setTop (mkF m 119 #[.val (.long x0), .second, .val (.int x1), .val (.long mx), .second, .val (.ref b7), .val (.int (if mx < (1 : Int64) then (0 : Int32) else (1 : Int32))), .val (.int (if mx < (2 : Int64) then (0 : Int32) else (1 : Int32))), .val (.int (if mx < (3 : Int64) then (0 : Int32) else (1 : Int32))), .val (.int (if mx < (4 : Int64) then (0 : Int32) else (1 : Int32))), .val (.int (if mx < (5 : Int64) then (0 : Int32) else (1 : Int32))), .val (.int (if mx < (6 : Int64) then (0 : Int32) else (1 : Int32)))] [(.int (lcmpW (3 : Int64) mx)), (.int (if mx < (3 : Int64) then (0 : Int32) else (1 : Int32)))])) _
          refine XS.ifYes X42.here hx rfl (pc0 := 119) (pc' := 126) rfl (hb hby at_119) rfl ((if0 _ _).trans (tlt ((lw_gt _ _).mpr hc55)).2.2.1) (by decide) (by decide) ?_
          show Steps p.tables e below (T42.setTop (mkF m 126 #[.val (.long x0), .second, .val (.int x1), .val (.long mx), .second, .val (.ref b7), .val (.int (if mx < (1 : Int64) then (0 : Int32) else (1 : Int32))), .val (.int (if mx < (2 : Int64) then (0 : Int32) else (1 : Int32))), .val (.int (if mx < (3 : Int64) then (0 : Int32) else (1 : Int32))), .val (.int (if mx < (4 : Int64) then (0 : Int32) else (1 : Int32))), .val (.int (if mx < (5 : Int64) then (0 : Int32) else (1 : Int32))), .val (.int (if mx < (6 : Int64) then (0 : Int32) else (1 : Int32)))] [(.int (if mx < (3 : Int64) then (0 : Int32) else (1 : Int32)))])) _
          refine XS.iconst X42.here hx rfl (hb hby at_126) ?_
          simp only [if_pos hc55]
          exact Steps.refl _
        · show Steps p.tables e below (T42.setTop (mkF m 119 #[.val (.long x0), .second, .val (.int x1), .val (.long mx), .second, .val (.ref b7), .val (.int (if mx < (1 : Int64) then (0 : Int32) else (1 : Int32))), .val (.int (if mx < (2 : Int64) then (0 : Int32) else (1 : Int32))), .val (.int (if mx < (3 : Int64) then (0 : Int32) else (1 : Int32))), .val (.int (if mx < (4 : Int64) then (0 : Int32) else (1 : Int32))), .val (.int (if mx < (5 : Int64) then (0 : Int32) else (1 : Int32))), .val (.int (if mx < (6 : Int64) then (0 : Int32) else (1 : Int32)))] [(.int (lcmpW (3 : Int64) mx)), (.int (if mx < (3 : Int64) then (0 : Int32) else (1 : Int32)))])) _
          refine XS.ifNo X42.here hx rfl (hb hby at_119) rfl ((if0 _ _).trans (flt (fun q => hc55 ((lw_gt _ _).mp q))).2.2.1) ?_
          show Steps p.tables e below (T42.setTop (mkF m 122 #[.val (.long x0), .second, .val (.int x1), .val (.long mx), .second, .val (.ref b7), .val (.int (if mx < (1 : Int64) then (0 : Int32) else (1 : Int32))), .val (.int (if mx < (2 : Int64) then (0 : Int32) else (1 : Int32))), .val (.int (if mx < (3 : Int64) then (0 : Int32) else (1 : Int32))), .val (.int (if mx < (4 : Int64) then (0 : Int32) else (1 : Int32))), .val (.int (if mx < (5 : Int64) then (0 : Int32) else (1 : Int32))), .val (.int (if mx < (6 : Int64) then (0 : Int32) else (1 : Int32)))] [(.int (if mx < (3 : Int64) then (0 : Int32) else (1 : Int32)))])) _
          refine XS.iconst X42.here hx rfl (hb hby at_122) ?_
          show Steps p.tables e below (T42.setTop (mkF m 123 #[.val (.long x0), .second, .val (.int x1), .val (.long mx), .second, .val (.ref b7), .val (.int (if mx < (1 : Int64) then (0 : Int32) else (1 : Int32))), .val (.int (if mx < (2 : Int64) then (0 : Int32) else (1 : Int32))), .val (.int (if mx < (3 : Int64) then (0 : Int32) else (1 : Int32))), .val (.int (if mx < (4 : Int64) then (0 : Int32) else (1 : Int32))), .val (.int (if mx < (5 : Int64) then (0 : Int32) else (1 : Int32))), .val (.int (if mx < (6 : Int64) then (0 : Int32) else (1 : Int32)))] [(.int (1 : Int32)), (.int (if mx < (3 : Int64) then (0 : Int32) else (1 : Int32)))])) _
          refine XS.goto X42.here hx rfl (pc0 := 123) (pc' := 127) rfl (hb hby at_123) (by decide) (by decide) ?_
          simp only [if_neg hc55]
          exact Steps.refl _
        )
    have hf57 : (if mx < (3 : Int64) then (0 : Int32) else (1 : Int32)) = (if mx < (3 : Int64) then (0 : Int32) else (1 : Int32)) := rfl
    have st58 : Steps p.tables e below (s₁.setTop (entryFrame m #[(.long x0), (.int x1)] maxLocals)) (T42.setTop (mkF m 137 #[.val (.long x0), .second, .val (.int x1), .val (.long mx), .second, .val (.ref b7), .val (.int (if mx < (1 : Int64) then (0 : Int32) else (1 : Int32))), .val (.int (if mx < (2 : Int64) then (0 : Int32) else (1 : Int32))), .val (.int (if mx < (3 : Int64) then (0 : Int32) else (1 : Int32))), .val (.int (if mx < (4 : Int64) then (0 : Int32) else (1 : Int32))), .val (.int (if mx < (5 : Int64) then (0 : Int32) else (1 : Int32))), .val (.int (if mx < (6 : Int64) then (0 : Int32) else (1 : Int32)))] [(.int (lcmpW (4 : Int64) mx)), (.int (if mx < (4 : Int64) then (0 : Int32) else (1 : Int32)))])) := st56.trans (by
        show Steps p.tables e below (T42.setTop (mkF m 127 #[.val (.long x0), .second, .val (.int x1), .val (.long mx), .second, .val (.ref b7), .val (.int (if mx < (1 : Int64) then (0 : Int32) else (1 : Int32))), .val (.int (if mx < (2 : Int64) then (0 : Int32) else (1 : Int32))), .val (.int (if mx < (3 : Int64) then (0 : Int32) else (1 : Int32))), .val (.int (if mx < (4 : Int64) then (0 : Int32) else (1 : Int32))), .val (.int (if mx < (5 : Int64) then (0 : Int32) else (1 : Int32))), .val (.int (if mx < (6 : Int64) then (0 : Int32) else (1 : Int32)))] [(.int (if mx < (3 : Int64) then (0 : Int32) else (1 : Int32))), (.int (if mx < (3 : Int64) then (0 : Int32) else (1 : Int32)))])) _
        refine XS.icmpNo X42.here hx rfl (hb hby at_127) rfl (teq hf57).2 ?_
        show Steps p.tables e below (T42.setTop (mkF m 130 #[.val (.long x0), .second, .val (.int x1), .val (.long mx), .second, .val (.ref b7), .val (.int (if mx < (1 : Int64) then (0 : Int32) else (1 : Int32))), .val (.int (if mx < (2 : Int64) then (0 : Int32) else (1 : Int32))), .val (.int (if mx < (3 : Int64) then (0 : Int32) else (1 : Int32))), .val (.int (if mx < (4 : Int64) then (0 : Int32) else (1 : Int32))), .val (.int (if mx < (5 : Int64) then (0 : Int32) else (1 : Int32))), .val (.int (if mx < (6 : Int64) then (0 : Int32) else (1 : Int32)))] [])) _
        refine XS.iload X42.here hx rfl (hb hby at_130) rfl ?_
        show Steps p.tables e below (T42.setTop (mkF m 132 #[.val (.long x0), .second, .val (.int x1), .val (.long mx), .second, .val (.ref b7), .val (.int (if mx < (1 : Int64) then (0 : Int32) else (1 : Int32))), .val (.int (if mx < (2 : Int64) then (0 : Int32) else (1 : Int32))), .val (.int (if mx < (3 : Int64) then (0 : Int32) else (1 : Int32))), .val (.int (if mx < (4 : Int64) then (0 : Int32) else (1 : Int32))), .val (.int (if mx < (5 : Int64) then (0 : Int32) else (1 : Int32))), .val (.int (if mx < (6 : Int64) then (0 : Int32) else (1 : Int32)))] [(.int (if mx < (4 : Int64) then (0 : Int32) else (1 : Int32)))])) _
        refine X42.ldc2Long hx hown (mvT hZ (hw _ (List.mem_of_getElem? (i := 25) rfl))) (g := (mkF m 132 #[.val (.long x0), .second, .val (.int x1), .val (.long mx), .second, .val (.ref b7), .val (.int (if mx < (1 : Int64) then (0 : Int32) else (1 : Int32))), .val (.int (if mx < (2 : Int64) then (0 : Int32) else (1 : Int32))), .val (.int (if mx < (3 : Int64) then (0 : Int32) else (1 : Int32))), .val (.int (if mx < (4 : Int64) then (0 : Int32) else (1 : Int32))), .val (.int (if mx < (5 : Int64) then (0 : Int32) else (1 : Int32))), .val (.int (if mx < (6 : Int64) then (0 : Int32) else (1 : Int32)))] [(.int (if mx < (4 : Int64) then (0 : Int32) else (1 : Int32)))])) rfl (hb hby at_132) _ ?_
        show Steps p.tables e below (T42.setTop (mkF m 135 #[.val (.long x0), .second, .val (.int x1), .val (.long mx), .second, .val (.ref b7), .val (.int (if mx < (1 : Int64) then (0 : Int32) else (1 : Int32))), .val (.int (if mx < (2 : Int64) then (0 : Int32) else (1 : Int32))), .val (.int (if mx < (3 : Int64) then (0 : Int32) else (1 : Int32))), .val (.int (if mx < (4 : Int64) then (0 : Int32) else (1 : Int32))), .val (.int (if mx < (5 : Int64) then (0 : Int32) else (1 : Int32))), .val (.int (if mx < (6 : Int64) then (0 : Int32) else (1 : Int32)))] [(.long (4 : Int64)), (.int (if mx < (4 : Int64) then (0 : Int32) else (1 : Int32)))])) _
        refine XS.lloadN X42.here hx rfl (hb hby at_135) rfl ?_
        show Steps p.tables e below (T42.setTop (mkF m 136 #[.val (.long x0), .second, .val (.int x1), .val (.long mx), .second, .val (.ref b7), .val (.int (if mx < (1 : Int64) then (0 : Int32) else (1 : Int32))), .val (.int (if mx < (2 : Int64) then (0 : Int32) else (1 : Int32))), .val (.int (if mx < (3 : Int64) then (0 : Int32) else (1 : Int32))), .val (.int (if mx < (4 : Int64) then (0 : Int32) else (1 : Int32))), .val (.int (if mx < (5 : Int64) then (0 : Int32) else (1 : Int32))), .val (.int (if mx < (6 : Int64) then (0 : Int32) else (1 : Int32)))] [(.long mx), (.long (4 : Int64)), (.int (if mx < (4 : Int64) then (0 : Int32) else (1 : Int32)))])) _
        refine XS.lcmp X42.here hx rfl (hb hby at_136) rfl ?_
        exact Steps.refl _)
    have st60 : Steps p.tables e below (s₁.setTop (entryFrame m #[(.long x0), (.int x1)] maxLocals)) (T42.setTop (mkF m 145 #[.val (.long x0), .second, .val (.int x1), .val (.long mx), .second, .val (.ref b7), .val (.int (if mx < (1 : Int64) then (0 : Int32) else (1 : Int32))), .val (.int (if mx < (2 : Int64) then (0 : Int32) else (1 : Int32))), .val (.int (if mx < (3 : Int64) then (0 : Int32) else (1 : Int32))), .val (.int (if mx < (4 : Int64) then (0 : Int32) else (1 : Int32))), .val (.int (if mx < (5 : Int64) then (0 : Int32) else (1 : Int32))), .val (.int (if mx < (6 : Int64) then (0 : Int32) else (1 : Int32)))] [(.int (if mx < (4 : Int64) then (0 : Int32) else (1 : Int32))), (.int (if mx < (4 : Int64) then (0 : Int32) else (1 : Int32)))])) := st58.trans (by
        show Steps p.tables e below (T42.setTop (mkF m 137 #[.val (.long x0), .second, .val (.int x1), .val (.long mx), .second, .val (.ref b7), .val (.int (if mx < (1 : Int64) then (0 : Int32) else (1 : Int32))), .val (.int (if mx < (2 : Int64) then (0 : Int32) else (1 : Int32))), .val (.int (if mx < (3 : Int64) then (0 : Int32) else (1 : Int32))), .val (.int (if mx < (4 : Int64) then (0 : Int32) else (1 : Int32))), .val (.int (if mx < (5 : Int64) then (0 : Int32) else (1 : Int32))), .val (.int (if mx < (6 : Int64) then (0 : Int32) else (1 : Int32)))] [(.int (lcmpW (4 : Int64) mx)), (.int (if mx < (4 : Int64) then (0 : Int32) else (1 : Int32)))])) _
        by_cases hc59 : mx < (4 : Int64)
        · show Steps p.tables e below (T42.setTop (mkF m 137 #[.val (.long x0), .second, .val (.int x1), .val (.long mx), .second, .val (.ref b7), .val (.int (if mx < (1 : Int64) then (0 : Int32) else (1 : Int32))), .val (.int (if mx < (2 : Int64) then (0 : Int32) else (1 : Int32))), .val (.int (if mx < (3 : Int64) then (0 : Int32) else (1 : Int32))), .val (.int (if mx < (4 : Int64) then (0 : Int32) else (1 : Int32))), .val (.int (if mx < (5 : Int64) then (0 : Int32) else (1 : Int32))), .val (.int (if mx < (6 : Int64) then (0 : Int32) else (1 : Int32)))] [(.int (lcmpW (4 : Int64) mx)), (.int (if mx < (4 : Int64) then (0 : Int32) else (1 : Int32)))])) _
          refine XS.ifYes X42.here hx rfl (pc0 := 137) (pc' := 144) rfl (hb hby at_137) rfl ((if0 _ _).trans (tlt ((lw_gt _ _).mpr hc59)).2.2.1) (by decide) (by decide) ?_
          show Steps p.tables e below (T42.setTop (mkF m 144 #[.val (.long x0), .second, .val (.int x1), .val (.long mx), .second, .val (.ref b7), .val (.int (if mx < (1 : Int64) then (0 : Int32) else (1 : Int32))), .val (.int (if mx < (2 : Int64) then (0 : Int32) else (1 : Int32))), .val (.int (if mx < (3 : Int64) then (0 : Int32) else (1 : Int32))), .val (.int (if mx < (4 : Int64) then (0 : Int32) else (1 : Int32))), .val (.int (if mx < (5 : Int64) then (0 : Int32) else (1 : Int32))), .val (.int (if mx < (6 : Int64) then (0 : Int32) else (1 : Int32)))] [(.int (if mx < (4 : Int64) then (0 : Int32) else (1 : Int32)))])) _
          refine XS.iconst X42.here hx rfl (hb hby at_144) ?_
          simp only [if_pos hc59]
          exact Steps.refl _
        · show Steps p.tables e below (T42.setTop (mkF m 137 #[.val (.long x0), .second, .val (.int x1), .val (.long mx), .second, .val (.ref b7), .val (.int (if mx < (1 : Int64) then (0 : Int32) else (1 : Int32))), .val (.int (if mx < (2 : Int64) then (0 : Int32) else (1 : Int32))), .val (.int (if mx < (3 : Int64) then (0 : Int32) else (1 : Int32))), .val (.int (if mx < (4 : Int64) then (0 : Int32) else (1 : Int32))), .val (.int (if mx < (5 : Int64) then (0 : Int32) else (1 : Int32))), .val (.int (if mx < (6 : Int64) then (0 : Int32) else (1 : Int32)))] [(.int (lcmpW (4 : Int64) mx)), (.int (if mx < (4 : Int64) then (0 : Int32) else (1 : Int32)))])) _
          refine XS.ifNo X42.here hx rfl (hb hby at_137) rfl ((if0 _ _).trans (flt (fun q => hc59 ((lw_gt _ _).mp q))).2.2.1) ?_
          show Steps p.tables e below (T42.setTop (mkF m 140 #[.val (.long x0), .second, .val (.int x1), .val (.long mx), .second, .val (.ref b7), .val (.int (if mx < (1 : Int64) then (0 : Int32) else (1 : Int32))), .val (.int (if mx < (2 : Int64) then (0 : Int32) else (1 : Int32))), .val (.int (if mx < (3 : Int64) then (0 : Int32) else (1 : Int32))), .val (.int (if mx < (4 : Int64) then (0 : Int32) else (1 : Int32))), .val (.int (if mx < (5 : Int64) then (0 : Int32) else (1 : Int32))), .val (.int (if mx < (6 : Int64) then (0 : Int32) else (1 : Int32)))] [(.int (if mx < (4 : Int64) then (0 : Int32) else (1 : Int32)))])) _
          refine XS.iconst X42.here hx rfl (hb hby at_140) ?_
          show Steps p.tables e below (T42.setTop (mkF m 141 #[.val (.long x0), .second, .val (.int x1), .val (.long mx), .second, .val (.ref b7), .val (.int (if mx < (1 : Int64) then (0 : Int32) else (1 : Int32))), .val (.int (if mx < (2 : Int64) then (0 : Int32) else (1 : Int32))), .val (.int (if mx < (3 : Int64) then (0 : Int32) else (1 : Int32))), .val (.int (if mx < (4 : Int64) then (0 : Int32) else (1 : Int32))), .val (.int (if mx < (5 : Int64) then (0 : Int32) else (1 : Int32))), .val (.int (if mx < (6 : Int64) then (0 : Int32) else (1 : Int32)))] [(.int (1 : Int32)), (.int (if mx < (4 : Int64) then (0 : Int32) else (1 : Int32)))])) _
          refine XS.goto X42.here hx rfl (pc0 := 141) (pc' := 145) rfl (hb hby at_141) (by decide) (by decide) ?_
          simp only [if_neg hc59]
          exact Steps.refl _
        )
    have hf61 : (if mx < (4 : Int64) then (0 : Int32) else (1 : Int32)) = (if mx < (4 : Int64) then (0 : Int32) else (1 : Int32)) := rfl
    have st62 : Steps p.tables e below (s₁.setTop (entryFrame m #[(.long x0), (.int x1)] maxLocals)) (T42.setTop (mkF m 155 #[.val (.long x0), .second, .val (.int x1), .val (.long mx), .second, .val (.ref b7), .val (.int (if mx < (1 : Int64) then (0 : Int32) else (1 : Int32))), .val (.int (if mx < (2 : Int64) then (0 : Int32) else (1 : Int32))), .val (.int (if mx < (3 : Int64) then (0 : Int32) else (1 : Int32))), .val (.int (if mx < (4 : Int64) then (0 : Int32) else (1 : Int32))), .val (.int (if mx < (5 : Int64) then (0 : Int32) else (1 : Int32))), .val (.int (if mx < (6 : Int64) then (0 : Int32) else (1 : Int32)))] [(.int (lcmpW (5 : Int64) mx)), (.int (if mx < (5 : Int64) then (0 : Int32) else (1 : Int32)))])) := st60.trans (by
        show Steps p.tables e below (T42.setTop (mkF m 145 #[.val (.long x0), .second, .val (.int x1), .val (.long mx), .second, .val (.ref b7), .val (.int (if mx < (1 : Int64) then (0 : Int32) else (1 : Int32))), .val (.int (if mx < (2 : Int64) then (0 : Int32) else (1 : Int32))), .val (.int (if mx < (3 : Int64) then (0 : Int32) else (1 : Int32))), .val (.int (if mx < (4 : Int64) then (0 : Int32) else (1 : Int32))), .val (.int (if mx < (5 : Int64) then (0 : Int32) else (1 : Int32))), .val (.int (if mx < (6 : Int64) then (0 : Int32) else (1 : Int32)))] [(.int (if mx < (4 : Int64) then (0 : Int32) else (1 : Int32))), (.int (if mx < (4 : Int64) then (0 : Int32) else (1 : Int32)))])) _
        refine XS.icmpNo X42.here hx rfl (hb hby at_145) rfl (teq hf61).2 ?_
        show Steps p.tables e below (T42.setTop (mkF m 148 #[.val (.long x0), .second, .val (.int x1), .val (.long mx), .second, .val (.ref b7), .val (.int (if mx < (1 : Int64) then (0 : Int32) else (1 : Int32))), .val (.int (if mx < (2 : Int64) then (0 : Int32) else (1 : Int32))), .val (.int (if mx < (3 : Int64) then (0 : Int32) else (1 : Int32))), .val (.int (if mx < (4 : Int64) then (0 : Int32) else (1 : Int32))), .val (.int (if mx < (5 : Int64) then (0 : Int32) else (1 : Int32))), .val (.int (if mx < (6 : Int64) then (0 : Int32) else (1 : Int32)))] [])) _
        refine XS.iload X42.here hx rfl (hb hby at_148) rfl ?_
        show Steps p.tables e below (T42.setTop (mkF m 150 #[.val (.long x0), .second, .val (.int x1), .val (.long mx), .second, .val (.ref b7), .val (.int (if mx < (1 : Int64) then (0 : Int32) else (1 : Int32))), .val (.int (if mx < (2 : Int64) then (0 : Int32) else (1 : Int32))), .val (.int (if mx < (3 : Int64) then (0 : Int32) else (1 : Int32))), .val (.int (if mx < (4 : Int64) then (0 : Int32) else (1 : Int32))), .val (.int (if mx < (5 : Int64) then (0 : Int32) else (1 : Int32))), .val (.int (if mx < (6 : Int64) then (0 : Int32) else (1 : Int32)))] [(.int (if mx < (5 : Int64) then (0 : Int32) else (1 : Int32)))])) _
        refine X42.ldc2Long hx hown (mvT hZ (hw _ (List.mem_of_getElem? (i := 26) rfl))) (g := (mkF m 150 #[.val (.long x0), .second, .val (.int x1), .val (.long mx), .second, .val (.ref b7), .val (.int (if mx < (1 : Int64) then (0 : Int32) else (1 : Int32))), .val (.int (if mx < (2 : Int64) then (0 : Int32) else (1 : Int32))), .val (.int (if mx < (3 : Int64) then (0 : Int32) else (1 : Int32))), .val (.int (if mx < (4 : Int64) then (0 : Int32) else (1 : Int32))), .val (.int (if mx < (5 : Int64) then (0 : Int32) else (1 : Int32))), .val (.int (if mx < (6 : Int64) then (0 : Int32) else (1 : Int32)))] [(.int (if mx < (5 : Int64) then (0 : Int32) else (1 : Int32)))])) rfl (hb hby at_150) _ ?_
        show Steps p.tables e below (T42.setTop (mkF m 153 #[.val (.long x0), .second, .val (.int x1), .val (.long mx), .second, .val (.ref b7), .val (.int (if mx < (1 : Int64) then (0 : Int32) else (1 : Int32))), .val (.int (if mx < (2 : Int64) then (0 : Int32) else (1 : Int32))), .val (.int (if mx < (3 : Int64) then (0 : Int32) else (1 : Int32))), .val (.int (if mx < (4 : Int64) then (0 : Int32) else (1 : Int32))), .val (.int (if mx < (5 : Int64) then (0 : Int32) else (1 : Int32))), .val (.int (if mx < (6 : Int64) then (0 : Int32) else (1 : Int32)))] [(.long (5 : Int64)), (.int (if mx < (5 : Int64) then (0 : Int32) else (1 : Int32)))])) _
        refine XS.lloadN X42.here hx rfl (hb hby at_153) rfl ?_
        show Steps p.tables e below (T42.setTop (mkF m 154 #[.val (.long x0), .second, .val (.int x1), .val (.long mx), .second, .val (.ref b7), .val (.int (if mx < (1 : Int64) then (0 : Int32) else (1 : Int32))), .val (.int (if mx < (2 : Int64) then (0 : Int32) else (1 : Int32))), .val (.int (if mx < (3 : Int64) then (0 : Int32) else (1 : Int32))), .val (.int (if mx < (4 : Int64) then (0 : Int32) else (1 : Int32))), .val (.int (if mx < (5 : Int64) then (0 : Int32) else (1 : Int32))), .val (.int (if mx < (6 : Int64) then (0 : Int32) else (1 : Int32)))] [(.long mx), (.long (5 : Int64)), (.int (if mx < (5 : Int64) then (0 : Int32) else (1 : Int32)))])) _
        refine XS.lcmp X42.here hx rfl (hb hby at_154) rfl ?_
        exact Steps.refl _)
    have st64 : Steps p.tables e below (s₁.setTop (entryFrame m #[(.long x0), (.int x1)] maxLocals)) (T42.setTop (mkF m 163 #[.val (.long x0), .second, .val (.int x1), .val (.long mx), .second, .val (.ref b7), .val (.int (if mx < (1 : Int64) then (0 : Int32) else (1 : Int32))), .val (.int (if mx < (2 : Int64) then (0 : Int32) else (1 : Int32))), .val (.int (if mx < (3 : Int64) then (0 : Int32) else (1 : Int32))), .val (.int (if mx < (4 : Int64) then (0 : Int32) else (1 : Int32))), .val (.int (if mx < (5 : Int64) then (0 : Int32) else (1 : Int32))), .val (.int (if mx < (6 : Int64) then (0 : Int32) else (1 : Int32)))] [(.int (if mx < (5 : Int64) then (0 : Int32) else (1 : Int32))), (.int (if mx < (5 : Int64) then (0 : Int32) else (1 : Int32)))])) := st62.trans (by
        show Steps p.tables e below (T42.setTop (mkF m 155 #[.val (.long x0), .second, .val (.int x1), .val (.long mx), .second, .val (.ref b7), .val (.int (if mx < (1 : Int64) then (0 : Int32) else (1 : Int32))), .val (.int (if mx < (2 : Int64) then (0 : Int32) else (1 : Int32))), .val (.int (if mx < (3 : Int64) then (0 : Int32) else (1 : Int32))), .val (.int (if mx < (4 : Int64) then (0 : Int32) else (1 : Int32))), .val (.int (if mx < (5 : Int64) then (0 : Int32) else (1 : Int32))), .val (.int (if mx < (6 : Int64) then (0 : Int32) else (1 : Int32)))] [(.int (lcmpW (5 : Int64) mx)), (.int (if mx < (5 : Int64) then (0 : Int32) else (1 : Int32)))])) _
        by_cases hc63 : mx < (5 : Int64)
        · show Steps p.tables e below (T42.setTop (mkF m 155 #[.val (.long x0), .second, .val (.int x1), .val (.long mx), .second, .val (.ref b7), .val (.int (if mx < (1 : Int64) then (0 : Int32) else (1 : Int32))), .val (.int (if mx < (2 : Int64) then (0 : Int32) else (1 : Int32))), .val (.int (if mx < (3 : Int64) then (0 : Int32) else (1 : Int32))), .val (.int (if mx < (4 : Int64) then (0 : Int32) else (1 : Int32))), .val (.int (if mx < (5 : Int64) then (0 : Int32) else (1 : Int32))), .val (.int (if mx < (6 : Int64) then (0 : Int32) else (1 : Int32)))] [(.int (lcmpW (5 : Int64) mx)), (.int (if mx < (5 : Int64) then (0 : Int32) else (1 : Int32)))])) _
          refine XS.ifYes X42.here hx rfl (pc0 := 155) (pc' := 162) rfl (hb hby at_155) rfl ((if0 _ _).trans (tlt ((lw_gt _ _).mpr hc63)).2.2.1) (by decide) (by decide) ?_
          show Steps p.tables e below (T42.setTop (mkF m 162 #[.val (.long x0), .second, .val (.int x1), .val (.long mx), .second, .val (.ref b7), .val (.int (if mx < (1 : Int64) then (0 : Int32) else (1 : Int32))), .val (.int (if mx < (2 : Int64) then (0 : Int32) else (1 : Int32))), .val (.int (if mx < (3 : Int64) then (0 : Int32) else (1 : Int32))), .val (.int (if mx < (4 : Int64) then (0 : Int32) else (1 : Int32))), .val (.int (if mx < (5 : Int64) then (0 : Int32) else (1 : Int32))), .val (.int (if mx < (6 : Int64) then (0 : Int32) else (1 : Int32)))] [(.int (if mx < (5 : Int64) then (0 : Int32) else (1 : Int32)))])) _
          refine XS.iconst X42.here hx rfl (hb hby at_162) ?_
          simp only [if_pos hc63]
          exact Steps.refl _
        · show Steps p.tables e below (T42.setTop (mkF m 155 #[.val (.long x0), .second, .val (.int x1), .val (.long mx), .second, .val (.ref b7), .val (.int (if mx < (1 : Int64) then (0 : Int32) else (1 : Int32))), .val (.int (if mx < (2 : Int64) then (0 : Int32) else (1 : Int32))), .val (.int (if mx < (3 : Int64) then (0 : Int32) else (1 : Int32))), .val (.int (if mx < (4 : Int64) then (0 : Int32) else (1 : Int32))), .val (.int (if mx < (5 : Int64) then (0 : Int32) else (1 : Int32))), .val (.int (if mx < (6 : Int64) then (0 : Int32) else (1 : Int32)))] [(.int (lcmpW (5 : Int64) mx)), (.int (if mx < (5 : Int64) then (0 : Int32) else (1 : Int32)))])) _
          refine XS.ifNo X42.here hx rfl (hb hby at_155) rfl ((if0 _ _).trans (flt (fun q => hc63 ((lw_gt _ _).mp q))).2.2.1) ?_
          show Steps p.tables e below (T42.setTop (mkF m 158 #[.val (.long x0), .second, .val (.int x1), .val (.long mx), .second, .val (.ref b7), .val (.int (if mx < (1 : Int64) then (0 : Int32) else (1 : Int32))), .val (.int (if mx < (2 : Int64) then (0 : Int32) else (1 : Int32))), .val (.int (if mx < (3 : Int64) then (0 : Int32) else (1 : Int32))), .val (.int (if mx < (4 : Int64) then (0 : Int32) else (1 : Int32))), .val (.int (if mx < (5 : Int64) then (0 : Int32) else (1 : Int32))), .val (.int (if mx < (6 : Int64) then (0 : Int32) else (1 : Int32)))] [(.int (if mx < (5 : Int64) then (0 : Int32) else (1 : Int32)))])) _
          refine XS.iconst X42.here hx rfl (hb hby at_158) ?_
          show Steps p.tables e below (T42.setTop (mkF m 159 #[.val (.long x0), .second, .val (.int x1), .val (.long mx), .second, .val (.ref b7), .val (.int (if mx < (1 : Int64) then (0 : Int32) else (1 : Int32))), .val (.int (if mx < (2 : Int64) then (0 : Int32) else (1 : Int32))), .val (.int (if mx < (3 : Int64) then (0 : Int32) else (1 : Int32))), .val (.int (if mx < (4 : Int64) then (0 : Int32) else (1 : Int32))), .val (.int (if mx < (5 : Int64) then (0 : Int32) else (1 : Int32))), .val (.int (if mx < (6 : Int64) then (0 : Int32) else (1 : Int32)))] [(.int (1 : Int32)), (.int (if mx < (5 : Int64) then (0 : Int32) else (1 : Int32)))])) _
          refine XS.goto X42.here hx rfl (pc0 := 159) (pc' := 163) rfl (hb hby at_159) (by decide) (by decide) ?_
          simp only [if_neg hc63]
          exact Steps.refl _
        )
    have hf65 : (if mx < (5 : Int64) then (0 : Int32) else (1 : Int32)) = (if mx < (5 : Int64) then (0 : Int32) else (1 : Int32)) := rfl
    have st66 : Steps p.tables e below (s₁.setTop (entryFrame m #[(.long x0), (.int x1)] maxLocals)) (T42.setTop (mkF m 173 #[.val (.long x0), .second, .val (.int x1), .val (.long mx), .second, .val (.ref b7), .val (.int (if mx < (1 : Int64) then (0 : Int32) else (1 : Int32))), .val (.int (if mx < (2 : Int64) then (0 : Int32) else (1 : Int32))), .val (.int (if mx < (3 : Int64) then (0 : Int32) else (1 : Int32))), .val (.int (if mx < (4 : Int64) then (0 : Int32) else (1 : Int32))), .val (.int (if mx < (5 : Int64) then (0 : Int32) else (1 : Int32))), .val (.int (if mx < (6 : Int64) then (0 : Int32) else (1 : Int32)))] [(.int (lcmpW (6 : Int64) mx)), (.int (if mx < (6 : Int64) then (0 : Int32) else (1 : Int32)))])) := st64.trans (by
        show Steps p.tables e below (T42.setTop (mkF m 163 #[.val (.long x0), .second, .val (.int x1), .val (.long mx), .second, .val (.ref b7), .val (.int (if mx < (1 : Int64) then (0 : Int32) else (1 : Int32))), .val (.int (if mx < (2 : Int64) then (0 : Int32) else (1 : Int32))), .val (.int (if mx < (3 : Int64) then (0 : Int32) else (1 : Int32))), .val (.int (if mx < (4 : Int64) then (0 : Int32) else (1 : Int32))), .val (.int (if mx < (5 : Int64) then (0 : Int32) else (1 : Int32))), .val (.int (if mx < (6 : Int64) then (0 : Int32) else (1 : Int32)))] [(.int (if mx < (5 : Int64) then (0 : Int32) else (1 : Int32))), (.int (if mx < (5 : Int64) then (0 : Int32) else (1 : Int32)))])) _
        refine XS.icmpNo X42.here hx rfl (hb hby at_163) rfl (teq hf65).2 ?_
        show Steps p.tables e below (T42.setTop (mkF m 166 #[.val (.long x0), .second, .val (.int x1), .val (.long mx), .second, .val (.ref b7), .val (.int (if mx < (1 : Int64) then (0 : Int32) else (1 : Int32))), .val (.int (if mx < (2 : Int64) then (0 : Int32) else (1 : Int32))), .val (.int (if mx < (3 : Int64) then (0 : Int32) else (1 : Int32))), .val (.int (if mx < (4 : Int64) then (0 : Int32) else (1 : Int32))), .val (.int (if mx < (5 : Int64) then (0 : Int32) else (1 : Int32))), .val (.int (if mx < (6 : Int64) then (0 : Int32) else (1 : Int32)))] [])) _
        refine XS.iload X42.here hx rfl (hb hby at_166) rfl ?_
        show Steps p.tables e below (T42.setTop (mkF m 168 #[.val (.long x0), .second, .val (.int x1), .val (.long mx), .second, .val (.ref b7), .val (.int (if mx < (1 : Int64) then (0 : Int32) else (1 : Int32))), .val (.int (if mx < (2 : Int64) then (0 : Int32) else (1 : Int32))), .val (.int (if mx < (3 : Int64) then (0 : Int32) else (1 : Int32))), .val (.int (if mx < (4 : Int64) then (0 : Int32) else (1 : Int32))), .val (.int (if mx < (5 : Int64) then (0 : Int32) else (1 : Int32))), .val (.int (if mx < (6 : Int64) then (0 : Int32) else (1 : Int32)))] [(.int (if mx < (6 : Int64) then (0 : Int32) else (1 : Int32)))])) _
        refine X42.ldc2Long hx hown (mvT hZ (hw _ (List.mem_of_getElem? (i := 27) rfl))) (g := (mkF m 168 #[.val (.long x0), .second, .val (.int x1), .val (.long mx), .second, .val (.ref b7), .val (.int (if mx < (1 : Int64) then (0 : Int32) else (1 : Int32))), .val (.int (if mx < (2 : Int64) then (0 : Int32) else (1 : Int32))), .val (.int (if mx < (3 : Int64) then (0 : Int32) else (1 : Int32))), .val (.int (if mx < (4 : Int64) then (0 : Int32) else (1 : Int32))), .val (.int (if mx < (5 : Int64) then (0 : Int32) else (1 : Int32))), .val (.int (if mx < (6 : Int64) then (0 : Int32) else (1 : Int32)))] [(.int (if mx < (6 : Int64) then (0 : Int32) else (1 : Int32)))])) rfl (hb hby at_168) _ ?_
        show Steps p.tables e below (T42.setTop (mkF m 171 #[.val (.long x0), .second, .val (.int x1), .val (.long mx), .second, .val (.ref b7), .val (.int (if mx < (1 : Int64) then (0 : Int32) else (1 : Int32))), .val (.int (if mx < (2 : Int64) then (0 : Int32) else (1 : Int32))), .val (.int (if mx < (3 : Int64) then (0 : Int32) else (1 : Int32))), .val (.int (if mx < (4 : Int64) then (0 : Int32) else (1 : Int32))), .val (.int (if mx < (5 : Int64) then (0 : Int32) else (1 : Int32))), .val (.int (if mx < (6 : Int64) then (0 : Int32) else (1 : Int32)))] [(.long (6 : Int64)), (.int (if mx < (6 : Int64) then (0 : Int32) else (1 : Int32)))])) _
        refine XS.lloadN X42.here hx rfl (hb hby at_171) rfl ?_
        show Steps p.tables e below (T42.setTop (mkF m 172 #[.val (.long x0), .second, .val (.int x1), .val (.long mx), .second, .val (.ref b7), .val (.int (if mx < (1 : Int64) then (0 : Int32) else (1 : Int32))), .val (.int (if mx < (2 : Int64) then (0 : Int32) else (1 : Int32))), .val (.int (if mx < (3 : Int64) then (0 : Int32) else (1 : Int32))), .val (.int (if mx < (4 : Int64) then (0 : Int32) else (1 : Int32))), .val (.int (if mx < (5 : Int64) then (0 : Int32) else (1 : Int32))), .val (.int (if mx < (6 : Int64) then (0 : Int32) else (1 : Int32)))] [(.long mx), (.long (6 : Int64)), (.int (if mx < (6 : Int64) then (0 : Int32) else (1 : Int32)))])) _
        refine XS.lcmp X42.here hx rfl (hb hby at_172) rfl ?_
        exact Steps.refl _)
    have st68 : Steps p.tables e below (s₁.setTop (entryFrame m #[(.long x0), (.int x1)] maxLocals)) (T42.setTop (mkF m 181 #[.val (.long x0), .second, .val (.int x1), .val (.long mx), .second, .val (.ref b7), .val (.int (if mx < (1 : Int64) then (0 : Int32) else (1 : Int32))), .val (.int (if mx < (2 : Int64) then (0 : Int32) else (1 : Int32))), .val (.int (if mx < (3 : Int64) then (0 : Int32) else (1 : Int32))), .val (.int (if mx < (4 : Int64) then (0 : Int32) else (1 : Int32))), .val (.int (if mx < (5 : Int64) then (0 : Int32) else (1 : Int32))), .val (.int (if mx < (6 : Int64) then (0 : Int32) else (1 : Int32)))] [(.int (if mx < (6 : Int64) then (0 : Int32) else (1 : Int32))), (.int (if mx < (6 : Int64) then (0 : Int32) else (1 : Int32)))])) := st66.trans (by
        show Steps p.tables e below (T42.setTop (mkF m 173 #[.val (.long x0), .second, .val (.int x1), .val (.long mx), .second, .val (.ref b7), .val (.int (if mx < (1 : Int64) then (0 : Int32) else (1 : Int32))), .val (.int (if mx < (2 : Int64) then (0 : Int32) else (1 : Int32))), .val (.int (if mx < (3 : Int64) then (0 : Int32) else (1 : Int32))), .val (.int (if mx < (4 : Int64) then (0 : Int32) else (1 : Int32))), .val (.int (if mx < (5 : Int64) then (0 : Int32) else (1 : Int32))), .val (.int (if mx < (6 : Int64) then (0 : Int32) else (1 : Int32)))] [(.int (lcmpW (6 : Int64) mx)), (.int (if mx < (6 : Int64) then (0 : Int32) else (1 : Int32)))])) _
        by_cases hc67 : mx < (6 : Int64)
        · show Steps p.tables e below (T42.setTop (mkF m 173 #[.val (.long x0), .second, .val (.int x1), .val (.long mx), .second, .val (.ref b7), .val (.int (if mx < (1 : Int64) then (0 : Int32) else (1 : Int32))), .val (.int (if mx < (2 : Int64) then (0 : Int32) else (1 : Int32))), .val (.int (if mx < (3 : Int64) then (0 : Int32) else (1 : Int32))), .val (.int (if mx < (4 : Int64) then (0 : Int32) else (1 : Int32))), .val (.int (if mx < (5 : Int64) then (0 : Int32) else (1 : Int32))), .val (.int (if mx < (6 : Int64) then (0 : Int32) else (1 : Int32)))] [(.int (lcmpW (6 : Int64) mx)), (.int (if mx < (6 : Int64) then (0 : Int32) else (1 : Int32)))])) _
          refine XS.ifYes X42.here hx rfl (pc0 := 173) (pc' := 180) rfl (hb hby at_173) rfl ((if0 _ _).trans (tlt ((lw_gt _ _).mpr hc67)).2.2.1) (by decide) (by decide) ?_
          show Steps p.tables e below (T42.setTop (mkF m 180 #[.val (.long x0), .second, .val (.int x1), .val (.long mx), .second, .val (.ref b7), .val (.int (if mx < (1 : Int64) then (0 : Int32) else (1 : Int32))), .val (.int (if mx < (2 : Int64) then (0 : Int32) else (1 : Int32))), .val (.int (if mx < (3 : Int64) then (0 : Int32) else (1 : Int32))), .val (.int (if mx < (4 : Int64) then (0 : Int32) else (1 : Int32))), .val (.int (if mx < (5 : Int64) then (0 : Int32) else (1 : Int32))), .val (.int (if mx < (6 : Int64) then (0 : Int32) else (1 : Int32)))] [(.int (if mx < (6 : Int64) then (0 : Int32) else (1 : Int32)))])) _
          refine XS.iconst X42.here hx rfl (hb hby at_180) ?_
          simp only [if_pos hc67]
          exact Steps.refl _
        · show Steps p.tables e below (T42.setTop (mkF m 173 #[.val (.long x0), .second, .val (.int x1), .val (.long mx), .second, .val (.ref b7), .val (.int (if mx < (1 : Int64) then (0 : Int32) else (1 : Int32))), .val (.int (if mx < (2 : Int64) then (0 : Int32) else (1 : Int32))), .val (.int (if mx < (3 : Int64) then (0 : Int32) else (1 : Int32))), .val (.int (if mx < (4 : Int64) then (0 : Int32) else (1 : Int32))), .val (.int (if mx < (5 : Int64) then (0 : Int32) else (1 : Int32))), .val (.int (if mx < (6 : Int64) then (0 : Int32) else (1 : Int32)))] [(.int (lcmpW (6 : Int64) mx)), (.int (if mx < (6 : Int64) then (0 : Int32) else (1 : Int32)))])) _
          refine XS.ifNo X42.here hx rfl (hb hby at_173) rfl ((if0 _ _).trans (flt (fun q => hc67 ((lw_gt _ _).mp q))).2.2.1) ?_
          show Steps p.tables e below (T42.setTop (mkF m 176 #[.val (.long x0), .second, .val (.int x1), .val (.long mx), .second, .val (.ref b7), .val (.int (if mx < (1 : Int64) then (0 : Int32) else (1 : Int32))), .val (.int (if mx < (2 : Int64) then (0 : Int32) else (1 : Int32))), .val (.int (if mx < (3 : Int64) then (0 : Int32) else (1 : Int32))), .val (.int (if mx < (4 : Int64) then (0 : Int32) else (1 : Int32))), .val (.int (if mx < (5 : Int64) then (0 : Int32) else (1 : Int32))), .val (.int (if mx < (6 : Int64) then (0 : Int32) else (1 : Int32)))] [(.int (if mx < (6 : Int64) then (0 : Int32) else (1 : Int32)))])) _
          refine XS.iconst X42.here hx rfl (hb hby at_176) ?_
          show Steps p.tables e below (T42.setTop (mkF m 177 #[.val (.long x0), .second, .val (.int x1), .val (.long mx), .second, .val (.ref b7), .val (.int (if mx < (1 : Int64) then (0 : Int32) else (1 : Int32))), .val (.int (if mx < (2 : Int64) then (0 : Int32) else (1 : Int32))), .val (.int (if mx < (3 : Int64) then (0 : Int32) else (1 : Int32))), .val (.int (if mx < (4 : Int64) then (0 : Int32) else (1 : Int32))), .val (.int (if mx < (5 : Int64) then (0 : Int32) else (1 : Int32))), .val (.int (if mx < (6 : Int64) then (0 : Int32) else (1 : Int32)))] [(.int (1 : Int32)), (.int (if mx < (6 : Int64) then (0 : Int32) else (1 : Int32)))])) _
          refine XS.goto X42.here hx rfl (pc0 := 177) (pc' := 181) rfl (hb hby at_177) (by decide) (by decide) ?_
          simp only [if_neg hc67]
          exact Steps.refl _
        )
    have hf69 : (if mx < (6 : Int64) then (0 : Int32) else (1 : Int32)) = (if mx < (6 : Int64) then (0 : Int32) else (1 : Int32)) := rfl
    have st70 : Steps p.tables e below (s₁.setTop (entryFrame m #[(.long x0), (.int x1)] maxLocals)) (T42.setTop (mkF m 189 #[.val (.long x0), .second, .val (.int x1), .val (.long mx), .second, .val (.ref b7), .val (.int (if mx < (1 : Int64) then (0 : Int32) else (1 : Int32))), .val (.int (if mx < (2 : Int64) then (0 : Int32) else (1 : Int32))), .val (.int (if mx < (3 : Int64) then (0 : Int32) else (1 : Int32))), .val (.int (if mx < (4 : Int64) then (0 : Int32) else (1 : Int32))), .val (.int (if mx < (5 : Int64) then (0 : Int32) else (1 : Int32))), .val (.int (if mx < (6 : Int64) then (0 : Int32) else (1 : Int32)))] [(.int (1 : Int32))])) := st68.trans (by
        show Steps p.tables e below (T42.setTop (mkF m 181 #[.val (.long x0), .second, .val (.int x1), .val (.long mx), .second, .val (.ref b7), .val (.int (if mx < (1 : Int64) then (0 : Int32) else (1 : Int32))), .val (.int (if mx < (2 : Int64) then (0 : Int32) else (1 : Int32))), .val (.int (if mx < (3 : Int64) then (0 : Int32) else (1 : Int32))), .val (.int (if mx < (4 : Int64) then (0 : Int32) else (1 : Int32))), .val (.int (if mx < (5 : Int64) then (0 : Int32) else (1 : Int32))), .val (.int (if mx < (6 : Int64) then (0 : Int32) else (1 : Int32)))] [(.int (if mx < (6 : Int64) then (0 : Int32) else (1 : Int32))), (.int (if mx < (6 : Int64) then (0 : Int32) else (1 : Int32)))])) _
        refine XS.icmpNo X42.here hx rfl (hb hby at_181) rfl (teq hf69).2 ?_
        show Steps p.tables e below (T42.setTop (mkF m 184 #[.val (.long x0), .second, .val (.int x1), .val (.long mx), .second, .val (.ref b7), .val (.int (if mx < (1 : Int64) then (0 : Int32) else (1 : Int32))), .val (.int (if mx < (2 : Int64) then (0 : Int32) else (1 : Int32))), .val (.int (if mx < (3 : Int64) then (0 : Int32) else (1 : Int32))), .val (.int (if mx < (4 : Int64) then (0 : Int32) else (1 : Int32))), .val (.int (if mx < (5 : Int64) then (0 : Int32) else (1 : Int32))), .val (.int (if mx < (6 : Int64) then (0 : Int32) else (1 : Int32)))] [])) _
        refine XS.iconst X42.here hx rfl (hb hby at_184) ?_
        show Steps p.tables e below (T42.setTop (mkF m 185 #[.val (.long x0), .second, .val (.int x1), .val (.long mx), .second, .val (.ref b7), .val (.int (if mx < (1 : Int64) then (0 : Int32) else (1 : Int32))), .val (.int (if mx < (2 : Int64) then (0 : Int32) else (1 : Int32))), .val (.int (if mx < (3 : Int64) then (0 : Int32) else (1 : Int32))), .val (.int (if mx < (4 : Int64) then (0 : Int32) else (1 : Int32))), .val (.int (if mx < (5 : Int64) then (0 : Int32) else (1 : Int32))), .val (.int (if mx < (6 : Int64) then (0 : Int32) else (1 : Int32)))] [(.int (1 : Int32))])) _
        refine XS.goto X42.here hx rfl (pc0 := 185) (pc' := 189) rfl (hb hby at_185) (by decide) (by decide) ?_
        exact Steps.refl _)
    obtain ⟨fs, hr, hrun, hended, hW, hsame⟩ := X42.leave (v := some (.int (1 : Int32))) (fun h => by rw [Bd.returns] at h; cases h)
    refine ⟨_, _, st70.trans ?_, hrun, hended, _, _, rfl, ?_, ⟨_, rfl⟩, hW, hsame.mono (by decide) (by decide)⟩
    · exact retN X42 hx (t := .boolean) Bd.returns (by simp) (hb hby at_189) hr
    · show Q0 Z x0 x1 h0 n0 _ T42.heap _
      exact ⟨rfl, N42⟩
  · have st71 : Steps p.tables e below (s₁.setTop (entryFrame m #[(.long x0), (.int x1)] maxLocals)) (s₁.setTop (mkF m 25 #[.val (.long x0), .second, .val (.int x1), .unset, .unset, .unset, .unset, .unset, .unset, .unset, .unset, .unset] [(.long ((x0 &&& (7 : Int64)) + (1 : Int64)))])) := st1.trans (by
        show Steps p.tables e below (s₁.setTop (mkF m 3 #[.val (.long x0), .second, .val (.int x1), .unset, .unset, .unset, .unset, .unset, .unset, .unset, .unset, .unset] [(.int (x1 &&& (1 : Int32)))])) _
        refine XS.ifNo X0.here hx rfl (hb hby at_3) rfl ((if0 _ _).trans (feq hc2).1) ?_
        show Steps p.tables e below (s₁.setTop (mkF m 6 #[.val (.long x0), .second, .val (.int x1), .unset, .unset, .unset, .unset, .unset, .unset, .unset, .unset, .unset] [])) _
        refine XS.lloadN X0.here hx rfl (hb hby at_6) rfl ?_
        show Steps p.tables e below (s₁.setTop (mkF m 7 #[.val (.long x0), .second, .val (.int x1), .unset, .unset, .unset, .unset, .unset, .unset, .unset, .unset, .unset] [(.long x0)])) _
        refine X0.ldc2Long hx hown (mvT hZ (hw _ (List.mem_of_getElem? (i := 28) rfl))) (g := (mkF m 7 #[.val (.long x0), .second, .val (.int x1), .unset, .unset, .unset, .unset, .unset, .unset, .unset, .unset, .unset] [(.long x0)])) rfl (hb hby at_7) _ ?_
        show Steps p.tables e below (s₁.setTop (mkF m 10 #[.val (.long x0), .second, .val (.int x1), .unset, .unset, .unset, .unset, .unset, .unset, .unset, .unset, .unset] [(.long (7 : Int64)), (.long x0)])) _
        refine XS.land X0.here hx rfl (hb hby at_10) rfl ?_
        show Steps p.tables e below (s₁.setTop (mkF m 11 #[.val (.long x0), .second, .val (.int x1), .unset, .unset, .unset, .unset, .unset, .unset, .unset, .unset, .unset] [(.long (x0 &&& (7 : Int64)))])) _
        refine XS.lconst X0.here hx rfl (hb hby at_11) ?_
        show Steps p.tables e below (s₁.setTop (mkF m 12 #[.val (.long x0), .second, .val (.int x1), .unset, .unset, .unset, .unset, .unset, .unset, .unset, .unset, .unset] [(.long (1 : Int64)), (.long (x0 &&& (7 : Int64)))])) _
        refine XS.ladd X0.here hx rfl (hb hby at_12) rfl ?_
        show Steps p.tables e below (s₁.setTop (mkF m 13 #[.val (.long x0), .second, .val (.int x1), .unset, .unset, .unset, .unset, .unset, .unset, .unset, .unset, .unset] [(.long ((x0 &&& (7 : Int64)) + (1 : Int64)))])) _
        refine XS.goto X0.here hx rfl (pc0 := 13) (pc' := 25) rfl (hb hby at_13) (by decide) (by decide) ?_
        exact Steps.refl _)
    have hm : ¬ ((x0 &&& (7 : Int64)) + (1 : Int64)) < (1 : Int64) := own_and7 _
    obtain ⟨mx, hmx⟩ : ∃ z, z = ((x0 &&& (7 : Int64)) + (1 : Int64)) := ⟨_, rfl⟩
    rw [← hmx] at st71 hm
    have st72 : Steps p.tables e below (s₁.setTop (entryFrame m #[(.long x0), (.int x1)] maxLocals)) (s₁.setTop (mkF m 26 #[.val (.long x0), .second, .val (.int x1), .val (.long mx), .second, .unset, .unset, .unset, .unset, .unset, .unset, .unset] [])) := st71.trans (by
        show Steps p.tables e below (s₁.setTop (mkF m 25 #[.val (.long x0), .second, .val (.int x1), .unset, .unset, .unset, .unset, .unset, .unset, .unset, .unset, .unset] [(.long mx)])) _
        refine XS.lstoreN X0.here hx rfl (hb hby at_25) rfl (l' := #[.val (.long x0), .second, .val (.int x1), .val (.long mx), .second, .unset, .unset, .unset, .unset, .unset, .unset, .unset]) rfl ?_
        exact Steps.refl _)
    obtain ⟨T73, h73, X73, e73, E73, A73, D73, -, sr73⟩ := newO X0 hx hZ hown (hw _ (List.mem_of_getElem? (i := 5) rfl)) (hw _ (List.mem_of_getElem? (i := 6) rfl)) (hw _ (List.mem_of_getElem? (i := 7) rfl)) e0 (g := (mkF m 26 #[.val (.long x0), .second, .val (.int x1), .val (.long mx), .second, .unset, .unset, .unset, .unset, .unset, .unset, .unset] [])) rfl (hb hby at_26) (by decide) (by decide)
    obtain ⟨b73, g73⟩ : ∃ z, z = h0.size := ⟨_, rfl⟩
    rw [← g73] at A73 D73 sr73
    have g_b73 : n0 ≤ b73 := Nat.le_trans Z0 (Nat.le_of_eq g73.symm)
    have f74 : Fld Z h73 b73 "com/example/treeline/treeline/common/StepLimit" "max" "J" (.long (0 : Int64)) := D73 (Or.inr (hw _ (List.mem_of_getElem? (i := 15) rfl))) (ty := .long) (by decide)
    have f75 : Fld Z h73 b73 "com/example/treeline/treeline/common/StepLimit" "taken" "J" (.long (0 : Int64)) := D73 (Or.inl (hw _ (List.mem_of_getElem? (i := 22) rfl))) (ty := .long) (by decide)
    have Z73 : n0 ≤ h73.size := Nat.le_trans Z0 E73.1
    have st76 : Steps p.tables e below (s₁.setTop (entryFrame m #[(.long x0), (.int x1)] maxLocals)) (T73.setTop (mkF m 29 #[.val (.long x0), .second, .val (.int x1), .val (.long mx), .second, .unset, .unset, .unset, .unset, .unset, .unset, .unset] [(.ref b73)])) := st72.trans (sr73 _ (Steps.refl _))
    have st77 : Steps p.tables e below (s₁.setTop (entryFrame m #[(.long x0), (.int x1)] maxLocals)) (T73.setTop (mkF m 31 #[.val (.long x0), .second, .val (.int x1), .val (.long mx), .second, .unset, .unset, .unset, .unset, .unset, .unset, .unset] [(.long mx), (.ref b73), (.ref b73)])) := st76.trans (by
        show Steps p.tables e below (T73.setTop (mkF m 29 #[.val (.long x0), .second, .val (.int x1), .val (.long mx), .second, .unset, .unset, .unset, .unset, .unset, .unset, .unset] [(.ref b73)])) _
        refine XS.dup X73.here hx rfl (hb hby at_29) rfl rfl ?_
        show Steps p.tables e below (T73.setTop (mkF m 30 #[.val (.long x0), .second, .val (.int x1), .val (.long mx), .second, .unset, .unset, .unset, .unset, .unset, .unset, .unset] [(.ref b73), (.ref b73)])) _
        refine XS.lloadN X73.here hx rfl (hb hby at_30) rfl ?_
        exact Steps.refl _)
    obtain ⟨_, _, ⟨T78, L78, k78, n78⟩, -, X78, ⟨Lc78, hQ78, l78, y78, z78⟩, sr78⟩ := X73.specialBack hx (y := (⟨"com/example/treeline/treeline/common/StepLimit", "<init>", "(J)V"⟩ : MethodName)) rfl hown (mvT hZ (hw _ (List.mem_of_getElem? (i := 8) rfl))) (mvT hZ (hw _ (List.mem_of_getElem? (i := 9) rfl))) (mvT hZ (hw _ (List.mem_of_getElem? (i := 10) rfl))) (by decide) (backOf (W := 1) (rm2 l Z a0 hw [] b73 mx  h73 n0 Z73 A73 f74 f75 g_b73 hm) hZ (hw _ (List.mem_of_getElem? (i := 10) rfl)) (hw _ (List.mem_of_getElem? (i := 7) rfl)) (by decide) (by decide)) (g := (mkF m 31 #[.val (.long x0), .second, .val (.int x1), .val (.long mx), .second, .unset, .unset, .unset, .unset, .unset, .unset, .unset] [(.long mx), (.ref b73), (.ref b73)])) rfl (by rw [hml]; rfl) (Steps.refl _) (a := b73) (argsL := [(.long mx)]) (rest := [(.ref b73)]) (lenOf pd_1 rfl) rfl (by show 2 * 0 + _ ≤ _; exact Nat.le_of_eq rfl) (hb hby at_31) (fun _ _ => ⟨rfl, e73, (by decide : 1 + 0 ≤ _), (by decide : 2 + 0 ≤ _)⟩)
    dsimp only [Pt.U, Pt.locs, Pt.cells, Pt.slots] at X78 l78 y78 z78 sr78 hQ78
    subst l78 y78 z78
    obtain ⟨rfl, N78q, K78c, f78_0, f78_1, f78_2⟩ := hQ78
    have N78 := Fr.app N0 N78q
    have f79 : Exa Z T78.heap b73 "com/example/treeline/treeline/common/StepLimit" := A73.keep K78c
    have Z80 : n0 ≤ T78.heap.size := Nat.le_trans Z73 K78c.1
    have st81 : Steps p.tables e below (s₁.setTop (entryFrame m #[(.long x0), (.int x1)] maxLocals)) (T78.setTop (mkF m 34 #[.val (.long x0), .second, .val (.int x1), .val (.long mx), .second, .unset, .unset, .unset, .unset, .unset, .unset, .unset] [(.ref b73)])) := st77.trans (sr78)
    have st82 : Steps p.tables e below (s₁.setTop (entryFrame m #[(.long x0), (.int x1)] maxLocals)) (T78.setTop (mkF m 38 #[.val (.long x0), .second, .val (.int x1), .val (.long mx), .second, .val (.ref b73), .unset, .unset, .unset, .unset, .unset, .unset] [(.ref b73)])) := st81.trans (by
        show Steps p.tables e below (T78.setTop (mkF m 34 #[.val (.long x0), .second, .val (.int x1), .val (.long mx), .second, .unset, .unset, .unset, .unset, .unset, .unset, .unset] [(.ref b73)])) _
        refine XS.astore X78.here hx rfl (hb hby at_34) rfl rfl (l' := #[.val (.long x0), .second, .val (.int x1), .val (.long mx), .second, .val (.ref b73), .unset, .unset, .unset, .unset, .unset, .unset]) rfl ?_
        show Steps p.tables e below (T78.setTop (mkF m 36 #[.val (.long x0), .second, .val (.int x1), .val (.long mx), .second, .val (.ref b73), .unset, .unset, .unset, .unset, .unset, .unset] [])) _
        refine XS.aload X78.here hx rfl (hb hby at_36) rfl rfl ?_
        exact Steps.refl _)
    have ft0 : Fld Z T78.heap b73 "com/example/treeline/treeline/common/StepLimit" "taken" "J" (.long (if mx < (0 : Int64) then mx else (0 : Int64))) := by rw [if_neg (show ¬ mx < (0 : Int64) from fun q => by have k1 : (1 : Int64).toInt = 1 := (by decide); have k0 : (0 : Int64).toInt = 0 := (by decide); rw [Int64.lt_iff_toInt_lt] at *; omega)]; exact f78_2
    obtain ⟨cq83, kq83, q83a, q83b, q83c⟩ := isOf hZ rfl f78_0
    obtain ⟨_, _, ⟨T83, L83, k83, n83⟩, -, X83, ⟨Lc83, hQ83, l83, y83, z83⟩, sr83⟩ := X78.virtualBack hx (y := (⟨"com/example/treeline/treeline/common/StepLimit", "take", "()Z"⟩ : MethodName)) (z := (⟨"com/example/treeline/treeline/common/StepLimit", "take", "()Z"⟩ : MethodName)) hown (mvT hZ (hw _ (List.mem_of_getElem? (i := 16) rfl))) (mvT hZ (hw _ (List.mem_of_getElem? (i := 17) rfl))) (notFace_of_selects (args := #[]) (mvT hZ (hw _ (List.mem_of_getElem? (i := 19) rfl)))) (mvT hZ (hw _ (List.mem_of_getElem? (i := 19) rfl))) (mvT hZ (hw _ (List.mem_of_getElem? (i := 18) rfl))) (by decide) (backOf (W := 0) (rm4 l Z a0 hw [] b73 mx (0 : Int64) (1 : Int64) T78.heap n0 Z80 f78_0 f78_1 ft0 g_b73 hm (by decide) (by decide)) hZ (hw _ (List.mem_of_getElem? (i := 20) rfl)) (hw _ (List.mem_of_getElem? (i := 7) rfl)) (by decide) (by decide)) q83a q83c (g := (mkF m 38 #[.val (.long x0), .second, .val (.int x1), .val (.long mx), .second, .val (.ref b73), .unset, .unset, .unset, .unset, .unset, .unset] [(.ref b73)])) rfl (by rw [hml]; rfl) (Steps.refl _) (argsL := []) (rest := []) (lenOf pd_2 rfl) rfl (by show 2 * 0 + _ ≤ _; exact Nat.le_of_eq rfl) (hb hby at_38) (fun _ _ => ⟨rfl, rfl, (by decide : 1 + 0 ≤ _), (by decide : 2 + 0 ≤ _)⟩)
    dsimp only [Pt.U, Pt.locs, Pt.cells, Pt.slots] at X83 l83 y83 z83 sr83 hQ83
    subst l83 y83 z83
    obtain ⟨rfl, N83q, K83c, f83_0, f83_1, f83_2⟩ := hQ83
    have N83 := Fr.app N78 N83q
    have f84 : Exa Z T83.heap b73 "com/example/treeline/treeline/common/StepLimit" := f78_0.keep K83c
    have Z85 : n0 ≤ T83.heap.size := Nat.le_trans Z80 K83c.1
    have st86 : Steps p.tables e below (s₁.setTop (entryFrame m #[(.long x0), (.int x1)] maxLocals)) (T83.setTop (mkF m 41 #[.val (.long x0), .second, .val (.int x1), .val (.long mx), .second, .val (.ref b73), .unset, .unset, .unset, .unset, .unset, .unset] [(.int (if mx < (1 : Int64) then (0 : Int32) else (1 : Int32)))])) := st82.trans (sr83)
    have st87 : Steps p.tables e below (s₁.setTop (entryFrame m #[(.long x0), (.int x1)] maxLocals)) (T83.setTop (mkF m 45 #[.val (.long x0), .second, .val (.int x1), .val (.long mx), .second, .val (.ref b73), .val (.int (if mx < (1 : Int64) then (0 : Int32) else (1 : Int32))), .unset, .unset, .unset, .unset, .unset] [(.ref b73)])) := st86.trans (by
        show Steps p.tables e below (T83.setTop (mkF m 41 #[.val (.long x0), .second, .val (.int x1), .val (.long mx), .second, .val (.ref b73), .unset, .unset, .unset, .unset, .unset, .unset] [(.int (if mx < (1 : Int64) then (0 : Int32) else (1 : Int32)))])) _
        refine XS.istore X83.here hx rfl (hb hby at_41) rfl (l' := #[.val (.long x0), .second, .val (.int x1), .val (.long mx), .second, .val (.ref b73), .val (.int (if mx < (1 : Int64) then (0 : Int32) else (1 : Int32))), .unset, .unset, .unset, .unset, .unset]) rfl ?_
        show Steps p.tables e below (T83.setTop (mkF m 43 #[.val (.long x0), .second, .val (.int x1), .val (.long mx), .second, .val (.ref b73), .val (.int (if mx < (1 : Int64) then (0 : Int32) else (1 : Int32))), .unset, .unset, .unset, .unset, .unset] [])) _
        refine XS.aload X83.here hx rfl (hb hby at_43) rfl rfl ?_
        exact Steps.refl _)
    obtain ⟨cq88, kq88, q88a, q88b, q88c⟩ := isOf hZ rfl f83_0
    obtain ⟨_, _, ⟨T88, L88, k88, n88⟩, -, X88, ⟨Lc88, hQ88, l88, y88, z88⟩, sr88⟩ := X83.virtualBack hx (y := (⟨"com/example/treeline/treeline/common/StepLimit", "take", "()Z"⟩ : MethodName)) (z := (⟨"com/example/treeline/treeline/common/StepLimit", "take", "()Z"⟩ : MethodName)) hown (mvT hZ (hw _ (List.mem_of_getElem? (i := 16) rfl))) (mvT hZ (hw _ (List.mem_of_getElem? (i := 17) rfl))) (notFace_of_selects (args := #[]) (mvT hZ (hw _ (List.mem_of_getElem? (i := 19) rfl)))) (mvT hZ (hw _ (List.mem_of_getElem? (i := 19) rfl))) (mvT hZ (hw _ (List.mem_of_getElem? (i := 18) rfl))) (by decide) (backOf (W := 0) (rm4 l Z a0 hw [] b73 mx (1 : Int64) (2 : Int64) T83.heap n0 Z85 f83_0 f83_1 f83_2 g_b73 hm (by decide) (by decide)) hZ (hw _ (List.mem_of_getElem? (i := 20) rfl)) (hw _ (List.mem_of_getElem? (i := 7) rfl)) (by decide) (by decide)) q88a q88c (g := (mkF m 45 #[.val (.long x0), .second, .val (.int x1), .val (.long mx), .second, .val (.ref b73), .val (.int (if mx < (1 : Int64) then (0 : Int32) else (1 : Int32))), .unset, .unset, .unset, .unset, .unset] [(.ref b73)])) rfl (by rw [hml]; rfl) (Steps.refl _) (argsL := []) (rest := []) (lenOf pd_2 rfl) rfl (by show 2 * 0 + _ ≤ _; exact Nat.le_of_eq rfl) (hb hby at_45) (fun _ _ => ⟨rfl, rfl, (by decide : 1 + 0 ≤ _), (by decide : 2 + 0 ≤ _)⟩)
    dsimp only [Pt.U, Pt.locs, Pt.cells, Pt.slots] at X88 l88 y88 z88 sr88 hQ88
    subst l88 y88 z88
    obtain ⟨rfl, N88q, K88c, f88_0, f88_1, f88_2⟩ := hQ88
    have N88 := Fr.app N83 N88q
    have f89 : Exa Z T88.heap b73 "com/example/treeline/treeline/common/StepLimit" := f83_0.keep K88c
    have Z90 : n0 ≤ T88.heap.size := Nat.le_trans Z85 K88c.1
    have st91 : Steps p.tables e below (s₁.setTop (entryFrame m #[(.long x0), (.int x1)] maxLocals)) (T88.setTop (mkF m 48 #[.val (.long x0), .second, .val (.int x1), .val (.long mx), .second, .val (.ref b73), .val (.int (if mx < (1 : Int64) then (0 : Int32) else (1 : Int32))), .unset, .unset, .unset, .unset, .unset] [(.int (if mx < (2 : Int64) then (0 : Int32) else (1 : Int32)))])) := st87.trans (sr88)
    have st92 : Steps p.tables e below (s₁.setTop (entryFrame m #[(.long x0), (.int x1)] maxLocals)) (T88.setTop (mkF m 52 #[.val (.long x0), .second, .val (.int x1), .val (.long mx), .second, .val (.ref b73), .val (.int (if mx < (1 : Int64) then (0 : Int32) else (1 : Int32))), .val (.int (if mx < (2 : Int64) then (0 : Int32) else (1 : Int32))), .unset, .unset, .unset, .unset] [(.ref b73)])) := st91.trans (by
        show Steps p.tables e below (T88.setTop (mkF m 48 #[.val (.long x0), .second, .val (.int x1), .val (.long mx), .second, .val (.ref b73), .val (.int (if mx < (1 : Int64) then (0 : Int32) else (1 : Int32))), .unset, .unset, .unset, .unset, .unset] [(.int (if mx < (2 : Int64) then (0 : Int32) else (1 : Int32)))])) _
        refine XS.istore X88.here hx rfl (hb hby at_48) rfl (l' := #[.val (.long x0), .second, .val (.int x1), .val (.long mx), .second, .val (.ref b73), .val (.int (if mx < (1 : Int64) then (0 : Int32) else (1 : Int32))), .val (.int (if mx < (2 : Int64) then (0 : Int32) else (1 : Int32))), .unset, .unset, .unset, .unset]) rfl ?_
        show Steps p.tables e below (T88.setTop (mkF m 50 #[.val (.long x0), .second, .val (.int x1), .val (.long mx), .second, .val (.ref b73), .val (.int (if mx < (1 : Int64) then (0 : Int32) else (1 : Int32))), .val (.int (if mx < (2 : Int64) then (0 : Int32) else (1 : Int32))), .unset, .unset, .unset, .unset] [])) _
        refine XS.aload X88.here hx rfl (hb hby at_50) rfl rfl ?_
        exact Steps.refl _)
    obtain ⟨cq93, kq93, q93a, q93b, q93c⟩ := isOf hZ rfl f88_0
    obtain ⟨_, _, ⟨T93, L93, k93, n93⟩, -, X93, ⟨Lc93, hQ93, l93, y93, z93⟩, sr93⟩ := X88.virtualBack hx (y := (⟨"com/example/treeline/treeline/common/StepLimit", "take", "()Z"⟩ : MethodName)) (z := (⟨"com/example/treeline/treeline/common/StepLimit", "take", "()Z"⟩ : MethodName)) hown (mvT hZ (hw _ (List.mem_of_getElem? (i := 16) rfl))) (mvT hZ (hw _ (List.mem_of_getElem? (i := 17) rfl))) (notFace_of_selects (args := #[]) (mvT hZ (hw _ (List.mem_of_getElem? (i := 19) rfl)))) (mvT hZ (hw _ (List.mem_of_getElem? (i := 19) rfl))) (mvT hZ (hw _ (List.mem_of_getElem? (i := 18) rfl))) (by decide) (backOf (W := 0) (rm4 l Z a0 hw [] b73 mx (2 : Int64) (3 : Int64) T88.heap n0 Z90 f88_0 f88_1 f88_2 g_b73 hm (by decide) (by decide)) hZ (hw _ (List.mem_of_getElem? (i := 20) rfl)) (hw _ (List.mem_of_getElem? (i := 7) rfl)) (by decide) (by decide)) q93a q93c (g := (mkF m 52 #[.val (.long x0), .second, .val (.int x1), .val (.long mx), .second, .val (.ref b73), .val (.int (if mx < (1 : Int64) then (0 : Int32) else (1 : Int32))), .val (.int (if mx < (2 : Int64) then (0 : Int32) else (1 : Int32))), .unset, .unset, .unset, .unset] [(.ref b73)])) rfl (by rw [hml]; rfl) (Steps.refl _) (argsL := []) (rest := []) (lenOf pd_2 rfl) rfl (by show 2 * 0 + _ ≤ _; exact Nat.le_of_eq rfl) (hb hby at_52) (fun _ _ => ⟨rfl, rfl, (by decide : 1 + 0 ≤ _), (by decide : 2 + 0 ≤ _)⟩)
    dsimp only [Pt.U, Pt.locs, Pt.cells, Pt.slots] at X93 l93 y93 z93 sr93 hQ93
    subst l93 y93 z93
    obtain ⟨rfl, N93q, K93c, f93_0, f93_1, f93_2⟩ := hQ93
    have N93 := Fr.app N88 N93q
    have f94 : Exa Z T93.heap b73 "com/example/treeline/treeline/common/StepLimit" := f88_0.keep K93c
    have Z95 : n0 ≤ T93.heap.size := Nat.le_trans Z90 K93c.1
    have st96 : Steps p.tables e below (s₁.setTop (entryFrame m #[(.long x0), (.int x1)] maxLocals)) (T93.setTop (mkF m 55 #[.val (.long x0), .second, .val (.int x1), .val (.long mx), .second, .val (.ref b73), .val (.int (if mx < (1 : Int64) then (0 : Int32) else (1 : Int32))), .val (.int (if mx < (2 : Int64) then (0 : Int32) else (1 : Int32))), .unset, .unset, .unset, .unset] [(.int (if mx < (3 : Int64) then (0 : Int32) else (1 : Int32)))])) := st92.trans (sr93)
    have st97 : Steps p.tables e below (s₁.setTop (entryFrame m #[(.long x0), (.int x1)] maxLocals)) (T93.setTop (mkF m 59 #[.val (.long x0), .second, .val (.int x1), .val (.long mx), .second, .val (.ref b73), .val (.int (if mx < (1 : Int64) then (0 : Int32) else (1 : Int32))), .val (.int (if mx < (2 : Int64) then (0 : Int32) else (1 : Int32))), .val (.int (if mx < (3 : Int64) then (0 : Int32) else (1 : Int32))), .unset, .unset, .unset] [(.ref b73)])) := st96.trans (by
        show Steps p.tables e below (T93.setTop (mkF m 55 #[.val (.long x0), .second, .val (.int x1), .val (.long mx), .second, .val (.ref b73), .val (.int (if mx < (1 : Int64) then (0 : Int32) else (1 : Int32))), .val (.int (if mx < (2 : Int64) then (0 : Int32) else (1 : Int32))), .unset, .unset, .unset, .unset] [(.int (if mx < (3 : Int64) then (0 : Int32) else (1 : Int32)))])) _
        refine XS.istore X93.here hx rfl (hb hby at_55) rfl (l' := #[.val (.long x0), .second, .val (.int x1), .val (.long mx), .second, .val (.ref b73), .val (.int (if mx < (1 : Int64) then (0 : Int32) else (1 : Int32))), .val (.int (if mx < (2 : Int64) then (0 : Int32) else (1 : Int32))), .val (.int (if mx < (3 : Int64) then (0 : Int32) else (1 : Int32))), .unset, .unset, .unset]) rfl ?_
        show Steps p.tables e below (T93.setTop (mkF m 57 #[.val (.long x0), .second, .val (.int x1), .val (.long mx), .second, .val (.ref b73), .val (.int (if mx < (1 : Int64) then (0 : Int32) else (1 : Int32))), .val (.int (if mx < (2 : Int64) then (0 : Int32) else (1 : Int32))), .val (.int (if mx < (3 : Int64) then (0 : Int32) else (1 : Int32))), .unset, .unset, .unset] [])) _
        refine XS.aload X93.here hx rfl (hb hby at_57) rfl rfl ?_
        exact Steps.refl _)
    obtain ⟨cq98, kq98, q98a, q98b, q98c⟩ := isOf hZ rfl f93_0
    obtain ⟨_, _, ⟨T98, L98, k98, n98⟩, -, X98, ⟨Lc98, hQ98, l98, y98, z98⟩, sr98⟩ := X93.virtualBack hx (y := (⟨"com/example/treeline/treeline/common/StepLimit", "take", "()Z"⟩ : MethodName)) (z := (⟨"com/example/treeline/treeline/common/StepLimit", "take", "()Z"⟩ : MethodName)) hown (mvT hZ (hw _ (List.mem_of_getElem? (i := 16) rfl))) (mvT hZ (hw _ (List.mem_of_getElem? (i := 17) rfl))) (notFace_of_selects (args := #[]) (mvT hZ (hw _ (List.mem_of_getElem? (i := 19) rfl)))) (mvT hZ (hw _ (List.mem_of_getElem? (i := 19) rfl))) (mvT hZ (hw _ (List.mem_of_getElem? (i := 18) rfl))) (by decide) (backOf (W := 0) (rm4 l Z a0 hw [] b73 mx (3 : Int64) (4 : Int64) T93.heap n0 Z95 f93_0 f93_1 f93_2 g_b73 hm (by decide) (by decide)) hZ (hw _ (List.mem_of_getElem? (i := 20) rfl)) (hw _ (List.mem_of_getElem? (i := 7) rfl)) (by decide) (by decide)) q98a q98c (g := (mkF m 59 #[.val (.long x0), .second, .val (.int x1), .val (.long mx), .second, .val (.ref b73), .val (.int (if mx < (1 : Int64) then (0 : Int32) else (1 : Int32))), .val (.int (if mx < (2 : Int64) then (0 : Int32) else (1 : Int32))), .val (.int (if mx < (3 : Int64) then (0 : Int32) else (1 : Int32))), .unset, .unset, .unset] [(.ref b73)])) rfl (by rw [hml]; rfl) (Steps.refl _) (argsL := []) (rest := []) (lenOf pd_2 rfl) rfl (by show 2 * 0 + _ ≤ _; exact Nat.le_of_eq rfl) (hb hby at_59) (fun _ _ => ⟨rfl, rfl, (by decide : 1 + 0 ≤ _), (by decide : 2 + 0 ≤ _)⟩)
    dsimp only [Pt.U, Pt.locs, Pt.cells, Pt.slots] at X98 l98 y98 z98 sr98 hQ98
    subst l98 y98 z98
    obtain ⟨rfl, N98q, K98c, f98_0, f98_1, f98_2⟩ := hQ98
    have N98 := Fr.app N93 N98q
    have f99 : Exa Z T98.heap b73 "com/example/treeline/treeline/common/StepLimit" := f93_0.keep K98c
    have Z100 : n0 ≤ T98.heap.size := Nat.le_trans Z95 K98c.1
    have st101 : Steps p.tables e below (s₁.setTop (entryFrame m #[(.long x0), (.int x1)] maxLocals)) (T98.setTop (mkF m 62 #[.val (.long x0), .second, .val (.int x1), .val (.long mx), .second, .val (.ref b73), .val (.int (if mx < (1 : Int64) then (0 : Int32) else (1 : Int32))), .val (.int (if mx < (2 : Int64) then (0 : Int32) else (1 : Int32))), .val (.int (if mx < (3 : Int64) then (0 : Int32) else (1 : Int32))), .unset, .unset, .unset] [(.int (if mx < (4 : Int64) then (0 : Int32) else (1 : Int32)))])) := st97.trans (sr98)
    have st102 : Steps p.tables e below (s₁.setTop (entryFrame m #[(.long x0), (.int x1)] maxLocals)) (T98.setTop (mkF m 66 #[.val (.long x0), .second, .val (.int x1), .val (.long mx), .second, .val (.ref b73), .val (.int (if mx < (1 : Int64) then (0 : Int32) else (1 : Int32))), .val (.int (if mx < (2 : Int64) then (0 : Int32) else (1 : Int32))), .val (.int (if mx < (3 : Int64) then (0 : Int32) else (1 : Int32))), .val (.int (if mx < (4 : Int64) then (0 : Int32) else (1 : Int32))), .unset, .unset] [(.ref b73)])) := st101.trans (by
        show Steps p.tables e below (T98.setTop (mkF m 62 #[.val (.long x0), .second, .val (.int x1), .val (.long mx), .second, .val (.ref b73), .val (.int (if mx < (1 : Int64) then (0 : Int32) else (1 : Int32))), .val (.int (if mx < (2 : Int64) then (0 : Int32) else (1 : Int32))), .val (.int (if mx < (3 : Int64) then (0 : Int32) else (1 : Int32))), .unset, .unset, .unset] [(.int (if mx < (4 : Int64) then (0 : Int32) else (1 : Int32)))])) _
        refine XS.istore X98.here hx rfl (hb hby at_62) rfl (l' := #[.val (.long x0), .second, .val (.int x1), .val (.long mx), .second, .val (.ref b73), .val (.int (if mx < (1 : Int64) then (0 : Int32) else (1 : Int32))), .val (.int (if mx < (2 : Int64) then (0 : Int32) else (1 : Int32))), .val (.int (if mx < (3 : Int64) then (0 : Int32) else (1 : Int32))), .val (.int (if mx < (4 : Int64) then (0 : Int32) else (1 : Int32))), .unset, .unset]) rfl ?_
        show Steps p.tables e below (T98.setTop (mkF m 64 #[.val (.long x0), .second, .val (.int x1), .val (.long mx), .second, .val (.ref b73), .val (.int (if mx < (1 : Int64) then (0 : Int32) else (1 : Int32))), .val (.int (if mx < (2 : Int64) then (0 : Int32) else (1 : Int32))), .val (.int (if mx < (3 : Int64) then (0 : Int32) else (1 : Int32))), .val (.int (if mx < (4 : Int64) then (0 : Int32) else (1 : Int32))), .unset, .unset] [])) _
        refine XS.aload X98.here hx rfl (hb hby at_64) rfl rfl ?_
        exact Steps.refl _)
    obtain ⟨cq103, kq103, q103a, q103b, q103c⟩ := isOf hZ rfl f98_0
    obtain ⟨_, _, ⟨T103, L103, k103, n103⟩, -, X103, ⟨Lc103, hQ103, l103, y103, z103⟩, sr103⟩ := X98.virtualBack hx (y := (⟨"com/example/treeline/treeline/common/StepLimit", "take", "()Z"⟩ : MethodName)) (z := (⟨"com/example/treeline/treeline/common/StepLimit", "take", "()Z"⟩ : MethodName)) hown (mvT hZ (hw _ (List.mem_of_getElem? (i := 16) rfl))) (mvT hZ (hw _ (List.mem_of_getElem? (i := 17) rfl))) (notFace_of_selects (args := #[]) (mvT hZ (hw _ (List.mem_of_getElem? (i := 19) rfl)))) (mvT hZ (hw _ (List.mem_of_getElem? (i := 19) rfl))) (mvT hZ (hw _ (List.mem_of_getElem? (i := 18) rfl))) (by decide) (backOf (W := 0) (rm4 l Z a0 hw [] b73 mx (4 : Int64) (5 : Int64) T98.heap n0 Z100 f98_0 f98_1 f98_2 g_b73 hm (by decide) (by decide)) hZ (hw _ (List.mem_of_getElem? (i := 20) rfl)) (hw _ (List.mem_of_getElem? (i := 7) rfl)) (by decide) (by decide)) q103a q103c (g := (mkF m 66 #[.val (.long x0), .second, .val (.int x1), .val (.long mx), .second, .val (.ref b73), .val (.int (if mx < (1 : Int64) then (0 : Int32) else (1 : Int32))), .val (.int (if mx < (2 : Int64) then (0 : Int32) else (1 : Int32))), .val (.int (if mx < (3 : Int64) then (0 : Int32) else (1 : Int32))), .val (.int (if mx < (4 : Int64) then (0 : Int32) else (1 : Int32))), .unset, .unset] [(.ref b73)])) rfl (by rw [hml]; rfl) (Steps.refl _) (argsL := []) (rest := []) (lenOf pd_2 rfl) rfl (by show 2 * 0 + _ ≤ _; exact Nat.le_of_eq rfl) (hb hby at_66) (fun _ _ => ⟨rfl, rfl, (by decide : 1 + 0 ≤ _), (by decide : 2 + 0 ≤ _)⟩)
    dsimp only [Pt.U, Pt.locs, Pt.cells, Pt.slots] at X103 l103 y103 z103 sr103 hQ103
    subst l103 y103 z103
    obtain ⟨rfl, N103q, K103c, f103_0, f103_1, f103_2⟩ := hQ103
    have N103 := Fr.app N98 N103q
    have f104 : Exa Z T103.heap b73 "com/example/treeline/treeline/common/StepLimit" := f98_0.keep K103c
    have Z105 : n0 ≤ T103.heap.size := Nat.le_trans Z100 K103c.1
    have st106 : Steps p.tables e below (s₁.setTop (entryFrame m #[(.long x0), (.int x1)] maxLocals)) (T103.setTop (mkF m 69 #[.val (.long x0), .second, .val (.int x1), .val (.long mx), .second, .val (.ref b73), .val (.int (if mx < (1 : Int64) then (0 : Int32) else (1 : Int32))), .val (.int (if mx < (2 : Int64) then (0 : Int32) else (1 : Int32))), .val (.int (if mx < (3 : Int64) then (0 : Int32) else (1 : Int32))), .val (.int (if mx < (4 : Int64) then (0 : Int32) else (1 : Int32))), .unset, .unset] [(.int (if mx < (5 : Int64) then (0 : Int32) else (1 : Int32)))])) := st102.trans (sr103)
    have st107 : Steps p.tables e below (s₁.setTop (entryFrame m #[(.long x0), (.int x1)] maxLocals)) (T103.setTop (mkF m 73 #[.val (.long x0), .second, .val (.int x1), .val (.long mx), .second, .val (.ref b73), .val (.int (if mx < (1 : Int64) then (0 : Int32) else (1 : Int32))), .val (.int (if mx < (2 : Int64) then (0 : Int32) else (1 : Int32))), .val (.int (if mx < (3 : Int64) then (0 : Int32) else (1 : Int32))), .val (.int (if mx < (4 : Int64) then (0 : Int32) else (1 : Int32))), .val (.int (if mx < (5 : Int64) then (0 : Int32) else (1 : Int32))), .unset] [(.ref b73)])) := st106.trans (by
        show Steps p.tables e below (T103.setTop (mkF m 69 #[.val (.long x0), .second, .val (.int x1), .val (.long mx), .second, .val (.ref b73), .val (.int (if mx < (1 : Int64) then (0 : Int32) else (1 : Int32))), .val (.int (if mx < (2 : Int64) then (0 : Int32) else (1 : Int32))), .val (.int (if mx < (3 : Int64) then (0 : Int32) else (1 : Int32))), .val (.int (if mx < (4 : Int64) then (0 : Int32) else (1 : Int32))), .unset, .unset] [(.int (if mx < (5 : Int64) then (0 : Int32) else (1 : Int32)))])) _
        refine XS.istore X103.here hx rfl (hb hby at_69) rfl (l' := #[.val (.long x0), .second, .val (.int x1), .val (.long mx), .second, .val (.ref b73), .val (.int (if mx < (1 : Int64) then (0 : Int32) else (1 : Int32))), .val (.int (if mx < (2 : Int64) then (0 : Int32) else (1 : Int32))), .val (.int (if mx < (3 : Int64) then (0 : Int32) else (1 : Int32))), .val (.int (if mx < (4 : Int64) then (0 : Int32) else (1 : Int32))), .val (.int (if mx < (5 : Int64) then (0 : Int32) else (1 : Int32))), .unset]) rfl ?_
        show Steps p.tables e below (T103.setTop (mkF m 71 #[.val (.long x0), .second, .val (.int x1), .val (.long mx), .second, .val (.ref b73), .val (.int (if mx < (1 : Int64) then (0 : Int32) else (1 : Int32))), .val (.int (if mx < (2 : Int64) then (0 : Int32) else (1 : Int32))), .val (.int (if mx < (3 : Int64) then (0 : Int32) else (1 : Int32))), .val (.int (if mx < (4 : Int64) then (0 : Int32) else (1 : Int32))), .val (.int (if mx < (5 : Int64) then (0 : Int32) else (1 : Int32))), .unset] [])) _
        refine XS.aload X103.here hx rfl (hb hby at_71) rfl rfl ?_
        exact Steps.refl _)
    obtain ⟨cq108, kq108, q108a, q108b, q108c⟩ := isOf hZ rfl f103_0
    obtain ⟨_, _, ⟨T108, L108, k108, n108⟩, -, X108, ⟨Lc108, hQ108, l108, y108, z108⟩, sr108⟩ := X103.virtualBack hx (y := (⟨"com/example/treeline/treeline/common/StepLimit", "take", "()Z"⟩ : MethodName)) (z := (⟨"com/example/treeline/treeline/common/StepLimit", "take", "()Z"⟩ : MethodName)) hown (mvT hZ (hw _ (List.mem_of_getElem? (i := 16) rfl))) (mvT hZ (hw _ (List.mem_of_getElem? (i := 17) rfl))) (notFace_of_selects (args := #[]) (mvT hZ (hw _ (List.mem_of_getElem? (i := 19) rfl)))) (mvT hZ (hw _ (List.mem_of_getElem? (i := 19) rfl))) (mvT hZ (hw _ (List.mem_of_getElem? (i := 18) rfl))) (by decide) (backOf (W := 0) (rm4 l Z a0 hw [] b73 mx (5 : Int64) (6 : Int64) T103.heap n0 Z105 f103_0 f103_1 f103_2 g_b73 hm (by decide) (by decide)) hZ (hw _ (List.mem_of_getElem? (i := 20) rfl)) (hw _ (List.mem_of_getElem? (i := 7) rfl)) (by decide) (by decide)) q108a q108c (g := (mkF m 73 #[.val (.long x0), .second, .val (.int x1), .val (.long mx), .second, .val (.ref b73), .val (.int (if mx < (1 : Int64) then (0 : Int32) else (1 : Int32))), .val (.int (if mx < (2 : Int64) then (0 : Int32) else (1 : Int32))), .val (.int (if mx < (3 : Int64) then (0 : Int32) else (1 : Int32))), .val (.int (if mx < (4 : Int64) then (0 : Int32) else (1 : Int32))), .val (.int (if mx < (5 : Int64) then (0 : Int32) else (1 : Int32))), .unset] [(.ref b73)])) rfl (by rw [hml]; rfl) (Steps.refl _) (argsL := []) (rest := []) (lenOf pd_2 rfl) rfl (by show 2 * 0 + _ ≤ _; exact Nat.le_of_eq rfl) (hb hby at_73) (fun _ _ => ⟨rfl, rfl, (by decide : 1 + 0 ≤ _), (by decide : 2 + 0 ≤ _)⟩)
    dsimp only [Pt.U, Pt.locs, Pt.cells, Pt.slots] at X108 l108 y108 z108 sr108 hQ108
    subst l108 y108 z108
    obtain ⟨rfl, N108q, K108c, f108_0, f108_1, f108_2⟩ := hQ108
    have N108 := Fr.app N103 N108q
    have f109 : Exa Z T108.heap b73 "com/example/treeline/treeline/common/StepLimit" := f103_0.keep K108c
    have Z110 : n0 ≤ T108.heap.size := Nat.le_trans Z105 K108c.1
    have st111 : Steps p.tables e below (s₁.setTop (entryFrame m #[(.long x0), (.int x1)] maxLocals)) (T108.setTop (mkF m 76 #[.val (.long x0), .second, .val (.int x1), .val (.long mx), .second, .val (.ref b73), .val (.int (if mx < (1 : Int64) then (0 : Int32) else (1 : Int32))), .val (.int (if mx < (2 : Int64) then (0 : Int32) else (1 : Int32))), .val (.int (if mx < (3 : Int64) then (0 : Int32) else (1 : Int32))), .val (.int (if mx < (4 : Int64) then (0 : Int32) else (1 : Int32))), .val (.int (if mx < (5 : Int64) then (0 : Int32) else (1 : Int32))), .unset] [(.int (if mx < (6 : Int64) then (0 : Int32) else (1 : Int32)))])) := st107.trans (sr108)
    have st112 : Steps p.tables e below (s₁.setTop (entryFrame m #[(.long x0), (.int x1)] maxLocals)) (T108.setTop (mkF m 83 #[.val (.long x0), .second, .val (.int x1), .val (.long mx), .second, .val (.ref b73), .val (.int (if mx < (1 : Int64) then (0 : Int32) else (1 : Int32))), .val (.int (if mx < (2 : Int64) then (0 : Int32) else (1 : Int32))), .val (.int (if mx < (3 : Int64) then (0 : Int32) else (1 : Int32))), .val (.int (if mx < (4 : Int64) then (0 : Int32) else (1 : Int32))), .val (.int (if mx < (5 : Int64) then (0 : Int32) else (1 : Int32))), .val (.int (if mx < (6 : Int64) then (0 : Int32) else (1 : Int32)))] [(.int (lcmpW (1 : Int64) mx)), (.int (if mx < (1 : Int64) then (0 : Int32) else (1 : Int32)))])) := st111.trans (by
        show Steps p.tables e below (T108.setTop (mkF m 76 #[.val (.long x0), .second, .val (.int x1), .val (.long mx), .second, .val (.ref b73), .val (.int (if mx < (1 : Int64) then (0 : Int32) else (1 : Int32))), .val (.int (if mx < (2 : Int64) then (0 : Int32) else (1 : Int32))), .val (.int (if mx < (3 : Int64) then (0 : Int32) else (1 : Int32))), .val (.int (if mx < (4 : Int64) then (0 : Int32) else (1 : Int32))), .val (.int (if mx < (5 : Int64) then (0 : Int32) else (1 : Int32))), .unset] [(.int (if mx < (6 : Int64) then (0 : Int32) else (1 : Int32)))])) _
        refine XS.istore X108.here hx rfl (hb hby at_76) rfl (l' := #[.val (.long x0), .second, .val (.int x1), .val (.long mx), .second, .val (.ref b73), .val (.int (if mx < (1 : Int64) then (0 : Int32) else (1 : Int32))), .val (.int (if mx < (2 : Int64) then (0 : Int32) else (1 : Int32))), .val (.int (if mx < (3 : Int64) then (0 : Int32) else (1 : Int32))), .val (.int (if mx < (4 : Int64) then (0 : Int32) else (1 : Int32))), .val (.int (if mx < (5 : Int64) then (0 : Int32) else (1 : Int32))), .val (.int (if mx < (6 : Int64) then (0 : Int32) else (1 : Int32)))]) rfl ?_
        show Steps p.tables e below (T108.setTop (mkF m 78 #[.val (.long x0), .second, .val (.int x1), .val (.long mx), .second, .val (.ref b73), .val (.int (if mx < (1 : Int64) then (0 : Int32) else (1 : Int32))), .val (.int (if mx < (2 : Int64) then (0 : Int32) else (1 : Int32))), .val (.int (if mx < (3 : Int64) then (0 : Int32) else (1 : Int32))), .val (.int (if mx < (4 : Int64) then (0 : Int32) else (1 : Int32))), .val (.int (if mx < (5 : Int64) then (0 : Int32) else (1 : Int32))), .val (.int (if mx < (6 : Int64) then (0 : Int32) else (1 : Int32)))] [])) _
        refine XS.iload X108.here hx rfl (hb hby at_78) rfl ?_
        show Steps p.tables e below (T108.setTop (mkF m 80 #[.val (.long x0), .second, .val (.int x1), .val (.long mx), .second, .val (.ref b73), .val (.int (if mx < (1 : Int64) then (0 : Int32) else (1 : Int32))), .val (.int (if mx < (2 : Int64) then (0 : Int32) else (1 : Int32))), .val (.int (if mx < (3 : Int64) then (0 : Int32) else (1 : Int32))), .val (.int (if mx < (4 : Int64) then (0 : Int32) else (1 : Int32))), .val (.int (if mx < (5 : Int64) then (0 : Int32) else (1 : Int32))), .val (.int (if mx < (6 : Int64) then (0 : Int32) else (1 : Int32)))] [(.int (if mx < (1 : Int64) then (0 : Int32) else (1 : Int32)))])) _
        refine XS.lconst X108.here hx rfl (hb hby at_80) ?_
        show Steps p.tables e below (T108.setTop (mkF m 81 #[.val (.long x0), .second, .val (.int x1), .val (.long mx), .second, .val (.ref b73), .val (.int (if mx < (1 : Int64) then (0 : Int32) else (1 : Int32))), .val (.int (if mx < (2 : Int64) then (0 : Int32) else (1 : Int32))), .val (.int (if mx < (3 : Int64) then (0 : Int32) else (1 : Int32))), .val (.int (if mx < (4 : Int64) then (0 : Int32) else (1 : Int32))), .val (.int (if mx < (5 : Int64) then (0 : Int32) else (1 : Int32))), .val (.int (if mx < (6 : Int64) then (0 : Int32) else (1 : Int32)))] [(.long (1 : Int64)), (.int (if mx < (1 : Int64) then (0 : Int32) else (1 : Int32)))])) _
        refine XS.lloadN X108.here hx rfl (hb hby at_81) rfl ?_
        show Steps p.tables e below (T108.setTop (mkF m 82 #[.val (.long x0), .second, .val (.int x1), .val (.long mx), .second, .val (.ref b73), .val (.int (if mx < (1 : Int64) then (0 : Int32) else (1 : Int32))), .val (.int (if mx < (2 : Int64) then (0 : Int32) else (1 : Int32))), .val (.int (if mx < (3 : Int64) then (0 : Int32) else (1 : Int32))), .val (.int (if mx < (4 : Int64) then (0 : Int32) else (1 : Int32))), .val (.int (if mx < (5 : Int64) then (0 : Int32) else (1 : Int32))), .val (.int (if mx < (6 : Int64) then (0 : Int32) else (1 : Int32)))] [(.long mx), (.long (1 : Int64)), (.int (if mx < (1 : Int64) then (0 : Int32) else (1 : Int32)))])) _
        refine XS.lcmp X108.here hx rfl (hb hby at_82) rfl ?_
        exact Steps.refl _)
    have st114 : Steps p.tables e below (s₁.setTop (entryFrame m #[(.long x0), (.int x1)] maxLocals)) (T108.setTop (mkF m 91 #[.val (.long x0), .second, .val (.int x1), .val (.long mx), .second, .val (.ref b73), .val (.int (if mx < (1 : Int64) then (0 : Int32) else (1 : Int32))), .val (.int (if mx < (2 : Int64) then (0 : Int32) else (1 : Int32))), .val (.int (if mx < (3 : Int64) then (0 : Int32) else (1 : Int32))), .val (.int (if mx < (4 : Int64) then (0 : Int32) else (1 : Int32))), .val (.int (if mx < (5 : Int64) then (0 : Int32) else (1 : Int32))), .val (.int (if mx < (6 : Int64) then (0 : Int32) else (1 : Int32)))] [(.int (if mx < (1 : Int64) then (0 : Int32) else (1 : Int32))), (.int (if mx < (1 : Int64) then (0 : Int32) else (1 : Int32)))])) := st112.trans (by
        show Steps p.tables e below (T108.setTop (mkF m 83 #[.val (.long x0), .second, .val (.int x1), .val (.long mx), .second, .val (.ref b73), .val (.int (if mx < (1 : Int64) then (0 : Int32) else (1 : Int32))), .val (.int (if mx < (2 : Int64) then (0 : Int32) else (1 : Int32))), .val (.int (if mx < (3 : Int64) then (0 : Int32) else (1 : Int32))), .val (.int (if mx < (4 : Int64) then (0 : Int32) else (1 : Int32))), .val (.int (if mx < (5 : Int64) then (0 : Int32) else (1 : Int32))), .val (.int (if mx < (6 : Int64) then (0 : Int32) else (1 : Int32)))] [(.int (lcmpW (1 : Int64) mx)), (.int (if mx < (1 : Int64) then (0 : Int32) else (1 : Int32)))])) _
        by_cases hc113 : mx < (1 : Int64)
        · show Steps p.tables e below (T108.setTop (mkF m 83 #[.val (.long x0), .second, .val (.int x1), .val (.long mx), .second, .val (.ref b73), .val (.int (if mx < (1 : Int64) then (0 : Int32) else (1 : Int32))), .val (.int (if mx < (2 : Int64) then (0 : Int32) else (1 : Int32))), .val (.int (if mx < (3 : Int64) then (0 : Int32) else (1 : Int32))), .val (.int (if mx < (4 : Int64) then (0 : Int32) else (1 : Int32))), .val (.int (if mx < (5 : Int64) then (0 : Int32) else (1 : Int32))), .val (.int (if mx < (6 : Int64) then (0 : Int32) else (1 : Int32)))] [(.int (lcmpW (1 : Int64) mx)), (.int (if mx < (1 : Int64) then (0 : Int32) else (1 : Int32)))])) _
          refine XS.ifYes X108.here hx rfl (pc0 := 83) (pc' := 90) rfl (hb hby at_83) rfl ((if0 _ _).trans (tlt ((lw_gt _ _).mpr hc113)).2.2.1) (by decide) (by decide) ?_
          show Steps p.tables e below (T108.setTop (mkF m 90 #[.val (.long x0), .second, .val (.int x1), .val (.long mx), .second, .val (.ref b73), .val (.int (if mx < (1 : Int64) then (0 : Int32) else (1 : Int32))), .val (.int (if mx < (2 : Int64) then (0 : Int32) else (1 : Int32))), .val (.int (if mx < (3 : Int64) then (0 : Int32) else (1 : Int32))), .val (.int (if mx < (4 : Int64) then (0 : Int32) else (1 : Int32))), .val (.int (if mx < (5 : Int64) then (0 : Int32) else (1 : Int32))), .val (.int (if mx < (6 : Int64) then (0 : Int32) else (1 : Int32)))] [(.int (if mx < (1 : Int64) then (0 : Int32) else (1 : Int32)))])) _
          refine XS.iconst X108.here hx rfl (hb hby at_90) ?_
          simp only [if_pos hc113]
          exact Steps.refl _
        · show Steps p.tables e below (T108.setTop (mkF m 83 #[.val (.long x0), .second, .val (.int x1), .val (.long mx), .second, .val (.ref b73), .val (.int (if mx < (1 : Int64) then (0 : Int32) else (1 : Int32))), .val (.int (if mx < (2 : Int64) then (0 : Int32) else (1 : Int32))), .val (.int (if mx < (3 : Int64) then (0 : Int32) else (1 : Int32))), .val (.int (if mx < (4 : Int64) then (0 : Int32) else (1 : Int32))), .val (.int (if mx < (5 : Int64) then (0 : Int32) else (1 : Int32))), .val (.int (if mx < (6 : Int64) then (0 : Int32) else (1 : Int32)))] [(.int (lcmpW (1 : Int64) mx)), (.int (if mx < (1 : Int64) then (0 : Int32) else (1 : Int32)))])) _
          refine XS.ifNo X108.here hx rfl (hb hby at_83) rfl ((if0 _ _).trans (flt (fun q => hc113 ((lw_gt _ _).mp q))).2.2.1) ?_
          show Steps p.tables e below (T108.setTop (mkF m 86 #[.val (.long x0), .second, .val (.int x1), .val (.long mx), .second, .val (.ref b73), .val (.int (if mx < (1 : Int64) then (0 : Int32) else (1 : Int32))), .val (.int (if mx < (2 : Int64) then (0 : Int32) else (1 : Int32))), .val (.int (if mx < (3 : Int64) then (0 : Int32) else (1 : Int32))), .val (.int (if mx < (4 : Int64) then (0 : Int32) else (1 : Int32))), .val (.int (if mx < (5 : Int64) then (0 : Int32) else (1 : Int32))), .val (.int (if mx < (6 : Int64) then (0 : Int32) else (1 : Int32)))] [(.int (if mx < (1 : Int64) then (0 : Int32) else (1 : Int32)))])) _
          refine XS.iconst X108.here hx rfl (hb hby at_86) ?_
          show Steps p.tables e below (T108.setTop (mkF m 87 #[.val (.long x0), .second, .val (.int x1), .val (.long mx), .second, .val (.ref b73), .val (.int (if mx < (1 : Int64) then (0 : Int32) else (1 : Int32))), .val (.int (if mx < (2 : Int64) then (0 : Int32) else (1 : Int32))), .val (.int (if mx < (3 : Int64) then (0 : Int32) else (1 : Int32))), .val (.int (if mx < (4 : Int64) then (0 : Int32) else (1 : Int32))), .val (.int (if mx < (5 : Int64) then (0 : Int32) else (1 : Int32))), .val (.int (if mx < (6 : Int64) then (0 : Int32) else (1 : Int32)))] [(.int (1 : Int32)), (.int (if mx < (1 : Int64) then (0 : Int32) else (1 : Int32)))])) _
          refine XS.goto X108.here hx rfl (pc0 := 87) (pc' := 91) rfl (hb hby at_87) (by decide) (by decide) ?_
          simp only [if_neg hc113]
          exact Steps.refl _
        )
    have hf115 : (if mx < (1 : Int64) then (0 : Int32) else (1 : Int32)) = (if mx < (1 : Int64) then (0 : Int32) else (1 : Int32)) := rfl
    have st116 : Steps p.tables e below (s₁.setTop (entryFrame m #[(.long x0), (.int x1)] maxLocals)) (T108.setTop (mkF m 101 #[.val (.long x0), .second, .val (.int x1), .val (.long mx), .second, .val (.ref b73), .val (.int (if mx < (1 : Int64) then (0 : Int32) else (1 : Int32))), .val (.int (if mx < (2 : Int64) then (0 : Int32) else (1 : Int32))), .val (.int (if mx < (3 : Int64) then (0 : Int32) else (1 : Int32))), .val (.int (if mx < (4 : Int64) then (0 : Int32) else (1 : Int32))), .val (.int (if mx < (5 : Int64) then (0 : Int32) else (1 : Int32))), .val (.int (if mx < (6 : Int64) then (0 : Int32) else (1 : Int32)))] [(.int (lcmpW (2 : Int64) mx)), (.int (if mx < (2 : Int64) then (0 : Int32) else (1 : Int32)))])) := st114.trans (by
        show Steps p.tables e below (T108.setTop (mkF m 91 #[.val (.long x0), .second, .val (.int x1), .val (.long mx), .second, .val (.ref b73), .val (.int (if mx < (1 : Int64) then (0 : Int32) else (1 : Int32))), .val (.int (if mx < (2 : Int64) then (0 : Int32) else (1 : Int32))), .val (.int (if mx < (3 : Int64) then (0 : Int32) else (1 : Int32))), .val (.int (if mx < (4 : Int64) then (0 : Int32) else (1 : Int32))), .val (.int (if mx < (5 : Int64) then (0 : Int32) else (1 : Int32))), .val (.int (if mx < (6 : Int64) then (0 : Int32) else (1 : Int32)))] [(.int (if mx < (1 : Int64) then (0 : Int32) else (1 : Int32))), (.int (if mx < (1 : Int64) then (0 : Int32) else (1 : Int32)))])) _
        refine XS.icmpNo X108.here hx rfl (hb hby at_91) rfl (teq hf115).2 ?_
        show Steps p.tables e below (T108.setTop (mkF m 94 #[.val (.long x0), .second, .val (.int x1), .val (.long mx), .second, .val (.ref b73), .val (.int (if mx < (1 : Int64) then (0 : Int32) else (1 : Int32))), .val (.int (if mx < (2 : Int64) then (0 : Int32) else (1 : Int32))), .val (.int (if mx < (3 : Int64) then (0 : Int32) else (1 : Int32))), .val (.int (if mx < (4 : Int64) then (0 : Int32) else (1 : Int32))), .val (.int (if mx < (5 : Int64) then (0 : Int32) else (1 : Int32))), .val (.int (if mx < (6 : Int64) then (0 : Int32) else (1 : Int32)))] [])) _
        refine XS.iload X108.here hx rfl (hb hby at_94) rfl ?_
        show Steps p.tables e below (T108.setTop (mkF m 96 #[.val (.long x0), .second, .val (.int x1), .val (.long mx), .second, .val (.ref b73), .val (.int (if mx < (1 : Int64) then (0 : Int32) else (1 : Int32))), .val (.int (if mx < (2 : Int64) then (0 : Int32) else (1 : Int32))), .val (.int (if mx < (3 : Int64) then (0 : Int32) else (1 : Int32))), .val (.int (if mx < (4 : Int64) then (0 : Int32) else (1 : Int32))), .val (.int (if mx < (5 : Int64) then (0 : Int32) else (1 : Int32))), .val (.int (if mx < (6 : Int64) then (0 : Int32) else (1 : Int32)))] [(.int (if mx < (2 : Int64) then (0 : Int32) else (1 : Int32)))])) _
        refine X108.ldc2Long hx hown (mvT hZ (hw _ (List.mem_of_getElem? (i := 23) rfl))) (g := (mkF m 96 #[.val (.long x0), .second, .val (.int x1), .val (.long mx), .second, .val (.ref b73), .val (.int (if mx < (1 : Int64) then (0 : Int32) else (1 : Int32))), .val (.int (if mx < (2 : Int64) then (0 : Int32) else (1 : Int32))), .val (.int (if mx < (3 : Int64) then (0 : Int32) else (1 : Int32))), .val (.int (if mx < (4 : Int64) then (0 : Int32) else (1 : Int32))), .val (.int (if mx < (5 : Int64) then (0 : Int32) else (1 : Int32))), .val (.int (if mx < (6 : Int64) then (0 : Int32) else (1 : Int32)))] [(.int (if mx < (2 : Int64) then (0 : Int32) else (1 : Int32)))])) rfl (hb hby at_96) _ ?_
        show Steps p.tables e below (T108.setTop (mkF m 99 #[.val (.long x0), .second, .val (.int x1), .val (.long mx), .second, .val (.ref b73), .val (.int (if mx < (1 : Int64) then (0 : Int32) else (1 : Int32))), .val (.int (if mx < (2 : Int64) then (0 : Int32) else (1 : Int32))), .val (.int (if mx < (3 : Int64) then (0 : Int32) else (1 : Int32))), .val (.int (if mx < (4 : Int64) then (0 : Int32) else (1 : Int32))), .val (.int (if mx < (5 : Int64) then (0 : Int32) else (1 : Int32))), .val (.int (if mx < (6 : Int64) then (0 : Int32) else (1 : Int32)))] [(.long (2 : Int64)), (.int (if mx < (2 : Int64) then (0 : Int32) else (1 : Int32)))])) _
        refine XS.lloadN X108.here hx rfl (hb hby at_99) rfl ?_
        show Steps p.tables e below (T108.setTop (mkF m 100 #[.val (.long x0), .second, .val (.int x1), .val (.long mx), .second, .val (.ref b73), .val (.int (if mx < (1 : Int64) then (0 : Int32) else (1 : Int32))), .val (.int (if mx < (2 : Int64) then (0 : Int32) else (1 : Int32))), .val (.int (if mx < (3 : Int64) then (0 : Int32) else (1 : Int32))), .val (.int (if mx < (4 : Int64) then (0 : Int32) else (1 : Int32))), .val (.int (if mx < (5 : Int64) then (0 : Int32) else (1 : Int32))), .val (.int (if mx < (6 : Int64) then (0 : Int32) else (1 : Int32)))] [(.long mx), (.long (2 : Int64)), (.int (if mx < (2 : Int64) then (0 : Int32) else (1 : Int32)))])) _
        refine XS.lcmp X108.here hx rfl (hb hby at_100) rfl ?_
        exact Steps.refl _)
    have st118 : Steps p.tables e below (s₁.setTop (entryFrame m #[(.long x0), (.int x1)] maxLocals)) (T108.setTop (mkF m 109 #[.val (.long x0), .second, .val (.int x1), .val (.long mx), .second, .val (.ref b73), .val (.int (if mx < (1 : Int64) then (0 : Int32) else (1 : Int32))), .val (.int (if mx < (2 : Int64) then (0 : Int32) else (1 : Int32))), .val (.int (if mx < (3 : Int64) then (0 : Int32) else (1 : Int32))), .val (.int (if mx < (4 : Int64) then (0 : Int32) else (1 : Int32))), .val (.int (if mx < (5 : Int64) then (0 : Int32) else (1 : Int32))), .val (.int (if mx < (6 : Int64) then (0 : Int32) else (1 : Int32)))] [(.int (if mx < (2 : Int64) then (0 : Int32) else (1 : Int32))), (.int (if mx < (2 : Int64) then (0 : Int32) else (1 : Int32)))])) := st116.trans (by
        show Steps p.tables e below (T108.setTop (mkF m 101 #[.val (.long x0), .second, .val (.int x1), .val (.long mx), .second, .val (.ref b73), .val (.int (if mx < (1 : Int64) then (0 : Int32) else (1 : Int32))), .val (.int (if mx < (2 : Int64) then (0 : Int32) else (1 : Int32))), .val (.int (if mx < (3 : Int64) then (0 : Int32) else (1 : Int32))), .val (.int (if mx < (4 : Int64) then (0 : Int32) else (1 : Int32))), .val (.int (if mx < (5 : Int64) then (0 : Int32) else (1 : Int32))), .val (.int (if mx < (6 : Int64) then (0 : Int32) else (1 : Int32)))] [(.int (lcmpW (2 : Int64) mx)), (.int (if mx < (2 : Int64) then (0 : Int32) else (1 : Int32)))])) _
        by_cases hc117 : mx < (2 : Int64)
        · show Steps p.tables e below (T108.setTop (mkF m 101 #[.val (.long x0), .second, .val (.int x1), .val (.long mx), .second, .val (.ref b73), .val (.int (if mx < (1 : Int64) then (0 : Int32) else (1 : Int32))), .val (.int (if mx < (2 : Int64) then (0 : Int32) else (1 : Int32))), .val (.int (if mx < (3 : Int64) then (0 : Int32) else (1 : Int32))), .val (.int (if mx < (4 : Int64) then (0 : Int32) else (1 : Int32))), .val (.int (if mx < (5 : Int64) then (0 : Int32) else (1 : Int32))), .val (.int (if mx < (6 : Int64) then (0 : Int32) else (1 : Int32)))] [(.int (lcmpW (2 : Int64) mx)), (.int (if mx < (2 : Int64) then (0 : Int32) else (1 : Int32)))])) _
          refine XS.ifYes X108.here hx rfl (pc0 := 101) (pc' := 108) rfl (hb hby at_101) rfl ((if0 _ _).trans (tlt ((lw_gt _ _).mpr hc117)).2.2.1) (by decide) (by decide) ?_
          show Steps p.tables e below (T108.setTop (mkF m 108 #[.val (.long x0), .second, .val (.int x1), .val (.long mx), .second, .val (.ref b73), .val (.int (if mx < (1 : Int64) then (0 : Int32) else (1 : Int32))), .val (.int (if mx < (2 : Int64) then (0 : Int32) else (1 : Int32))), .val (.int (if mx < (3 : Int64) then (0 : Int32) else (1 : Int32))), .val (.int (if mx < (4 : Int64) then (0 : Int32) else (1 : Int32))), .val (.int (if mx < (5 : Int64) then (0 : Int32) else (1 : Int32))), .val (.int (if mx < (6 : Int64) then (0 : Int32) else (1 : Int32)))] [(.int (if mx < (2 : Int64) then (0 : Int32) else (1 : Int32)))])) _
          refine XS.iconst X108.here hx rfl (hb hby at_108) ?_
          simp only [if_pos hc117]
          exact Steps.refl _
        · show Steps p.tables e below (T108.setTop (mkF m 101 #[.val (.long x0), .second, .val (.int x1), .val (.long mx), .second, .val (.ref b73), .val (.int (if mx < (1 : Int64) then (0 : Int32) else (1 : Int32))), .val (.int (if mx < (2 : Int64) then (0 : Int32) else (1 : Int32))), .val (.int (if mx < (3 : Int64) then (0 : Int32) else (1 : Int32))), .val (.int (if mx < (4 : Int64) then (0 : Int32) else (1 : Int32))), .val (.int (if mx < (5 : Int64) then (0 : Int32) else (1 : Int32))), .val (.int (if mx < (6 : Int64) then (0 : Int32) else (1 : Int32)))] [(.int (lcmpW (2 : Int64) mx)), (.int (if mx < (2 : Int64) then (0 : Int32) else (1 : Int32)))])) _
          refine XS.ifNo X108.here hx rfl (hb hby at_101) rfl ((if0 _ _).trans (flt (fun q => hc117 ((lw_gt _ _).mp q))).2.2.1) ?_
          show Steps p.tables e below (T108.setTop (mkF m 104 #[.val (.long x0), .second, .val (.int x1), .val (.long mx), .second, .val (.ref b73), .val (.int (if mx < (1 : Int64) then (0 : Int32) else (1 : Int32))), .val (.int (if mx < (2 : Int64) then (0 : Int32) else (1 : Int32))), .val (.int (if mx < (3 : Int64) then (0 : Int32) else (1 : Int32))), .val (.int (if mx < (4 : Int64) then (0 : Int32) else (1 : Int32))), .val (.int (if mx < (5 : Int64) then (0 : Int32) else (1 : Int32))), .val (.int (if mx < (6 : Int64) then (0 : Int32) else (1 : Int32)))] [(.int (if mx < (2 : Int64) then (0 : Int32) else (1 : Int32)))])) _
          refine XS.iconst X108.here hx rfl (hb hby at_104) ?_
          show Steps p.tables e below (T108.setTop (mkF m 105 #[.val (.long x0), .second, .val (.int x1), .val (.long mx), .second, .val (.ref b73), .val (.int (if mx < (1 : Int64) then (0 : Int32) else (1 : Int32))), .val (.int (if mx < (2 : Int64) then (0 : Int32) else (1 : Int32))), .val (.int (if mx < (3 : Int64) then (0 : Int32) else (1 : Int32))), .val (.int (if mx < (4 : Int64) then (0 : Int32) else (1 : Int32))), .val (.int (if mx < (5 : Int64) then (0 : Int32) else (1 : Int32))), .val (.int (if mx < (6 : Int64) then (0 : Int32) else (1 : Int32)))] [(.int (1 : Int32)), (.int (if mx < (2 : Int64) then (0 : Int32) else (1 : Int32)))])) _
          refine XS.goto X108.here hx rfl (pc0 := 105) (pc' := 109) rfl (hb hby at_105) (by decide) (by decide) ?_
          simp only [if_neg hc117]
          exact Steps.refl _
        )
    have hf119 : (if mx < (2 : Int64) then (0 : Int32) else (1 : Int32)) = (if mx < (2 : Int64) then (0 : Int32) else (1 : Int32)) := rfl
    have st120 : Steps p.tables e below (s₁.setTop (entryFrame m #[(.long x0), (.int x1)] maxLocals)) (T108.setTop (mkF m 119 #[.val (.long x0), .second, .val (.int x1), .val (.long mx), .second, .val (.ref b73), .val (.int (if mx < (1 : Int64) then (0 : Int32) else (1 : Int32))), .val (.int (if mx < (2 : Int64) then (0 : Int32) else (1 : Int32))), .val (.int (if mx < (3 : Int64) then (0 : Int32) else (1 : Int32))), .val (.int (if mx < (4 : Int64) then (0 : Int32) else (1 : Int32))), .val (.int (if mx < (5 : Int64) then (0 : Int32) else (1 : Int32))), .val (.int (if mx < (6 : Int64) then (0 : Int32) else (1 : Int32)))] [(.int (lcmpW (3 : Int64) mx)), (.int (if mx < (3 : Int64) then (0 : Int32) else (1 : Int32)))])) := st118.trans (by
        show Steps p.tables e below (T108.setTop (mkF m 109 #[.val (.long x0), .second, .val (.int x1), .val (.long mx), .second, .val (.ref b73), .val (.int (if mx < (1 : Int64) then (0 : Int32) else (1 : Int32))), .val (.int (if mx < (2 : Int64) then (0 : Int32) else (1 : Int32))), .val (.int (if mx < (3 : Int64) then (0 : Int32) else (1 : Int32))), .val (.int (if mx < (4 : Int64) then (0 : Int32) else (1 : Int32))), .val (.int (if mx < (5 : Int64) then (0 : Int32) else (1 : Int32))), .val (.int (if mx < (6 : Int64) then (0 : Int32) else (1 : Int32)))] [(.int (if mx < (2 : Int64) then (0 : Int32) else (1 : Int32))), (.int (if mx < (2 : Int64) then (0 : Int32) else (1 : Int32)))])) _
        refine XS.icmpNo X108.here hx rfl (hb hby at_109) rfl (teq hf119).2 ?_
        show Steps p.tables e below (T108.setTop (mkF m 112 #[.val (.long x0), .second, .val (.int x1), .val (.long mx), .second, .val (.ref b73), .val (.int (if mx < (1 : Int64) then (0 : Int32) else (1 : Int32))), .val (.int (if mx < (2 : Int64) then (0 : Int32) else (1 : Int32))), .val (.int (if mx < (3 : Int64) then (0 : Int32) else (1 : Int32))), .val (.int (if mx < (4 : Int64) then (0 : Int32) else (1 : Int32))), .val (.int (if mx < (5 : Int64) then (0 : Int32) else (1 : Int32))), .val (.int (if mx < (6 : Int64) then (0 : Int32) else (1 : Int32)))] [])) _
        refine XS.iload X108.here hx rfl (hb hby at_112) rfl ?_
        show Steps p.tables e below (T108.setTop (mkF m 114 #[.val (.long x0), .second, .val (.int x1), .val (.long mx), .second, .val (.ref b73), .val (.int (if mx < (1 : Int64) then (0 : Int32) else (1 : Int32))), .val (.int (if mx < (2 : Int64) then (0 : Int32) else (1 : Int32))), .val (.int (if mx < (3 : Int64) then (0 : Int32) else (1 : Int32))), .val (.int (if mx < (4 : Int64) then (0 : Int32) else (1 : Int32))), .val (.int (if mx < (5 : Int64) then (0 : Int32) else (1 : Int32))), .val (.int (if mx < (6 : Int64) then (0 : Int32) else (1 : Int32)))] [(.int (if mx < (3 : Int64) then (0 : Int32) else (1 : Int32)))])) _
        refine X108.ldc2Long hx hown (mvT hZ (hw _ (List.mem_of_getElem? (i := 24) rfl))) (g := (mkF m 114 #[.val (.long x0), .second, .val (.int x1), .val (.long mx), .second, .val (.ref b73), .val (.int (if mx < (1 : Int64) then (0 : Int32) else (1 : Int32))), .val (.int (if mx < (2 : Int64) then (0 : Int32) else (1 : Int32))), .val (.int (if mx < (3 : Int64) then (0 : Int32) else (1 : Int32))), .val (.int (if mx < (4 : Int64) then (0 : Int32) else (1 : Int32))), .val (.int (if mx < (5 : Int64) then (0 : Int32) else (1 : Int32))), .val (.int (if mx < (6 : Int64) then (0 : Int32) else (1 : Int32)))] [(.int (if mx < (3 : Int64) then (0 : Int32) else (1 : Int32)))])) rfl (hb hby at_114) _ ?_
        show Steps p.tables e below (T108.setTop (mkF m 117 #[.val (.long x0), .second, .val (.int x1), .val (.long mx), .second, .val (.ref b73), .val (.int (if mx < (1 : Int64) then (0 : Int32) else (1 : Int32))), .val (.int (if mx < (2 : Int64) then (0 : Int32) else (1 : Int32))), .val (.int (if mx < (3 : Int64) then (0 : Int32) else (1 : Int32))), .val (.int (if mx < (4 : Int64) then (0 : Int32) else (1 : Int32))), .val (.int (if mx < (5 : Int64) then (0 : Int32) else (1 : Int32))), .val (.int (if mx < (6 : Int64) then (0 : Int32) else (1 : Int32)))] [(.long (3 : Int64)), (.int (if mx < (3 : Int64) then (0 : Int32) else (1 : Int32)))])) _
        refine XS.lloadN X108.here hx rfl (hb hby at_117) rfl ?_
        show Steps p.tables e below (T108.setTop (mkF m 118 #[.val (.long x0), .second, .val (.int x1), .val (.long mx), .second, .val (.ref b73), .val (.int (if mx < (1 : Int64) then (0 : Int32) else (1 : Int32))), .val (.int (if mx < (2 : Int64) then (0 : Int32) else (1 : Int32))), .val (.int (if mx < (3 : Int64) then (0 : Int32) else (1 : Int32))), .val (.int (if mx < (4 : Int64) then (0 : Int32) else (1 : Int32))), .val (.int (if mx < (5 : Int64) then (0 : Int32) else (1 : Int32))), .val (.int (if mx < (6 : Int64) then (0 : Int32) else (1 : Int32)))] [(.long mx), (.long (3 : Int64)), (.int (if mx < (3 : Int64) then (0 : Int32) else (1 : Int32)))])) _
        refine XS.lcmp X108.here hx rfl (hb hby at_118) rfl ?_
        exact Steps.refl _)
    have st122 : Steps p.tables e below (s₁.setTop (entryFrame m #[(.long x0), (.int x1)] maxLocals)) (T108.setTop (mkF m 127 #[.val (.long x0), .second, .val (.int x1), .val (.long mx), .second, .val (.ref b73), .val (.int (if mx < (1 : Int64) then (0 : Int32) else (1 : Int32))), .val (.int (if mx < (2 : Int64) then (0 : Int32) else (1 : Int32))), .val (.int (if mx < (3 : Int64) then (0 : Int32) else (1 : Int32))), .val (.int (if mx < (4 : Int64) then (0 : Int32) else (1 : Int32))), .val (.int (if mx < (5 : Int64) then (0 : Int32) else (1 : Int32))), .val (.int (if mx < (6 : Int64) then (0 : Int32) else (1 : Int32)))] [(.int (if mx < (3 : Int64) then (0 : Int32) else (1 : Int32))), (.int (if mx < (3 : Int64) then (0 : Int32) else (1 : Int32)))])) := st120.trans (by
        show Steps p.tables e below (T108.setTop (mkF m 119 #[.val (.long x0), .second, .val (.int x1), .val (.long mx), .second, .val (.ref b73), .val (.int (if mx < (1 : Int64) then (0 : Int32) else (1 : Int32))), .val (.int (if mx < (2 : Int64) then (0 : Int32) else (1 : Int32))), .val (.int (if mx < (3 : Int64) then (0 : Int32) else (1 : Int32))), .val (.int (if mx < (4 : Int64) then (0 : Int32) else (1 : Int32))), .val (.int (if mx < (5 : Int64) then (0 : Int32) else (1 : Int32))), .val (.int (if mx < (6 : Int64) then (0 : Int32) else (1 : Int32)))] [(.int (lcmpW (3 : Int64) mx)), (.int (if mx < (3 : Int64) then (0 : Int32) else (1 : Int32)))])) _
        by_cases hc121 : mx < (3 : Int64)
        · show Steps p.tables e below (T108.setTop (mkF m 119 #[.val (.long x0), .second, .val (.int x1), .val (.long mx), .second, .val (.ref b73), .val (.int (if mx < (1 : Int64) then (0 : Int32) else (1 : Int32))), .val (.int (if mx < (2 : Int64) then (0 : Int32) else (1 : Int32))), .val (.int (if mx < (3 : Int64) then (0 : Int32) else (1 : Int32))), .val (.int (if mx < (4 : Int64) then (0 : Int32) else (1 : Int32))), .val (.int (if mx < (5 : Int64) then (0 : Int32) else (1 : Int32))), .val (.int (if mx < (6 : Int64) then (0 : Int32) else (1 : Int32)))] [(.int (lcmpW (3 : Int64) mx)), (.int (if mx < (3 : Int64) then (0 : Int32) else (1 : Int32)))])) _
          refine XS.ifYes X108.here hx rfl (pc0 := 119) (pc' := 126) rfl (hb hby at_119) rfl ((if0 _ _).trans (tlt ((lw_gt _ _).mpr hc121)).2.2.1) (by decide) (by decide) ?_
          show Steps p.tables e below (T108.setTop (mkF m 126 #[.val (.long x0), .second, .val (.int x1), .val (.long mx), .second, .val (.ref b73), .val (.int (if mx < (1 : Int64) then (0 : Int32) else (1 : Int32))), .val (.int (if mx < (2 : Int64) then (0 : Int32) else (1 : Int32))), .val (.int (if mx < (3 : Int64) then (0 : Int32) else (1 : Int32))), .val (.int (if mx < (4 : Int64) then (0 : Int32) else (1 : Int32))), .val (.int (if mx < (5 : Int64) then (0 : Int32) else (1 : Int32))), .val (.int (if mx < (6 : Int64) then (0 : Int32) else (1 : Int32)))] [(.int (if mx < (3 : Int64) then (0 : Int32) else (1 : Int32)))])) _
          refine XS.iconst X108.here hx rfl (hb hby at_126) ?_
          simp only [if_pos hc121]
          exact Steps.refl _
        · show Steps p.tables e below (T108.setTop (mkF m 119 #[.val (.long x0), .second, .val (.int x1), .val (.long mx), .second, .val (.ref b73), .val (.int (if mx < (1 : Int64) then (0 : Int32) else (1 : Int32))), .val (.int (if mx < (2 : Int64) then (0 : Int32) else (1 : Int32))), .val (.int (if mx < (3 : Int64) then (0 : Int32) else (1 : Int32))), .val (.int (if mx < (4 : Int64) then (0 : Int32) else (1 : Int32))), .val (.int (if mx < (5 : Int64) then (0 : Int32) else (1 : Int32))), .val (.int (if mx < (6 : Int64) then (0 : Int32) else (1 : Int32)))] [(.int (lcmpW (3 : Int64) mx)), (.int (if mx < (3 : Int64) then (0 : Int32) else (1 : Int32)))])) _
          refine XS.ifNo X108.here hx rfl (hb hby at_119) rfl ((if0 _ _).trans (flt (fun q => hc121 ((lw_gt _ _).mp q))).2.2.1) ?_
          show Steps p.tables e below (T108.setTop (mkF m 122 #[.val (.long x0), .second, .val (.int x1), .val (.long mx), .second, .val (.ref b73), .val (.int (if mx < (1 : Int64) then (0 : Int32) else (1 : Int32))), .val (.int (if mx < (2 : Int64) then (0 : Int32) else (1 : Int32))), .val (.int (if mx < (3 : Int64) then (0 : Int32) else (1 : Int32))), .val (.int (if mx < (4 : Int64) then (0 : Int32) else (1 : Int32))), .val (.int (if mx < (5 : Int64) then (0 : Int32) else (1 : Int32))), .val (.int (if mx < (6 : Int64) then (0 : Int32) else (1 : Int32)))] [(.int (if mx < (3 : Int64) then (0 : Int32) else (1 : Int32)))])) _
          refine XS.iconst X108.here hx rfl (hb hby at_122) ?_
          show Steps p.tables e below (T108.setTop (mkF m 123 #[.val (.long x0), .second, .val (.int x1), .val (.long mx), .second, .val (.ref b73), .val (.int (if mx < (1 : Int64) then (0 : Int32) else (1 : Int32))), .val (.int (if mx < (2 : Int64) then (0 : Int32) else (1 : Int32))), .val (.int (if mx < (3 : Int64) then (0 : Int32) else (1 : Int32))), .val (.int (if mx < (4 : Int64) then (0 : Int32) else (1 : Int32))), .val (.int (if mx < (5 : Int64) then (0 : Int32) else (1 : Int32))), .val (.int (if mx < (6 : Int64) then (0 : Int32) else (1 : Int32)))] [(.int (1 : Int32)), (.int (if mx < (3 : Int64) then (0 : Int32) else (1 : Int32)))])) _
          refine XS.goto X108.here hx rfl (pc0 := 123) (pc' := 127) rfl (hb hby at_123) (by decide) (by decide) ?_
          simp only [if_neg hc121]
          exact Steps.refl _
        )
    have hf123 : (if mx < (3 : Int64) then (0 : Int32) else (1 : Int32)) = (if mx < (3 : Int64) then (0 : Int32) else (1 : Int32)) := rfl
    have st124 : Steps p.tables e below (s₁.setTop (entryFrame m #[(.long x0), (.int x1)] maxLocals)) (T108.setTop (mkF m 137 #[.val (.long x0), .second, .val (.int x1), .val (.long mx), .second, .val (.ref b73), .val (.int (if mx < (1 : Int64) then (0 : Int32) else (1 : Int32))), .val (.int (if mx < (2 : Int64) then (0 : Int32) else (1 : Int32))), .val (.int (if mx < (3 : Int64) then (0 : Int32) else (1 : Int32))), .val (.int (if mx < (4 : Int64) then (0 : Int32) else (1 : Int32))), .val (.int (if mx < (5 : Int64) then (0 : Int32) else (1 : Int32))), .val (.int (if mx < (6 : Int64) then (0 : Int32) else (1 : Int32)))] [(.int (lcmpW (4 : Int64) mx)), (.int (if mx < (4 : Int64) then (0 : Int32) else (1 : Int32)))])) := st122.trans (by
        show Steps p.tables e below (T108.setTop (mkF m 127 #[.val (.long x0), .second, .val (.int x1), .val (.long mx), .second, .val (.ref b73), .val (.int (if mx < (1 : Int64) then (0 : Int32) else (1 : Int32))), .val (.int (if mx < (2 : Int64) then (0 : Int32) else (1 : Int32))), .val (.int (if mx < (3 : Int64) then (0 : Int32) else (1 : Int32))), .val (.int (if mx < (4 : Int64) then (0 : Int32) else (1 : Int32))), .val (.int (if mx < (5 : Int64) then (0 : Int32) else (1 : Int32))), .val (.int (if mx < (6 : Int64) then (0 : Int32) else (1 : Int32)))] [(.int (if mx < (3 : Int64) then (0 : Int32) else (1 : Int32))), (.int (if mx < (3 : Int64) then (0 : Int32) else (1 : Int32)))])) _
        refine XS.icmpNo X108.here hx rfl (hb hby at_127) rfl (teq hf123).2 ?_
        show Steps p.tables e below (T108.setTop (mkF m 130 #[.val (.long x0), .second, .val (.int x1), .val (.long mx), .second, .val (.ref b73), .val (.int (if mx < (1 : Int64) then (0 : Int32) else (1 : Int32))), .val (.int (if mx < (2 : Int64) then (0 : Int32) else (1 : Int32))), .val (.int (if mx < (3 : Int64) then (0 : Int32) else (1 : Int32))), .val (.int (if mx < (4 : Int64) then (0 : Int32) else (1 : Int32))), .val (.int (if mx < (5 : Int64) then (0 : Int32) else (1 : Int32))), .val (.int (if mx < (6 : Int64) then (0 : Int32) else (1 : Int32)))] [])) _
        refine XS.iload X108.here hx rfl (hb hby at_130) rfl ?_
        show Steps p.tables e below (T108.setTop (mkF m 132 #[.val (.long x0), .second, .val (.int x1), .val (.long mx), .second, .val (.ref b73), .val (.int (if mx < (1 : Int64) then (0 : Int32) else (1 : Int32))), .val (.int (if mx < (2 : Int64) then (0 : Int32) else (1 : Int32))), .val (.int (if mx < (3 : Int64) then (0 : Int32) else (1 : Int32))), .val (.int (if mx < (4 : Int64) then (0 : Int32) else (1 : Int32))), .val (.int (if mx < (5 : Int64) then (0 : Int32) else (1 : Int32))), .val (.int (if mx < (6 : Int64) then (0 : Int32) else (1 : Int32)))] [(.int (if mx < (4 : Int64) then (0 : Int32) else (1 : Int32)))])) _
        refine X108.ldc2Long hx hown (mvT hZ (hw _ (List.mem_of_getElem? (i := 25) rfl))) (g := (mkF m 132 #[.val (.long x0), .second, .val (.int x1), .val (.long mx), .second, .val (.ref b73), .val (.int (if mx < (1 : Int64) then (0 : Int32) else (1 : Int32))), .val (.int (if mx < (2 : Int64) then (0 : Int32) else (1 : Int32))), .val (.int (if mx < (3 : Int64) then (0 : Int32) else (1 : Int32))), .val (.int (if mx < (4 : Int64) then (0 : Int32) else (1 : Int32))), .val (.int (if mx < (5 : Int64) then (0 : Int32) else (1 : Int32))), .val (.int (if mx < (6 : Int64) then (0 : Int32) else (1 : Int32)))] [(.int (if mx < (4 : Int64) then (0 : Int32) else (1 : Int32)))])) rfl (hb hby at_132) _ ?_
        show Steps p.tables e below (T108.setTop (mkF m 135 #[.val (.long x0), .second, .val (.int x1), .val (.long mx), .second, .val (.ref b73), .val (.int (if mx < (1 : Int64) then (0 : Int32) else (1 : Int32))), .val (.int (if mx < (2 : Int64) then (0 : Int32) else (1 : Int32))), .val (.int (if mx < (3 : Int64) then (0 : Int32) else (1 : Int32))), .val (.int (if mx < (4 : Int64) then (0 : Int32) else (1 : Int32))), .val (.int (if mx < (5 : Int64) then (0 : Int32) else (1 : Int32))), .val (.int (if mx < (6 : Int64) then (0 : Int32) else (1 : Int32)))] [(.long (4 : Int64)), (.int (if mx < (4 : Int64) then (0 : Int32) else (1 : Int32)))])) _
        refine XS.lloadN X108.here hx rfl (hb hby at_135) rfl ?_
        show Steps p.tables e below (T108.setTop (mkF m 136 #[.val (.long x0), .second, .val (.int x1), .val (.long mx), .second, .val (.ref b73), .val (.int (if mx < (1 : Int64) then (0 : Int32) else (1 : Int32))), .val (.int (if mx < (2 : Int64) then (0 : Int32) else (1 : Int32))), .val (.int (if mx < (3 : Int64) then (0 : Int32) else (1 : Int32))), .val (.int (if mx < (4 : Int64) then (0 : Int32) else (1 : Int32))), .val (.int (if mx < (5 : Int64) then (0 : Int32) else (1 : Int32))), .val (.int (if mx < (6 : Int64) then (0 : Int32) else (1 : Int32)))] [(.long mx), (.long (4 : Int64)), (.int (if mx < (4 : Int64) then (0 : Int32) else (1 : Int32)))])) _
        refine XS.lcmp X108.here hx rfl (hb hby at_136) rfl ?_
        exact Steps.refl _)
    have st126 : Steps p.tables e below (s₁.setTop (entryFrame m #[(.long x0), (.int x1)] maxLocals)) (T108.setTop (mkF m 145 #[.val (.long x0), .second, .val (.int x1), .val (.long mx), .second, .val (.ref b73), .val (.int (if mx < (1 : Int64) then (0 : Int32) else (1 : Int32))), .val (.int (if mx < (2 : Int64) then (0 : Int32) else (1 : Int32))), .val (.int (if mx < (3 : Int64) then (0 : Int32) else (1 : Int32))), .val (.int (if mx < (4 : Int64) then (0 : Int32) else (1 : Int32))), .val (.int (if mx < (5 : Int64) then (0 : Int32) else (1 : Int32))), .val (.int (if mx < (6 : Int64) then (0 : Int32) else (1 : Int32)))] [(.int (if mx < (4 : Int64) then (0 : Int32) else (1 : Int32))), (.int (if mx < (4 : Int64) then (0 : Int32) else (1 : Int32)))])) := st124.trans (by
        show Steps p.tables e below (T108.setTop (mkF m 137 #[.val (.long x0), .second, .val (.int x1), .val (.long mx), .second, .val (.ref b73), .val (.int (if mx < (1 : Int64) then (0 : Int32) else (1 : Int32))), .val (.int (if mx < (2 : Int64) then (0 : Int32) else (1 : Int32))), .val (.int (if mx < (3 : Int64) then (0 : Int32) else (1 : Int32))), .val (.int (if mx < (4 : Int64) then (0 : Int32) else (1 : Int32))), .val (.int (if mx < (5 : Int64) then (0 : Int32) else (1 : Int32))), .val (.int (if mx < (6 : Int64) then (0 : Int32) else (1 : Int32)))] [(.int (lcmpW (4 : Int64) mx)), (.int (if mx < (4 : Int64) then (0 : Int32) else (1 : Int32)))])) _
        by_cases hc125 : mx < (4 : Int64)
        · show Steps p.tables e below (T108.setTop (mkF m 137 #[.val (.long x0), .second, .val (.int x1), .val (.long mx), .second, .val (.ref b73), .val (.int (if mx < (1 : Int64) then (0 : Int32) else (1 : Int32))), .val (.int (if mx < (2 : Int64) then (0 : Int32) else (1 : Int32))), .val (.int (if mx < (3 : Int64) then (0 : Int32) else (1 : Int32))), .val (.int (if mx < (4 : Int64) then (0 : Int32) else (1 : Int32))), .val (.int (if mx < (5 : Int64) then (0 : Int32) else (1 : Int32))), .val (.int (if mx < (6 : Int64) then (0 : Int32) else (1 : Int32)))] [(.int (lcmpW (4 : Int64) mx)), (.int (if mx < (4 : Int64) then (0 : Int32) else (1 : Int32)))])) _
          refine XS.ifYes X108.here hx rfl (pc0 := 137) (pc' := 144) rfl (hb hby at_137) rfl ((if0 _ _).trans (tlt ((lw_gt _ _).mpr hc125)).2.2.1) (by decide) (by decide) ?_
          show Steps p.tables e below (T108.setTop (mkF m 144 #[.val (.long x0), .second, .val (.int x1), .val (.long mx), .second, .val (.ref b73), .val (.int (if mx < (1 : Int64) then (0 : Int32) else (1 : Int32))), .val (.int (if mx < (2 : Int64) then (0 : Int32) else (1 : Int32))), .val (.int (if mx < (3 : Int64) then (0 : Int32) else (1 : Int32))), .val (.int (if mx < (4 : Int64) then (0 : Int32) else (1 : Int32))), .val (.int (if mx < (5 : Int64) then (0 : Int32) else (1 : Int32))), .val (.int (if mx < (6 : Int64) then (0 : Int32) else (1 : Int32)))] [(.int (if mx < (4 : Int64) then (0 : Int32) else (1 : Int32)))])) _
          refine XS.iconst X108.here hx rfl (hb hby at_144) ?_
          simp only [if_pos hc125]
          exact Steps.refl _
        · show Steps p.tables e below (T108.setTop (mkF m 137 #[.val (.long x0), .second, .val (.int x1), .val (.long mx), .second, .val (.ref b73), .val (.int (if mx < (1 : Int64) then (0 : Int32) else (1 : Int32))), .val (.int (if mx < (2 : Int64) then (0 : Int32) else (1 : Int32))), .val (.int (if mx < (3 : Int64) then (0 : Int32) else (1 : Int32))), .val (.int (if mx < (4 : Int64) then (0 : Int32) else (1 : Int32))), .val (.int (if mx < (5 : Int64) then (0 : Int32) else (1 : Int32))), .val (.int (if mx < (6 : Int64) then (0 : Int32) else (1 : Int32)))] [(.int (lcmpW (4 : Int64) mx)), (.int (if mx < (4 : Int64) then (0 : Int32) else (1 : Int32)))])) _
          refine XS.ifNo X108.here hx rfl (hb hby at_137) rfl ((if0 _ _).trans (flt (fun q => hc125 ((lw_gt _ _).mp q))).2.2.1) ?_
          show Steps p.tables e below (T108.setTop (mkF m 140 #[.val (.long x0), .second, .val (.int x1), .val (.long mx), .second, .val (.ref b73), .val (.int (if mx < (1 : Int64) then (0 : Int32) else (1 : Int32))), .val (.int (if mx < (2 : Int64) then (0 : Int32) else (1 : Int32))), .val (.int (if mx < (3 : Int64) then (0 : Int32) else (1 : Int32))), .val (.int (if mx < (4 : Int64) then (0 : Int32) else (1 : Int32))), .val (.int (if mx < (5 : Int64) then (0 : Int32) else (1 : Int32))), .val (.int (if mx < (6 : Int64) then (0 : Int32) else (1 : Int32)))] [(.int (if mx < (4 : Int64) then (0 : Int32) else (1 : Int32)))])) _
          refine XS.iconst X108.here hx rfl (hb hby at_140) ?_
          show Steps p.tables e below (T108.setTop (mkF m 141 #[.val (.long x0), .second, .val (.int x1), .val (.long mx), .second, .val (.ref b73), .val (.int (if mx < (1 : Int64) then (0 : Int32) else (1 : Int32))), .val (.int (if mx < (2 : Int64) then (0 : Int32) else (1 : Int32))), .val (.int (if mx < (3 : Int64) then (0 : Int32) else (1 : Int32))), .val (.int (if mx < (4 : Int64) then (0 : Int32) else (1 : Int32))), .val (.int (if mx < (5 : Int64) then (0 : Int32) else (1 : Int32))), .val (.int (if mx < (6 : Int64) then (0 : Int32) else (1 : Int32)))] [(.int (1 : Int32)), (.int (if mx < (4 : Int64) then (0 : Int32) else (1 : Int32)))])) _
          refine XS.goto X108.here hx rfl (pc0 := 141) (pc' := 145) rfl (hb hby at_141) (by decide) (by decide) ?_
          simp only [if_neg hc125]
          exact Steps.refl _
        )
    have hf127 : (if mx < (4 : Int64) then (0 : Int32) else (1 : Int32)) = (if mx < (4 : Int64) then (0 : Int32) else (1 : Int32)) := rfl
    have st128 : Steps p.tables e below (s₁.setTop (entryFrame m #[(.long x0), (.int x1)] maxLocals)) (T108.setTop (mkF m 155 #[.val (.long x0), .second, .val (.int x1), .val (.long mx), .second, .val (.ref b73), .val (.int (if mx < (1 : Int64) then (0 : Int32) else (1 : Int32))), .val (.int (if mx < (2 : Int64) then (0 : Int32) else (1 : Int32))), .val (.int (if mx < (3 : Int64) then (0 : Int32) else (1 : Int32))), .val (.int (if mx < (4 : Int64) then (0 : Int32) else (1 : Int32))), .val (.int (if mx < (5 : Int64) then (0 : Int32) else (1 : Int32))), .val (.int (if mx < (6 : Int64) then (0 : Int32) else (1 : Int32)))] [(.int (lcmpW (5 : Int64) mx)), (.int (if mx < (5 : Int64) then (0 : Int32) else (1 : Int32)))])) := st126.trans (by
        show Steps p.tables e below (T108.setTop (mkF m 145 #[.val (.long x0), .second, .val (.int x1), .val (.long mx), .second, .val (.ref b73), .val (.int (if mx < (1 : Int64) then (0 : Int32) else (1 : Int32))), .val (.int (if mx < (2 : Int64) then (0 : Int32) else (1 : Int32))), .val (.int (if mx < (3 : Int64) then (0 : Int32) else (1 : Int32))), .val (.int (if mx < (4 : Int64) then (0 : Int32) else (1 : Int32))), .val (.int (if mx < (5 : Int64) then (0 : Int32) else (1 : Int32))), .val (.int (if mx < (6 : Int64) then (0 : Int32) else (1 : Int32)))] [(.int (if mx < (4 : Int64) then (0 : Int32) else (1 : Int32))), (.int (if mx < (4 : Int64) then (0 : Int32) else (1 : Int32)))])) _
        refine XS.icmpNo X108.here hx rfl (hb hby at_145) rfl (teq hf127).2 ?_
        show Steps p.tables e below (T108.setTop (mkF m 148 #[.val (.long x0), .second, .val (.int x1), .val (.long mx), .second, .val (.ref b73), .val (.int (if mx < (1 : Int64) then (0 : Int32) else (1 : Int32))), .val (.int (if mx < (2 : Int64) then (0 : Int32) else (1 : Int32))), .val (.int (if mx < (3 : Int64) then (0 : Int32) else (1 : Int32))), .val (.int (if mx < (4 : Int64) then (0 : Int32) else (1 : Int32))), .val (.int (if mx < (5 : Int64) then (0 : Int32) else (1 : Int32))), .val (.int (if mx < (6 : Int64) then (0 : Int32) else (1 : Int32)))] [])) _
        refine XS.iload X108.here hx rfl (hb hby at_148) rfl ?_
        show Steps p.tables e below (T108.setTop (mkF m 150 #[.val (.long x0), .second, .val (.int x1), .val (.long mx), .second, .val (.ref b73), .val (.int (if mx < (1 : Int64) then (0 : Int32) else (1 : Int32))), .val (.int (if mx < (2 : Int64) then (0 : Int32) else (1 : Int32))), .val (.int (if mx < (3 : Int64) then (0 : Int32) else (1 : Int32))), .val (.int (if mx < (4 : Int64) then (0 : Int32) else (1 : Int32))), .val (.int (if mx < (5 : Int64) then (0 : Int32) else (1 : Int32))), .val (.int (if mx < (6 : Int64) then (0 : Int32) else (1 : Int32)))] [(.int (if mx < (5 : Int64) then (0 : Int32) else (1 : Int32)))])) _
        refine X108.ldc2Long hx hown (mvT hZ (hw _ (List.mem_of_getElem? (i := 26) rfl))) (g := (mkF m 150 #[.val (.long x0), .second, .val (.int x1), .val (.long mx), .second, .val (.ref b73), .val (.int (if mx < (1 : Int64) then (0 : Int32) else (1 : Int32))), .val (.int (if mx < (2 : Int64) then (0 : Int32) else (1 : Int32))), .val (.int (if mx < (3 : Int64) then (0 : Int32) else (1 : Int32))), .val (.int (if mx < (4 : Int64) then (0 : Int32) else (1 : Int32))), .val (.int (if mx < (5 : Int64) then (0 : Int32) else (1 : Int32))), .val (.int (if mx < (6 : Int64) then (0 : Int32) else (1 : Int32)))] [(.int (if mx < (5 : Int64) then (0 : Int32) else (1 : Int32)))])) rfl (hb hby at_150) _ ?_
        show Steps p.tables e below (T108.setTop (mkF m 153 #[.val (.long x0), .second, .val (.int x1), .val (.long mx), .second, .val (.ref b73), .val (.int (if mx < (1 : Int64) then (0 : Int32) else (1 : Int32))), .val (.int (if mx < (2 : Int64) then (0 : Int32) else (1 : Int32))), .val (.int (if mx < (3 : Int64) then (0 : Int32) else (1 : Int32))), .val (.int (if mx < (4 : Int64) then (0 : Int32) else (1 : Int32))), .val (.int (if mx < (5 : Int64) then (0 : Int32) else (1 : Int32))), .val (.int (if mx < (6 : Int64) then (0 : Int32) else (1 : Int32)))] [(.long (5 : Int64)), (.int (if mx < (5 : Int64) then (0 : Int32) else (1 : Int32)))])) _
        refine XS.lloadN X108.here hx rfl (hb hby at_153) rfl ?_
        show Steps p.tables e below (T108.setTop (mkF m 154 #[.val (.long x0), .second, .val (.int x1), .val (.long mx), .second, .val (.ref b73), .val (.int (if mx < (1 : Int64) then (0 : Int32) else (1 : Int32))), .val (.int (if mx < (2 : Int64) then (0 : Int32) else (1 : Int32))), .val (.int (if mx < (3 : Int64) then (0 : Int32) else (1 : Int32))), .val (.int (if mx < (4 : Int64) then (0 : Int32) else (1 : Int32))), .val (.int (if mx < (5 : Int64) then (0 : Int32) else (1 : Int32))), .val (.int (if mx < (6 : Int64) then (0 : Int32) else (1 : Int32)))] [(.long mx), (.long (5 : Int64)), (.int (if mx < (5 : Int64) then (0 : Int32) else (1 : Int32)))])) _
        refine XS.lcmp X108.here hx rfl (hb hby at_154) rfl ?_
        exact Steps.refl _)
    have st130 : Steps p.tables e below (s₁.setTop (entryFrame m #[(.long x0), (.int x1)] maxLocals)) (T108.setTop (mkF m 163 #[.val (.long x0), .second, .val (.int x1), .val (.long mx), .second, .val (.ref b73), .val (.int (if mx < (1 : Int64) then (0 : Int32) else (1 : Int32))), .val (.int (if mx < (2 : Int64) then (0 : Int32) else (1 : Int32))), .val (.int (if mx < (3 : Int64) then (0 : Int32) else (1 : Int32))), .val (.int (if mx < (4 : Int64) then (0 : Int32) else (1 : Int32))), .val (.int (if mx < (5 : Int64) then (0 : Int32) else (1 : Int32))), .val (.int (if mx < (6 : Int64) then (0 : Int32) else (1 : Int32)))] [(.int (if mx < (5 : Int64) then (0 : Int32) else (1 : Int32))), (.int (if mx < (5 : Int64) then (0 : Int32) else (1 : Int32)))])) := st128.trans (by
        show Steps p.tables e below (T108.setTop (mkF m 155 #[.val (.long x0), .second, .val (.int x1), .val (.long mx), .second, .val (.ref b73), .val (.int (if mx < (1 : Int64) then (0 : Int32) else (1 : Int32))), .val (.int (if mx < (2 : Int64) then (0 : Int32) else (1 : Int32))), .val (.int (if mx < (3 : Int64) then (0 : Int32) else (1 : Int32))), .val (.int (if mx < (4 : Int64) then (0 : Int32) else (1 : Int32))), .val (.int (if mx < (5 : Int64) then (0 : Int32) else (1 : Int32))), .val (.int (if mx < (6 : Int64) then (0 : Int32) else (1 : Int32)))] [(.int (lcmpW (5 : Int64) mx)), (.int (if mx < (5 : Int64) then (0 : Int32) else (1 : Int32)))])) _
        by_cases hc129 : mx < (5 : Int64)
        · show Steps p.tables e below (T108.setTop (mkF m 155 #[.val (.long x0), .second, .val (.int x1), .val (.long mx), .second, .val (.ref b73), .val (.int (if mx < (1 : Int64) then (0 : Int32) else (1 : Int32))), .val (.int (if mx < (2 : Int64) then (0 : Int32) else (1 : Int32))), .val (.int (if mx < (3 : Int64) then (0 : Int32) else (1 : Int32))), .val (.int (if mx < (4 : Int64) then (0 : Int32) else (1 : Int32))), .val (.int (if mx < (5 : Int64) then (0 : Int32) else (1 : Int32))), .val (.int (if mx < (6 : Int64) then (0 : Int32) else (1 : Int32)))] [(.int (lcmpW (5 : Int64) mx)), (.int (if mx < (5 : Int64) then (0 : Int32) else (1 : Int32)))])) _
          refine XS.ifYes X108.here hx rfl (pc0 := 155) (pc' := 162) rfl (hb hby at_155) rfl ((if0 _ _).trans (tlt ((lw_gt _ _).mpr hc129)).2.2.1) (by decide) (by decide) ?_
          show Steps p.tables e below (T108.setTop (mkF m 162 #[.val (.long x0), .second, .val (.int x1), .val (.long mx), .second, .val (.ref b73), .val (.int (if mx < (1 : Int64) then (0 : Int32) else (1 : Int32))), .val (.int (if mx < (2 : Int64) then (0 : Int32) else (1 : Int32))), .val (.int (if mx < (3 : Int64) then (0 : Int32) else (1 : Int32))), .val (.int (if mx < (4 : Int64) then (0 : Int32) else (1 : Int32))), .val (.int (if mx < (5 : Int64) then (0 : Int32) else (1 : Int32))), .val (.int (if mx < (6 : Int64) then (0 : Int32) else (1 : Int32)))] [(.int (if mx < (5 : Int64) then (0 : Int32) else (1 : Int32)))])) _
          refine XS.iconst X108.here hx rfl (hb hby at_162) ?_
          simp only [if_pos hc129]
          exact Steps.refl _
        · show Steps p.tables e below (T108.setTop (mkF m 155 #[.val (.long x0), .second, .val (.int x1), .val (.long mx), .second, .val (.ref b73), .val (.int (if mx < (1 : Int64) then (0 : Int32) else (1 : Int32))), .val (.int (if mx < (2 : Int64) then (0 : Int32) else (1 : Int32))), .val (.int (if mx < (3 : Int64) then (0 : Int32) else (1 : Int32))), .val (.int (if mx < (4 : Int64) then (0 : Int32) else (1 : Int32))), .val (.int (if mx < (5 : Int64) then (0 : Int32) else (1 : Int32))), .val (.int (if mx < (6 : Int64) then (0 : Int32) else (1 : Int32)))] [(.int (lcmpW (5 : Int64) mx)), (.int (if mx < (5 : Int64) then (0 : Int32) else (1 : Int32)))])) _
          refine XS.ifNo X108.here hx rfl (hb hby at_155) rfl ((if0 _ _).trans (flt (fun q => hc129 ((lw_gt _ _).mp q))).2.2.1) ?_
          show Steps p.tables e below (T108.setTop (mkF m 158 #[.val (.long x0), .second, .val (.int x1), .val (.long mx), .second, .val (.ref b73), .val (.int (if mx < (1 : Int64) then (0 : Int32) else (1 : Int32))), .val (.int (if mx < (2 : Int64) then (0 : Int32) else (1 : Int32))), .val (.int (if mx < (3 : Int64) then (0 : Int32) else (1 : Int32))), .val (.int (if mx < (4 : Int64) then (0 : Int32) else (1 : Int32))), .val (.int (if mx < (5 : Int64) then (0 : Int32) else (1 : Int32))), .val (.int (if mx < (6 : Int64) then (0 : Int32) else (1 : Int32)))] [(.int (if mx < (5 : Int64) then (0 : Int32) else (1 : Int32)))])) _
          refine XS.iconst X108.here hx rfl (hb hby at_158) ?_
          show Steps p.tables e below (T108.setTop (mkF m 159 #[.val (.long x0), .second, .val (.int x1), .val (.long mx), .second, .val (.ref b73), .val (.int (if mx < (1 : Int64) then (0 : Int32) else (1 : Int32))), .val (.int (if mx < (2 : Int64) then (0 : Int32) else (1 : Int32))), .val (.int (if mx < (3 : Int64) then (0 : Int32) else (1 : Int32))), .val (.int (if mx < (4 : Int64) then (0 : Int32) else (1 : Int32))), .val (.int (if mx < (5 : Int64) then (0 : Int32) else (1 : Int32))), .val (.int (if mx < (6 : Int64) then (0 : Int32) else (1 : Int32)))] [(.int (1 : Int32)), (.int (if mx < (5 : Int64) then (0 : Int32) else (1 : Int32)))])) _
          refine XS.goto X108.here hx rfl (pc0 := 159) (pc' := 163) rfl (hb hby at_159) (by decide) (by decide) ?_
          simp only [if_neg hc129]
          exact Steps.refl _
        )
    have hf131 : (if mx < (5 : Int64) then (0 : Int32) else (1 : Int32)) = (if mx < (5 : Int64) then (0 : Int32) else (1 : Int32)) := rfl
    have st132 : Steps p.tables e below (s₁.setTop (entryFrame m #[(.long x0), (.int x1)] maxLocals)) (T108.setTop (mkF m 173 #[.val (.long x0), .second, .val (.int x1), .val (.long mx), .second, .val (.ref b73), .val (.int (if mx < (1 : Int64) then (0 : Int32) else (1 : Int32))), .val (.int (if mx < (2 : Int64) then (0 : Int32) else (1 : Int32))), .val (.int (if mx < (3 : Int64) then (0 : Int32) else (1 : Int32))), .val (.int (if mx < (4 : Int64) then (0 : Int32) else (1 : Int32))), .val (.int (if mx < (5 : Int64) then (0 : Int32) else (1 : Int32))), .val (.int (if mx < (6 : Int64) then (0 : Int32) else (1 : Int32)))] [(.int (lcmpW (6 : Int64) mx)), (.int (if mx < (6 : Int64) then (0 : Int32) else (1 : Int32)))])) := st130.trans (by
        show Steps p.tables e below (T108.setTop (mkF m 163 #[.val (.long x0), .second, .val (.int x1), .val (.long mx), .second, .val (.ref b73), .val (.int (if mx < (1 : Int64) then (0 : Int32) else (1 : Int32))), .val (.int (if mx < (2 : Int64) then (0 : Int32) else (1 : Int32))), .val (.int (if mx < (3 : Int64) then (0 : Int32) else (1 : Int32))), .val (.int (if mx < (4 : Int64) then (0 : Int32) else (1 : Int32))), .val (.int (if mx < (5 : Int64) then (0 : Int32) else (1 : Int32))), .val (.int (if mx < (6 : Int64) then (0 : Int32) else (1 : Int32)))] [(.int (if mx < (5 : Int64) then (0 : Int32) else (1 : Int32))), (.int (if mx < (5 : Int64) then (0 : Int32) else (1 : Int32)))])) _
        refine XS.icmpNo X108.here hx rfl (hb hby at_163) rfl (teq hf131).2 ?_
        show Steps p.tables e below (T108.setTop (mkF m 166 #[.val (.long x0), .second, .val (.int x1), .val (.long mx), .second, .val (.ref b73), .val (.int (if mx < (1 : Int64) then (0 : Int32) else (1 : Int32))), .val (.int (if mx < (2 : Int64) then (0 : Int32) else (1 : Int32))), .val (.int (if mx < (3 : Int64) then (0 : Int32) else (1 : Int32))), .val (.int (if mx < (4 : Int64) then (0 : Int32) else (1 : Int32))), .val (.int (if mx < (5 : Int64) then (0 : Int32) else (1 : Int32))), .val (.int (if mx < (6 : Int64) then (0 : Int32) else (1 : Int32)))] [])) _
        refine XS.iload X108.here hx rfl (hb hby at_166) rfl ?_
        show Steps p.tables e below (T108.setTop (mkF m 168 #[.val (.long x0), .second, .val (.int x1), .val (.long mx), .second, .val (.ref b73), .val (.int (if mx < (1 : Int64) then (0 : Int32) else (1 : Int32))), .val (.int (if mx < (2 : Int64) then (0 : Int32) else (1 : Int32))), .val (.int (if mx < (3 : Int64) then (0 : Int32) else (1 : Int32))), .val (.int (if mx < (4 : Int64) then (0 : Int32) else (1 : Int32))), .val (.int (if mx < (5 : Int64) then (0 : Int32) else (1 : Int32))), .val (.int (if mx < (6 : Int64) then (0 : Int32) else (1 : Int32)))] [(.int (if mx < (6 : Int64) then (0 : Int32) else (1 : Int32)))])) _
        refine X108.ldc2Long hx hown (mvT hZ (hw _ (List.mem_of_getElem? (i := 27) rfl))) (g := (mkF m 168 #[.val (.long x0), .second, .val (.int x1), .val (.long mx), .second, .val (.ref b73), .val (.int (if mx < (1 : Int64) then (0 : Int32) else (1 : Int32))), .val (.int (if mx < (2 : Int64) then (0 : Int32) else (1 : Int32))), .val (.int (if mx < (3 : Int64) then (0 : Int32) else (1 : Int32))), .val (.int (if mx < (4 : Int64) then (0 : Int32) else (1 : Int32))), .val (.int (if mx < (5 : Int64) then (0 : Int32) else (1 : Int32))), .val (.int (if mx < (6 : Int64) then (0 : Int32) else (1 : Int32)))] [(.int (if mx < (6 : Int64) then (0 : Int32) else (1 : Int32)))])) rfl (hb hby at_168) _ ?_
        show Steps p.tables e below (T108.setTop (mkF m 171 #[.val (.long x0), .second, .val (.int x1), .val (.long mx), .second, .val (.ref b73), .val (.int (if mx < (1 : Int64) then (0 : Int32) else (1 : Int32))), .val (.int (if mx < (2 : Int64) then (0 : Int32) else (1 : Int32))), .val (.int (if mx < (3 : Int64) then (0 : Int32) else (1 : Int32))), .val (.int (if mx < (4 : Int64) then (0 : Int32) else (1 : Int32))), .val (.int (if mx < (5 : Int64) then (0 : Int32) else (1 : Int32))), .val (.int (if mx < (6 : Int64) then (0 : Int32) else (1 : Int32)))] [(.long (6 : Int64)), (.int (if mx < (6 : Int64) then (0 : Int32) else (1 : Int32)))])) _
        refine XS.lloadN X108.here hx rfl (hb hby at_171) rfl ?_
        show Steps p.tables e below (T108.setTop (mkF m 172 #[.val (.long x0), .second, .val (.int x1), .val (.long mx), .second, .val (.ref b73), .val (.int (if mx < (1 : Int64) then (0 : Int32) else (1 : Int32))), .val (.int (if mx < (2 : Int64) then (0 : Int32) else (1 : Int32))), .val (.int (if mx < (3 : Int64) then (0 : Int32) else (1 : Int32))), .val (.int (if mx < (4 : Int64) then (0 : Int32) else (1 : Int32))), .val (.int (if mx < (5 : Int64) then (0 : Int32) else (1 : Int32))), .val (.int (if mx < (6 : Int64) then (0 : Int32) else (1 : Int32)))] [(.long mx), (.long (6 : Int64)), (.int (if mx < (6 : Int64) then (0 : Int32) else (1 : Int32)))])) _
        refine XS.lcmp X108.here hx rfl (hb hby at_172) rfl ?_
        exact Steps.refl _)
    have st134 : Steps p.tables e below (s₁.setTop (entryFrame m #[(.long x0), (.int x1)] maxLocals)) (T108.setTop (mkF m 181 #[.val (.long x0), .second, .val (.int x1), .val (.long mx), .second, .val (.ref b73), .val (.int (if mx < (1 : Int64) then (0 : Int32) else (1 : Int32))), .val (.int (if mx < (2 : Int64) then (0 : Int32) else (1 : Int32))), .val (.int (if mx < (3 : Int64) then (0 : Int32) else (1 : Int32))), .val (.int (if mx < (4 : Int64) then (0 : Int32) else (1 : Int32))), .val (.int (if mx < (5 : Int64) then (0 : Int32) else (1 : Int32))), .val (.int (if mx < (6 : Int64) then (0 : Int32) else (1 : Int32)))] [(.int (if mx < (6 : Int64) then (0 : Int32) else (1 : Int32))), (.int (if mx < (6 : Int64) then (0 : Int32) else (1 : Int32)))])) := st132.trans (by
        show Steps p.tables e below (T108.setTop (mkF m 173 #[.val (.long x0), .second, .val (.int x1), .val (.long mx), .second, .val (.ref b73), .val (.int (if mx < (1 : Int64) then (0 : Int32) else (1 : Int32))), .val (.int (if mx < (2 : Int64) then (0 : Int32) else (1 : Int32))), .val (.int (if mx < (3 : Int64) then (0 : Int32) else (1 : Int32))), .val (.int (if mx < (4 : Int64) then (0 : Int32) else (1 : Int32))), .val (.int (if mx < (5 : Int64) then (0 : Int32) else (1 : Int32))), .val (.int (if mx < (6 : Int64) then (0 : Int32) else (1 : Int32)))] [(.int (lcmpW (6 : Int64) mx)), (.int (if mx < (6 : Int64) then (0 : Int32) else (1 : Int32)))])) _
        by_cases hc133 : mx < (6 : Int64)
        · show Steps p.tables e below (T108.setTop (mkF m 173 #[.val (.long x0), .second, .val (.int x1), .val (.long mx), .second, .val (.ref b73), .val (.int (if mx < (1 : Int64) then (0 : Int32) else (1 : Int32))), .val (.int (if mx < (2 : Int64) then (0 : Int32) else (1 : Int32))), .val (.int (if mx < (3 : Int64) then (0 : Int32) else (1 : Int32))), .val (.int (if mx < (4 : Int64) then (0 : Int32) else (1 : Int32))), .val (.int (if mx < (5 : Int64) then (0 : Int32) else (1 : Int32))), .val (.int (if mx < (6 : Int64) then (0 : Int32) else (1 : Int32)))] [(.int (lcmpW (6 : Int64) mx)), (.int (if mx < (6 : Int64) then (0 : Int32) else (1 : Int32)))])) _
          refine XS.ifYes X108.here hx rfl (pc0 := 173) (pc' := 180) rfl (hb hby at_173) rfl ((if0 _ _).trans (tlt ((lw_gt _ _).mpr hc133)).2.2.1) (by decide) (by decide) ?_
          show Steps p.tables e below (T108.setTop (mkF m 180 #[.val (.long x0), .second, .val (.int x1), .val (.long mx), .second, .val (.ref b73), .val (.int (if mx < (1 : Int64) then (0 : Int32) else (1 : Int32))), .val (.int (if mx < (2 : Int64) then (0 : Int32) else (1 : Int32))), .val (.int (if mx < (3 : Int64) then (0 : Int32) else (1 : Int32))), .val (.int (if mx < (4 : Int64) then (0 : Int32) else (1 : Int32))), .val (.int (if mx < (5 : Int64) then (0 : Int32) else (1 : Int32))), .val (.int (if mx < (6 : Int64) then (0 : Int32) else (1 : Int32)))] [(.int (if mx < (6 : Int64) then (0 : Int32) else (1 : Int32)))])) _
          refine XS.iconst X108.here hx rfl (hb hby at_180) ?_
          simp only [if_pos hc133]
          exact Steps.refl _
        · show Steps p.tables e below (T108.setTop (mkF m 173 #[.val (.long x0), .second, .val (.int x1), .val (.long mx), .second, .val (.ref b73), .val (.int (if mx < (1 : Int64) then (0 : Int32) else (1 : Int32))), .val (.int (if mx < (2 : Int64) then (0 : Int32) else (1 : Int32))), .val (.int (if mx < (3 : Int64) then (0 : Int32) else (1 : Int32))), .val (.int (if mx < (4 : Int64) then (0 : Int32) else (1 : Int32))), .val (.int (if mx < (5 : Int64) then (0 : Int32) else (1 : Int32))), .val (.int (if mx < (6 : Int64) then (0 : Int32) else (1 : Int32)))] [(.int (lcmpW (6 : Int64) mx)), (.int (if mx < (6 : Int64) then (0 : Int32) else (1 : Int32)))])) _
          refine XS.ifNo X108.here hx rfl (hb hby at_173) rfl ((if0 _ _).trans (flt (fun q => hc133 ((lw_gt _ _).mp q))).2.2.1) ?_
          show Steps p.tables e below (T108.setTop (mkF m 176 #[.val (.long x0), .second, .val (.int x1), .val (.long mx), .second, .val (.ref b73), .val (.int (if mx < (1 : Int64) then (0 : Int32) else (1 : Int32))), .val (.int (if mx < (2 : Int64) then (0 : Int32) else (1 : Int32))), .val (.int (if mx < (3 : Int64) then (0 : Int32) else (1 : Int32))), .val (.int (if mx < (4 : Int64) then (0 : Int32) else (1 : Int32))), .val (.int (if mx < (5 : Int64) then (0 : Int32) else (1 : Int32))), .val (.int (if mx < (6 : Int64) then (0 : Int32) else (1 : Int32)))] [(.int (if mx < (6 : Int64) then (0 : Int32) else (1 : Int32)))])) _
          refine XS.iconst X108.here hx rfl (hb hby at_176) ?_
          show Steps p.tables e below (T108.setTop (mkF m 177 #[.val (.long x0), .second, .val (.int x1), .val (.long mx), .second, .val (.ref b73), .val (.int (if mx < (1 : Int64) then (0 : Int32) else (1 : Int32))), .val (.int (if mx < (2 : Int64) then (0 : Int32) else (1 : Int32))), .val (.int (if mx < (3 : Int64) then (0 : Int32) else (1 : Int32))), .val (.int (if mx < (4 : Int64) then (0 : Int32) else (1 : Int32))), .val (.int (if mx < (5 : Int64) then (0 : Int32) else (1 : Int32))), .val (.int (if mx < (6 : Int64) then (0 : Int32) else (1 : Int32)))] [(.int (1 : Int32)), (.int (if mx < (6 : Int64) then (0 : Int32) else (1 : Int32)))])) _
          refine XS.goto X108.here hx rfl (pc0 := 177) (pc' := 181) rfl (hb hby at_177) (by decide) (by decide) ?_
          simp only [if_neg hc133]
          exact Steps.refl _
        )
    have hf135 : (if mx < (6 : Int64) then (0 : Int32) else (1 : Int32)) = (if mx < (6 : Int64) then (0 : Int32) else (1 : Int32)) := rfl
    have st136 : Steps p.tables e below (s₁.setTop (entryFrame m #[(.long x0), (.int x1)] maxLocals)) (T108.setTop (mkF m 189 #[.val (.long x0), .second, .val (.int x1), .val (.long mx), .second, .val (.ref b73), .val (.int (if mx < (1 : Int64) then (0 : Int32) else (1 : Int32))), .val (.int (if mx < (2 : Int64) then (0 : Int32) else (1 : Int32))), .val (.int (if mx < (3 : Int64) then (0 : Int32) else (1 : Int32))), .val (.int (if mx < (4 : Int64) then (0 : Int32) else (1 : Int32))), .val (.int (if mx < (5 : Int64) then (0 : Int32) else (1 : Int32))), .val (.int (if mx < (6 : Int64) then (0 : Int32) else (1 : Int32)))] [(.int (1 : Int32))])) := st134.trans (by
        show Steps p.tables e below (T108.setTop (mkF m 181 #[.val (.long x0), .second, .val (.int x1), .val (.long mx), .second, .val (.ref b73), .val (.int (if mx < (1 : Int64) then (0 : Int32) else (1 : Int32))), .val (.int (if mx < (2 : Int64) then (0 : Int32) else (1 : Int32))), .val (.int (if mx < (3 : Int64) then (0 : Int32) else (1 : Int32))), .val (.int (if mx < (4 : Int64) then (0 : Int32) else (1 : Int32))), .val (.int (if mx < (5 : Int64) then (0 : Int32) else (1 : Int32))), .val (.int (if mx < (6 : Int64) then (0 : Int32) else (1 : Int32)))] [(.int (if mx < (6 : Int64) then (0 : Int32) else (1 : Int32))), (.int (if mx < (6 : Int64) then (0 : Int32) else (1 : Int32)))])) _
        refine XS.icmpNo X108.here hx rfl (hb hby at_181) rfl (teq hf135).2 ?_
        show Steps p.tables e below (T108.setTop (mkF m 184 #[.val (.long x0), .second, .val (.int x1), .val (.long mx), .second, .val (.ref b73), .val (.int (if mx < (1 : Int64) then (0 : Int32) else (1 : Int32))), .val (.int (if mx < (2 : Int64) then (0 : Int32) else (1 : Int32))), .val (.int (if mx < (3 : Int64) then (0 : Int32) else (1 : Int32))), .val (.int (if mx < (4 : Int64) then (0 : Int32) else (1 : Int32))), .val (.int (if mx < (5 : Int64) then (0 : Int32) else (1 : Int32))), .val (.int (if mx < (6 : Int64) then (0 : Int32) else (1 : Int32)))] [])) _
        refine XS.iconst X108.here hx rfl (hb hby at_184) ?_
        show Steps p.tables e below (T108.setTop (mkF m 185 #[.val (.long x0), .second, .val (.int x1), .val (.long mx), .second, .val (.ref b73), .val (.int (if mx < (1 : Int64) then (0 : Int32) else (1 : Int32))), .val (.int (if mx < (2 : Int64) then (0 : Int32) else (1 : Int32))), .val (.int (if mx < (3 : Int64) then (0 : Int32) else (1 : Int32))), .val (.int (if mx < (4 : Int64) then (0 : Int32) else (1 : Int32))), .val (.int (if mx < (5 : Int64) then (0 : Int32) else (1 : Int32))), .val (.int (if mx < (6 : Int64) then (0 : Int32) else (1 : Int32)))] [(.int (1 : Int32))])) _
        refine XS.goto X108.here hx rfl (pc0 := 185) (pc' := 189) rfl (hb hby at_185) (by decide) (by decide) ?_
        exact Steps.refl _)
    obtain ⟨fs, hr, hrun, hended, hW, hsame⟩ := X108.leave (v := some (.int (1 : Int32))) (fun h => by rw [Bd.returns] at h; cases h)
    refine ⟨_, _, st136.trans ?_, hrun, hended, _, _, rfl, ?_, ⟨_, rfl⟩, hW, hsame.mono (by decide) (by decide)⟩
    · exact retN X108 hx (t := .boolean) Bd.returns (by simp) (hb hby at_189) hr
    · show Q0 Z x0 x1 h0 n0 _ T108.heap _
      exact ⟨rfl, N108⟩
set_option maxRecDepth 65536 in
set_option maxHeartbeats 40000000 in
theorem comes_1 {Post : Tables → Env → Array Value → State → Outcome → State → Prop} (hpost : ∀ tb e args s v u, (limb_1_1.after args s (.returned v) u = true ∧ limb_1_2.after args s (.returned v) u = true ∧ True) → FrameEnd s (.returned v) u (Jvm.fieldLocs frame_1_writes args s ++ Jvm.arrayLocs frame_1_arrays args s ++ Jvm.staticLocs frame_1_statics s) 16 128 → Post tb e args s (.returned v) u) :
    ArmFor flags0 classFile x code maxLocals ret World_1 tables_1 room_1 Calls_1 rest_1 Pre_1 Post := by
  intro l hfl _ _ p e ha hc hk s m args below hf hA hF happ hP
  obtain ⟨hcalls, hrest, hpre⟩ := hP
  obtain ⟨-, -, -, hnamed, -, -, -, hat⟩ := (Spec.applies_iff hf).mp happ
  obtain ⟨hg, hn⟩ := and_e (Cond.before_iff.mp (show (Jvm.Cond.and given_1 narrow_1).before args s = true from hpre))
  obtain ⟨g1, g2⟩ := and_e hg
  obtain ⟨g3, g4⟩ := and_e g2
  obtain ⟨w0, w1, rfl⟩ : ∃ w0 w1 : Value, args = #[w0, w1] := by
    have hs : args.size = 2 := by simpa [Cond.value, given_1] using g1
    obtain ⟨L⟩ := args
    match L, hs with
    | [w0, w1], _ => exact ⟨w0, w1, rfl⟩
  have hw := fun d (hd : d ∈ tables_1) => atoms_spec (ws := Jvm.Cond.code x code maxLocals ret :: tables_1) hat d (List.mem_cons_of_mem _ hd)
  have hfit : Fit s := fun {y c} hc i hi => by
    obtain ⟨ha, rfl⟩ := Array.getElem?_eq_some_iff.mp hc
    have q := List.all_eq_true.mp ((Array.all_eq_true_iff_forall_mem.mp hF) _ (Array.getElem_mem ha)) i (List.mem_range.mpr hi)
    simpa [Array.getElem?_eq_getElem hi] using q
  obtain ⟨i0, ei0⟩ := isL_v g3
  obtain rfl : w0 = (.long i0) := Option.some.inj ei0
  obtain ⟨i1, ei1⟩ := is_v g4
  obtain rfl : w1 = (.int i1) := Option.some.inj ei1
  obtain ⟨n, o, h1, h2, h3, _, L, rfl, ⟨hv, N⟩, hq⟩ := rm0 l s _ hw tables_1 i0 i1  s.heap s.heap.size (Nat.le_refl _)  p e ha hc hk s m _ below hf ((Spec.applies_iff_loose hf).mp happ).1 ⟨rfl, State.Warmed39.refl s, rfl⟩ trivial
  subst hv
  refine ⟨n, _, h1, h2, h3, hpost _ _ _ _ _ _ ⟨Cond.after_iff.mpr rfl, Cond.after_iff.mpr (eq_i res_at (Term.int_eval (1)) rfl), trivial⟩ ⟨hq.1, hq.2.1, (hq.2.2.sift fun y hy => Or.inr (N y hy)).mono (by decide) (by decide)⟩⟩
theorem main_1_1 : Claimed_1_1 := comes_1 fun _ _ _ _ _ _ h hF => ⟨h.1, hF⟩
theorem main_1_2 : Claimed_1_2 := comes_1 fun _ _ _ _ _ _ h hF => ⟨h.2.1, hF⟩
end Jvm.Pilot.@@N@@
namespace Jvm.Pilot.@@N@@
open Jvm Jvm.ClassFile Sem Op Lib Jvm.Free Jvm.Stand Jvm.Pilot.@@N@@.Jvm.D
/-! MADE BY PROGRAM (witnessworld.py) out of the Statement's table words and the real class files: 10 classes; the members and pool entries that the words name. The judged class is class 1, her method 1. -/
namespace start1
open Jvm.ClassFile
def u (s : String) : CpInfo := .utf8 (stringToUtf16 s)
/-- a pool by its gaps: so many unusable entries, then the entry; so many at the end -/
def gap : Nat → List CpInfo → List CpInfo
  | 0, r => r
  | n + 1, r => .unusable :: gap n r
def poolList (es : List (Nat × CpInfo)) (last : Nat) : List CpInfo := es.foldr (fun e r => gap e.1 (e.2 :: r)) (gap last [])
def pool (es : List (Nat × CpInfo)) (last : Nat) : Array CpInfo := ⟨poolList es last⟩
def fileOf (pool : Array CpInfo) (this : Nat) (attrs : Array Attribute := #[]) (ms : Array MethodInfo := #[]) (fl : Nat := 33) (sup : Nat := 0) (ifs : Array Nat := #[]) (fds : Array FieldInfo := #[]) : ClassFile where
  minorVersion := 0
  majorVersion := 65
  constantPool := pool
  accessFlags := fl
  thisClass := this
  superClass := sup
  interfaces := ifs
  fields := fds
  methods := ms
  attributes := attrs
def plain (name : String) (sup : Option ClassId) : Class where
  name := name
  kind := .ordinary
  loader := none
  accessFlags := 33
  super := sup
  interfaces := #[]
  cf := none
  fields := #[]
  methods := #[]
  instanceTypes := #[]
  staticTypes := #[]
  resolved := #[]
  callSites := []
  init := .initialized
  statics := none
  mirror := none

def pool0 : Array CpInfo := pool [(5, u "<init>"), (0, u "()V"), (1, .class_ 10), (1, u "java/lang/Object")] 113

def k0c0 : Code := { maxStack := 0, maxLocals := 1, code := object_method_1_code, exceptionTable := #[], attributes := #[] }
def k0m0 : Method := { name := "<init>", desc := "()V", sig := { parameters := [], returnType := none }, accessFlags := 1, code := some k0c0 }
/-- java/lang/Object -/
def k0 : Class := { plain "java/lang/Object" none with
  accessFlags := 33
  interfaces := #[]
  cf := some (fileOf pool0 8 #[] #[{ accessFlags := 1, nameIndex := 5, descriptorIndex := 6, attributes := #[] }] 33 0 #[] #[])
  fields := #[]
  methods := #[k0m0]
  instanceTypes := #[]
  staticTypes := #[]
  resolved := Array.replicate 124 none
  statics := none }

def pool1 : Array CpInfo := pool [(2, .class_ 4), (1, u "java/lang/Object"), (0, u "<init>"), (0, u "()V"), (0, .long 7), (3, .long 9223372036854775807), (1, .methodref 14 15), (0, .class_ 16), (0, .nameAndType 17 18), (0, u "java/lang/Math"), (0, u "max"), (0, u "(JJ)J"), (0, .class_ 20), (0, u "com/example/treeline/treeline/common/StepLimit"), (0, .methodref 19 22), (0, .nameAndType 5 23), (0, u "(J)V"), (0, .methodref 19 25), (0, .nameAndType 26 27), (0, u "take"), (0, u "()Z"), (0, .long 2), (1, .long 3), (1, .long 4), (1, .long 5), (1, .long 6), (1, .class_ 39), (0, u "com/example/treeline/treeline/common/StepLimitTakePinLaw"), (2, u "law"), (0, u "(JI)Z")] 3

def k1m0 : Method := { name := "<init>", desc := "()V", sig := { parameters := [], returnType := none }, accessFlags := 1, code := none }
def k1c1 : Code := { maxStack := 6, maxLocals := 12, code := code, exceptionTable := #[], attributes := #[] }
def k1m1 : Method := { name := "law", desc := "(JI)Z", sig := { parameters := [.long, .int], returnType := some .boolean }, accessFlags := 9, code := some k1c1 }
/-- com/example/treeline/treeline/common/StepLimitTakePinLaw -/
def k1 : Class := { plain "com/example/treeline/treeline/common/StepLimitTakePinLaw" (some 0) with
  accessFlags := 49
  interfaces := #[]
  cf := some (fileOf pool1 38 #[] #[{ accessFlags := 1, nameIndex := 5, descriptorIndex := 6, attributes := #[] }, { accessFlags := 9, nameIndex := 42, descriptorIndex := 43, attributes := #[] }] 49 2 #[] #[])
  fields := #[]
  methods := #[k1m0, k1m1]
  instanceTypes := #[]
  staticTypes := #[]
  resolved := Array.replicate 47 none
  statics := none }

def pool2 : Array CpInfo := pool [(1, .class_ 2), (0, u "java/lang/Math"), (1, .class_ 6), (1, u "java/lang/Object"), (0, u "<init>"), (0, u "()V"), (89, .class_ 100), (1, u "java/lang/Math$RandomNumberGeneratorHolder"), (20, u "(JJ)J"), (50, u "negativeZeroFloatBits"), (0, u "J"), (2, u "negativeZeroDoubleBits"), (21, u "max"), (46, u "$assertionsDisabled"), (0, u "Z"), (91, u "twoToTheDoubleScaleDown"), (0, u "D"), (4, u "twoToTheDoubleScaleUp"), (9, u "E"), (3, u "PI"), (2, u "TAU"), (2, u "DEGREES_TO_RADIANS"), (0, u "RADIANS_TO_DEGREES")] 94

def k2m0 : Method := { name := "<init>", desc := "()V", sig := { parameters := [], returnType := none }, accessFlags := 2, code := none }
def k2c1 : Code := { maxStack := 4, maxLocals := 4, code := jdk_29_method_66_code, exceptionTable := #[], attributes := #[] }
def k2m1 : Method := { name := "max", desc := "(JJ)J", sig := { parameters := [.long, .long], returnType := some .long }, accessFlags := 9, code := some k2c1 }
/-- java/lang/Math -/
def k2 : Class := { plain "java/lang/Math" (some 0) with
  accessFlags := 49
  interfaces := #[]
  cf := some (fileOf pool2 1 #[.nestMembers #[98]] #[{ accessFlags := 2, nameIndex := 7, descriptorIndex := 8, attributes := #[] }, { accessFlags := 9, nameIndex := 198, descriptorIndex := 121, attributes := #[] }] 49 4 #[] #[{ accessFlags := 25, nameIndex := 354, descriptorIndex := 339, attributes := #[] }, { accessFlags := 25, nameIndex := 358, descriptorIndex := 339, attributes := #[] }, { accessFlags := 25, nameIndex := 361, descriptorIndex := 339, attributes := #[] }, { accessFlags := 26, nameIndex := 364, descriptorIndex := 339, attributes := #[] }, { accessFlags := 26, nameIndex := 365, descriptorIndex := 339, attributes := #[] }, { accessFlags := 26, nameIndex := 172, descriptorIndex := 173, attributes := #[] }, { accessFlags := 26, nameIndex := 176, descriptorIndex := 173, attributes := #[] }, { accessFlags := 8, nameIndex := 344, descriptorIndex := 339, attributes := #[] }, { accessFlags := 8, nameIndex := 338, descriptorIndex := 339, attributes := #[] }, { accessFlags := 4120, nameIndex := 245, descriptorIndex := 246, attributes := #[] }])
  fields := #[{ name := "E", type := .double, accessFlags := 25, slot := 0, constantValue := 0 }, { name := "PI", type := .double, accessFlags := 25, slot := 1, constantValue := 0 }, { name := "TAU", type := .double, accessFlags := 25, slot := 2, constantValue := 0 }, { name := "DEGREES_TO_RADIANS", type := .double, accessFlags := 26, slot := 3, constantValue := 0 }, { name := "RADIANS_TO_DEGREES", type := .double, accessFlags := 26, slot := 4, constantValue := 0 }, { name := "negativeZeroFloatBits", type := .long, accessFlags := 26, slot := 5, constantValue := 0 }, { name := "negativeZeroDoubleBits", type := .long, accessFlags := 26, slot := 6, constantValue := 0 }, { name := "twoToTheDoubleScaleUp", type := .double, accessFlags := 8, slot := 7, constantValue := 0 }, { name := "twoToTheDoubleScaleDown", type := .double, accessFlags := 8, slot := 8, constantValue := 0 }, { name := "$assertionsDisabled", type := .boolean, accessFlags := 4120, slot := 9, constantValue := 0 }]
  methods := #[k2m0, k2m1]
  instanceTypes := #[]
  staticTypes := #[.double, .double, .double, .double, .double, .long, .long, .double, .double, .boolean]
  resolved := Array.replicate 460 none
  statics := none }

def pool3 : Array CpInfo := pool [(3, .methodref 4 5), (0, .class_ 6), (0, .nameAndType 7 8), (0, u "java/lang/Object"), (0, u "<init>"), (0, u "()V"), (9, .fieldref 19 20), (0, .class_ 21), (0, .nameAndType 22 23), (0, u "com/example/treeline/treeline/common/StepLimit"), (0, u "max"), (0, u "J"), (0, .fieldref 19 25), (0, .nameAndType 26 23), (0, u "taken"), (0, u "NONE"), (3, u "EXCEEDED"), (0, u "Ljava/lang/String;"), (2, u "(J)V"), (3, u "take"), (0, u "()Z")] 17

def k3c0 : Code := { maxStack := 4, maxLocals := 3, code := prog_21_method_1_code, exceptionTable := #[], attributes := #[] }
def k3m0 : Method := { name := "<init>", desc := "(J)V", sig := { parameters := [.long], returnType := none }, accessFlags := 1, code := some k3c0 }
def k3c1 : Code := { maxStack := 5, maxLocals := 1, code := prog_21_method_2_code, exceptionTable := #[], attributes := #[] }
def k3m1 : Method := { name := "take", desc := "()Z", sig := { parameters := [], returnType := some .boolean }, accessFlags := 1, code := some k3c1 }
/-- com/example/treeline/treeline/common/StepLimit -/
def k3 : Class := { plain "com/example/treeline/treeline/common/StepLimit" (some 0) with
  accessFlags := 49
  interfaces := #[]
  cf := some (fileOf pool3 19 #[] #[{ accessFlags := 1, nameIndex := 7, descriptorIndex := 35, attributes := #[] }, { accessFlags := 1, nameIndex := 39, descriptorIndex := 40, attributes := #[] }] 49 4 #[] #[{ accessFlags := 25, nameIndex := 27, descriptorIndex := 23, attributes := #[] }, { accessFlags := 25, nameIndex := 31, descriptorIndex := 32, attributes := #[] }, { accessFlags := 18, nameIndex := 22, descriptorIndex := 23, attributes := #[] }, { accessFlags := 2, nameIndex := 26, descriptorIndex := 23, attributes := #[] }])
  fields := #[{ name := "NONE", type := .long, accessFlags := 25, slot := 0, constantValue := 0 }, { name := "EXCEEDED", type := (.object "java/lang/String"), accessFlags := 25, slot := 1, constantValue := 0 }, { name := "max", type := .long, accessFlags := 18, slot := 0, constantValue := 0 }, { name := "taken", type := .long, accessFlags := 2, slot := 1, constantValue := 0 }]
  methods := #[k3m0, k3m1]
  instanceTypes := #[.long, .long]
  staticTypes := #[.long, (.object "java/lang/String")]
  resolved := Array.replicate 58 none
  statics := none }

def pool4 : Array CpInfo := pool [(1, u "java/lang/Cloneable"), (0, .class_ 1), (0, u "java/lang/Object"), (0, .class_ 3)] 3

/-- java/lang/Cloneable -/
def k4 : Class := { plain "java/lang/Cloneable" (some 0) with
  accessFlags := 1537
  interfaces := #[]
  cf := some (fileOf pool4 2 #[] #[] 1537 4 #[] #[])
  fields := #[]
  methods := #[]
  instanceTypes := #[]
  staticTypes := #[]
  resolved := Array.replicate 8 none
  statics := none }

def pool5 : Array CpInfo := pool [(1, u "java/io/Serializable"), (0, .class_ 1), (0, u "java/lang/Object"), (0, .class_ 3)] 3

/-- java/io/Serializable -/
def k5 : Class := { plain "java/io/Serializable" (some 0) with
  accessFlags := 1537
  interfaces := #[]
  cf := some (fileOf pool5 2 #[] #[] 1537 4 #[] #[])
  fields := #[]
  methods := #[]
  instanceTypes := #[]
  staticTypes := #[]
  resolved := Array.replicate 8 none
  statics := none }

/-- the primitive byte -/
def k6 : Class := { plain "byte" none with kind := .primitive 'B', accessFlags := 0x411 }
/-- [B -/
def k7 : Class := { plain "[B" (some 0) with kind := .array 6 .byte, interfaces := #[4, 5], accessFlags := 1041 }

/-- the primitive int -/
def k8 : Class := { plain "int" none with kind := .primitive 'I', accessFlags := 0x411 }
/-- [I -/
def k9 : Class := { plain "[I" (some 0) with kind := .array 8 .int, interfaces := #[4, 5], accessFlags := 1041 }

def heap : Heap := #[]
def classes : Array Class := #[k0, k1, k2, k3, k4, k5, k6, k7, k8, k9]
def interned : List (Array UInt16 × Addr) := []
def slotsUsed : Nat := 0
def theMethod : MethodId := ⟨1, 1⟩
def args0 : Array Value := #[.long 5, .int 1]
def aboutOver (below : List Frame) : State where
  vm := { classes := classes, interned := interned.toArray }
  heap := heap
  slotsUsed := slotsUsed
  threads := #[{ frames := .invoking theMethod args0 :: below }]
def below0 : List Frame := [.native { method := ⟨0, 0⟩, args := #[] }]
def about1 : State := aboutOver below0
def p0 : Program := .bare "" "" ""
def e0 : Env := launch0.env 0 0 0
theorem w_frames : about1.frames = Frame.invoking theMethod args0 :: below0 := rfl
set_option maxRecDepth 65536 in
theorem w_args : argsFit about1.vm theMethod args0 = true := by decide +kernel
set_option maxRecDepth 65536 in
theorem w_heap : heapFits about1 = true := by decide +kernel
set_option maxRecDepth 65536 in
theorem w_runnable : about1.curStatus? = some .runnable := by decide +kernel
set_option maxRecDepth 65536 in
theorem w_alone : about1.alone = true := by decide +kernel
set_option maxRecDepth 65536 in
theorem w_named : about1.methodNamed? x = some theMethod := by decide +kernel
set_option maxRecDepth 65536 in
theorem w_hears : about1.hears theMethod below0 = true := by decide +kernel
set_option maxRecDepth 65536 in
theorem w_ripe : about1.ripe theMethod args0 below0 = true := by decide +kernel
theorem w_running : about1.status = .running := rfl
set_option maxRecDepth 65536 in
theorem w_room : about1.hasRoom e0.platform room_1 = true :=
  launch0.hasRoom_least _ room_1 (by decide +kernel) (by decide +kernel) (by decide +kernel) (by decide +kernel) (by decide +kernel) (by decide +kernel)
theorem allAtoms_all (ts : List Jvm.Cond) (a : Array Jvm.Value) (st : Jvm.State) : (allAtoms ts).before a st = ts.all (fun c => c.before a st) := by
  induction ts with
  | nil => rfl
  | cons c t ih =>
    show (Jvm.Cond.and c (allAtoms t)).before a st = _
    rw [Jvm.Cond.before_and, ih, List.all_cons]
def words1 : List Jvm.Cond := Jvm.Cond.code x code maxLocals ret :: tables_1
/-- a 'code' word, met by the world's own term for the bytes: nothing is compared byte by byte -/
theorem code_word {y : MethodName} {bytes : ByteArray} {mx : Nat} {rt : Option FieldType} {a : Array Value} {s : State} {m : MethodId} {meth : Method} {c : Code} (h1 : s.methodNamed? y = some m) (h2 : s.vm.method? m = some meth) (h3 : meth.code = some c) (h4 : c.code = bytes)
    (h5 : (c.maxLocals == mx && c.exceptionTable.isEmpty && decide (c.maxStack ≤ mostOperands) && decide (meth.sig.returnType = rt) && !meth.locks && decide (parseMethodDescriptor y.desc = some meth.sig)) = true) : (Jvm.Cond.code y bytes mx rt).before a s = true := by
  simp only [Bool.and_eq_true, beq_iff_eq, Bool.not_eq_true', decide_eq_true_eq] at h5
  obtain ⟨⟨⟨⟨⟨g1, g2⟩, g3⟩, g4⟩, g5⟩, g6⟩ := h5
  simp [Cond.before, Cond.holds, Cond.value, h1, h2, h3, h4, g1, g2, g3, g4, g5, g6]
def isCode : Jvm.Cond → Bool
  | .code _ _ _ _ => true
  | _ => false
theorem all_split {L : List Jvm.Cond} {P : Jvm.Cond → Bool} (h1 : L.all (fun c => isCode c || P c) = true) (h2 : ∀ c ∈ L.filter isCode, P c = true) : L.all P = true := by
  refine List.all_eq_true.mpr fun c hc => ?_
  have h := List.all_eq_true.mp h1 c hc
  rcases Bool.eq_false_or_eq_true (isCode c) with hi | hi
  · exact h2 c (List.mem_filter.mpr ⟨hc, hi⟩)
  · simpa [hi] using h
set_option maxRecDepth 65536 in
theorem w_c0 : (Jvm.Cond.code x code maxLocals ret).before args0 about1 = true := code_word (m := ⟨1, 1⟩) (meth := k1m1) (c := k1c1) (by decide +kernel) rfl rfl rfl (by decide +kernel)
set_option maxRecDepth 65536 in
theorem w_c1 : (Jvm.Cond.code ({ cls := "java/lang/Math", name := "max", desc := "(JJ)J" } : Jvm.MethodName) jdk_29_method_66_code (4 : Nat) (Option.some Jvm.ClassFile.FieldType.long)).before args0 about1 = true := code_word (m := ⟨2, 1⟩) (meth := k2m1) (c := k2c1) (by decide +kernel) rfl rfl rfl (by decide +kernel)
set_option maxRecDepth 65536 in
theorem w_c2 : (Jvm.Cond.code ({ cls := "com/example/treeline/treeline/common/StepLimit", name := "<init>", desc := "(J)V" } : Jvm.MethodName) prog_21_method_1_code (3 : Nat) (Option.none : Option Jvm.ClassFile.FieldType)).before args0 about1 = true := code_word (m := ⟨3, 0⟩) (meth := k3m0) (c := k3c0) (by decide +kernel) rfl rfl rfl (by decide +kernel)
set_option maxRecDepth 65536 in
theorem w_c3 : (Jvm.Cond.code ({ cls := "java/lang/Object", name := "<init>", desc := "()V" } : Jvm.MethodName) object_method_1_code (1 : Nat) (Option.none : Option Jvm.ClassFile.FieldType)).before args0 about1 = true := code_word (m := ⟨0, 0⟩) (meth := k0m0) (c := k0c0) (by decide +kernel) rfl rfl rfl (by decide +kernel)
set_option maxRecDepth 65536 in
theorem w_c4 : (Jvm.Cond.code ({ cls := "com/example/treeline/treeline/common/StepLimit", name := "take", desc := "()Z" } : Jvm.MethodName) prog_21_method_2_code (1 : Nat) (Option.some Jvm.ClassFile.FieldType.boolean)).before args0 about1 = true := code_word (m := ⟨3, 1⟩) (meth := k3m1) (c := k3c1) (by decide +kernel) rfl rfl rfl (by decide +kernel)
def codes1 : List Jvm.Cond := [Jvm.Cond.code x code maxLocals ret, Jvm.Cond.code ({ cls := "java/lang/Math", name := "max", desc := "(JJ)J" } : Jvm.MethodName) jdk_29_method_66_code (4 : Nat) (Option.some Jvm.ClassFile.FieldType.long), Jvm.Cond.code ({ cls := "com/example/treeline/treeline/common/StepLimit", name := "<init>", desc := "(J)V" } : Jvm.MethodName) prog_21_method_1_code (3 : Nat) (Option.none : Option Jvm.ClassFile.FieldType), Jvm.Cond.code ({ cls := "java/lang/Object", name := "<init>", desc := "()V" } : Jvm.MethodName) object_method_1_code (1 : Nat) (Option.none : Option Jvm.ClassFile.FieldType), Jvm.Cond.code ({ cls := "com/example/treeline/treeline/common/StepLimit", name := "take", desc := "()Z" } : Jvm.MethodName) prog_21_method_2_code (1 : Nat) (Option.some Jvm.ClassFile.FieldType.boolean)]
set_option maxRecDepth 65536 in
theorem codes_eq : words1.filter isCode = codes1 := rfl
theorem w_codes : ∀ c ∈ words1.filter isCode, c.before args0 about1 = true := by
  rw [codes_eq]
  intro c hc
  simp only [codes1, List.mem_cons, List.not_mem_nil, or_false] at hc
  rcases hc with rfl | rfl | rfl | rfl | rfl
  · exact w_c0
  · exact w_c1
  · exact w_c2
  · exact w_c3
  · exact w_c4
set_option maxRecDepth 65536 in
theorem w_t1 : (words1.take 24).all (fun c => isCode c || c.before args0 about1) = true := by decide +kernel
set_option maxRecDepth 65536 in
theorem w_t2 : (words1.drop 24).all (fun c => isCode c || c.before args0 about1) = true := by decide +kernel
theorem w_tables : (allAtoms (Jvm.Cond.code x code maxLocals ret :: tables_1)).before args0 about1 = true := by
  rw [allAtoms_all]
  show words1.all (fun c => c.before args0 about1) = true
  refine all_split ?_ w_codes
  rw [← List.take_append_drop 24 words1, List.all_append, w_t1, w_t2]
  rfl
set_option maxRecDepth 65536 in
theorem w_case : (Jvm.Cond.and given_1 narrow_1).before args0 about1 = true := by decide +kernel
theorem w_applies : (headSpec (Jvm.Cond.code x code maxLocals ret :: tables_1) room_1).applies x e0.platform about1 = true :=
  (Spec.applies_iff w_frames).mpr ⟨w_running, w_runnable, w_alone, w_named, w_hears, w_ripe, w_room, w_tables⟩
theorem atStart : AtStart classFile x code maxLocals ret World_1 tables_1 room_1 Calls_1 rest_1 Pre_1 launch0 p0 e0 about1 theMethod args0 below0 :=
  ⟨lists_1, trivial, launch0.admits_env _ _ _, launch0.least_env, fairChoices_fair.cas, fairChoices_fair.clock, w_frames, w_args, w_heap, w_applies, trivial, trivial, w_case⟩
end start1
theorem witness_1 : WitnessClaimed_1 := ⟨start1.p0, start1.e0, start1.about1, start1.theMethod, start1.args0, start1.below0, start1.atStart⟩
end Jvm.Pilot.@@N@@
