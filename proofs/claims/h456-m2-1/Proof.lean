import JvmDerived
import JvmDerived.Pilot.@@N@@Statement
import JvmDerived.Pilot.@@N@@Code
set_option linter.unusedVariables false
set_option linter.unusedSimpArgs false
namespace Jvm.RoadKit
open Sem ClassFile Op Lib Jvm.Stand Jvm.Free Jvm.LawKit
section New
variable {p : Program} {l : Launch} {e : Env} {R : Room} {s : State} {m : MethodId} {args : Array Value} {below : List Frame} {meth : Method} {c : Code} {T : State} {locs : List Loc} {cells slots : Nat}
theorem retI (X : Stand p l e R s m args below meth c T locs cells slots) (hx : p.tables.exec = Jvm.exec) {pc : Nat} {Ls : Array Slot} {z : Int32} {rest : List Value} (hret : meth.sig.returnType = some .int) (hd : decode c.code pc = .ok (.ireturn, 1)) {fs : List Frame}
    (hl : ∀ (f : JFrame) (acts : List Action), f.method = m → f.locked = none → f.entered = [] → (doReturn e (T.setTop f) acts (some (.int z))).1 = T.setFrames fs) : Steps p.tables e below (T.setTop (mkF m pc Ls (.int z :: rest))) (T.setFrames fs) := by
  have hm' : T.vm.method? m = some meth := X.method'
  have hn : narrow .int (.int z) = .int z := rfl
  show Steps p.tables e below (T.setTop { method := m, pc := pc, locals := Ls, stack := _ :: rest, locked := none }) _
  jvm_step X.here [X.here.top, hx, hd, hm', hret, hn]
  first | (intro acts; rw [hl _ acts rfl rfl rfl]) | rw [hl _ _ rfl rfl rfl]
  exact Steps.refl _
end New
end Jvm.RoadKit
namespace Jvm.Pilot.@@N@@
open Jvm Jvm.ClassFile Sem Op Lib Jvm.Free Jvm.Stand Jvm.LawKit Jvm.RoadKit Bundle Jvm.Pilot.@@N@@.Jvm.D
theorem own_bt {P : Prop} [Decidable P] (h : P) : ifCond.holds .eq (if P then (1 : Int32) else (0 : Int32)) = false ∧ ifCond.holds .ne (if P then (1 : Int32) else (0 : Int32)) = true := by rw [if_pos h]; exact ⟨rfl, rfl⟩
theorem own_bf {P : Prop} [Decidable P] (h : ¬ P) : ifCond.holds .eq (if P then (1 : Int32) else (0 : Int32)) = true ∧ ifCond.holds .ne (if P then (1 : Int32) else (0 : Int32)) = false := by rw [if_neg h]; exact ⟨rfl, rfl⟩
theorem own_getI (L : List Int32) (i : Nat) : (List.map Value.int L).getD i (.int (0 : Int32)) = .int (L.getD i 0) := by
  simp only [List.getD_eq_getElem?_getD, List.getElem?_map]; cases L[i]? <;> rfl
theorem own_getJ (L : List Int64) (i : Nat) : (List.map Value.long L).getD i (.long (0 : Int64)) = .long (L.getD i 0) := by
  simp only [List.getD_eq_getElem?_getD, List.getElem?_map]; cases L[i]? <;> rfl
theorem own_setI (L : List Int32) (i : Nat) (x : Int32) : (List.map Value.int L).set i (.int x) = List.map Value.int (L.set i x) := (List.map_set).symm
theorem own_setJ (L : List Int64) (i : Nat) (x : Int64) : (List.map Value.long L).set i (.long x) = List.map Value.long (L.set i x) := (List.map_set).symm
theorem own_ns {Z : State} {h : Heap} {o : Addr} {C : String} (E : Exa Z h o C) : ∃ c : Cell, h[o]? = some c ∧ c.vm.isStatics = false := by
  obtain ⟨c, k, h1, -, -, h4, -⟩ := E; exact ⟨c, h1, h4⟩
theorem own_sta_keep {Z : State} {h h' : Heap} {ws : List Addr} {C n d : String} {v : Value} (S : Sta Z h C n d v) (K : Keep h h' ws) (q : ∀ w ∈ ws, ∃ c : Cell, h[w]? = some c ∧ c.vm.isStatics = false) : Sta Z h' C n d v := by
  obtain ⟨cf, i, k, f, st, cell, h1, h2, h3, h4, h5, h6, h7⟩ := S
  refine ⟨cf, i, k, f, st, cell, h1, h2, h3, h4, K.2.1 _ _ h5 (fun z => ?_), h6, h7⟩
  obtain ⟨c, e1, e2⟩ := q _ z
  cases h5.symm.trans e1; rw [e2] at h6; cases h6
theorem own_selp {s : State} {args args' : Array Value} {y z : MethodName} (hcls : z.cls = y.cls) (hnf : NotFace s z) (hz : (Cond.instanceMethod z).before args' s = true) (hpriv : s.PrivateAt y) (hinst : (Cond.instanceMethod y).before args s = true) (hy : y.cls ≠ "java/lang/invoke/MethodHandle" ∧ y.cls ≠ "java/lang/invoke/VarHandle") : (Cond.selects y.cls y y).before args s = true := by
  obtain ⟨mz, _, hnz, _⟩ := Cond.instanceMethod_spec hz
  obtain ⟨k, hk, hni⟩ := hnf mz hnz
  exact selects_self_of_private (by rw [← hcls]; exact findClass_of_methodNamed hnz) hk hni hpriv hinst hy
theorem own_swne {x k : Int32} {n : Int} (h : ¬ x = k) (e : k.toInt = n) : n ≠ x.toInt := fun q => h (Int32.toInt_inj.mp (by rw [e, q]))
theorem d1_0 : decode jdk_29_method_69_code 0 = .ok (.iload_n 0, 1) := by decide +kernel
theorem d1_1 : decode jdk_29_method_69_code 1 = .ok (.iload_n 1, 1) := by decide +kernel
theorem d1_2 : decode jdk_29_method_69_code 2 = .ok (.if_icmp .gt 7, 3) := by decide +kernel
theorem d1_5 : decode jdk_29_method_69_code 5 = .ok (.iload_n 0, 1) := by decide +kernel
theorem d1_6 : decode jdk_29_method_69_code 6 = .ok (.goto 4, 3) := by decide +kernel
theorem d1_9 : decode jdk_29_method_69_code 9 = .ok (.iload_n 1, 1) := by decide +kernel
theorem d1_10 : decode jdk_29_method_69_code 10 = .ok (.ireturn, 1) := by decide +kernel
theorem ef_1 (m : MethodId) (x0 : Int32) (x1 : Int32)  : entryFrame m #[(.int x0), (.int x1)] 2 = mkF m 0 #[.val (.int x0), .val (.int x1)] [] := by first | (simp [entryFrame, mkF, argsToLocals, Value.category]; done) | rfl
def F1 (x0 : Int32) (x1 : Int32) : Int32 := if x1 < x0 then x1 else x0
def Q1 (Z : State) (x0 : Int32) (x1 : Int32) (h0 : Heap) (n0 : Nat) (vE : Option Value) (hE : Heap) (LE : List Loc) : Prop := vE = some (.int (F1 x0 x1)) ∧ Fr n0 LE ∧ hE = h0
set_option maxRecDepth 65536 in
set_option maxHeartbeats 40000000 in
theorem rm1 (l : Launch) (Z : State) (a0 : Array Value) (hw : ∀ d ∈ tables_1, d.before a0 Z = true) (ws : List Jvm.Cond) (x0 : Int32) (x1 : Int32) (h0 : Heap) (n0 : Nat) (Z0 : n0 ≤ h0.size) :
    MetFree l (⟨"java/lang/Math", "min", "(II)I"⟩ : MethodName) (head1 (Jvm.Cond.code (⟨"java/lang/Math", "min", "(II)I"⟩ : MethodName) jdk_29_method_69_code 2 (some .int) :: ws) ({ frames := 0, cells := 0, slots := 0, locals := 0 } : Room)) (fun a U => a = #[(.int x0), (.int x1)] ∧ Z.Warmed39 U.vm ∧ U.heap = h0) (fun _ _ _ _ _ => True) (fun _ U o U' => ∃ vE LE, o = .returned vE ∧ Q1 Z x0 x1 h0 n0 vE U'.heap LE ∧ FrameEnd U o U' LE ({ frames := 0, cells := 0, slots := 0, locals := 0 } : Room).cells ({ frames := 0, cells := 0, slots := 0, locals := 0 } : Room).slots) := by
  refine MetFree.of_bodySF (Jvm.Free.JP.mathPlain rfl (by decide +kernel)) hisR ?_
  intro p e s m args below meth c s₁ Bd hml0 hP hK
  obtain ⟨rfl, hZ, hh⟩ := hP
  have hx := Bd.exec
  have hby := Bd.bytes
  have hml : c.maxLocals = 2 := hml0
  have hown : s.vm.findClass "java/lang/Math" = some m.cls := findClass_of_methodNamed Bd.named
  have hnm := (name_of_methodNamed Bd.named Bd.method).1
  have X0 : Stand p l e ({ frames := 0, cells := 0, slots := 0, locals := 0 } : Room) s m #[(.int x0), (.int x1)] below meth c s₁ [] 0 0 := Stand.of_body Bd
  have e0 : s₁.heap = h0 := by rw [← hh, Bd.state]; rfl
  have N0 := Fr.nil n0
  have st0 : Steps p.tables e below (s₁.setTop (entryFrame m #[(.int x0), (.int x1)] 2)) (s₁.setTop (mkF m 0 #[.val (.int x0), .val (.int x1)] [])) := castTop (ef_1 m x0 x1) (Steps.refl _)
  have st1 : Steps p.tables e below (s₁.setTop (entryFrame m #[(.int x0), (.int x1)] 2)) (s₁.setTop (mkF m 2 #[.val (.int x0), .val (.int x1)] [(.int x1), (.int x0)])) := st0.trans (by
      show Steps p.tables e below (s₁.setTop (mkF m 0 #[.val (.int x0), .val (.int x1)] [])) _
      refine XS.iloadN X0.here hx rfl (hb hby d1_0) rfl ?_
      show Steps p.tables e below (s₁.setTop (mkF m 1 #[.val (.int x0), .val (.int x1)] [(.int x0)])) _
      refine XS.iloadN X0.here hx rfl (hb hby d1_1) rfl ?_
      exact Steps.refl _)
  by_cases hc2 : x1 < x0
  · have st3 : Steps p.tables e below (s₁.setTop (entryFrame m #[(.int x0), (.int x1)] 2)) (s₁.setTop (mkF m 10 #[.val (.int x0), .val (.int x1)] [(.int x1)])) := st1.trans (by
        show Steps p.tables e below (s₁.setTop (mkF m 2 #[.val (.int x0), .val (.int x1)] [(.int x1), (.int x0)])) _
        refine XS.icmpYes X0.here hx rfl (pc0 := 2) (pc' := 9) rfl (hb hby d1_2) rfl (tlt hc2).2.2.1 (by decide) (by decide) ?_
        show Steps p.tables e below (s₁.setTop (mkF m 9 #[.val (.int x0), .val (.int x1)] [])) _
        refine XS.iloadN X0.here hx rfl (hb hby d1_9) rfl ?_
        exact Steps.refl _)
    obtain ⟨fs, hr, hrun, hended, hW, hsame⟩ := X0.leave (v := some (.int x1)) (fun h => by rw [Bd.returns] at h; cases h)
    refine ⟨_, _, st3.trans ?_, hrun, hended, _, _, rfl, ?_, ⟨_, rfl⟩, hW, hsame.mono (by decide) (by decide)⟩
    · exact retI X0 hx Bd.returns (hb hby d1_10) hr
    · show Q1 Z x0 x1 h0 n0 _ s₁.heap _
      rw [e0]
      exact ⟨by rw [F1, if_pos hc2], N0, rfl⟩
  · have st4 : Steps p.tables e below (s₁.setTop (entryFrame m #[(.int x0), (.int x1)] 2)) (s₁.setTop (mkF m 10 #[.val (.int x0), .val (.int x1)] [(.int x0)])) := st1.trans (by
        show Steps p.tables e below (s₁.setTop (mkF m 2 #[.val (.int x0), .val (.int x1)] [(.int x1), (.int x0)])) _
        refine XS.icmpNo X0.here hx rfl (hb hby d1_2) rfl (flt hc2).2.2.1 ?_
        show Steps p.tables e below (s₁.setTop (mkF m 5 #[.val (.int x0), .val (.int x1)] [])) _
        refine XS.iloadN X0.here hx rfl (hb hby d1_5) rfl ?_
        show Steps p.tables e below (s₁.setTop (mkF m 6 #[.val (.int x0), .val (.int x1)] [(.int x0)])) _
        refine XS.goto X0.here hx rfl (pc0 := 6) (pc' := 10) rfl (hb hby d1_6) (by decide) (by decide) ?_
        exact Steps.refl _)
    obtain ⟨fs, hr, hrun, hended, hW, hsame⟩ := X0.leave (v := some (.int x0)) (fun h => by rw [Bd.returns] at h; cases h)
    refine ⟨_, _, st4.trans ?_, hrun, hended, _, _, rfl, ?_, ⟨_, rfl⟩, hW, hsame.mono (by decide) (by decide)⟩
    · exact retI X0 hx Bd.returns (hb hby d1_10) hr
    · show Q1 Z x0 x1 h0 n0 _ s₁.heap _
      rw [e0]
      exact ⟨by rw [F1, if_neg hc2], N0, rfl⟩
theorem d2_0 : decode jdk_29_method_65_code 0 = .ok (.iload_n 0, 1) := by decide +kernel
theorem d2_1 : decode jdk_29_method_65_code 1 = .ok (.iload_n 1, 1) := by decide +kernel
theorem d2_2 : decode jdk_29_method_65_code 2 = .ok (.if_icmp .lt 7, 3) := by decide +kernel
theorem d2_5 : decode jdk_29_method_65_code 5 = .ok (.iload_n 0, 1) := by decide +kernel
theorem d2_6 : decode jdk_29_method_65_code 6 = .ok (.goto 4, 3) := by decide +kernel
theorem d2_9 : decode jdk_29_method_65_code 9 = .ok (.iload_n 1, 1) := by decide +kernel
theorem d2_10 : decode jdk_29_method_65_code 10 = .ok (.ireturn, 1) := by decide +kernel
theorem ef_2 (m : MethodId) (x0 : Int32) (x1 : Int32)  : entryFrame m #[(.int x0), (.int x1)] 2 = mkF m 0 #[.val (.int x0), .val (.int x1)] [] := by first | (simp [entryFrame, mkF, argsToLocals, Value.category]; done) | rfl
def F2 (x0 : Int32) (x1 : Int32) : Int32 := if x0 < x1 then x1 else x0
def Q2 (Z : State) (x0 : Int32) (x1 : Int32) (h0 : Heap) (n0 : Nat) (vE : Option Value) (hE : Heap) (LE : List Loc) : Prop := vE = some (.int (F2 x0 x1)) ∧ Fr n0 LE ∧ hE = h0
set_option maxRecDepth 65536 in
set_option maxHeartbeats 40000000 in
theorem rm2 (l : Launch) (Z : State) (a0 : Array Value) (hw : ∀ d ∈ tables_1, d.before a0 Z = true) (ws : List Jvm.Cond) (x0 : Int32) (x1 : Int32) (h0 : Heap) (n0 : Nat) (Z0 : n0 ≤ h0.size) :
    MetFree l (⟨"java/lang/Math", "max", "(II)I"⟩ : MethodName) (head1 (Jvm.Cond.code (⟨"java/lang/Math", "max", "(II)I"⟩ : MethodName) jdk_29_method_65_code 2 (some .int) :: ws) ({ frames := 0, cells := 0, slots := 0, locals := 0 } : Room)) (fun a U => a = #[(.int x0), (.int x1)] ∧ Z.Warmed39 U.vm ∧ U.heap = h0) (fun _ _ _ _ _ => True) (fun _ U o U' => ∃ vE LE, o = .returned vE ∧ Q2 Z x0 x1 h0 n0 vE U'.heap LE ∧ FrameEnd U o U' LE ({ frames := 0, cells := 0, slots := 0, locals := 0 } : Room).cells ({ frames := 0, cells := 0, slots := 0, locals := 0 } : Room).slots) := by
  refine MetFree.of_bodySF (Jvm.Free.JP.mathPlain rfl (by decide +kernel)) hisR ?_
  intro p e s m args below meth c s₁ Bd hml0 hP hK
  obtain ⟨rfl, hZ, hh⟩ := hP
  have hx := Bd.exec
  have hby := Bd.bytes
  have hml : c.maxLocals = 2 := hml0
  have hown : s.vm.findClass "java/lang/Math" = some m.cls := findClass_of_methodNamed Bd.named
  have hnm := (name_of_methodNamed Bd.named Bd.method).1
  have X0 : Stand p l e ({ frames := 0, cells := 0, slots := 0, locals := 0 } : Room) s m #[(.int x0), (.int x1)] below meth c s₁ [] 0 0 := Stand.of_body Bd
  have e0 : s₁.heap = h0 := by rw [← hh, Bd.state]; rfl
  have N0 := Fr.nil n0
  have st0 : Steps p.tables e below (s₁.setTop (entryFrame m #[(.int x0), (.int x1)] 2)) (s₁.setTop (mkF m 0 #[.val (.int x0), .val (.int x1)] [])) := castTop (ef_2 m x0 x1) (Steps.refl _)
  have st1 : Steps p.tables e below (s₁.setTop (entryFrame m #[(.int x0), (.int x1)] 2)) (s₁.setTop (mkF m 2 #[.val (.int x0), .val (.int x1)] [(.int x1), (.int x0)])) := st0.trans (by
      show Steps p.tables e below (s₁.setTop (mkF m 0 #[.val (.int x0), .val (.int x1)] [])) _
      refine XS.iloadN X0.here hx rfl (hb hby d2_0) rfl ?_
      show Steps p.tables e below (s₁.setTop (mkF m 1 #[.val (.int x0), .val (.int x1)] [(.int x0)])) _
      refine XS.iloadN X0.here hx rfl (hb hby d2_1) rfl ?_
      exact Steps.refl _)
  by_cases hc2 : x0 < x1
  · have st3 : Steps p.tables e below (s₁.setTop (entryFrame m #[(.int x0), (.int x1)] 2)) (s₁.setTop (mkF m 10 #[.val (.int x0), .val (.int x1)] [(.int x1)])) := st1.trans (by
        show Steps p.tables e below (s₁.setTop (mkF m 2 #[.val (.int x0), .val (.int x1)] [(.int x1), (.int x0)])) _
        refine XS.icmpYes X0.here hx rfl (pc0 := 2) (pc' := 9) rfl (hb hby d2_2) rfl (tlt hc2).1 (by decide) (by decide) ?_
        show Steps p.tables e below (s₁.setTop (mkF m 9 #[.val (.int x0), .val (.int x1)] [])) _
        refine XS.iloadN X0.here hx rfl (hb hby d2_9) rfl ?_
        exact Steps.refl _)
    obtain ⟨fs, hr, hrun, hended, hW, hsame⟩ := X0.leave (v := some (.int x1)) (fun h => by rw [Bd.returns] at h; cases h)
    refine ⟨_, _, st3.trans ?_, hrun, hended, _, _, rfl, ?_, ⟨_, rfl⟩, hW, hsame.mono (by decide) (by decide)⟩
    · exact retI X0 hx Bd.returns (hb hby d2_10) hr
    · show Q2 Z x0 x1 h0 n0 _ s₁.heap _
      rw [e0]
      exact ⟨by rw [F2, if_pos hc2], N0, rfl⟩
  · have st4 : Steps p.tables e below (s₁.setTop (entryFrame m #[(.int x0), (.int x1)] 2)) (s₁.setTop (mkF m 10 #[.val (.int x0), .val (.int x1)] [(.int x0)])) := st1.trans (by
        show Steps p.tables e below (s₁.setTop (mkF m 2 #[.val (.int x0), .val (.int x1)] [(.int x1), (.int x0)])) _
        refine XS.icmpNo X0.here hx rfl (hb hby d2_2) rfl (flt hc2).1 ?_
        show Steps p.tables e below (s₁.setTop (mkF m 5 #[.val (.int x0), .val (.int x1)] [])) _
        refine XS.iloadN X0.here hx rfl (hb hby d2_5) rfl ?_
        show Steps p.tables e below (s₁.setTop (mkF m 6 #[.val (.int x0), .val (.int x1)] [(.int x0)])) _
        refine XS.goto X0.here hx rfl (pc0 := 6) (pc' := 10) rfl (hb hby d2_6) (by decide) (by decide) ?_
        exact Steps.refl _)
    obtain ⟨fs, hr, hrun, hended, hW, hsame⟩ := X0.leave (v := some (.int x0)) (fun h => by rw [Bd.returns] at h; cases h)
    refine ⟨_, _, st4.trans ?_, hrun, hended, _, _, rfl, ?_, ⟨_, rfl⟩, hW, hsame.mono (by decide) (by decide)⟩
    · exact retI X0 hx Bd.returns (hb hby d2_10) hr
    · show Q2 Z x0 x1 h0 n0 _ s₁.heap _
      rw [e0]
      exact ⟨by rw [F2, if_neg hc2], N0, rfl⟩
theorem d3_0 : decode prog_38_method_2_code 0 = .ok (.iload_n 0, 1) := by decide +kernel
theorem d3_1 : decode prog_38_method_2_code 1 = .ok (.iload_n 1, 1) := by decide +kernel
theorem d3_2 : decode prog_38_method_2_code 2 = .ok (.if_icmp .ge 14, 3) := by decide +kernel
theorem d3_5 : decode prog_38_method_2_code 5 = .ok (.iload_n 0, 1) := by decide +kernel
theorem d3_6 : decode prog_38_method_2_code 6 = .ok (.i2l, 1) := by decide +kernel
theorem d3_7 : decode prog_38_method_2_code 7 = .ok (.bipush 32, 2) := by decide +kernel
theorem d3_9 : decode prog_38_method_2_code 9 = .ok (.lshl, 1) := by decide +kernel
theorem d3_10 : decode prog_38_method_2_code 10 = .ok (.iload_n 1, 1) := by decide +kernel
theorem d3_11 : decode prog_38_method_2_code 11 = .ok (.i2l, 1) := by decide +kernel
theorem d3_12 : decode prog_38_method_2_code 12 = .ok (.lor, 1) := by decide +kernel
theorem d3_13 : decode prog_38_method_2_code 13 = .ok (.goto 11, 3) := by decide +kernel
theorem d3_16 : decode prog_38_method_2_code 16 = .ok (.iload_n 1, 1) := by decide +kernel
theorem d3_17 : decode prog_38_method_2_code 17 = .ok (.i2l, 1) := by decide +kernel
theorem d3_18 : decode prog_38_method_2_code 18 = .ok (.bipush 32, 2) := by decide +kernel
theorem d3_20 : decode prog_38_method_2_code 20 = .ok (.lshl, 1) := by decide +kernel
theorem d3_21 : decode prog_38_method_2_code 21 = .ok (.iload_n 0, 1) := by decide +kernel
theorem d3_22 : decode prog_38_method_2_code 22 = .ok (.i2l, 1) := by decide +kernel
theorem d3_23 : decode prog_38_method_2_code 23 = .ok (.lor, 1) := by decide +kernel
theorem d3_24 : decode prog_38_method_2_code 24 = .ok (.lreturn, 1) := by decide +kernel
theorem pn_0 : plainName "org/predicaterefinery/automaton/PairSet" = true := by first | (simp [plainName, overriddenIn]; done) | decide +kernel
theorem ef_3 (m : MethodId) (x0 : Int32) (x1 : Int32)  : entryFrame m #[(.int x0), (.int x1)] 2 = mkF m 0 #[.val (.int x0), .val (.int x1)] [] := by first | (simp [entryFrame, mkF, argsToLocals, Value.category]; done) | rfl
def F3 (x0 : Int32) (x1 : Int32) : Int64 := if x0 < x1 then (((x0.toInt64) <<< ((32 : Int32) &&& 0x3f).toInt64) ||| (x1.toInt64)) else (((x1.toInt64) <<< ((32 : Int32) &&& 0x3f).toInt64) ||| (x0.toInt64))
def Q3 (Z : State) (x0 : Int32) (x1 : Int32) (h0 : Heap) (n0 : Nat) (vE : Option Value) (hE : Heap) (LE : List Loc) : Prop := vE = some (.long (F3 x0 x1)) ∧ Fr n0 LE ∧ hE = h0
set_option maxRecDepth 65536 in
set_option maxHeartbeats 40000000 in
theorem rm3 (l : Launch) (Z : State) (a0 : Array Value) (hw : ∀ d ∈ tables_1, d.before a0 Z = true) (ws : List Jvm.Cond) (x0 : Int32) (x1 : Int32) (h0 : Heap) (n0 : Nat) (Z0 : n0 ≤ h0.size) :
    MetFree l (⟨"org/predicaterefinery/automaton/PairSet", "key", "(II)J"⟩ : MethodName) (head1 (Jvm.Cond.code (⟨"org/predicaterefinery/automaton/PairSet", "key", "(II)J"⟩ : MethodName) prog_38_method_2_code 2 (some .long) :: ws) ({ frames := 0, cells := 0, slots := 0, locals := 0 } : Room)) (fun a U => a = #[(.int x0), (.int x1)] ∧ Z.Warmed39 U.vm ∧ U.heap = h0) (fun _ _ _ _ _ => True) (fun _ U o U' => ∃ vE LE, o = .returned vE ∧ Q3 Z x0 x1 h0 n0 vE U'.heap LE ∧ FrameEnd U o U' LE ({ frames := 0, cells := 0, slots := 0, locals := 0 } : Room).cells ({ frames := 0, cells := 0, slots := 0, locals := 0 } : Room).slots) := by
  refine MetFree.of_bodySF (plainFor_of_name pn_0) hisR ?_
  intro p e s m args below meth c s₁ Bd hml0 hP hK
  obtain ⟨rfl, hZ, hh⟩ := hP
  have hx := Bd.exec
  have hby := Bd.bytes
  have hml : c.maxLocals = 2 := hml0
  have hown : s.vm.findClass "org/predicaterefinery/automaton/PairSet" = some m.cls := findClass_of_methodNamed Bd.named
  have hnm := (name_of_methodNamed Bd.named Bd.method).1
  have X0 : Stand p l e ({ frames := 0, cells := 0, slots := 0, locals := 0 } : Room) s m #[(.int x0), (.int x1)] below meth c s₁ [] 0 0 := Stand.of_body Bd
  have e0 : s₁.heap = h0 := by rw [← hh, Bd.state]; rfl
  have N0 := Fr.nil n0
  have st0 : Steps p.tables e below (s₁.setTop (entryFrame m #[(.int x0), (.int x1)] 2)) (s₁.setTop (mkF m 0 #[.val (.int x0), .val (.int x1)] [])) := castTop (ef_3 m x0 x1) (Steps.refl _)
  have st1 : Steps p.tables e below (s₁.setTop (entryFrame m #[(.int x0), (.int x1)] 2)) (s₁.setTop (mkF m 2 #[.val (.int x0), .val (.int x1)] [(.int x1), (.int x0)])) := st0.trans (by
      show Steps p.tables e below (s₁.setTop (mkF m 0 #[.val (.int x0), .val (.int x1)] [])) _
      refine XS.iloadN X0.here hx rfl (hb hby d3_0) rfl ?_
      show Steps p.tables e below (s₁.setTop (mkF m 1 #[.val (.int x0), .val (.int x1)] [(.int x0)])) _
      refine XS.iloadN X0.here hx rfl (hb hby d3_1) rfl ?_
      exact Steps.refl _)
  by_cases hc2 : x0 < x1
  · have st3 : Steps p.tables e below (s₁.setTop (entryFrame m #[(.int x0), (.int x1)] 2)) (s₁.setTop (mkF m 24 #[.val (.int x0), .val (.int x1)] [(.long (((x0.toInt64) <<< ((32 : Int32) &&& 0x3f).toInt64) ||| (x1.toInt64)))])) := st1.trans (by
        show Steps p.tables e below (s₁.setTop (mkF m 2 #[.val (.int x0), .val (.int x1)] [(.int x1), (.int x0)])) _
        refine XS.icmpNo X0.here hx rfl (hb hby d3_2) rfl (tlt hc2).2.1 ?_
        show Steps p.tables e below (s₁.setTop (mkF m 5 #[.val (.int x0), .val (.int x1)] [])) _
        refine XS.iloadN X0.here hx rfl (hb hby d3_5) rfl ?_
        show Steps p.tables e below (s₁.setTop (mkF m 6 #[.val (.int x0), .val (.int x1)] [(.int x0)])) _
        refine XS.i2l X0.here hx rfl (hb hby d3_6) rfl ?_
        show Steps p.tables e below (s₁.setTop (mkF m 7 #[.val (.int x0), .val (.int x1)] [(.long (x0.toInt64))])) _
        refine XS.bipush X0.here hx rfl (hb hby d3_7) ?_
        show Steps p.tables e below (s₁.setTop (mkF m 9 #[.val (.int x0), .val (.int x1)] [(.int (32 : Int32)), (.long (x0.toInt64))])) _
        refine XS.lshl X0.here hx rfl (hb hby d3_9) rfl ?_
        show Steps p.tables e below (s₁.setTop (mkF m 10 #[.val (.int x0), .val (.int x1)] [(.long ((x0.toInt64) <<< ((32 : Int32) &&& 0x3f).toInt64))])) _
        refine XS.iloadN X0.here hx rfl (hb hby d3_10) rfl ?_
        show Steps p.tables e below (s₁.setTop (mkF m 11 #[.val (.int x0), .val (.int x1)] [(.int x1), (.long ((x0.toInt64) <<< ((32 : Int32) &&& 0x3f).toInt64))])) _
        refine XS.i2l X0.here hx rfl (hb hby d3_11) rfl ?_
        show Steps p.tables e below (s₁.setTop (mkF m 12 #[.val (.int x0), .val (.int x1)] [(.long (x1.toInt64)), (.long ((x0.toInt64) <<< ((32 : Int32) &&& 0x3f).toInt64))])) _
        refine XS.lor X0.here hx rfl (hb hby d3_12) rfl ?_
        show Steps p.tables e below (s₁.setTop (mkF m 13 #[.val (.int x0), .val (.int x1)] [(.long (((x0.toInt64) <<< ((32 : Int32) &&& 0x3f).toInt64) ||| (x1.toInt64)))])) _
        refine XS.goto X0.here hx rfl (pc0 := 13) (pc' := 24) rfl (hb hby d3_13) (by decide) (by decide) ?_
        exact Steps.refl _)
    obtain ⟨fs, hr, hrun, hended, hW, hsame⟩ := X0.leave (v := some (.long (((x0.toInt64) <<< ((32 : Int32) &&& 0x3f).toInt64) ||| (x1.toInt64)))) (fun h => by rw [Bd.returns] at h; cases h)
    refine ⟨_, _, st3.trans ?_, hrun, hended, _, _, rfl, ?_, ⟨_, rfl⟩, hW, hsame.mono (by decide) (by decide)⟩
    · exact retOut X0 hx (t := .long) Bd.returns rfl (Or.inr (Or.inl ⟨rfl, rfl, _, rfl⟩)) (hb hby d3_24) hr
    · show Q3 Z x0 x1 h0 n0 _ s₁.heap _
      rw [e0]
      exact ⟨by rw [F3, if_pos hc2], N0, rfl⟩
  · have st4 : Steps p.tables e below (s₁.setTop (entryFrame m #[(.int x0), (.int x1)] 2)) (s₁.setTop (mkF m 24 #[.val (.int x0), .val (.int x1)] [(.long (((x1.toInt64) <<< ((32 : Int32) &&& 0x3f).toInt64) ||| (x0.toInt64)))])) := st1.trans (by
        show Steps p.tables e below (s₁.setTop (mkF m 2 #[.val (.int x0), .val (.int x1)] [(.int x1), (.int x0)])) _
        refine XS.icmpYes X0.here hx rfl (pc0 := 2) (pc' := 16) rfl (hb hby d3_2) rfl (flt hc2).2.1 (by decide) (by decide) ?_
        show Steps p.tables e below (s₁.setTop (mkF m 16 #[.val (.int x0), .val (.int x1)] [])) _
        refine XS.iloadN X0.here hx rfl (hb hby d3_16) rfl ?_
        show Steps p.tables e below (s₁.setTop (mkF m 17 #[.val (.int x0), .val (.int x1)] [(.int x1)])) _
        refine XS.i2l X0.here hx rfl (hb hby d3_17) rfl ?_
        show Steps p.tables e below (s₁.setTop (mkF m 18 #[.val (.int x0), .val (.int x1)] [(.long (x1.toInt64))])) _
        refine XS.bipush X0.here hx rfl (hb hby d3_18) ?_
        show Steps p.tables e below (s₁.setTop (mkF m 20 #[.val (.int x0), .val (.int x1)] [(.int (32 : Int32)), (.long (x1.toInt64))])) _
        refine XS.lshl X0.here hx rfl (hb hby d3_20) rfl ?_
        show Steps p.tables e below (s₁.setTop (mkF m 21 #[.val (.int x0), .val (.int x1)] [(.long ((x1.toInt64) <<< ((32 : Int32) &&& 0x3f).toInt64))])) _
        refine XS.iloadN X0.here hx rfl (hb hby d3_21) rfl ?_
        show Steps p.tables e below (s₁.setTop (mkF m 22 #[.val (.int x0), .val (.int x1)] [(.int x0), (.long ((x1.toInt64) <<< ((32 : Int32) &&& 0x3f).toInt64))])) _
        refine XS.i2l X0.here hx rfl (hb hby d3_22) rfl ?_
        show Steps p.tables e below (s₁.setTop (mkF m 23 #[.val (.int x0), .val (.int x1)] [(.long (x0.toInt64)), (.long ((x1.toInt64) <<< ((32 : Int32) &&& 0x3f).toInt64))])) _
        refine XS.lor X0.here hx rfl (hb hby d3_23) rfl ?_
        exact Steps.refl _)
    obtain ⟨fs, hr, hrun, hended, hW, hsame⟩ := X0.leave (v := some (.long (((x1.toInt64) <<< ((32 : Int32) &&& 0x3f).toInt64) ||| (x0.toInt64)))) (fun h => by rw [Bd.returns] at h; cases h)
    refine ⟨_, _, st4.trans ?_, hrun, hended, _, _, rfl, ?_, ⟨_, rfl⟩, hW, hsame.mono (by decide) (by decide)⟩
    · exact retOut X0 hx (t := .long) Bd.returns rfl (Or.inr (Or.inl ⟨rfl, rfl, _, rfl⟩)) (hb hby d3_24) hr
    · show Q3 Z x0 x1 h0 n0 _ s₁.heap _
      rw [e0]
      exact ⟨by rw [F3, if_neg hc2], N0, rfl⟩
theorem d4_0 : decode prog_38_method_3_code 0 = .ok (.lload_n 0, 1) := by decide +kernel
theorem d4_1 : decode prog_38_method_3_code 1 = .ok (.bipush 32, 2) := by decide +kernel
theorem d4_3 : decode prog_38_method_3_code 3 = .ok (.lushr, 1) := by decide +kernel
theorem d4_4 : decode prog_38_method_3_code 4 = .ok (.l2i, 1) := by decide +kernel
theorem d4_5 : decode prog_38_method_3_code 5 = .ok (.ireturn, 1) := by decide +kernel
theorem ef_4 (m : MethodId) (x0 : Int64)  : entryFrame m #[(.long x0)] 2 = mkF m 0 #[.val (.long x0), .second] [] := by first | (simp [entryFrame, mkF, argsToLocals, Value.category]; done) | rfl
def F4 (x0 : Int64) : Int32 := (((x0.toUInt64 >>> ((32 : Int32) &&& 0x3f).toInt64.toUInt64).toInt64).toInt32)
def Q4 (Z : State) (x0 : Int64) (h0 : Heap) (n0 : Nat) (vE : Option Value) (hE : Heap) (LE : List Loc) : Prop := vE = some (.int (F4 x0)) ∧ Fr n0 LE ∧ hE = h0
set_option maxRecDepth 65536 in
set_option maxHeartbeats 40000000 in
theorem rm4 (l : Launch) (Z : State) (a0 : Array Value) (hw : ∀ d ∈ tables_1, d.before a0 Z = true) (ws : List Jvm.Cond) (x0 : Int64) (h0 : Heap) (n0 : Nat) (Z0 : n0 ≤ h0.size) :
    MetFree l (⟨"org/predicaterefinery/automaton/PairSet", "first", "(J)I"⟩ : MethodName) (head1 (Jvm.Cond.code (⟨"org/predicaterefinery/automaton/PairSet", "first", "(J)I"⟩ : MethodName) prog_38_method_3_code 2 (some .int) :: ws) ({ frames := 0, cells := 0, slots := 0, locals := 0 } : Room)) (fun a U => a = #[(.long x0)] ∧ Z.Warmed39 U.vm ∧ U.heap = h0) (fun _ _ _ _ _ => True) (fun _ U o U' => ∃ vE LE, o = .returned vE ∧ Q4 Z x0 h0 n0 vE U'.heap LE ∧ FrameEnd U o U' LE ({ frames := 0, cells := 0, slots := 0, locals := 0 } : Room).cells ({ frames := 0, cells := 0, slots := 0, locals := 0 } : Room).slots) := by
  refine MetFree.of_bodySF (plainFor_of_name pn_0) hisR ?_
  intro p e s m args below meth c s₁ Bd hml0 hP hK
  obtain ⟨rfl, hZ, hh⟩ := hP
  have hx := Bd.exec
  have hby := Bd.bytes
  have hml : c.maxLocals = 2 := hml0
  have hown : s.vm.findClass "org/predicaterefinery/automaton/PairSet" = some m.cls := findClass_of_methodNamed Bd.named
  have hnm := (name_of_methodNamed Bd.named Bd.method).1
  have X0 : Stand p l e ({ frames := 0, cells := 0, slots := 0, locals := 0 } : Room) s m #[(.long x0)] below meth c s₁ [] 0 0 := Stand.of_body Bd
  have e0 : s₁.heap = h0 := by rw [← hh, Bd.state]; rfl
  have N0 := Fr.nil n0
  have st0 : Steps p.tables e below (s₁.setTop (entryFrame m #[(.long x0)] 2)) (s₁.setTop (mkF m 0 #[.val (.long x0), .second] [])) := castTop (ef_4 m x0) (Steps.refl _)
  have st1 : Steps p.tables e below (s₁.setTop (entryFrame m #[(.long x0)] 2)) (s₁.setTop (mkF m 5 #[.val (.long x0), .second] [(.int (((x0.toUInt64 >>> ((32 : Int32) &&& 0x3f).toInt64.toUInt64).toInt64).toInt32))])) := st0.trans (by
      show Steps p.tables e below (s₁.setTop (mkF m 0 #[.val (.long x0), .second] [])) _
      refine XS.lloadN X0.here hx rfl (hb hby d4_0) rfl ?_
      show Steps p.tables e below (s₁.setTop (mkF m 1 #[.val (.long x0), .second] [(.long x0)])) _
      refine XS.bipush X0.here hx rfl (hb hby d4_1) ?_
      show Steps p.tables e below (s₁.setTop (mkF m 3 #[.val (.long x0), .second] [(.int (32 : Int32)), (.long x0)])) _
      refine XS.lushr X0.here hx rfl (hb hby d4_3) rfl ?_
      show Steps p.tables e below (s₁.setTop (mkF m 4 #[.val (.long x0), .second] [(.long ((x0.toUInt64 >>> ((32 : Int32) &&& 0x3f).toInt64.toUInt64).toInt64))])) _
      refine XS.l2i X0.here hx rfl (hb hby d4_4) rfl ?_
      exact Steps.refl _)
  obtain ⟨fs, hr, hrun, hended, hW, hsame⟩ := X0.leave (v := some (.int (((x0.toUInt64 >>> ((32 : Int32) &&& 0x3f).toInt64.toUInt64).toInt64).toInt32))) (fun h => by rw [Bd.returns] at h; cases h)
  refine ⟨_, _, st1.trans ?_, hrun, hended, _, _, rfl, ?_, ⟨_, rfl⟩, hW, hsame.mono (by decide) (by decide)⟩
  · exact retI X0 hx Bd.returns (hb hby d4_5) hr
  · show Q4 Z x0 h0 n0 _ s₁.heap _
    rw [e0]
    exact ⟨by rw [F4], N0, rfl⟩
theorem d5_0 : decode prog_38_method_4_code 0 = .ok (.lload_n 0, 1) := by decide +kernel
theorem d5_1 : decode prog_38_method_4_code 1 = .ok (.l2i, 1) := by decide +kernel
theorem d5_2 : decode prog_38_method_4_code 2 = .ok (.ireturn, 1) := by decide +kernel
theorem ef_5 (m : MethodId) (x0 : Int64)  : entryFrame m #[(.long x0)] 2 = mkF m 0 #[.val (.long x0), .second] [] := by first | (simp [entryFrame, mkF, argsToLocals, Value.category]; done) | rfl
def F5 (x0 : Int64) : Int32 := (x0.toInt32)
def Q5 (Z : State) (x0 : Int64) (h0 : Heap) (n0 : Nat) (vE : Option Value) (hE : Heap) (LE : List Loc) : Prop := vE = some (.int (F5 x0)) ∧ Fr n0 LE ∧ hE = h0
set_option maxRecDepth 65536 in
set_option maxHeartbeats 40000000 in
theorem rm5 (l : Launch) (Z : State) (a0 : Array Value) (hw : ∀ d ∈ tables_1, d.before a0 Z = true) (ws : List Jvm.Cond) (x0 : Int64) (h0 : Heap) (n0 : Nat) (Z0 : n0 ≤ h0.size) :
    MetFree l (⟨"org/predicaterefinery/automaton/PairSet", "second", "(J)I"⟩ : MethodName) (head1 (Jvm.Cond.code (⟨"org/predicaterefinery/automaton/PairSet", "second", "(J)I"⟩ : MethodName) prog_38_method_4_code 2 (some .int) :: ws) ({ frames := 0, cells := 0, slots := 0, locals := 0 } : Room)) (fun a U => a = #[(.long x0)] ∧ Z.Warmed39 U.vm ∧ U.heap = h0) (fun _ _ _ _ _ => True) (fun _ U o U' => ∃ vE LE, o = .returned vE ∧ Q5 Z x0 h0 n0 vE U'.heap LE ∧ FrameEnd U o U' LE ({ frames := 0, cells := 0, slots := 0, locals := 0 } : Room).cells ({ frames := 0, cells := 0, slots := 0, locals := 0 } : Room).slots) := by
  refine MetFree.of_bodySF (plainFor_of_name pn_0) hisR ?_
  intro p e s m args below meth c s₁ Bd hml0 hP hK
  obtain ⟨rfl, hZ, hh⟩ := hP
  have hx := Bd.exec
  have hby := Bd.bytes
  have hml : c.maxLocals = 2 := hml0
  have hown : s.vm.findClass "org/predicaterefinery/automaton/PairSet" = some m.cls := findClass_of_methodNamed Bd.named
  have hnm := (name_of_methodNamed Bd.named Bd.method).1
  have X0 : Stand p l e ({ frames := 0, cells := 0, slots := 0, locals := 0 } : Room) s m #[(.long x0)] below meth c s₁ [] 0 0 := Stand.of_body Bd
  have e0 : s₁.heap = h0 := by rw [← hh, Bd.state]; rfl
  have N0 := Fr.nil n0
  have st0 : Steps p.tables e below (s₁.setTop (entryFrame m #[(.long x0)] 2)) (s₁.setTop (mkF m 0 #[.val (.long x0), .second] [])) := castTop (ef_5 m x0) (Steps.refl _)
  have st1 : Steps p.tables e below (s₁.setTop (entryFrame m #[(.long x0)] 2)) (s₁.setTop (mkF m 2 #[.val (.long x0), .second] [(.int (x0.toInt32))])) := st0.trans (by
      show Steps p.tables e below (s₁.setTop (mkF m 0 #[.val (.long x0), .second] [])) _
      refine XS.lloadN X0.here hx rfl (hb hby d5_0) rfl ?_
      show Steps p.tables e below (s₁.setTop (mkF m 1 #[.val (.long x0), .second] [(.long x0)])) _
      refine XS.l2i X0.here hx rfl (hb hby d5_1) rfl ?_
      exact Steps.refl _)
  obtain ⟨fs, hr, hrun, hended, hW, hsame⟩ := X0.leave (v := some (.int (x0.toInt32))) (fun h => by rw [Bd.returns] at h; cases h)
  refine ⟨_, _, st1.trans ?_, hrun, hended, _, _, rfl, ?_, ⟨_, rfl⟩, hW, hsame.mono (by decide) (by decide)⟩
  · exact retI X0 hx Bd.returns (hb hby d5_2) hr
  · show Q5 Z x0 h0 n0 _ s₁.heap _
    rw [e0]
    exact ⟨by rw [F5], N0, rfl⟩
theorem pd_0 : parseMethodDescriptor "(II)I" = some ⟨[.int, .int], some .int⟩ := by decide +kernel
theorem pd_1 : parseMethodDescriptor "(II)J" = some ⟨[.int, .int], some .long⟩ := by decide +kernel
theorem pd_2 : parseMethodDescriptor "(J)I" = some ⟨[.long], some .int⟩ := by decide +kernel
theorem pn_1 : plainName "org/predicaterefinery/automaton/PairSetKeyPinLaw" = true := by first | (simp [plainName, overriddenIn]; done) | decide +kernel
theorem ef_0 (m : MethodId) (x0 : Int32) (x1 : Int32)  : entryFrame m #[(.int x0), (.int x1)] maxLocals = mkF m 0 #[.val (.int x0), .val (.int x1), .unset, .unset, .unset, .unset, .unset, .unset, .unset, .unset, .unset, .unset] [] := by first | (simp [entryFrame, mkF, argsToLocals, Value.category, maxLocals]; done) | rfl
def F0 (x0 : Int32) (x1 : Int32) : Int32 := if (x0 &&& (2147483647 : Int32)) = (x1 &&& (2147483647 : Int32)) then (1 : Int32) else (if (F3 (x0 &&& (2147483647 : Int32)) (x1 &&& (2147483647 : Int32))) = ((((F1 (x0 &&& (2147483647 : Int32)) (x1 &&& (2147483647 : Int32))).toInt64) * (4294967296 : Int64)) + ((F2 (x0 &&& (2147483647 : Int32)) (x1 &&& (2147483647 : Int32))).toInt64)) then (if (F3 (x1 &&& (2147483647 : Int32)) (x0 &&& (2147483647 : Int32))) = ((((F1 (x0 &&& (2147483647 : Int32)) (x1 &&& (2147483647 : Int32))).toInt64) * (4294967296 : Int64)) + ((F2 (x0 &&& (2147483647 : Int32)) (x1 &&& (2147483647 : Int32))).toInt64)) then (if (F3 (x0 &&& (2147483647 : Int32)) (x1 &&& (2147483647 : Int32))) = (0 : Int64) then (0 : Int32) else (if (F4 (F3 (x0 &&& (2147483647 : Int32)) (x1 &&& (2147483647 : Int32)))) = (F1 (x0 &&& (2147483647 : Int32)) (x1 &&& (2147483647 : Int32))) then (if (F5 (F3 (x0 &&& (2147483647 : Int32)) (x1 &&& (2147483647 : Int32)))) = (F2 (x0 &&& (2147483647 : Int32)) (x1 &&& (2147483647 : Int32))) then (1 : Int32) else (0 : Int32)) else (0 : Int32))) else (0 : Int32)) else (0 : Int32))
def Q0 (Z : State) (x0 : Int32) (x1 : Int32) (h0 : Heap) (n0 : Nat) (vE : Option Value) (hE : Heap) (LE : List Loc) : Prop := vE = some (.int (F0 x0 x1)) ∧ Fr n0 LE
set_option maxRecDepth 65536 in
set_option maxHeartbeats 40000000 in
theorem rm0 (l : Launch) (Z : State) (a0 : Array Value) (hw : ∀ d ∈ tables_1, d.before a0 Z = true) (ws : List Jvm.Cond) (x0 : Int32) (x1 : Int32) (h0 : Heap) (n0 : Nat) (Z0 : n0 ≤ h0.size) :
    MetFree l x (head1 (Jvm.Cond.code x code maxLocals ret :: ws) room_1) (fun a U => a = #[(.int x0), (.int x1)] ∧ Z.Warmed39 U.vm ∧ U.heap = h0) (fun _ _ _ _ _ => True) (fun _ U o U' => ∃ vE LE, o = .returned vE ∧ Q0 Z x0 x1 h0 n0 vE U'.heap LE ∧ FrameEnd U o U' LE room_1.cells room_1.slots) := by
  refine MetFree.of_bodySF (plainFor_of_name pn_1) hisR ?_
  intro p e s m args below meth c s₁ Bd hml0 hP hK
  obtain ⟨rfl, hZ, hh⟩ := hP
  have hx := Bd.exec
  have hby := Bd.bytes
  have hml : c.maxLocals = 12 := hml0
  have hown : s.vm.findClass "org/predicaterefinery/automaton/PairSetKeyPinLaw" = some m.cls := findClass_of_methodNamed Bd.named
  have hnm := (name_of_methodNamed Bd.named Bd.method).1
  have X0 : Stand p l e room_1 s m #[(.int x0), (.int x1)] below meth c s₁ [] 0 0 := Stand.of_body Bd
  have e0 : s₁.heap = h0 := by rw [← hh, Bd.state]; rfl
  have N0 := Fr.nil n0
  have st0 : Steps p.tables e below (s₁.setTop (entryFrame m #[(.int x0), (.int x1)] maxLocals)) (s₁.setTop (mkF m 0 #[.val (.int x0), .val (.int x1), .unset, .unset, .unset, .unset, .unset, .unset, .unset, .unset, .unset, .unset] [])) := castTop (ef_0 m x0 x1) (Steps.refl _)
  have st1 : Steps p.tables e below (s₁.setTop (entryFrame m #[(.int x0), (.int x1)] maxLocals)) (s₁.setTop (mkF m 12 #[.val (.int x0), .val (.int x1), .val (.int (x0 &&& (2147483647 : Int32))), .val (.int (x1 &&& (2147483647 : Int32))), .unset, .unset, .unset, .unset, .unset, .unset, .unset, .unset] [(.int (x1 &&& (2147483647 : Int32))), (.int (x0 &&& (2147483647 : Int32)))])) := st0.trans (by
      show Steps p.tables e below (s₁.setTop (mkF m 0 #[.val (.int x0), .val (.int x1), .unset, .unset, .unset, .unset, .unset, .unset, .unset, .unset, .unset, .unset] [])) _
      refine XS.iloadN X0.here hx rfl (hb hby at_0) rfl ?_
      show Steps p.tables e below (s₁.setTop (mkF m 1 #[.val (.int x0), .val (.int x1), .unset, .unset, .unset, .unset, .unset, .unset, .unset, .unset, .unset, .unset] [(.int x0)])) _
      refine X0.ldcInt hx hown (mvT hZ (hw _ (List.mem_of_getElem? (i := 0) rfl))) (g := (mkF m 1 #[.val (.int x0), .val (.int x1), .unset, .unset, .unset, .unset, .unset, .unset, .unset, .unset, .unset, .unset] [(.int x0)])) rfl (hb hby at_1) _ ?_
      show Steps p.tables e below (s₁.setTop (mkF m 3 #[.val (.int x0), .val (.int x1), .unset, .unset, .unset, .unset, .unset, .unset, .unset, .unset, .unset, .unset] [(.int (2147483647 : Int32)), (.int x0)])) _
      refine XS.iand X0.here hx rfl (hb hby at_3) rfl ?_
      show Steps p.tables e below (s₁.setTop (mkF m 4 #[.val (.int x0), .val (.int x1), .unset, .unset, .unset, .unset, .unset, .unset, .unset, .unset, .unset, .unset] [(.int (x0 &&& (2147483647 : Int32)))])) _
      refine XS.istoreN X0.here hx rfl (hb hby at_4) rfl (l' := #[.val (.int x0), .val (.int x1), .val (.int (x0 &&& (2147483647 : Int32))), .unset, .unset, .unset, .unset, .unset, .unset, .unset, .unset, .unset]) rfl ?_
      show Steps p.tables e below (s₁.setTop (mkF m 5 #[.val (.int x0), .val (.int x1), .val (.int (x0 &&& (2147483647 : Int32))), .unset, .unset, .unset, .unset, .unset, .unset, .unset, .unset, .unset] [])) _
      refine XS.iloadN X0.here hx rfl (hb hby at_5) rfl ?_
      show Steps p.tables e below (s₁.setTop (mkF m 6 #[.val (.int x0), .val (.int x1), .val (.int (x0 &&& (2147483647 : Int32))), .unset, .unset, .unset, .unset, .unset, .unset, .unset, .unset, .unset] [(.int x1)])) _
      refine X0.ldcInt hx hown (mvT hZ (hw _ (List.mem_of_getElem? (i := 0) rfl))) (g := (mkF m 6 #[.val (.int x0), .val (.int x1), .val (.int (x0 &&& (2147483647 : Int32))), .unset, .unset, .unset, .unset, .unset, .unset, .unset, .unset, .unset] [(.int x1)])) rfl (hb hby at_6) _ ?_
      show Steps p.tables e below (s₁.setTop (mkF m 8 #[.val (.int x0), .val (.int x1), .val (.int (x0 &&& (2147483647 : Int32))), .unset, .unset, .unset, .unset, .unset, .unset, .unset, .unset, .unset] [(.int (2147483647 : Int32)), (.int x1)])) _
      refine XS.iand X0.here hx rfl (hb hby at_8) rfl ?_
      show Steps p.tables e below (s₁.setTop (mkF m 9 #[.val (.int x0), .val (.int x1), .val (.int (x0 &&& (2147483647 : Int32))), .unset, .unset, .unset, .unset, .unset, .unset, .unset, .unset, .unset] [(.int (x1 &&& (2147483647 : Int32)))])) _
      refine XS.istoreN X0.here hx rfl (hb hby at_9) rfl (l' := #[.val (.int x0), .val (.int x1), .val (.int (x0 &&& (2147483647 : Int32))), .val (.int (x1 &&& (2147483647 : Int32))), .unset, .unset, .unset, .unset, .unset, .unset, .unset, .unset]) rfl ?_
      show Steps p.tables e below (s₁.setTop (mkF m 10 #[.val (.int x0), .val (.int x1), .val (.int (x0 &&& (2147483647 : Int32))), .val (.int (x1 &&& (2147483647 : Int32))), .unset, .unset, .unset, .unset, .unset, .unset, .unset, .unset] [])) _
      refine XS.iloadN X0.here hx rfl (hb hby at_10) rfl ?_
      show Steps p.tables e below (s₁.setTop (mkF m 11 #[.val (.int x0), .val (.int x1), .val (.int (x0 &&& (2147483647 : Int32))), .val (.int (x1 &&& (2147483647 : Int32))), .unset, .unset, .unset, .unset, .unset, .unset, .unset, .unset] [(.int (x0 &&& (2147483647 : Int32)))])) _
      refine XS.iloadN X0.here hx rfl (hb hby at_11) rfl ?_
      exact Steps.refl _)
  by_cases hc2 : (x0 &&& (2147483647 : Int32)) = (x1 &&& (2147483647 : Int32))
  · have st3 : Steps p.tables e below (s₁.setTop (entryFrame m #[(.int x0), (.int x1)] maxLocals)) (s₁.setTop (mkF m 16 #[.val (.int x0), .val (.int x1), .val (.int (x0 &&& (2147483647 : Int32))), .val (.int (x1 &&& (2147483647 : Int32))), .unset, .unset, .unset, .unset, .unset, .unset, .unset, .unset] [(.int (1 : Int32))])) := st1.trans (by
        show Steps p.tables e below (s₁.setTop (mkF m 12 #[.val (.int x0), .val (.int x1), .val (.int (x0 &&& (2147483647 : Int32))), .val (.int (x1 &&& (2147483647 : Int32))), .unset, .unset, .unset, .unset, .unset, .unset, .unset, .unset] [(.int (x1 &&& (2147483647 : Int32))), (.int (x0 &&& (2147483647 : Int32)))])) _
        refine XS.icmpNo X0.here hx rfl (hb hby at_12) rfl (teq hc2).2 ?_
        show Steps p.tables e below (s₁.setTop (mkF m 15 #[.val (.int x0), .val (.int x1), .val (.int (x0 &&& (2147483647 : Int32))), .val (.int (x1 &&& (2147483647 : Int32))), .unset, .unset, .unset, .unset, .unset, .unset, .unset, .unset] [])) _
        refine XS.iconst X0.here hx rfl (hb hby at_15) ?_
        exact Steps.refl _)
    obtain ⟨fs, hr, hrun, hended, hW, hsame⟩ := X0.leave (v := some (.int (1 : Int32))) (fun h => by rw [Bd.returns] at h; cases h)
    refine ⟨_, _, st3.trans ?_, hrun, hended, _, _, rfl, ?_, ⟨_, rfl⟩, hW, hsame.mono (by decide) (by decide)⟩
    · exact retN X0 hx (t := .boolean) Bd.returns (by simp) (hb hby at_16) hr
    · show Q0 Z x0 x1 h0 n0 _ s₁.heap _
      rw [e0]
      exact ⟨by rw [F0, if_pos hc2], N0⟩
  · have st4 : Steps p.tables e below (s₁.setTop (entryFrame m #[(.int x0), (.int x1)] maxLocals)) (s₁.setTop (mkF m 19 #[.val (.int x0), .val (.int x1), .val (.int (x0 &&& (2147483647 : Int32))), .val (.int (x1 &&& (2147483647 : Int32))), .unset, .unset, .unset, .unset, .unset, .unset, .unset, .unset] [(.int (x1 &&& (2147483647 : Int32))), (.int (x0 &&& (2147483647 : Int32)))])) := st1.trans (by
        show Steps p.tables e below (s₁.setTop (mkF m 12 #[.val (.int x0), .val (.int x1), .val (.int (x0 &&& (2147483647 : Int32))), .val (.int (x1 &&& (2147483647 : Int32))), .unset, .unset, .unset, .unset, .unset, .unset, .unset, .unset] [(.int (x1 &&& (2147483647 : Int32))), (.int (x0 &&& (2147483647 : Int32)))])) _
        refine XS.icmpYes X0.here hx rfl (pc0 := 12) (pc' := 17) rfl (hb hby at_12) rfl (feq hc2).2 (by decide) (by decide) ?_
        show Steps p.tables e below (s₁.setTop (mkF m 17 #[.val (.int x0), .val (.int x1), .val (.int (x0 &&& (2147483647 : Int32))), .val (.int (x1 &&& (2147483647 : Int32))), .unset, .unset, .unset, .unset, .unset, .unset, .unset, .unset] [])) _
        refine XS.iloadN X0.here hx rfl (hb hby at_17) rfl ?_
        show Steps p.tables e below (s₁.setTop (mkF m 18 #[.val (.int x0), .val (.int x1), .val (.int (x0 &&& (2147483647 : Int32))), .val (.int (x1 &&& (2147483647 : Int32))), .unset, .unset, .unset, .unset, .unset, .unset, .unset, .unset] [(.int (x0 &&& (2147483647 : Int32)))])) _
        refine XS.iloadN X0.here hx rfl (hb hby at_18) rfl ?_
        exact Steps.refl _)
    obtain ⟨_, _, ⟨T5, L5, k5, n5⟩, -, X5, ⟨Lc5, hQ5, l5, y5, z5⟩, sr5⟩ := Jvm.LawKit.callS X0 hx (y := (⟨"java/lang/Math", "min", "(II)I"⟩ : MethodName)) hown (mvT hZ (hw _ (List.mem_of_getElem? (i := 1) rfl))) (mvT hZ (hw _ (List.mem_of_getElem? (i := 2) rfl))) (mvT hZ (hw _ (List.mem_of_getElem? (i := 3) rfl))) (mvT hZ (hw _ (List.mem_of_getElem? (i := 4) rfl))) (by decide) (backOf (W := 0) (rm1 l Z a0 hw [] (x0 &&& (2147483647 : Int32)) (x1 &&& (2147483647 : Int32))  h0 n0 Z0 ) hZ (hw _ (List.mem_of_getElem? (i := 4) rfl)) (hw _ (List.mem_of_getElem? (i := 3) rfl)) (by decide) (by decide)) (g := (mkF m 19 #[.val (.int x0), .val (.int x1), .val (.int (x0 &&& (2147483647 : Int32))), .val (.int (x1 &&& (2147483647 : Int32))), .unset, .unset, .unset, .unset, .unset, .unset, .unset, .unset] [(.int (x1 &&& (2147483647 : Int32))), (.int (x0 &&& (2147483647 : Int32)))])) rfl (by rw [hml]; rfl) (argsL := [(.int (x0 &&& (2147483647 : Int32))), (.int (x1 &&& (2147483647 : Int32)))]) (rest := []) (lenOf pd_0 rfl) rfl (by show 2 * 0 + _ ≤ _; exact Nat.le_of_eq rfl) (hb hby at_19) (fun _ _ => ⟨rfl, e0, (by decide : 0 + 0 ≤ _), (by decide : 0 + 0 ≤ _)⟩)
    dsimp only [Pt.U, Pt.locs, Pt.cells, Pt.slots] at X5 l5 y5 z5 sr5 hQ5
    subst l5 y5 z5
    obtain ⟨rfl, N5q, hh5⟩ := hQ5
    have N5 := Fr.app N0 N5q
    have st6 : Steps p.tables e below (s₁.setTop (entryFrame m #[(.int x0), (.int x1)] maxLocals)) (T5.setTop (mkF m 22 #[.val (.int x0), .val (.int x1), .val (.int (x0 &&& (2147483647 : Int32))), .val (.int (x1 &&& (2147483647 : Int32))), .unset, .unset, .unset, .unset, .unset, .unset, .unset, .unset] [(.int (F1 (x0 &&& (2147483647 : Int32)) (x1 &&& (2147483647 : Int32))))])) := st4.trans (sr5 _ (Steps.refl _))
    have st7 : Steps p.tables e below (s₁.setTop (entryFrame m #[(.int x0), (.int x1)] maxLocals)) (T5.setTop (mkF m 26 #[.val (.int x0), .val (.int x1), .val (.int (x0 &&& (2147483647 : Int32))), .val (.int (x1 &&& (2147483647 : Int32))), .val (.int (F1 (x0 &&& (2147483647 : Int32)) (x1 &&& (2147483647 : Int32)))), .unset, .unset, .unset, .unset, .unset, .unset, .unset] [(.int (x1 &&& (2147483647 : Int32))), (.int (x0 &&& (2147483647 : Int32)))])) := st6.trans (by
        show Steps p.tables e below (T5.setTop (mkF m 22 #[.val (.int x0), .val (.int x1), .val (.int (x0 &&& (2147483647 : Int32))), .val (.int (x1 &&& (2147483647 : Int32))), .unset, .unset, .unset, .unset, .unset, .unset, .unset, .unset] [(.int (F1 (x0 &&& (2147483647 : Int32)) (x1 &&& (2147483647 : Int32))))])) _
        refine XS.istore X5.here hx rfl (hb hby at_22) rfl (l' := #[.val (.int x0), .val (.int x1), .val (.int (x0 &&& (2147483647 : Int32))), .val (.int (x1 &&& (2147483647 : Int32))), .val (.int (F1 (x0 &&& (2147483647 : Int32)) (x1 &&& (2147483647 : Int32)))), .unset, .unset, .unset, .unset, .unset, .unset, .unset]) rfl ?_
        show Steps p.tables e below (T5.setTop (mkF m 24 #[.val (.int x0), .val (.int x1), .val (.int (x0 &&& (2147483647 : Int32))), .val (.int (x1 &&& (2147483647 : Int32))), .val (.int (F1 (x0 &&& (2147483647 : Int32)) (x1 &&& (2147483647 : Int32)))), .unset, .unset, .unset, .unset, .unset, .unset, .unset] [])) _
        refine XS.iloadN X5.here hx rfl (hb hby at_24) rfl ?_
        show Steps p.tables e below (T5.setTop (mkF m 25 #[.val (.int x0), .val (.int x1), .val (.int (x0 &&& (2147483647 : Int32))), .val (.int (x1 &&& (2147483647 : Int32))), .val (.int (F1 (x0 &&& (2147483647 : Int32)) (x1 &&& (2147483647 : Int32)))), .unset, .unset, .unset, .unset, .unset, .unset, .unset] [(.int (x0 &&& (2147483647 : Int32)))])) _
        refine XS.iloadN X5.here hx rfl (hb hby at_25) rfl ?_
        exact Steps.refl _)
    obtain ⟨_, _, ⟨T8, L8, k8, n8⟩, -, X8, ⟨Lc8, hQ8, l8, y8, z8⟩, sr8⟩ := Jvm.LawKit.callS X5 hx (y := (⟨"java/lang/Math", "max", "(II)I"⟩ : MethodName)) hown (mvT hZ (hw _ (List.mem_of_getElem? (i := 5) rfl))) (mvT hZ (hw _ (List.mem_of_getElem? (i := 6) rfl))) (mvT hZ (hw _ (List.mem_of_getElem? (i := 3) rfl))) (mvT hZ (hw _ (List.mem_of_getElem? (i := 7) rfl))) (by decide) (backOf (W := 0) (rm2 l Z a0 hw [] (x0 &&& (2147483647 : Int32)) (x1 &&& (2147483647 : Int32))  h0 n0 Z0 ) hZ (hw _ (List.mem_of_getElem? (i := 7) rfl)) (hw _ (List.mem_of_getElem? (i := 3) rfl)) (by decide) (by decide)) (g := (mkF m 26 #[.val (.int x0), .val (.int x1), .val (.int (x0 &&& (2147483647 : Int32))), .val (.int (x1 &&& (2147483647 : Int32))), .val (.int (F1 (x0 &&& (2147483647 : Int32)) (x1 &&& (2147483647 : Int32)))), .unset, .unset, .unset, .unset, .unset, .unset, .unset] [(.int (x1 &&& (2147483647 : Int32))), (.int (x0 &&& (2147483647 : Int32)))])) rfl (by rw [hml]; rfl) (argsL := [(.int (x0 &&& (2147483647 : Int32))), (.int (x1 &&& (2147483647 : Int32)))]) (rest := []) (lenOf pd_0 rfl) rfl (by show 2 * 0 + _ ≤ _; exact Nat.le_of_eq rfl) (hb hby at_26) (fun _ _ => ⟨rfl, hh5, (by decide : 0 + 0 ≤ _), (by decide : 0 + 0 ≤ _)⟩)
    dsimp only [Pt.U, Pt.locs, Pt.cells, Pt.slots] at X8 l8 y8 z8 sr8 hQ8
    subst l8 y8 z8
    obtain ⟨rfl, N8q, hh8⟩ := hQ8
    have N8 := Fr.app N5 N8q
    have st9 : Steps p.tables e below (s₁.setTop (entryFrame m #[(.int x0), (.int x1)] maxLocals)) (T8.setTop (mkF m 29 #[.val (.int x0), .val (.int x1), .val (.int (x0 &&& (2147483647 : Int32))), .val (.int (x1 &&& (2147483647 : Int32))), .val (.int (F1 (x0 &&& (2147483647 : Int32)) (x1 &&& (2147483647 : Int32)))), .unset, .unset, .unset, .unset, .unset, .unset, .unset] [(.int (F2 (x0 &&& (2147483647 : Int32)) (x1 &&& (2147483647 : Int32))))])) := st7.trans (sr8 _ (Steps.refl _))
    have st10 : Steps p.tables e below (s₁.setTop (entryFrame m #[(.int x0), (.int x1)] maxLocals)) (T8.setTop (mkF m 46 #[.val (.int x0), .val (.int x1), .val (.int (x0 &&& (2147483647 : Int32))), .val (.int (x1 &&& (2147483647 : Int32))), .val (.int (F1 (x0 &&& (2147483647 : Int32)) (x1 &&& (2147483647 : Int32)))), .val (.int (F2 (x0 &&& (2147483647 : Int32)) (x1 &&& (2147483647 : Int32)))), .val (.long ((((F1 (x0 &&& (2147483647 : Int32)) (x1 &&& (2147483647 : Int32))).toInt64) * (4294967296 : Int64)) + ((F2 (x0 &&& (2147483647 : Int32)) (x1 &&& (2147483647 : Int32))).toInt64))), .second, .unset, .unset, .unset, .unset] [(.int (x1 &&& (2147483647 : Int32))), (.int (x0 &&& (2147483647 : Int32)))])) := st9.trans (by
        show Steps p.tables e below (T8.setTop (mkF m 29 #[.val (.int x0), .val (.int x1), .val (.int (x0 &&& (2147483647 : Int32))), .val (.int (x1 &&& (2147483647 : Int32))), .val (.int (F1 (x0 &&& (2147483647 : Int32)) (x1 &&& (2147483647 : Int32)))), .unset, .unset, .unset, .unset, .unset, .unset, .unset] [(.int (F2 (x0 &&& (2147483647 : Int32)) (x1 &&& (2147483647 : Int32))))])) _
        refine XS.istore X8.here hx rfl (hb hby at_29) rfl (l' := #[.val (.int x0), .val (.int x1), .val (.int (x0 &&& (2147483647 : Int32))), .val (.int (x1 &&& (2147483647 : Int32))), .val (.int (F1 (x0 &&& (2147483647 : Int32)) (x1 &&& (2147483647 : Int32)))), .val (.int (F2 (x0 &&& (2147483647 : Int32)) (x1 &&& (2147483647 : Int32)))), .unset, .unset, .unset, .unset, .unset, .unset]) rfl ?_
        show Steps p.tables e below (T8.setTop (mkF m 31 #[.val (.int x0), .val (.int x1), .val (.int (x0 &&& (2147483647 : Int32))), .val (.int (x1 &&& (2147483647 : Int32))), .val (.int (F1 (x0 &&& (2147483647 : Int32)) (x1 &&& (2147483647 : Int32)))), .val (.int (F2 (x0 &&& (2147483647 : Int32)) (x1 &&& (2147483647 : Int32)))), .unset, .unset, .unset, .unset, .unset, .unset] [])) _
        refine XS.iload X8.here hx rfl (hb hby at_31) rfl ?_
        show Steps p.tables e below (T8.setTop (mkF m 33 #[.val (.int x0), .val (.int x1), .val (.int (x0 &&& (2147483647 : Int32))), .val (.int (x1 &&& (2147483647 : Int32))), .val (.int (F1 (x0 &&& (2147483647 : Int32)) (x1 &&& (2147483647 : Int32)))), .val (.int (F2 (x0 &&& (2147483647 : Int32)) (x1 &&& (2147483647 : Int32)))), .unset, .unset, .unset, .unset, .unset, .unset] [(.int (F1 (x0 &&& (2147483647 : Int32)) (x1 &&& (2147483647 : Int32))))])) _
        refine XS.i2l X8.here hx rfl (hb hby at_33) rfl ?_
        show Steps p.tables e below (T8.setTop (mkF m 34 #[.val (.int x0), .val (.int x1), .val (.int (x0 &&& (2147483647 : Int32))), .val (.int (x1 &&& (2147483647 : Int32))), .val (.int (F1 (x0 &&& (2147483647 : Int32)) (x1 &&& (2147483647 : Int32)))), .val (.int (F2 (x0 &&& (2147483647 : Int32)) (x1 &&& (2147483647 : Int32)))), .unset, .unset, .unset, .unset, .unset, .unset] [(.long ((F1 (x0 &&& (2147483647 : Int32)) (x1 &&& (2147483647 : Int32))).toInt64))])) _
        refine X8.ldc2Long hx hown (mvT hZ (hw _ (List.mem_of_getElem? (i := 8) rfl))) (g := (mkF m 34 #[.val (.int x0), .val (.int x1), .val (.int (x0 &&& (2147483647 : Int32))), .val (.int (x1 &&& (2147483647 : Int32))), .val (.int (F1 (x0 &&& (2147483647 : Int32)) (x1 &&& (2147483647 : Int32)))), .val (.int (F2 (x0 &&& (2147483647 : Int32)) (x1 &&& (2147483647 : Int32)))), .unset, .unset, .unset, .unset, .unset, .unset] [(.long ((F1 (x0 &&& (2147483647 : Int32)) (x1 &&& (2147483647 : Int32))).toInt64))])) rfl (hb hby at_34) _ ?_
        show Steps p.tables e below (T8.setTop (mkF m 37 #[.val (.int x0), .val (.int x1), .val (.int (x0 &&& (2147483647 : Int32))), .val (.int (x1 &&& (2147483647 : Int32))), .val (.int (F1 (x0 &&& (2147483647 : Int32)) (x1 &&& (2147483647 : Int32)))), .val (.int (F2 (x0 &&& (2147483647 : Int32)) (x1 &&& (2147483647 : Int32)))), .unset, .unset, .unset, .unset, .unset, .unset] [(.long (4294967296 : Int64)), (.long ((F1 (x0 &&& (2147483647 : Int32)) (x1 &&& (2147483647 : Int32))).toInt64))])) _
        refine XS.lmul X8.here hx rfl (hb hby at_37) rfl ?_
        show Steps p.tables e below (T8.setTop (mkF m 38 #[.val (.int x0), .val (.int x1), .val (.int (x0 &&& (2147483647 : Int32))), .val (.int (x1 &&& (2147483647 : Int32))), .val (.int (F1 (x0 &&& (2147483647 : Int32)) (x1 &&& (2147483647 : Int32)))), .val (.int (F2 (x0 &&& (2147483647 : Int32)) (x1 &&& (2147483647 : Int32)))), .unset, .unset, .unset, .unset, .unset, .unset] [(.long (((F1 (x0 &&& (2147483647 : Int32)) (x1 &&& (2147483647 : Int32))).toInt64) * (4294967296 : Int64)))])) _
        refine XS.iload X8.here hx rfl (hb hby at_38) rfl ?_
        show Steps p.tables e below (T8.setTop (mkF m 40 #[.val (.int x0), .val (.int x1), .val (.int (x0 &&& (2147483647 : Int32))), .val (.int (x1 &&& (2147483647 : Int32))), .val (.int (F1 (x0 &&& (2147483647 : Int32)) (x1 &&& (2147483647 : Int32)))), .val (.int (F2 (x0 &&& (2147483647 : Int32)) (x1 &&& (2147483647 : Int32)))), .unset, .unset, .unset, .unset, .unset, .unset] [(.int (F2 (x0 &&& (2147483647 : Int32)) (x1 &&& (2147483647 : Int32)))), (.long (((F1 (x0 &&& (2147483647 : Int32)) (x1 &&& (2147483647 : Int32))).toInt64) * (4294967296 : Int64)))])) _
        refine XS.i2l X8.here hx rfl (hb hby at_40) rfl ?_
        show Steps p.tables e below (T8.setTop (mkF m 41 #[.val (.int x0), .val (.int x1), .val (.int (x0 &&& (2147483647 : Int32))), .val (.int (x1 &&& (2147483647 : Int32))), .val (.int (F1 (x0 &&& (2147483647 : Int32)) (x1 &&& (2147483647 : Int32)))), .val (.int (F2 (x0 &&& (2147483647 : Int32)) (x1 &&& (2147483647 : Int32)))), .unset, .unset, .unset, .unset, .unset, .unset] [(.long ((F2 (x0 &&& (2147483647 : Int32)) (x1 &&& (2147483647 : Int32))).toInt64)), (.long (((F1 (x0 &&& (2147483647 : Int32)) (x1 &&& (2147483647 : Int32))).toInt64) * (4294967296 : Int64)))])) _
        refine XS.ladd X8.here hx rfl (hb hby at_41) rfl ?_
        show Steps p.tables e below (T8.setTop (mkF m 42 #[.val (.int x0), .val (.int x1), .val (.int (x0 &&& (2147483647 : Int32))), .val (.int (x1 &&& (2147483647 : Int32))), .val (.int (F1 (x0 &&& (2147483647 : Int32)) (x1 &&& (2147483647 : Int32)))), .val (.int (F2 (x0 &&& (2147483647 : Int32)) (x1 &&& (2147483647 : Int32)))), .unset, .unset, .unset, .unset, .unset, .unset] [(.long ((((F1 (x0 &&& (2147483647 : Int32)) (x1 &&& (2147483647 : Int32))).toInt64) * (4294967296 : Int64)) + ((F2 (x0 &&& (2147483647 : Int32)) (x1 &&& (2147483647 : Int32))).toInt64)))])) _
        refine XS.lstore X8.here hx rfl (hb hby at_42) rfl (l' := #[.val (.int x0), .val (.int x1), .val (.int (x0 &&& (2147483647 : Int32))), .val (.int (x1 &&& (2147483647 : Int32))), .val (.int (F1 (x0 &&& (2147483647 : Int32)) (x1 &&& (2147483647 : Int32)))), .val (.int (F2 (x0 &&& (2147483647 : Int32)) (x1 &&& (2147483647 : Int32)))), .val (.long ((((F1 (x0 &&& (2147483647 : Int32)) (x1 &&& (2147483647 : Int32))).toInt64) * (4294967296 : Int64)) + ((F2 (x0 &&& (2147483647 : Int32)) (x1 &&& (2147483647 : Int32))).toInt64))), .second, .unset, .unset, .unset, .unset]) rfl ?_
        show Steps p.tables e below (T8.setTop (mkF m 44 #[.val (.int x0), .val (.int x1), .val (.int (x0 &&& (2147483647 : Int32))), .val (.int (x1 &&& (2147483647 : Int32))), .val (.int (F1 (x0 &&& (2147483647 : Int32)) (x1 &&& (2147483647 : Int32)))), .val (.int (F2 (x0 &&& (2147483647 : Int32)) (x1 &&& (2147483647 : Int32)))), .val (.long ((((F1 (x0 &&& (2147483647 : Int32)) (x1 &&& (2147483647 : Int32))).toInt64) * (4294967296 : Int64)) + ((F2 (x0 &&& (2147483647 : Int32)) (x1 &&& (2147483647 : Int32))).toInt64))), .second, .unset, .unset, .unset, .unset] [])) _
        refine XS.iloadN X8.here hx rfl (hb hby at_44) rfl ?_
        show Steps p.tables e below (T8.setTop (mkF m 45 #[.val (.int x0), .val (.int x1), .val (.int (x0 &&& (2147483647 : Int32))), .val (.int (x1 &&& (2147483647 : Int32))), .val (.int (F1 (x0 &&& (2147483647 : Int32)) (x1 &&& (2147483647 : Int32)))), .val (.int (F2 (x0 &&& (2147483647 : Int32)) (x1 &&& (2147483647 : Int32)))), .val (.long ((((F1 (x0 &&& (2147483647 : Int32)) (x1 &&& (2147483647 : Int32))).toInt64) * (4294967296 : Int64)) + ((F2 (x0 &&& (2147483647 : Int32)) (x1 &&& (2147483647 : Int32))).toInt64))), .second, .unset, .unset, .unset, .unset] [(.int (x0 &&& (2147483647 : Int32)))])) _
        refine XS.iloadN X8.here hx rfl (hb hby at_45) rfl ?_
        exact Steps.refl _)
    obtain ⟨_, _, ⟨T11, L11, k11, n11⟩, -, X11, ⟨Lc11, hQ11, l11, y11, z11⟩, sr11⟩ := Jvm.LawKit.callS X8 hx (y := (⟨"org/predicaterefinery/automaton/PairSet", "key", "(II)J"⟩ : MethodName)) hown (mvT hZ (hw _ (List.mem_of_getElem? (i := 9) rfl))) (mvT hZ (hw _ (List.mem_of_getElem? (i := 10) rfl))) (mvT hZ (hw _ (List.mem_of_getElem? (i := 11) rfl))) (mvT hZ (hw _ (List.mem_of_getElem? (i := 12) rfl))) (by decide) (backOf (W := 0) (rm3 l Z a0 hw [] (x0 &&& (2147483647 : Int32)) (x1 &&& (2147483647 : Int32))  h0 n0 Z0 ) hZ (hw _ (List.mem_of_getElem? (i := 12) rfl)) (hw _ (List.mem_of_getElem? (i := 11) rfl)) (by decide) (by decide)) (g := (mkF m 46 #[.val (.int x0), .val (.int x1), .val (.int (x0 &&& (2147483647 : Int32))), .val (.int (x1 &&& (2147483647 : Int32))), .val (.int (F1 (x0 &&& (2147483647 : Int32)) (x1 &&& (2147483647 : Int32)))), .val (.int (F2 (x0 &&& (2147483647 : Int32)) (x1 &&& (2147483647 : Int32)))), .val (.long ((((F1 (x0 &&& (2147483647 : Int32)) (x1 &&& (2147483647 : Int32))).toInt64) * (4294967296 : Int64)) + ((F2 (x0 &&& (2147483647 : Int32)) (x1 &&& (2147483647 : Int32))).toInt64))), .second, .unset, .unset, .unset, .unset] [(.int (x1 &&& (2147483647 : Int32))), (.int (x0 &&& (2147483647 : Int32)))])) rfl (by rw [hml]; rfl) (argsL := [(.int (x0 &&& (2147483647 : Int32))), (.int (x1 &&& (2147483647 : Int32)))]) (rest := []) (lenOf pd_1 rfl) rfl (by show 2 * 0 + _ ≤ _; exact Nat.le_of_eq rfl) (hb hby at_46) (fun _ _ => ⟨rfl, hh8, (by decide : 0 + 0 ≤ _), (by decide : 0 + 0 ≤ _)⟩)
    dsimp only [Pt.U, Pt.locs, Pt.cells, Pt.slots] at X11 l11 y11 z11 sr11 hQ11
    subst l11 y11 z11
    obtain ⟨rfl, N11q, hh11⟩ := hQ11
    have N11 := Fr.app N8 N11q
    have st12 : Steps p.tables e below (s₁.setTop (entryFrame m #[(.int x0), (.int x1)] maxLocals)) (T11.setTop (mkF m 49 #[.val (.int x0), .val (.int x1), .val (.int (x0 &&& (2147483647 : Int32))), .val (.int (x1 &&& (2147483647 : Int32))), .val (.int (F1 (x0 &&& (2147483647 : Int32)) (x1 &&& (2147483647 : Int32)))), .val (.int (F2 (x0 &&& (2147483647 : Int32)) (x1 &&& (2147483647 : Int32)))), .val (.long ((((F1 (x0 &&& (2147483647 : Int32)) (x1 &&& (2147483647 : Int32))).toInt64) * (4294967296 : Int64)) + ((F2 (x0 &&& (2147483647 : Int32)) (x1 &&& (2147483647 : Int32))).toInt64))), .second, .unset, .unset, .unset, .unset] [(.long (F3 (x0 &&& (2147483647 : Int32)) (x1 &&& (2147483647 : Int32))))])) := st10.trans (sr11 _ (Steps.refl _))
    have st13 : Steps p.tables e below (s₁.setTop (entryFrame m #[(.int x0), (.int x1)] maxLocals)) (T11.setTop (mkF m 53 #[.val (.int x0), .val (.int x1), .val (.int (x0 &&& (2147483647 : Int32))), .val (.int (x1 &&& (2147483647 : Int32))), .val (.int (F1 (x0 &&& (2147483647 : Int32)) (x1 &&& (2147483647 : Int32)))), .val (.int (F2 (x0 &&& (2147483647 : Int32)) (x1 &&& (2147483647 : Int32)))), .val (.long ((((F1 (x0 &&& (2147483647 : Int32)) (x1 &&& (2147483647 : Int32))).toInt64) * (4294967296 : Int64)) + ((F2 (x0 &&& (2147483647 : Int32)) (x1 &&& (2147483647 : Int32))).toInt64))), .second, .val (.long (F3 (x0 &&& (2147483647 : Int32)) (x1 &&& (2147483647 : Int32)))), .second, .unset, .unset] [(.int (x0 &&& (2147483647 : Int32))), (.int (x1 &&& (2147483647 : Int32)))])) := st12.trans (by
        show Steps p.tables e below (T11.setTop (mkF m 49 #[.val (.int x0), .val (.int x1), .val (.int (x0 &&& (2147483647 : Int32))), .val (.int (x1 &&& (2147483647 : Int32))), .val (.int (F1 (x0 &&& (2147483647 : Int32)) (x1 &&& (2147483647 : Int32)))), .val (.int (F2 (x0 &&& (2147483647 : Int32)) (x1 &&& (2147483647 : Int32)))), .val (.long ((((F1 (x0 &&& (2147483647 : Int32)) (x1 &&& (2147483647 : Int32))).toInt64) * (4294967296 : Int64)) + ((F2 (x0 &&& (2147483647 : Int32)) (x1 &&& (2147483647 : Int32))).toInt64))), .second, .unset, .unset, .unset, .unset] [(.long (F3 (x0 &&& (2147483647 : Int32)) (x1 &&& (2147483647 : Int32))))])) _
        refine XS.lstore X11.here hx rfl (hb hby at_49) rfl (l' := #[.val (.int x0), .val (.int x1), .val (.int (x0 &&& (2147483647 : Int32))), .val (.int (x1 &&& (2147483647 : Int32))), .val (.int (F1 (x0 &&& (2147483647 : Int32)) (x1 &&& (2147483647 : Int32)))), .val (.int (F2 (x0 &&& (2147483647 : Int32)) (x1 &&& (2147483647 : Int32)))), .val (.long ((((F1 (x0 &&& (2147483647 : Int32)) (x1 &&& (2147483647 : Int32))).toInt64) * (4294967296 : Int64)) + ((F2 (x0 &&& (2147483647 : Int32)) (x1 &&& (2147483647 : Int32))).toInt64))), .second, .val (.long (F3 (x0 &&& (2147483647 : Int32)) (x1 &&& (2147483647 : Int32)))), .second, .unset, .unset]) rfl ?_
        show Steps p.tables e below (T11.setTop (mkF m 51 #[.val (.int x0), .val (.int x1), .val (.int (x0 &&& (2147483647 : Int32))), .val (.int (x1 &&& (2147483647 : Int32))), .val (.int (F1 (x0 &&& (2147483647 : Int32)) (x1 &&& (2147483647 : Int32)))), .val (.int (F2 (x0 &&& (2147483647 : Int32)) (x1 &&& (2147483647 : Int32)))), .val (.long ((((F1 (x0 &&& (2147483647 : Int32)) (x1 &&& (2147483647 : Int32))).toInt64) * (4294967296 : Int64)) + ((F2 (x0 &&& (2147483647 : Int32)) (x1 &&& (2147483647 : Int32))).toInt64))), .second, .val (.long (F3 (x0 &&& (2147483647 : Int32)) (x1 &&& (2147483647 : Int32)))), .second, .unset, .unset] [])) _
        refine XS.iloadN X11.here hx rfl (hb hby at_51) rfl ?_
        show Steps p.tables e below (T11.setTop (mkF m 52 #[.val (.int x0), .val (.int x1), .val (.int (x0 &&& (2147483647 : Int32))), .val (.int (x1 &&& (2147483647 : Int32))), .val (.int (F1 (x0 &&& (2147483647 : Int32)) (x1 &&& (2147483647 : Int32)))), .val (.int (F2 (x0 &&& (2147483647 : Int32)) (x1 &&& (2147483647 : Int32)))), .val (.long ((((F1 (x0 &&& (2147483647 : Int32)) (x1 &&& (2147483647 : Int32))).toInt64) * (4294967296 : Int64)) + ((F2 (x0 &&& (2147483647 : Int32)) (x1 &&& (2147483647 : Int32))).toInt64))), .second, .val (.long (F3 (x0 &&& (2147483647 : Int32)) (x1 &&& (2147483647 : Int32)))), .second, .unset, .unset] [(.int (x1 &&& (2147483647 : Int32)))])) _
        refine XS.iloadN X11.here hx rfl (hb hby at_52) rfl ?_
        exact Steps.refl _)
    obtain ⟨_, _, ⟨T14, L14, k14, n14⟩, -, X14, ⟨Lc14, hQ14, l14, y14, z14⟩, sr14⟩ := Jvm.LawKit.callS X11 hx (y := (⟨"org/predicaterefinery/automaton/PairSet", "key", "(II)J"⟩ : MethodName)) hown (mvT hZ (hw _ (List.mem_of_getElem? (i := 9) rfl))) (mvT hZ (hw _ (List.mem_of_getElem? (i := 10) rfl))) (mvT hZ (hw _ (List.mem_of_getElem? (i := 11) rfl))) (mvT hZ (hw _ (List.mem_of_getElem? (i := 12) rfl))) (by decide) (backOf (W := 0) (rm3 l Z a0 hw [] (x1 &&& (2147483647 : Int32)) (x0 &&& (2147483647 : Int32))  h0 n0 Z0 ) hZ (hw _ (List.mem_of_getElem? (i := 12) rfl)) (hw _ (List.mem_of_getElem? (i := 11) rfl)) (by decide) (by decide)) (g := (mkF m 53 #[.val (.int x0), .val (.int x1), .val (.int (x0 &&& (2147483647 : Int32))), .val (.int (x1 &&& (2147483647 : Int32))), .val (.int (F1 (x0 &&& (2147483647 : Int32)) (x1 &&& (2147483647 : Int32)))), .val (.int (F2 (x0 &&& (2147483647 : Int32)) (x1 &&& (2147483647 : Int32)))), .val (.long ((((F1 (x0 &&& (2147483647 : Int32)) (x1 &&& (2147483647 : Int32))).toInt64) * (4294967296 : Int64)) + ((F2 (x0 &&& (2147483647 : Int32)) (x1 &&& (2147483647 : Int32))).toInt64))), .second, .val (.long (F3 (x0 &&& (2147483647 : Int32)) (x1 &&& (2147483647 : Int32)))), .second, .unset, .unset] [(.int (x0 &&& (2147483647 : Int32))), (.int (x1 &&& (2147483647 : Int32)))])) rfl (by rw [hml]; rfl) (argsL := [(.int (x1 &&& (2147483647 : Int32))), (.int (x0 &&& (2147483647 : Int32)))]) (rest := []) (lenOf pd_1 rfl) rfl (by show 2 * 0 + _ ≤ _; exact Nat.le_of_eq rfl) (hb hby at_53) (fun _ _ => ⟨rfl, hh11, (by decide : 0 + 0 ≤ _), (by decide : 0 + 0 ≤ _)⟩)
    dsimp only [Pt.U, Pt.locs, Pt.cells, Pt.slots] at X14 l14 y14 z14 sr14 hQ14
    subst l14 y14 z14
    obtain ⟨rfl, N14q, hh14⟩ := hQ14
    have N14 := Fr.app N11 N14q
    have st15 : Steps p.tables e below (s₁.setTop (entryFrame m #[(.int x0), (.int x1)] maxLocals)) (T14.setTop (mkF m 56 #[.val (.int x0), .val (.int x1), .val (.int (x0 &&& (2147483647 : Int32))), .val (.int (x1 &&& (2147483647 : Int32))), .val (.int (F1 (x0 &&& (2147483647 : Int32)) (x1 &&& (2147483647 : Int32)))), .val (.int (F2 (x0 &&& (2147483647 : Int32)) (x1 &&& (2147483647 : Int32)))), .val (.long ((((F1 (x0 &&& (2147483647 : Int32)) (x1 &&& (2147483647 : Int32))).toInt64) * (4294967296 : Int64)) + ((F2 (x0 &&& (2147483647 : Int32)) (x1 &&& (2147483647 : Int32))).toInt64))), .second, .val (.long (F3 (x0 &&& (2147483647 : Int32)) (x1 &&& (2147483647 : Int32)))), .second, .unset, .unset] [(.long (F3 (x1 &&& (2147483647 : Int32)) (x0 &&& (2147483647 : Int32))))])) := st13.trans (sr14 _ (Steps.refl _))
    have st16 : Steps p.tables e below (s₁.setTop (entryFrame m #[(.int x0), (.int x1)] maxLocals)) (T14.setTop (mkF m 63 #[.val (.int x0), .val (.int x1), .val (.int (x0 &&& (2147483647 : Int32))), .val (.int (x1 &&& (2147483647 : Int32))), .val (.int (F1 (x0 &&& (2147483647 : Int32)) (x1 &&& (2147483647 : Int32)))), .val (.int (F2 (x0 &&& (2147483647 : Int32)) (x1 &&& (2147483647 : Int32)))), .val (.long ((((F1 (x0 &&& (2147483647 : Int32)) (x1 &&& (2147483647 : Int32))).toInt64) * (4294967296 : Int64)) + ((F2 (x0 &&& (2147483647 : Int32)) (x1 &&& (2147483647 : Int32))).toInt64))), .second, .val (.long (F3 (x0 &&& (2147483647 : Int32)) (x1 &&& (2147483647 : Int32)))), .second, .val (.long (F3 (x1 &&& (2147483647 : Int32)) (x0 &&& (2147483647 : Int32)))), .second] [(.int (lcmpW (F3 (x0 &&& (2147483647 : Int32)) (x1 &&& (2147483647 : Int32))) ((((F1 (x0 &&& (2147483647 : Int32)) (x1 &&& (2147483647 : Int32))).toInt64) * (4294967296 : Int64)) + ((F2 (x0 &&& (2147483647 : Int32)) (x1 &&& (2147483647 : Int32))).toInt64))))])) := st15.trans (by
        show Steps p.tables e below (T14.setTop (mkF m 56 #[.val (.int x0), .val (.int x1), .val (.int (x0 &&& (2147483647 : Int32))), .val (.int (x1 &&& (2147483647 : Int32))), .val (.int (F1 (x0 &&& (2147483647 : Int32)) (x1 &&& (2147483647 : Int32)))), .val (.int (F2 (x0 &&& (2147483647 : Int32)) (x1 &&& (2147483647 : Int32)))), .val (.long ((((F1 (x0 &&& (2147483647 : Int32)) (x1 &&& (2147483647 : Int32))).toInt64) * (4294967296 : Int64)) + ((F2 (x0 &&& (2147483647 : Int32)) (x1 &&& (2147483647 : Int32))).toInt64))), .second, .val (.long (F3 (x0 &&& (2147483647 : Int32)) (x1 &&& (2147483647 : Int32)))), .second, .unset, .unset] [(.long (F3 (x1 &&& (2147483647 : Int32)) (x0 &&& (2147483647 : Int32))))])) _
        refine XS.lstore X14.here hx rfl (hb hby at_56) rfl (l' := #[.val (.int x0), .val (.int x1), .val (.int (x0 &&& (2147483647 : Int32))), .val (.int (x1 &&& (2147483647 : Int32))), .val (.int (F1 (x0 &&& (2147483647 : Int32)) (x1 &&& (2147483647 : Int32)))), .val (.int (F2 (x0 &&& (2147483647 : Int32)) (x1 &&& (2147483647 : Int32)))), .val (.long ((((F1 (x0 &&& (2147483647 : Int32)) (x1 &&& (2147483647 : Int32))).toInt64) * (4294967296 : Int64)) + ((F2 (x0 &&& (2147483647 : Int32)) (x1 &&& (2147483647 : Int32))).toInt64))), .second, .val (.long (F3 (x0 &&& (2147483647 : Int32)) (x1 &&& (2147483647 : Int32)))), .second, .val (.long (F3 (x1 &&& (2147483647 : Int32)) (x0 &&& (2147483647 : Int32)))), .second]) rfl ?_
        show Steps p.tables e below (T14.setTop (mkF m 58 #[.val (.int x0), .val (.int x1), .val (.int (x0 &&& (2147483647 : Int32))), .val (.int (x1 &&& (2147483647 : Int32))), .val (.int (F1 (x0 &&& (2147483647 : Int32)) (x1 &&& (2147483647 : Int32)))), .val (.int (F2 (x0 &&& (2147483647 : Int32)) (x1 &&& (2147483647 : Int32)))), .val (.long ((((F1 (x0 &&& (2147483647 : Int32)) (x1 &&& (2147483647 : Int32))).toInt64) * (4294967296 : Int64)) + ((F2 (x0 &&& (2147483647 : Int32)) (x1 &&& (2147483647 : Int32))).toInt64))), .second, .val (.long (F3 (x0 &&& (2147483647 : Int32)) (x1 &&& (2147483647 : Int32)))), .second, .val (.long (F3 (x1 &&& (2147483647 : Int32)) (x0 &&& (2147483647 : Int32)))), .second] [])) _
        refine XS.lload X14.here hx rfl (hb hby at_58) rfl ?_
        show Steps p.tables e below (T14.setTop (mkF m 60 #[.val (.int x0), .val (.int x1), .val (.int (x0 &&& (2147483647 : Int32))), .val (.int (x1 &&& (2147483647 : Int32))), .val (.int (F1 (x0 &&& (2147483647 : Int32)) (x1 &&& (2147483647 : Int32)))), .val (.int (F2 (x0 &&& (2147483647 : Int32)) (x1 &&& (2147483647 : Int32)))), .val (.long ((((F1 (x0 &&& (2147483647 : Int32)) (x1 &&& (2147483647 : Int32))).toInt64) * (4294967296 : Int64)) + ((F2 (x0 &&& (2147483647 : Int32)) (x1 &&& (2147483647 : Int32))).toInt64))), .second, .val (.long (F3 (x0 &&& (2147483647 : Int32)) (x1 &&& (2147483647 : Int32)))), .second, .val (.long (F3 (x1 &&& (2147483647 : Int32)) (x0 &&& (2147483647 : Int32)))), .second] [(.long (F3 (x0 &&& (2147483647 : Int32)) (x1 &&& (2147483647 : Int32))))])) _
        refine XS.lload X14.here hx rfl (hb hby at_60) rfl ?_
        show Steps p.tables e below (T14.setTop (mkF m 62 #[.val (.int x0), .val (.int x1), .val (.int (x0 &&& (2147483647 : Int32))), .val (.int (x1 &&& (2147483647 : Int32))), .val (.int (F1 (x0 &&& (2147483647 : Int32)) (x1 &&& (2147483647 : Int32)))), .val (.int (F2 (x0 &&& (2147483647 : Int32)) (x1 &&& (2147483647 : Int32)))), .val (.long ((((F1 (x0 &&& (2147483647 : Int32)) (x1 &&& (2147483647 : Int32))).toInt64) * (4294967296 : Int64)) + ((F2 (x0 &&& (2147483647 : Int32)) (x1 &&& (2147483647 : Int32))).toInt64))), .second, .val (.long (F3 (x0 &&& (2147483647 : Int32)) (x1 &&& (2147483647 : Int32)))), .second, .val (.long (F3 (x1 &&& (2147483647 : Int32)) (x0 &&& (2147483647 : Int32)))), .second] [(.long ((((F1 (x0 &&& (2147483647 : Int32)) (x1 &&& (2147483647 : Int32))).toInt64) * (4294967296 : Int64)) + ((F2 (x0 &&& (2147483647 : Int32)) (x1 &&& (2147483647 : Int32))).toInt64))), (.long (F3 (x0 &&& (2147483647 : Int32)) (x1 &&& (2147483647 : Int32))))])) _
        refine XS.lcmp X14.here hx rfl (hb hby at_62) rfl ?_
        exact Steps.refl _)
    by_cases hc17 : (F3 (x0 &&& (2147483647 : Int32)) (x1 &&& (2147483647 : Int32))) = ((((F1 (x0 &&& (2147483647 : Int32)) (x1 &&& (2147483647 : Int32))).toInt64) * (4294967296 : Int64)) + ((F2 (x0 &&& (2147483647 : Int32)) (x1 &&& (2147483647 : Int32))).toInt64))
    · have st18 : Steps p.tables e below (s₁.setTop (entryFrame m #[(.int x0), (.int x1)] maxLocals)) (T14.setTop (mkF m 71 #[.val (.int x0), .val (.int x1), .val (.int (x0 &&& (2147483647 : Int32))), .val (.int (x1 &&& (2147483647 : Int32))), .val (.int (F1 (x0 &&& (2147483647 : Int32)) (x1 &&& (2147483647 : Int32)))), .val (.int (F2 (x0 &&& (2147483647 : Int32)) (x1 &&& (2147483647 : Int32)))), .val (.long ((((F1 (x0 &&& (2147483647 : Int32)) (x1 &&& (2147483647 : Int32))).toInt64) * (4294967296 : Int64)) + ((F2 (x0 &&& (2147483647 : Int32)) (x1 &&& (2147483647 : Int32))).toInt64))), .second, .val (.long (F3 (x0 &&& (2147483647 : Int32)) (x1 &&& (2147483647 : Int32)))), .second, .val (.long (F3 (x1 &&& (2147483647 : Int32)) (x0 &&& (2147483647 : Int32)))), .second] [(.int (lcmpW (F3 (x1 &&& (2147483647 : Int32)) (x0 &&& (2147483647 : Int32))) ((((F1 (x0 &&& (2147483647 : Int32)) (x1 &&& (2147483647 : Int32))).toInt64) * (4294967296 : Int64)) + ((F2 (x0 &&& (2147483647 : Int32)) (x1 &&& (2147483647 : Int32))).toInt64))))])) := st16.trans (by
          show Steps p.tables e below (T14.setTop (mkF m 63 #[.val (.int x0), .val (.int x1), .val (.int (x0 &&& (2147483647 : Int32))), .val (.int (x1 &&& (2147483647 : Int32))), .val (.int (F1 (x0 &&& (2147483647 : Int32)) (x1 &&& (2147483647 : Int32)))), .val (.int (F2 (x0 &&& (2147483647 : Int32)) (x1 &&& (2147483647 : Int32)))), .val (.long ((((F1 (x0 &&& (2147483647 : Int32)) (x1 &&& (2147483647 : Int32))).toInt64) * (4294967296 : Int64)) + ((F2 (x0 &&& (2147483647 : Int32)) (x1 &&& (2147483647 : Int32))).toInt64))), .second, .val (.long (F3 (x0 &&& (2147483647 : Int32)) (x1 &&& (2147483647 : Int32)))), .second, .val (.long (F3 (x1 &&& (2147483647 : Int32)) (x0 &&& (2147483647 : Int32)))), .second] [(.int (lcmpW (F3 (x0 &&& (2147483647 : Int32)) (x1 &&& (2147483647 : Int32))) ((((F1 (x0 &&& (2147483647 : Int32)) (x1 &&& (2147483647 : Int32))).toInt64) * (4294967296 : Int64)) + ((F2 (x0 &&& (2147483647 : Int32)) (x1 &&& (2147483647 : Int32))).toInt64))))])) _
          refine XS.ifNo X14.here hx rfl (hb hby at_63) rfl ((if0 _ _).trans (teq ((lw_eq _ _).mpr hc17)).2) ?_
          show Steps p.tables e below (T14.setTop (mkF m 66 #[.val (.int x0), .val (.int x1), .val (.int (x0 &&& (2147483647 : Int32))), .val (.int (x1 &&& (2147483647 : Int32))), .val (.int (F1 (x0 &&& (2147483647 : Int32)) (x1 &&& (2147483647 : Int32)))), .val (.int (F2 (x0 &&& (2147483647 : Int32)) (x1 &&& (2147483647 : Int32)))), .val (.long ((((F1 (x0 &&& (2147483647 : Int32)) (x1 &&& (2147483647 : Int32))).toInt64) * (4294967296 : Int64)) + ((F2 (x0 &&& (2147483647 : Int32)) (x1 &&& (2147483647 : Int32))).toInt64))), .second, .val (.long (F3 (x0 &&& (2147483647 : Int32)) (x1 &&& (2147483647 : Int32)))), .second, .val (.long (F3 (x1 &&& (2147483647 : Int32)) (x0 &&& (2147483647 : Int32)))), .second] [])) _
          refine XS.lload X14.here hx rfl (hb hby at_66) rfl ?_
          show Steps p.tables e below (T14.setTop (mkF m 68 #[.val (.int x0), .val (.int x1), .val (.int (x0 &&& (2147483647 : Int32))), .val (.int (x1 &&& (2147483647 : Int32))), .val (.int (F1 (x0 &&& (2147483647 : Int32)) (x1 &&& (2147483647 : Int32)))), .val (.int (F2 (x0 &&& (2147483647 : Int32)) (x1 &&& (2147483647 : Int32)))), .val (.long ((((F1 (x0 &&& (2147483647 : Int32)) (x1 &&& (2147483647 : Int32))).toInt64) * (4294967296 : Int64)) + ((F2 (x0 &&& (2147483647 : Int32)) (x1 &&& (2147483647 : Int32))).toInt64))), .second, .val (.long (F3 (x0 &&& (2147483647 : Int32)) (x1 &&& (2147483647 : Int32)))), .second, .val (.long (F3 (x1 &&& (2147483647 : Int32)) (x0 &&& (2147483647 : Int32)))), .second] [(.long (F3 (x1 &&& (2147483647 : Int32)) (x0 &&& (2147483647 : Int32))))])) _
          refine XS.lload X14.here hx rfl (hb hby at_68) rfl ?_
          show Steps p.tables e below (T14.setTop (mkF m 70 #[.val (.int x0), .val (.int x1), .val (.int (x0 &&& (2147483647 : Int32))), .val (.int (x1 &&& (2147483647 : Int32))), .val (.int (F1 (x0 &&& (2147483647 : Int32)) (x1 &&& (2147483647 : Int32)))), .val (.int (F2 (x0 &&& (2147483647 : Int32)) (x1 &&& (2147483647 : Int32)))), .val (.long ((((F1 (x0 &&& (2147483647 : Int32)) (x1 &&& (2147483647 : Int32))).toInt64) * (4294967296 : Int64)) + ((F2 (x0 &&& (2147483647 : Int32)) (x1 &&& (2147483647 : Int32))).toInt64))), .second, .val (.long (F3 (x0 &&& (2147483647 : Int32)) (x1 &&& (2147483647 : Int32)))), .second, .val (.long (F3 (x1 &&& (2147483647 : Int32)) (x0 &&& (2147483647 : Int32)))), .second] [(.long ((((F1 (x0 &&& (2147483647 : Int32)) (x1 &&& (2147483647 : Int32))).toInt64) * (4294967296 : Int64)) + ((F2 (x0 &&& (2147483647 : Int32)) (x1 &&& (2147483647 : Int32))).toInt64))), (.long (F3 (x1 &&& (2147483647 : Int32)) (x0 &&& (2147483647 : Int32))))])) _
          refine XS.lcmp X14.here hx rfl (hb hby at_70) rfl ?_
          exact Steps.refl _)
      by_cases hc19 : (F3 (x1 &&& (2147483647 : Int32)) (x0 &&& (2147483647 : Int32))) = ((((F1 (x0 &&& (2147483647 : Int32)) (x1 &&& (2147483647 : Int32))).toInt64) * (4294967296 : Int64)) + ((F2 (x0 &&& (2147483647 : Int32)) (x1 &&& (2147483647 : Int32))).toInt64))
      · have st20 : Steps p.tables e below (s₁.setTop (entryFrame m #[(.int x0), (.int x1)] maxLocals)) (T14.setTop (mkF m 78 #[.val (.int x0), .val (.int x1), .val (.int (x0 &&& (2147483647 : Int32))), .val (.int (x1 &&& (2147483647 : Int32))), .val (.int (F1 (x0 &&& (2147483647 : Int32)) (x1 &&& (2147483647 : Int32)))), .val (.int (F2 (x0 &&& (2147483647 : Int32)) (x1 &&& (2147483647 : Int32)))), .val (.long ((((F1 (x0 &&& (2147483647 : Int32)) (x1 &&& (2147483647 : Int32))).toInt64) * (4294967296 : Int64)) + ((F2 (x0 &&& (2147483647 : Int32)) (x1 &&& (2147483647 : Int32))).toInt64))), .second, .val (.long (F3 (x0 &&& (2147483647 : Int32)) (x1 &&& (2147483647 : Int32)))), .second, .val (.long (F3 (x1 &&& (2147483647 : Int32)) (x0 &&& (2147483647 : Int32)))), .second] [(.int (lcmpW (F3 (x0 &&& (2147483647 : Int32)) (x1 &&& (2147483647 : Int32))) (0 : Int64)))])) := st18.trans (by
            show Steps p.tables e below (T14.setTop (mkF m 71 #[.val (.int x0), .val (.int x1), .val (.int (x0 &&& (2147483647 : Int32))), .val (.int (x1 &&& (2147483647 : Int32))), .val (.int (F1 (x0 &&& (2147483647 : Int32)) (x1 &&& (2147483647 : Int32)))), .val (.int (F2 (x0 &&& (2147483647 : Int32)) (x1 &&& (2147483647 : Int32)))), .val (.long ((((F1 (x0 &&& (2147483647 : Int32)) (x1 &&& (2147483647 : Int32))).toInt64) * (4294967296 : Int64)) + ((F2 (x0 &&& (2147483647 : Int32)) (x1 &&& (2147483647 : Int32))).toInt64))), .second, .val (.long (F3 (x0 &&& (2147483647 : Int32)) (x1 &&& (2147483647 : Int32)))), .second, .val (.long (F3 (x1 &&& (2147483647 : Int32)) (x0 &&& (2147483647 : Int32)))), .second] [(.int (lcmpW (F3 (x1 &&& (2147483647 : Int32)) (x0 &&& (2147483647 : Int32))) ((((F1 (x0 &&& (2147483647 : Int32)) (x1 &&& (2147483647 : Int32))).toInt64) * (4294967296 : Int64)) + ((F2 (x0 &&& (2147483647 : Int32)) (x1 &&& (2147483647 : Int32))).toInt64))))])) _
            refine XS.ifNo X14.here hx rfl (hb hby at_71) rfl ((if0 _ _).trans (teq ((lw_eq _ _).mpr hc19)).2) ?_
            show Steps p.tables e below (T14.setTop (mkF m 74 #[.val (.int x0), .val (.int x1), .val (.int (x0 &&& (2147483647 : Int32))), .val (.int (x1 &&& (2147483647 : Int32))), .val (.int (F1 (x0 &&& (2147483647 : Int32)) (x1 &&& (2147483647 : Int32)))), .val (.int (F2 (x0 &&& (2147483647 : Int32)) (x1 &&& (2147483647 : Int32)))), .val (.long ((((F1 (x0 &&& (2147483647 : Int32)) (x1 &&& (2147483647 : Int32))).toInt64) * (4294967296 : Int64)) + ((F2 (x0 &&& (2147483647 : Int32)) (x1 &&& (2147483647 : Int32))).toInt64))), .second, .val (.long (F3 (x0 &&& (2147483647 : Int32)) (x1 &&& (2147483647 : Int32)))), .second, .val (.long (F3 (x1 &&& (2147483647 : Int32)) (x0 &&& (2147483647 : Int32)))), .second] [])) _
            refine XS.lload X14.here hx rfl (hb hby at_74) rfl ?_
            show Steps p.tables e below (T14.setTop (mkF m 76 #[.val (.int x0), .val (.int x1), .val (.int (x0 &&& (2147483647 : Int32))), .val (.int (x1 &&& (2147483647 : Int32))), .val (.int (F1 (x0 &&& (2147483647 : Int32)) (x1 &&& (2147483647 : Int32)))), .val (.int (F2 (x0 &&& (2147483647 : Int32)) (x1 &&& (2147483647 : Int32)))), .val (.long ((((F1 (x0 &&& (2147483647 : Int32)) (x1 &&& (2147483647 : Int32))).toInt64) * (4294967296 : Int64)) + ((F2 (x0 &&& (2147483647 : Int32)) (x1 &&& (2147483647 : Int32))).toInt64))), .second, .val (.long (F3 (x0 &&& (2147483647 : Int32)) (x1 &&& (2147483647 : Int32)))), .second, .val (.long (F3 (x1 &&& (2147483647 : Int32)) (x0 &&& (2147483647 : Int32)))), .second] [(.long (F3 (x0 &&& (2147483647 : Int32)) (x1 &&& (2147483647 : Int32))))])) _
            refine XS.lconst X14.here hx rfl (hb hby at_76) ?_
            show Steps p.tables e below (T14.setTop (mkF m 77 #[.val (.int x0), .val (.int x1), .val (.int (x0 &&& (2147483647 : Int32))), .val (.int (x1 &&& (2147483647 : Int32))), .val (.int (F1 (x0 &&& (2147483647 : Int32)) (x1 &&& (2147483647 : Int32)))), .val (.int (F2 (x0 &&& (2147483647 : Int32)) (x1 &&& (2147483647 : Int32)))), .val (.long ((((F1 (x0 &&& (2147483647 : Int32)) (x1 &&& (2147483647 : Int32))).toInt64) * (4294967296 : Int64)) + ((F2 (x0 &&& (2147483647 : Int32)) (x1 &&& (2147483647 : Int32))).toInt64))), .second, .val (.long (F3 (x0 &&& (2147483647 : Int32)) (x1 &&& (2147483647 : Int32)))), .second, .val (.long (F3 (x1 &&& (2147483647 : Int32)) (x0 &&& (2147483647 : Int32)))), .second] [(.long (0 : Int64)), (.long (F3 (x0 &&& (2147483647 : Int32)) (x1 &&& (2147483647 : Int32))))])) _
            refine XS.lcmp X14.here hx rfl (hb hby at_77) rfl ?_
            exact Steps.refl _)
        by_cases hc21 : (F3 (x0 &&& (2147483647 : Int32)) (x1 &&& (2147483647 : Int32))) = (0 : Int64)
        · have st22 : Steps p.tables e below (s₁.setTop (entryFrame m #[(.int x0), (.int x1)] maxLocals)) (T14.setTop (mkF m 106 #[.val (.int x0), .val (.int x1), .val (.int (x0 &&& (2147483647 : Int32))), .val (.int (x1 &&& (2147483647 : Int32))), .val (.int (F1 (x0 &&& (2147483647 : Int32)) (x1 &&& (2147483647 : Int32)))), .val (.int (F2 (x0 &&& (2147483647 : Int32)) (x1 &&& (2147483647 : Int32)))), .val (.long ((((F1 (x0 &&& (2147483647 : Int32)) (x1 &&& (2147483647 : Int32))).toInt64) * (4294967296 : Int64)) + ((F2 (x0 &&& (2147483647 : Int32)) (x1 &&& (2147483647 : Int32))).toInt64))), .second, .val (.long (F3 (x0 &&& (2147483647 : Int32)) (x1 &&& (2147483647 : Int32)))), .second, .val (.long (F3 (x1 &&& (2147483647 : Int32)) (x0 &&& (2147483647 : Int32)))), .second] [(.int (0 : Int32))])) := st20.trans (by
              show Steps p.tables e below (T14.setTop (mkF m 78 #[.val (.int x0), .val (.int x1), .val (.int (x0 &&& (2147483647 : Int32))), .val (.int (x1 &&& (2147483647 : Int32))), .val (.int (F1 (x0 &&& (2147483647 : Int32)) (x1 &&& (2147483647 : Int32)))), .val (.int (F2 (x0 &&& (2147483647 : Int32)) (x1 &&& (2147483647 : Int32)))), .val (.long ((((F1 (x0 &&& (2147483647 : Int32)) (x1 &&& (2147483647 : Int32))).toInt64) * (4294967296 : Int64)) + ((F2 (x0 &&& (2147483647 : Int32)) (x1 &&& (2147483647 : Int32))).toInt64))), .second, .val (.long (F3 (x0 &&& (2147483647 : Int32)) (x1 &&& (2147483647 : Int32)))), .second, .val (.long (F3 (x1 &&& (2147483647 : Int32)) (x0 &&& (2147483647 : Int32)))), .second] [(.int (lcmpW (F3 (x0 &&& (2147483647 : Int32)) (x1 &&& (2147483647 : Int32))) (0 : Int64)))])) _
              refine XS.ifYes X14.here hx rfl (pc0 := 78) (pc' := 105) rfl (hb hby at_78) rfl ((if0 _ _).trans (teq ((lw_eq _ _).mpr hc21)).1) (by decide) (by decide) ?_
              show Steps p.tables e below (T14.setTop (mkF m 105 #[.val (.int x0), .val (.int x1), .val (.int (x0 &&& (2147483647 : Int32))), .val (.int (x1 &&& (2147483647 : Int32))), .val (.int (F1 (x0 &&& (2147483647 : Int32)) (x1 &&& (2147483647 : Int32)))), .val (.int (F2 (x0 &&& (2147483647 : Int32)) (x1 &&& (2147483647 : Int32)))), .val (.long ((((F1 (x0 &&& (2147483647 : Int32)) (x1 &&& (2147483647 : Int32))).toInt64) * (4294967296 : Int64)) + ((F2 (x0 &&& (2147483647 : Int32)) (x1 &&& (2147483647 : Int32))).toInt64))), .second, .val (.long (F3 (x0 &&& (2147483647 : Int32)) (x1 &&& (2147483647 : Int32)))), .second, .val (.long (F3 (x1 &&& (2147483647 : Int32)) (x0 &&& (2147483647 : Int32)))), .second] [])) _
              refine XS.iconst X14.here hx rfl (hb hby at_105) ?_
              exact Steps.refl _)
          obtain ⟨fs, hr, hrun, hended, hW, hsame⟩ := X14.leave (v := some (.int (0 : Int32))) (fun h => by rw [Bd.returns] at h; cases h)
          refine ⟨_, _, st22.trans ?_, hrun, hended, _, _, rfl, ?_, ⟨_, rfl⟩, hW, hsame.mono (by decide) (by decide)⟩
          · exact retN X14 hx (t := .boolean) Bd.returns (by simp) (hb hby at_106) hr
          · show Q0 Z x0 x1 h0 n0 _ T14.heap _
            rw [hh14]
            exact ⟨by rw [F0, if_neg hc2, if_pos hc17, if_pos hc19, if_pos hc21], N14⟩
        · have st23 : Steps p.tables e below (s₁.setTop (entryFrame m #[(.int x0), (.int x1)] maxLocals)) (T14.setTop (mkF m 83 #[.val (.int x0), .val (.int x1), .val (.int (x0 &&& (2147483647 : Int32))), .val (.int (x1 &&& (2147483647 : Int32))), .val (.int (F1 (x0 &&& (2147483647 : Int32)) (x1 &&& (2147483647 : Int32)))), .val (.int (F2 (x0 &&& (2147483647 : Int32)) (x1 &&& (2147483647 : Int32)))), .val (.long ((((F1 (x0 &&& (2147483647 : Int32)) (x1 &&& (2147483647 : Int32))).toInt64) * (4294967296 : Int64)) + ((F2 (x0 &&& (2147483647 : Int32)) (x1 &&& (2147483647 : Int32))).toInt64))), .second, .val (.long (F3 (x0 &&& (2147483647 : Int32)) (x1 &&& (2147483647 : Int32)))), .second, .val (.long (F3 (x1 &&& (2147483647 : Int32)) (x0 &&& (2147483647 : Int32)))), .second] [(.long (F3 (x0 &&& (2147483647 : Int32)) (x1 &&& (2147483647 : Int32))))])) := st20.trans (by
              show Steps p.tables e below (T14.setTop (mkF m 78 #[.val (.int x0), .val (.int x1), .val (.int (x0 &&& (2147483647 : Int32))), .val (.int (x1 &&& (2147483647 : Int32))), .val (.int (F1 (x0 &&& (2147483647 : Int32)) (x1 &&& (2147483647 : Int32)))), .val (.int (F2 (x0 &&& (2147483647 : Int32)) (x1 &&& (2147483647 : Int32)))), .val (.long ((((F1 (x0 &&& (2147483647 : Int32)) (x1 &&& (2147483647 : Int32))).toInt64) * (4294967296 : Int64)) + ((F2 (x0 &&& (2147483647 : Int32)) (x1 &&& (2147483647 : Int32))).toInt64))), .second, .val (.long (F3 (x0 &&& (2147483647 : Int32)) (x1 &&& (2147483647 : Int32)))), .second, .val (.long (F3 (x1 &&& (2147483647 : Int32)) (x0 &&& (2147483647 : Int32)))), .second] [(.int (lcmpW (F3 (x0 &&& (2147483647 : Int32)) (x1 &&& (2147483647 : Int32))) (0 : Int64)))])) _
              refine XS.ifNo X14.here hx rfl (hb hby at_78) rfl ((if0 _ _).trans (feq (fun q => hc21 ((lw_eq _ _).mp q))).1) ?_
              show Steps p.tables e below (T14.setTop (mkF m 81 #[.val (.int x0), .val (.int x1), .val (.int (x0 &&& (2147483647 : Int32))), .val (.int (x1 &&& (2147483647 : Int32))), .val (.int (F1 (x0 &&& (2147483647 : Int32)) (x1 &&& (2147483647 : Int32)))), .val (.int (F2 (x0 &&& (2147483647 : Int32)) (x1 &&& (2147483647 : Int32)))), .val (.long ((((F1 (x0 &&& (2147483647 : Int32)) (x1 &&& (2147483647 : Int32))).toInt64) * (4294967296 : Int64)) + ((F2 (x0 &&& (2147483647 : Int32)) (x1 &&& (2147483647 : Int32))).toInt64))), .second, .val (.long (F3 (x0 &&& (2147483647 : Int32)) (x1 &&& (2147483647 : Int32)))), .second, .val (.long (F3 (x1 &&& (2147483647 : Int32)) (x0 &&& (2147483647 : Int32)))), .second] [])) _
              refine XS.lload X14.here hx rfl (hb hby at_81) rfl ?_
              exact Steps.refl _)
          obtain ⟨_, _, ⟨T24, L24, k24, n24⟩, -, X24, ⟨Lc24, hQ24, l24, y24, z24⟩, sr24⟩ := Jvm.LawKit.callS X14 hx (y := (⟨"org/predicaterefinery/automaton/PairSet", "first", "(J)I"⟩ : MethodName)) hown (mvT hZ (hw _ (List.mem_of_getElem? (i := 13) rfl))) (mvT hZ (hw _ (List.mem_of_getElem? (i := 14) rfl))) (mvT hZ (hw _ (List.mem_of_getElem? (i := 11) rfl))) (mvT hZ (hw _ (List.mem_of_getElem? (i := 15) rfl))) (by decide) (backOf (W := 0) (rm4 l Z a0 hw [] (F3 (x0 &&& (2147483647 : Int32)) (x1 &&& (2147483647 : Int32)))  h0 n0 Z0 ) hZ (hw _ (List.mem_of_getElem? (i := 15) rfl)) (hw _ (List.mem_of_getElem? (i := 11) rfl)) (by decide) (by decide)) (g := (mkF m 83 #[.val (.int x0), .val (.int x1), .val (.int (x0 &&& (2147483647 : Int32))), .val (.int (x1 &&& (2147483647 : Int32))), .val (.int (F1 (x0 &&& (2147483647 : Int32)) (x1 &&& (2147483647 : Int32)))), .val (.int (F2 (x0 &&& (2147483647 : Int32)) (x1 &&& (2147483647 : Int32)))), .val (.long ((((F1 (x0 &&& (2147483647 : Int32)) (x1 &&& (2147483647 : Int32))).toInt64) * (4294967296 : Int64)) + ((F2 (x0 &&& (2147483647 : Int32)) (x1 &&& (2147483647 : Int32))).toInt64))), .second, .val (.long (F3 (x0 &&& (2147483647 : Int32)) (x1 &&& (2147483647 : Int32)))), .second, .val (.long (F3 (x1 &&& (2147483647 : Int32)) (x0 &&& (2147483647 : Int32)))), .second] [(.long (F3 (x0 &&& (2147483647 : Int32)) (x1 &&& (2147483647 : Int32))))])) rfl (by rw [hml]; rfl) (argsL := [(.long (F3 (x0 &&& (2147483647 : Int32)) (x1 &&& (2147483647 : Int32))))]) (rest := []) (lenOf pd_2 rfl) rfl (by show 2 * 0 + _ ≤ _; exact Nat.le_of_eq rfl) (hb hby at_83) (fun _ _ => ⟨rfl, hh14, (by decide : 0 + 0 ≤ _), (by decide : 0 + 0 ≤ _)⟩)
          dsimp only [Pt.U, Pt.locs, Pt.cells, Pt.slots] at X24 l24 y24 z24 sr24 hQ24
          subst l24 y24 z24
          obtain ⟨rfl, N24q, hh24⟩ := hQ24
          have N24 := Fr.app N14 N24q
          have st25 : Steps p.tables e below (s₁.setTop (entryFrame m #[(.int x0), (.int x1)] maxLocals)) (T24.setTop (mkF m 86 #[.val (.int x0), .val (.int x1), .val (.int (x0 &&& (2147483647 : Int32))), .val (.int (x1 &&& (2147483647 : Int32))), .val (.int (F1 (x0 &&& (2147483647 : Int32)) (x1 &&& (2147483647 : Int32)))), .val (.int (F2 (x0 &&& (2147483647 : Int32)) (x1 &&& (2147483647 : Int32)))), .val (.long ((((F1 (x0 &&& (2147483647 : Int32)) (x1 &&& (2147483647 : Int32))).toInt64) * (4294967296 : Int64)) + ((F2 (x0 &&& (2147483647 : Int32)) (x1 &&& (2147483647 : Int32))).toInt64))), .second, .val (.long (F3 (x0 &&& (2147483647 : Int32)) (x1 &&& (2147483647 : Int32)))), .second, .val (.long (F3 (x1 &&& (2147483647 : Int32)) (x0 &&& (2147483647 : Int32)))), .second] [(.int (F4 (F3 (x0 &&& (2147483647 : Int32)) (x1 &&& (2147483647 : Int32)))))])) := st23.trans (sr24 _ (Steps.refl _))
          have st26 : Steps p.tables e below (s₁.setTop (entryFrame m #[(.int x0), (.int x1)] maxLocals)) (T24.setTop (mkF m 88 #[.val (.int x0), .val (.int x1), .val (.int (x0 &&& (2147483647 : Int32))), .val (.int (x1 &&& (2147483647 : Int32))), .val (.int (F1 (x0 &&& (2147483647 : Int32)) (x1 &&& (2147483647 : Int32)))), .val (.int (F2 (x0 &&& (2147483647 : Int32)) (x1 &&& (2147483647 : Int32)))), .val (.long ((((F1 (x0 &&& (2147483647 : Int32)) (x1 &&& (2147483647 : Int32))).toInt64) * (4294967296 : Int64)) + ((F2 (x0 &&& (2147483647 : Int32)) (x1 &&& (2147483647 : Int32))).toInt64))), .second, .val (.long (F3 (x0 &&& (2147483647 : Int32)) (x1 &&& (2147483647 : Int32)))), .second, .val (.long (F3 (x1 &&& (2147483647 : Int32)) (x0 &&& (2147483647 : Int32)))), .second] [(.int (F1 (x0 &&& (2147483647 : Int32)) (x1 &&& (2147483647 : Int32)))), (.int (F4 (F3 (x0 &&& (2147483647 : Int32)) (x1 &&& (2147483647 : Int32)))))])) := st25.trans (by
              show Steps p.tables e below (T24.setTop (mkF m 86 #[.val (.int x0), .val (.int x1), .val (.int (x0 &&& (2147483647 : Int32))), .val (.int (x1 &&& (2147483647 : Int32))), .val (.int (F1 (x0 &&& (2147483647 : Int32)) (x1 &&& (2147483647 : Int32)))), .val (.int (F2 (x0 &&& (2147483647 : Int32)) (x1 &&& (2147483647 : Int32)))), .val (.long ((((F1 (x0 &&& (2147483647 : Int32)) (x1 &&& (2147483647 : Int32))).toInt64) * (4294967296 : Int64)) + ((F2 (x0 &&& (2147483647 : Int32)) (x1 &&& (2147483647 : Int32))).toInt64))), .second, .val (.long (F3 (x0 &&& (2147483647 : Int32)) (x1 &&& (2147483647 : Int32)))), .second, .val (.long (F3 (x1 &&& (2147483647 : Int32)) (x0 &&& (2147483647 : Int32)))), .second] [(.int (F4 (F3 (x0 &&& (2147483647 : Int32)) (x1 &&& (2147483647 : Int32)))))])) _
              refine XS.iload X24.here hx rfl (hb hby at_86) rfl ?_
              exact Steps.refl _)
          by_cases hc27 : (F4 (F3 (x0 &&& (2147483647 : Int32)) (x1 &&& (2147483647 : Int32)))) = (F1 (x0 &&& (2147483647 : Int32)) (x1 &&& (2147483647 : Int32)))
          · have st28 : Steps p.tables e below (s₁.setTop (entryFrame m #[(.int x0), (.int x1)] maxLocals)) (T24.setTop (mkF m 93 #[.val (.int x0), .val (.int x1), .val (.int (x0 &&& (2147483647 : Int32))), .val (.int (x1 &&& (2147483647 : Int32))), .val (.int (F1 (x0 &&& (2147483647 : Int32)) (x1 &&& (2147483647 : Int32)))), .val (.int (F2 (x0 &&& (2147483647 : Int32)) (x1 &&& (2147483647 : Int32)))), .val (.long ((((F1 (x0 &&& (2147483647 : Int32)) (x1 &&& (2147483647 : Int32))).toInt64) * (4294967296 : Int64)) + ((F2 (x0 &&& (2147483647 : Int32)) (x1 &&& (2147483647 : Int32))).toInt64))), .second, .val (.long (F3 (x0 &&& (2147483647 : Int32)) (x1 &&& (2147483647 : Int32)))), .second, .val (.long (F3 (x1 &&& (2147483647 : Int32)) (x0 &&& (2147483647 : Int32)))), .second] [(.long (F3 (x0 &&& (2147483647 : Int32)) (x1 &&& (2147483647 : Int32))))])) := st26.trans (by
                show Steps p.tables e below (T24.setTop (mkF m 88 #[.val (.int x0), .val (.int x1), .val (.int (x0 &&& (2147483647 : Int32))), .val (.int (x1 &&& (2147483647 : Int32))), .val (.int (F1 (x0 &&& (2147483647 : Int32)) (x1 &&& (2147483647 : Int32)))), .val (.int (F2 (x0 &&& (2147483647 : Int32)) (x1 &&& (2147483647 : Int32)))), .val (.long ((((F1 (x0 &&& (2147483647 : Int32)) (x1 &&& (2147483647 : Int32))).toInt64) * (4294967296 : Int64)) + ((F2 (x0 &&& (2147483647 : Int32)) (x1 &&& (2147483647 : Int32))).toInt64))), .second, .val (.long (F3 (x0 &&& (2147483647 : Int32)) (x1 &&& (2147483647 : Int32)))), .second, .val (.long (F3 (x1 &&& (2147483647 : Int32)) (x0 &&& (2147483647 : Int32)))), .second] [(.int (F1 (x0 &&& (2147483647 : Int32)) (x1 &&& (2147483647 : Int32)))), (.int (F4 (F3 (x0 &&& (2147483647 : Int32)) (x1 &&& (2147483647 : Int32)))))])) _
                refine XS.icmpNo X24.here hx rfl (hb hby at_88) rfl (teq hc27).2 ?_
                show Steps p.tables e below (T24.setTop (mkF m 91 #[.val (.int x0), .val (.int x1), .val (.int (x0 &&& (2147483647 : Int32))), .val (.int (x1 &&& (2147483647 : Int32))), .val (.int (F1 (x0 &&& (2147483647 : Int32)) (x1 &&& (2147483647 : Int32)))), .val (.int (F2 (x0 &&& (2147483647 : Int32)) (x1 &&& (2147483647 : Int32)))), .val (.long ((((F1 (x0 &&& (2147483647 : Int32)) (x1 &&& (2147483647 : Int32))).toInt64) * (4294967296 : Int64)) + ((F2 (x0 &&& (2147483647 : Int32)) (x1 &&& (2147483647 : Int32))).toInt64))), .second, .val (.long (F3 (x0 &&& (2147483647 : Int32)) (x1 &&& (2147483647 : Int32)))), .second, .val (.long (F3 (x1 &&& (2147483647 : Int32)) (x0 &&& (2147483647 : Int32)))), .second] [])) _
                refine XS.lload X24.here hx rfl (hb hby at_91) rfl ?_
                exact Steps.refl _)
            obtain ⟨_, _, ⟨T29, L29, k29, n29⟩, -, X29, ⟨Lc29, hQ29, l29, y29, z29⟩, sr29⟩ := Jvm.LawKit.callS X24 hx (y := (⟨"org/predicaterefinery/automaton/PairSet", "second", "(J)I"⟩ : MethodName)) hown (mvT hZ (hw _ (List.mem_of_getElem? (i := 16) rfl))) (mvT hZ (hw _ (List.mem_of_getElem? (i := 17) rfl))) (mvT hZ (hw _ (List.mem_of_getElem? (i := 11) rfl))) (mvT hZ (hw _ (List.mem_of_getElem? (i := 18) rfl))) (by decide) (backOf (W := 0) (rm5 l Z a0 hw [] (F3 (x0 &&& (2147483647 : Int32)) (x1 &&& (2147483647 : Int32)))  h0 n0 Z0 ) hZ (hw _ (List.mem_of_getElem? (i := 18) rfl)) (hw _ (List.mem_of_getElem? (i := 11) rfl)) (by decide) (by decide)) (g := (mkF m 93 #[.val (.int x0), .val (.int x1), .val (.int (x0 &&& (2147483647 : Int32))), .val (.int (x1 &&& (2147483647 : Int32))), .val (.int (F1 (x0 &&& (2147483647 : Int32)) (x1 &&& (2147483647 : Int32)))), .val (.int (F2 (x0 &&& (2147483647 : Int32)) (x1 &&& (2147483647 : Int32)))), .val (.long ((((F1 (x0 &&& (2147483647 : Int32)) (x1 &&& (2147483647 : Int32))).toInt64) * (4294967296 : Int64)) + ((F2 (x0 &&& (2147483647 : Int32)) (x1 &&& (2147483647 : Int32))).toInt64))), .second, .val (.long (F3 (x0 &&& (2147483647 : Int32)) (x1 &&& (2147483647 : Int32)))), .second, .val (.long (F3 (x1 &&& (2147483647 : Int32)) (x0 &&& (2147483647 : Int32)))), .second] [(.long (F3 (x0 &&& (2147483647 : Int32)) (x1 &&& (2147483647 : Int32))))])) rfl (by rw [hml]; rfl) (argsL := [(.long (F3 (x0 &&& (2147483647 : Int32)) (x1 &&& (2147483647 : Int32))))]) (rest := []) (lenOf pd_2 rfl) rfl (by show 2 * 0 + _ ≤ _; exact Nat.le_of_eq rfl) (hb hby at_93) (fun _ _ => ⟨rfl, hh24, (by decide : 0 + 0 ≤ _), (by decide : 0 + 0 ≤ _)⟩)
            dsimp only [Pt.U, Pt.locs, Pt.cells, Pt.slots] at X29 l29 y29 z29 sr29 hQ29
            subst l29 y29 z29
            obtain ⟨rfl, N29q, hh29⟩ := hQ29
            have N29 := Fr.app N24 N29q
            have st30 : Steps p.tables e below (s₁.setTop (entryFrame m #[(.int x0), (.int x1)] maxLocals)) (T29.setTop (mkF m 96 #[.val (.int x0), .val (.int x1), .val (.int (x0 &&& (2147483647 : Int32))), .val (.int (x1 &&& (2147483647 : Int32))), .val (.int (F1 (x0 &&& (2147483647 : Int32)) (x1 &&& (2147483647 : Int32)))), .val (.int (F2 (x0 &&& (2147483647 : Int32)) (x1 &&& (2147483647 : Int32)))), .val (.long ((((F1 (x0 &&& (2147483647 : Int32)) (x1 &&& (2147483647 : Int32))).toInt64) * (4294967296 : Int64)) + ((F2 (x0 &&& (2147483647 : Int32)) (x1 &&& (2147483647 : Int32))).toInt64))), .second, .val (.long (F3 (x0 &&& (2147483647 : Int32)) (x1 &&& (2147483647 : Int32)))), .second, .val (.long (F3 (x1 &&& (2147483647 : Int32)) (x0 &&& (2147483647 : Int32)))), .second] [(.int (F5 (F3 (x0 &&& (2147483647 : Int32)) (x1 &&& (2147483647 : Int32)))))])) := st28.trans (sr29 _ (Steps.refl _))
            have st31 : Steps p.tables e below (s₁.setTop (entryFrame m #[(.int x0), (.int x1)] maxLocals)) (T29.setTop (mkF m 98 #[.val (.int x0), .val (.int x1), .val (.int (x0 &&& (2147483647 : Int32))), .val (.int (x1 &&& (2147483647 : Int32))), .val (.int (F1 (x0 &&& (2147483647 : Int32)) (x1 &&& (2147483647 : Int32)))), .val (.int (F2 (x0 &&& (2147483647 : Int32)) (x1 &&& (2147483647 : Int32)))), .val (.long ((((F1 (x0 &&& (2147483647 : Int32)) (x1 &&& (2147483647 : Int32))).toInt64) * (4294967296 : Int64)) + ((F2 (x0 &&& (2147483647 : Int32)) (x1 &&& (2147483647 : Int32))).toInt64))), .second, .val (.long (F3 (x0 &&& (2147483647 : Int32)) (x1 &&& (2147483647 : Int32)))), .second, .val (.long (F3 (x1 &&& (2147483647 : Int32)) (x0 &&& (2147483647 : Int32)))), .second] [(.int (F2 (x0 &&& (2147483647 : Int32)) (x1 &&& (2147483647 : Int32)))), (.int (F5 (F3 (x0 &&& (2147483647 : Int32)) (x1 &&& (2147483647 : Int32)))))])) := st30.trans (by
                show Steps p.tables e below (T29.setTop (mkF m 96 #[.val (.int x0), .val (.int x1), .val (.int (x0 &&& (2147483647 : Int32))), .val (.int (x1 &&& (2147483647 : Int32))), .val (.int (F1 (x0 &&& (2147483647 : Int32)) (x1 &&& (2147483647 : Int32)))), .val (.int (F2 (x0 &&& (2147483647 : Int32)) (x1 &&& (2147483647 : Int32)))), .val (.long ((((F1 (x0 &&& (2147483647 : Int32)) (x1 &&& (2147483647 : Int32))).toInt64) * (4294967296 : Int64)) + ((F2 (x0 &&& (2147483647 : Int32)) (x1 &&& (2147483647 : Int32))).toInt64))), .second, .val (.long (F3 (x0 &&& (2147483647 : Int32)) (x1 &&& (2147483647 : Int32)))), .second, .val (.long (F3 (x1 &&& (2147483647 : Int32)) (x0 &&& (2147483647 : Int32)))), .second] [(.int (F5 (F3 (x0 &&& (2147483647 : Int32)) (x1 &&& (2147483647 : Int32)))))])) _
                refine XS.iload X29.here hx rfl (hb hby at_96) rfl ?_
                exact Steps.refl _)
            by_cases hc32 : (F5 (F3 (x0 &&& (2147483647 : Int32)) (x1 &&& (2147483647 : Int32)))) = (F2 (x0 &&& (2147483647 : Int32)) (x1 &&& (2147483647 : Int32)))
            · have st33 : Steps p.tables e below (s₁.setTop (entryFrame m #[(.int x0), (.int x1)] maxLocals)) (T29.setTop (mkF m 106 #[.val (.int x0), .val (.int x1), .val (.int (x0 &&& (2147483647 : Int32))), .val (.int (x1 &&& (2147483647 : Int32))), .val (.int (F1 (x0 &&& (2147483647 : Int32)) (x1 &&& (2147483647 : Int32)))), .val (.int (F2 (x0 &&& (2147483647 : Int32)) (x1 &&& (2147483647 : Int32)))), .val (.long ((((F1 (x0 &&& (2147483647 : Int32)) (x1 &&& (2147483647 : Int32))).toInt64) * (4294967296 : Int64)) + ((F2 (x0 &&& (2147483647 : Int32)) (x1 &&& (2147483647 : Int32))).toInt64))), .second, .val (.long (F3 (x0 &&& (2147483647 : Int32)) (x1 &&& (2147483647 : Int32)))), .second, .val (.long (F3 (x1 &&& (2147483647 : Int32)) (x0 &&& (2147483647 : Int32)))), .second] [(.int (1 : Int32))])) := st31.trans (by
                  show Steps p.tables e below (T29.setTop (mkF m 98 #[.val (.int x0), .val (.int x1), .val (.int (x0 &&& (2147483647 : Int32))), .val (.int (x1 &&& (2147483647 : Int32))), .val (.int (F1 (x0 &&& (2147483647 : Int32)) (x1 &&& (2147483647 : Int32)))), .val (.int (F2 (x0 &&& (2147483647 : Int32)) (x1 &&& (2147483647 : Int32)))), .val (.long ((((F1 (x0 &&& (2147483647 : Int32)) (x1 &&& (2147483647 : Int32))).toInt64) * (4294967296 : Int64)) + ((F2 (x0 &&& (2147483647 : Int32)) (x1 &&& (2147483647 : Int32))).toInt64))), .second, .val (.long (F3 (x0 &&& (2147483647 : Int32)) (x1 &&& (2147483647 : Int32)))), .second, .val (.long (F3 (x1 &&& (2147483647 : Int32)) (x0 &&& (2147483647 : Int32)))), .second] [(.int (F2 (x0 &&& (2147483647 : Int32)) (x1 &&& (2147483647 : Int32)))), (.int (F5 (F3 (x0 &&& (2147483647 : Int32)) (x1 &&& (2147483647 : Int32)))))])) _
                  refine XS.icmpNo X29.here hx rfl (hb hby at_98) rfl (teq hc32).2 ?_
                  show Steps p.tables e below (T29.setTop (mkF m 101 #[.val (.int x0), .val (.int x1), .val (.int (x0 &&& (2147483647 : Int32))), .val (.int (x1 &&& (2147483647 : Int32))), .val (.int (F1 (x0 &&& (2147483647 : Int32)) (x1 &&& (2147483647 : Int32)))), .val (.int (F2 (x0 &&& (2147483647 : Int32)) (x1 &&& (2147483647 : Int32)))), .val (.long ((((F1 (x0 &&& (2147483647 : Int32)) (x1 &&& (2147483647 : Int32))).toInt64) * (4294967296 : Int64)) + ((F2 (x0 &&& (2147483647 : Int32)) (x1 &&& (2147483647 : Int32))).toInt64))), .second, .val (.long (F3 (x0 &&& (2147483647 : Int32)) (x1 &&& (2147483647 : Int32)))), .second, .val (.long (F3 (x1 &&& (2147483647 : Int32)) (x0 &&& (2147483647 : Int32)))), .second] [])) _
                  refine XS.iconst X29.here hx rfl (hb hby at_101) ?_
                  show Steps p.tables e below (T29.setTop (mkF m 102 #[.val (.int x0), .val (.int x1), .val (.int (x0 &&& (2147483647 : Int32))), .val (.int (x1 &&& (2147483647 : Int32))), .val (.int (F1 (x0 &&& (2147483647 : Int32)) (x1 &&& (2147483647 : Int32)))), .val (.int (F2 (x0 &&& (2147483647 : Int32)) (x1 &&& (2147483647 : Int32)))), .val (.long ((((F1 (x0 &&& (2147483647 : Int32)) (x1 &&& (2147483647 : Int32))).toInt64) * (4294967296 : Int64)) + ((F2 (x0 &&& (2147483647 : Int32)) (x1 &&& (2147483647 : Int32))).toInt64))), .second, .val (.long (F3 (x0 &&& (2147483647 : Int32)) (x1 &&& (2147483647 : Int32)))), .second, .val (.long (F3 (x1 &&& (2147483647 : Int32)) (x0 &&& (2147483647 : Int32)))), .second] [(.int (1 : Int32))])) _
                  refine XS.goto X29.here hx rfl (pc0 := 102) (pc' := 106) rfl (hb hby at_102) (by decide) (by decide) ?_
                  exact Steps.refl _)
              obtain ⟨fs, hr, hrun, hended, hW, hsame⟩ := X29.leave (v := some (.int (1 : Int32))) (fun h => by rw [Bd.returns] at h; cases h)
              refine ⟨_, _, st33.trans ?_, hrun, hended, _, _, rfl, ?_, ⟨_, rfl⟩, hW, hsame.mono (by decide) (by decide)⟩
              · exact retN X29 hx (t := .boolean) Bd.returns (by simp) (hb hby at_106) hr
              · show Q0 Z x0 x1 h0 n0 _ T29.heap _
                rw [hh29]
                exact ⟨by rw [F0, if_neg hc2, if_pos hc17, if_pos hc19, if_neg hc21, if_pos hc27, if_pos hc32], N29⟩
            · have st34 : Steps p.tables e below (s₁.setTop (entryFrame m #[(.int x0), (.int x1)] maxLocals)) (T29.setTop (mkF m 106 #[.val (.int x0), .val (.int x1), .val (.int (x0 &&& (2147483647 : Int32))), .val (.int (x1 &&& (2147483647 : Int32))), .val (.int (F1 (x0 &&& (2147483647 : Int32)) (x1 &&& (2147483647 : Int32)))), .val (.int (F2 (x0 &&& (2147483647 : Int32)) (x1 &&& (2147483647 : Int32)))), .val (.long ((((F1 (x0 &&& (2147483647 : Int32)) (x1 &&& (2147483647 : Int32))).toInt64) * (4294967296 : Int64)) + ((F2 (x0 &&& (2147483647 : Int32)) (x1 &&& (2147483647 : Int32))).toInt64))), .second, .val (.long (F3 (x0 &&& (2147483647 : Int32)) (x1 &&& (2147483647 : Int32)))), .second, .val (.long (F3 (x1 &&& (2147483647 : Int32)) (x0 &&& (2147483647 : Int32)))), .second] [(.int (0 : Int32))])) := st31.trans (by
                  show Steps p.tables e below (T29.setTop (mkF m 98 #[.val (.int x0), .val (.int x1), .val (.int (x0 &&& (2147483647 : Int32))), .val (.int (x1 &&& (2147483647 : Int32))), .val (.int (F1 (x0 &&& (2147483647 : Int32)) (x1 &&& (2147483647 : Int32)))), .val (.int (F2 (x0 &&& (2147483647 : Int32)) (x1 &&& (2147483647 : Int32)))), .val (.long ((((F1 (x0 &&& (2147483647 : Int32)) (x1 &&& (2147483647 : Int32))).toInt64) * (4294967296 : Int64)) + ((F2 (x0 &&& (2147483647 : Int32)) (x1 &&& (2147483647 : Int32))).toInt64))), .second, .val (.long (F3 (x0 &&& (2147483647 : Int32)) (x1 &&& (2147483647 : Int32)))), .second, .val (.long (F3 (x1 &&& (2147483647 : Int32)) (x0 &&& (2147483647 : Int32)))), .second] [(.int (F2 (x0 &&& (2147483647 : Int32)) (x1 &&& (2147483647 : Int32)))), (.int (F5 (F3 (x0 &&& (2147483647 : Int32)) (x1 &&& (2147483647 : Int32)))))])) _
                  refine XS.icmpYes X29.here hx rfl (pc0 := 98) (pc' := 105) rfl (hb hby at_98) rfl (feq hc32).2 (by decide) (by decide) ?_
                  show Steps p.tables e below (T29.setTop (mkF m 105 #[.val (.int x0), .val (.int x1), .val (.int (x0 &&& (2147483647 : Int32))), .val (.int (x1 &&& (2147483647 : Int32))), .val (.int (F1 (x0 &&& (2147483647 : Int32)) (x1 &&& (2147483647 : Int32)))), .val (.int (F2 (x0 &&& (2147483647 : Int32)) (x1 &&& (2147483647 : Int32)))), .val (.long ((((F1 (x0 &&& (2147483647 : Int32)) (x1 &&& (2147483647 : Int32))).toInt64) * (4294967296 : Int64)) + ((F2 (x0 &&& (2147483647 : Int32)) (x1 &&& (2147483647 : Int32))).toInt64))), .second, .val (.long (F3 (x0 &&& (2147483647 : Int32)) (x1 &&& (2147483647 : Int32)))), .second, .val (.long (F3 (x1 &&& (2147483647 : Int32)) (x0 &&& (2147483647 : Int32)))), .second] [])) _
                  refine XS.iconst X29.here hx rfl (hb hby at_105) ?_
                  exact Steps.refl _)
              obtain ⟨fs, hr, hrun, hended, hW, hsame⟩ := X29.leave (v := some (.int (0 : Int32))) (fun h => by rw [Bd.returns] at h; cases h)
              refine ⟨_, _, st34.trans ?_, hrun, hended, _, _, rfl, ?_, ⟨_, rfl⟩, hW, hsame.mono (by decide) (by decide)⟩
              · exact retN X29 hx (t := .boolean) Bd.returns (by simp) (hb hby at_106) hr
              · show Q0 Z x0 x1 h0 n0 _ T29.heap _
                rw [hh29]
                exact ⟨by rw [F0, if_neg hc2, if_pos hc17, if_pos hc19, if_neg hc21, if_pos hc27, if_neg hc32], N29⟩
          · have st35 : Steps p.tables e below (s₁.setTop (entryFrame m #[(.int x0), (.int x1)] maxLocals)) (T24.setTop (mkF m 106 #[.val (.int x0), .val (.int x1), .val (.int (x0 &&& (2147483647 : Int32))), .val (.int (x1 &&& (2147483647 : Int32))), .val (.int (F1 (x0 &&& (2147483647 : Int32)) (x1 &&& (2147483647 : Int32)))), .val (.int (F2 (x0 &&& (2147483647 : Int32)) (x1 &&& (2147483647 : Int32)))), .val (.long ((((F1 (x0 &&& (2147483647 : Int32)) (x1 &&& (2147483647 : Int32))).toInt64) * (4294967296 : Int64)) + ((F2 (x0 &&& (2147483647 : Int32)) (x1 &&& (2147483647 : Int32))).toInt64))), .second, .val (.long (F3 (x0 &&& (2147483647 : Int32)) (x1 &&& (2147483647 : Int32)))), .second, .val (.long (F3 (x1 &&& (2147483647 : Int32)) (x0 &&& (2147483647 : Int32)))), .second] [(.int (0 : Int32))])) := st26.trans (by
                show Steps p.tables e below (T24.setTop (mkF m 88 #[.val (.int x0), .val (.int x1), .val (.int (x0 &&& (2147483647 : Int32))), .val (.int (x1 &&& (2147483647 : Int32))), .val (.int (F1 (x0 &&& (2147483647 : Int32)) (x1 &&& (2147483647 : Int32)))), .val (.int (F2 (x0 &&& (2147483647 : Int32)) (x1 &&& (2147483647 : Int32)))), .val (.long ((((F1 (x0 &&& (2147483647 : Int32)) (x1 &&& (2147483647 : Int32))).toInt64) * (4294967296 : Int64)) + ((F2 (x0 &&& (2147483647 : Int32)) (x1 &&& (2147483647 : Int32))).toInt64))), .second, .val (.long (F3 (x0 &&& (2147483647 : Int32)) (x1 &&& (2147483647 : Int32)))), .second, .val (.long (F3 (x1 &&& (2147483647 : Int32)) (x0 &&& (2147483647 : Int32)))), .second] [(.int (F1 (x0 &&& (2147483647 : Int32)) (x1 &&& (2147483647 : Int32)))), (.int (F4 (F3 (x0 &&& (2147483647 : Int32)) (x1 &&& (2147483647 : Int32)))))])) _
                refine XS.icmpYes X24.here hx rfl (pc0 := 88) (pc' := 105) rfl (hb hby at_88) rfl (feq hc27).2 (by decide) (by decide) ?_
                show Steps p.tables e below (T24.setTop (mkF m 105 #[.val (.int x0), .val (.int x1), .val (.int (x0 &&& (2147483647 : Int32))), .val (.int (x1 &&& (2147483647 : Int32))), .val (.int (F1 (x0 &&& (2147483647 : Int32)) (x1 &&& (2147483647 : Int32)))), .val (.int (F2 (x0 &&& (2147483647 : Int32)) (x1 &&& (2147483647 : Int32)))), .val (.long ((((F1 (x0 &&& (2147483647 : Int32)) (x1 &&& (2147483647 : Int32))).toInt64) * (4294967296 : Int64)) + ((F2 (x0 &&& (2147483647 : Int32)) (x1 &&& (2147483647 : Int32))).toInt64))), .second, .val (.long (F3 (x0 &&& (2147483647 : Int32)) (x1 &&& (2147483647 : Int32)))), .second, .val (.long (F3 (x1 &&& (2147483647 : Int32)) (x0 &&& (2147483647 : Int32)))), .second] [])) _
                refine XS.iconst X24.here hx rfl (hb hby at_105) ?_
                exact Steps.refl _)
            obtain ⟨fs, hr, hrun, hended, hW, hsame⟩ := X24.leave (v := some (.int (0 : Int32))) (fun h => by rw [Bd.returns] at h; cases h)
            refine ⟨_, _, st35.trans ?_, hrun, hended, _, _, rfl, ?_, ⟨_, rfl⟩, hW, hsame.mono (by decide) (by decide)⟩
            · exact retN X24 hx (t := .boolean) Bd.returns (by simp) (hb hby at_106) hr
            · show Q0 Z x0 x1 h0 n0 _ T24.heap _
              rw [hh24]
              exact ⟨by rw [F0, if_neg hc2, if_pos hc17, if_pos hc19, if_neg hc21, if_neg hc27], N24⟩
      · have st36 : Steps p.tables e below (s₁.setTop (entryFrame m #[(.int x0), (.int x1)] maxLocals)) (T14.setTop (mkF m 106 #[.val (.int x0), .val (.int x1), .val (.int (x0 &&& (2147483647 : Int32))), .val (.int (x1 &&& (2147483647 : Int32))), .val (.int (F1 (x0 &&& (2147483647 : Int32)) (x1 &&& (2147483647 : Int32)))), .val (.int (F2 (x0 &&& (2147483647 : Int32)) (x1 &&& (2147483647 : Int32)))), .val (.long ((((F1 (x0 &&& (2147483647 : Int32)) (x1 &&& (2147483647 : Int32))).toInt64) * (4294967296 : Int64)) + ((F2 (x0 &&& (2147483647 : Int32)) (x1 &&& (2147483647 : Int32))).toInt64))), .second, .val (.long (F3 (x0 &&& (2147483647 : Int32)) (x1 &&& (2147483647 : Int32)))), .second, .val (.long (F3 (x1 &&& (2147483647 : Int32)) (x0 &&& (2147483647 : Int32)))), .second] [(.int (0 : Int32))])) := st18.trans (by
            show Steps p.tables e below (T14.setTop (mkF m 71 #[.val (.int x0), .val (.int x1), .val (.int (x0 &&& (2147483647 : Int32))), .val (.int (x1 &&& (2147483647 : Int32))), .val (.int (F1 (x0 &&& (2147483647 : Int32)) (x1 &&& (2147483647 : Int32)))), .val (.int (F2 (x0 &&& (2147483647 : Int32)) (x1 &&& (2147483647 : Int32)))), .val (.long ((((F1 (x0 &&& (2147483647 : Int32)) (x1 &&& (2147483647 : Int32))).toInt64) * (4294967296 : Int64)) + ((F2 (x0 &&& (2147483647 : Int32)) (x1 &&& (2147483647 : Int32))).toInt64))), .second, .val (.long (F3 (x0 &&& (2147483647 : Int32)) (x1 &&& (2147483647 : Int32)))), .second, .val (.long (F3 (x1 &&& (2147483647 : Int32)) (x0 &&& (2147483647 : Int32)))), .second] [(.int (lcmpW (F3 (x1 &&& (2147483647 : Int32)) (x0 &&& (2147483647 : Int32))) ((((F1 (x0 &&& (2147483647 : Int32)) (x1 &&& (2147483647 : Int32))).toInt64) * (4294967296 : Int64)) + ((F2 (x0 &&& (2147483647 : Int32)) (x1 &&& (2147483647 : Int32))).toInt64))))])) _
            refine XS.ifYes X14.here hx rfl (pc0 := 71) (pc' := 105) rfl (hb hby at_71) rfl ((if0 _ _).trans (feq (fun q => hc19 ((lw_eq _ _).mp q))).2) (by decide) (by decide) ?_
            show Steps p.tables e below (T14.setTop (mkF m 105 #[.val (.int x0), .val (.int x1), .val (.int (x0 &&& (2147483647 : Int32))), .val (.int (x1 &&& (2147483647 : Int32))), .val (.int (F1 (x0 &&& (2147483647 : Int32)) (x1 &&& (2147483647 : Int32)))), .val (.int (F2 (x0 &&& (2147483647 : Int32)) (x1 &&& (2147483647 : Int32)))), .val (.long ((((F1 (x0 &&& (2147483647 : Int32)) (x1 &&& (2147483647 : Int32))).toInt64) * (4294967296 : Int64)) + ((F2 (x0 &&& (2147483647 : Int32)) (x1 &&& (2147483647 : Int32))).toInt64))), .second, .val (.long (F3 (x0 &&& (2147483647 : Int32)) (x1 &&& (2147483647 : Int32)))), .second, .val (.long (F3 (x1 &&& (2147483647 : Int32)) (x0 &&& (2147483647 : Int32)))), .second] [])) _
            refine XS.iconst X14.here hx rfl (hb hby at_105) ?_
            exact Steps.refl _)
        obtain ⟨fs, hr, hrun, hended, hW, hsame⟩ := X14.leave (v := some (.int (0 : Int32))) (fun h => by rw [Bd.returns] at h; cases h)
        refine ⟨_, _, st36.trans ?_, hrun, hended, _, _, rfl, ?_, ⟨_, rfl⟩, hW, hsame.mono (by decide) (by decide)⟩
        · exact retN X14 hx (t := .boolean) Bd.returns (by simp) (hb hby at_106) hr
        · show Q0 Z x0 x1 h0 n0 _ T14.heap _
          rw [hh14]
          exact ⟨by rw [F0, if_neg hc2, if_pos hc17, if_neg hc19], N14⟩
    · have st37 : Steps p.tables e below (s₁.setTop (entryFrame m #[(.int x0), (.int x1)] maxLocals)) (T14.setTop (mkF m 106 #[.val (.int x0), .val (.int x1), .val (.int (x0 &&& (2147483647 : Int32))), .val (.int (x1 &&& (2147483647 : Int32))), .val (.int (F1 (x0 &&& (2147483647 : Int32)) (x1 &&& (2147483647 : Int32)))), .val (.int (F2 (x0 &&& (2147483647 : Int32)) (x1 &&& (2147483647 : Int32)))), .val (.long ((((F1 (x0 &&& (2147483647 : Int32)) (x1 &&& (2147483647 : Int32))).toInt64) * (4294967296 : Int64)) + ((F2 (x0 &&& (2147483647 : Int32)) (x1 &&& (2147483647 : Int32))).toInt64))), .second, .val (.long (F3 (x0 &&& (2147483647 : Int32)) (x1 &&& (2147483647 : Int32)))), .second, .val (.long (F3 (x1 &&& (2147483647 : Int32)) (x0 &&& (2147483647 : Int32)))), .second] [(.int (0 : Int32))])) := st16.trans (by
          show Steps p.tables e below (T14.setTop (mkF m 63 #[.val (.int x0), .val (.int x1), .val (.int (x0 &&& (2147483647 : Int32))), .val (.int (x1 &&& (2147483647 : Int32))), .val (.int (F1 (x0 &&& (2147483647 : Int32)) (x1 &&& (2147483647 : Int32)))), .val (.int (F2 (x0 &&& (2147483647 : Int32)) (x1 &&& (2147483647 : Int32)))), .val (.long ((((F1 (x0 &&& (2147483647 : Int32)) (x1 &&& (2147483647 : Int32))).toInt64) * (4294967296 : Int64)) + ((F2 (x0 &&& (2147483647 : Int32)) (x1 &&& (2147483647 : Int32))).toInt64))), .second, .val (.long (F3 (x0 &&& (2147483647 : Int32)) (x1 &&& (2147483647 : Int32)))), .second, .val (.long (F3 (x1 &&& (2147483647 : Int32)) (x0 &&& (2147483647 : Int32)))), .second] [(.int (lcmpW (F3 (x0 &&& (2147483647 : Int32)) (x1 &&& (2147483647 : Int32))) ((((F1 (x0 &&& (2147483647 : Int32)) (x1 &&& (2147483647 : Int32))).toInt64) * (4294967296 : Int64)) + ((F2 (x0 &&& (2147483647 : Int32)) (x1 &&& (2147483647 : Int32))).toInt64))))])) _
          refine XS.ifYes X14.here hx rfl (pc0 := 63) (pc' := 105) rfl (hb hby at_63) rfl ((if0 _ _).trans (feq (fun q => hc17 ((lw_eq _ _).mp q))).2) (by decide) (by decide) ?_
          show Steps p.tables e below (T14.setTop (mkF m 105 #[.val (.int x0), .val (.int x1), .val (.int (x0 &&& (2147483647 : Int32))), .val (.int (x1 &&& (2147483647 : Int32))), .val (.int (F1 (x0 &&& (2147483647 : Int32)) (x1 &&& (2147483647 : Int32)))), .val (.int (F2 (x0 &&& (2147483647 : Int32)) (x1 &&& (2147483647 : Int32)))), .val (.long ((((F1 (x0 &&& (2147483647 : Int32)) (x1 &&& (2147483647 : Int32))).toInt64) * (4294967296 : Int64)) + ((F2 (x0 &&& (2147483647 : Int32)) (x1 &&& (2147483647 : Int32))).toInt64))), .second, .val (.long (F3 (x0 &&& (2147483647 : Int32)) (x1 &&& (2147483647 : Int32)))), .second, .val (.long (F3 (x1 &&& (2147483647 : Int32)) (x0 &&& (2147483647 : Int32)))), .second] [])) _
          refine XS.iconst X14.here hx rfl (hb hby at_105) ?_
          exact Steps.refl _)
      obtain ⟨fs, hr, hrun, hended, hW, hsame⟩ := X14.leave (v := some (.int (0 : Int32))) (fun h => by rw [Bd.returns] at h; cases h)
      refine ⟨_, _, st37.trans ?_, hrun, hended, _, _, rfl, ?_, ⟨_, rfl⟩, hW, hsame.mono (by decide) (by decide)⟩
      · exact retN X14 hx (t := .boolean) Bd.returns (by simp) (hb hby at_106) hr
      · show Q0 Z x0 x1 h0 n0 _ T14.heap _
        rw [hh14]
        exact ⟨by rw [F0, if_neg hc2, if_neg hc17], N14⟩
theorem own_key (lo hi : Int32) (h0 : 0 ≤ lo.toInt) (h1 : 0 ≤ hi.toInt) : ((lo.toInt64 <<< ((32 : Int32) &&& 0x3f).toInt64) ||| hi.toInt64) = lo.toInt64 * 4294967296 + hi.toInt64 := by
  have r1 := rng32 lo; have r2 := rng32 hi
  have a1 := c_i2l lo; have a2 := c_i2l hi
  have e1 := c_lshl lo.toInt64 32 32 (by decide)
  have k : (4294967296 : Int64).toInt = 4294967296 := by decide
  have e2 := c_lmul lo.toInt64 4294967296
  have e3 := c_ladd (lo.toInt64 * 4294967296) hi.toInt64
  have e4 := c_orL (lo.toInt64 <<< ((32 : Int32) &&& 0x3f).toInt64) hi.toInt64 32 (by decide) 4294967296 (by decide +kernel)
  have q1 := rng64 (lo.toInt64 <<< ((32 : Int32) &&& 0x3f).toInt64)
  have q2 := rng64 (lo.toInt64 * 4294967296)
  have q3 := rng64 (lo.toInt64 * 4294967296 + hi.toInt64)
  have q4 := rng64 ((lo.toInt64 <<< ((32 : Int32) &&& 0x3f).toInt64) ||| hi.toInt64)
  rw [k] at e2
  apply Int64.toInt_inj.mp
  have p32 : ((2 ^ 32 : Nat) : Int) = 4294967296 := by decide +kernel
  rw [p32] at e1
  generalize (lo.toInt64 <<< ((32 : Int32) &&& 0x3f).toInt64) = A at *
  generalize A ||| hi.toInt64 = B at *
  generalize lo.toInt64 * 4294967296 = D at *
  generalize D + hi.toInt64 = E at *
  have e5 := e4 (by omega) (by omega) (by omega)
  omega
theorem own_kint (lo hi : Int32) (h0 : 0 ≤ lo.toInt) (h1 : 0 ≤ hi.toInt) : (lo.toInt64 * 4294967296 + hi.toInt64).toInt = lo.toInt * 4294967296 + hi.toInt := by
  have r1 := rng32 lo; have r2 := rng32 hi
  have a1 := c_i2l lo; have a2 := c_i2l hi
  have k : (4294967296 : Int64).toInt = 4294967296 := by decide
  have e2 := c_lmul lo.toInt64 4294967296
  have e3 := c_ladd (lo.toInt64 * 4294967296) hi.toInt64
  have q2 := rng64 (lo.toInt64 * 4294967296)
  have q3 := rng64 (lo.toInt64 * 4294967296 + hi.toInt64)
  rw [k] at e2
  omega
theorem own_fs (lo hi : Int32) (h0 : 0 ≤ lo.toInt) (h1 : 0 ≤ hi.toInt) : F4 (lo.toInt64 * 4294967296 + hi.toInt64) = lo ∧ F5 (lo.toInt64 * 4294967296 + hi.toInt64) = hi := by
  have r1 := rng32 lo; have r2 := rng32 hi
  have e := own_kint lo hi h0 h1
  generalize lo.toInt64 * 4294967296 + hi.toInt64 = k at *
  have e1 := c_lushr k 32 32 (by decide) (by decide)
  have e2 := c_l2i ((k.toUInt64 >>> ((32 : Int32) &&& 0x3f).toInt64.toUInt64).toInt64)
  have e3 := c_l2i k
  have q1 := rng32 ((k.toUInt64 >>> ((32 : Int32) &&& 0x3f).toInt64.toUInt64).toInt64).toInt32
  have q2 := rng32 k.toInt32
  constructor
  · show ((k.toUInt64 >>> ((32 : Int32) &&& 0x3f).toInt64.toUInt64).toInt64).toInt32 = lo
    apply Int32.toInt_inj.mp; omega
  · show k.toInt32 = hi
    apply Int32.toInt_inj.mp; omega
theorem own_law2 (a b : Int32) (ha : 0 ≤ a.toInt) (hb : 0 ≤ b.toInt) (hne : ¬ a = b) : ∃ lo hi : Int32, F1 a b = lo ∧ F2 a b = hi ∧ F3 a b = lo.toInt64 * 4294967296 + hi.toInt64 ∧ F3 b a = lo.toInt64 * 4294967296 + hi.toInt64 ∧ ¬ (lo.toInt64 * 4294967296 + hi.toInt64 = 0) ∧ F4 (lo.toInt64 * 4294967296 + hi.toInt64) = lo ∧ F5 (lo.toInt64 * 4294967296 + hi.toInt64) = hi := by
  have hne' : a.toInt ≠ b.toInt := fun q => hne (Int32.toInt_inj.mp q)
  by_cases h : a < b
  · have h' := Int32.lt_iff_toInt_lt.mp h
    have h2 : ¬ b < a := by rw [Int32.lt_iff_toInt_lt]; omega
    refine ⟨a, b, ?_, ?_, ?_, ?_, ?_, (own_fs a b ha hb).1, (own_fs a b ha hb).2⟩
    · rw [F1, if_neg h2]
    · rw [F2, if_pos h]
    · rw [F3, if_pos h]; exact own_key a b ha hb
    · rw [F3, if_neg h2]; exact own_key a b ha hb
    · intro q
      have e := own_kint a b ha hb
      rw [q] at e
      have z : (0 : Int64).toInt = 0 := by decide
      omega
  · have h' : ¬ a.toInt < b.toInt := fun q => h (Int32.lt_iff_toInt_lt.mpr q)
    have h2 : b < a := by rw [Int32.lt_iff_toInt_lt]; omega
    refine ⟨b, a, ?_, ?_, ?_, ?_, ?_, (own_fs b a hb ha).1, (own_fs b a hb ha).2⟩
    · rw [F1, if_pos h2]
    · rw [F2, if_neg h]
    · rw [F3, if_neg h]; exact own_key b a hb ha
    · rw [F3, if_pos h2]; exact own_key b a hb ha
    · intro q
      have e := own_kint b a hb ha
      rw [q] at e
      have z : (0 : Int64).toInt = 0 := by decide
      omega
theorem own_law (x0 x1 : Int32) : F0 x0 x1 = 1 := by
  have e1 : (x0 &&& 2147483647).toInt = x0.toInt % (2 ^ 31 : Nat) := c_mask x0 2147483647 31 (by decide) (by decide)
  have e2 : (x1 &&& 2147483647).toInt = x1.toInt % (2 ^ 31 : Nat) := c_mask x1 2147483647 31 (by decide) (by decide)
  unfold F0
  generalize x0 &&& 2147483647 = a at *
  generalize x1 &&& 2147483647 = b at *
  by_cases hne : a = b
  · rw [if_pos hne]
  · obtain ⟨lo, hi, h1, h2, h3, h4, h5, h6, h7⟩ := own_law2 a b (by omega) (by omega) hne
    rw [if_neg hne, h1, h2, h3, h4, h6, h7]
    simp only [if_neg h5, if_true]
set_option maxRecDepth 65536 in
set_option maxHeartbeats 40000000 in
theorem comes_1 {Post : Tables → Env → Array Value → State → Outcome → State → Prop} (hpost : ∀ tb e args s v u, (limb_1_1.after args s (.returned v) u = true ∧ limb_1_2.after args s (.returned v) u = true ∧ True) → FrameEnd s (.returned v) u (Jvm.fieldLocs frame_1_writes args s ++ Jvm.arrayLocs frame_1_arrays args s ++ Jvm.staticLocs frame_1_statics s) 0 0 → Post tb e args s (.returned v) u) :
    ArmFor flags0 classFile x code maxLocals ret World_1 tables_1 room_1 Calls_1 rest_1 Pre_1 Post := by
  intro l hfl _ _ p e ha hc hk s m args below hf hA hF happ hP
  obtain ⟨hcalls, hrest, hpre⟩ := hP
  obtain ⟨-, -, -, hnamed, -, -, -, hat⟩ := (Spec.applies_iff hf).mp happ
  obtain ⟨hg, hn⟩ := and_e (Cond.before_iff.mp (show (Jvm.Cond.and given_1 narrow_1).before args s = true from hpre))
  obtain ⟨g1, g2⟩ := and_e hg
  obtain ⟨g3, g4⟩ := and_e g2
  obtain ⟨w0, w1, rfl⟩ : ∃ w0 w1 : Value, args = #[w0, w1] := by
    have hs : args.size = 2 := by simpa [Cond.value, given_1] using g1
    obtain ⟨L⟩ := args
    match L, hs with
    | [w0, w1], _ => exact ⟨w0, w1, rfl⟩
  have hw := fun d (hd : d ∈ tables_1) => atoms_spec (ws := Jvm.Cond.code x code maxLocals ret :: tables_1) hat d (List.mem_cons_of_mem _ hd)
  have hfit : Fit s := fun {y c} hc i hi => by
    obtain ⟨ha, rfl⟩ := Array.getElem?_eq_some_iff.mp hc
    have q := List.all_eq_true.mp ((Array.all_eq_true_iff_forall_mem.mp hF) _ (Array.getElem_mem ha)) i (List.mem_range.mpr hi)
    simpa [Array.getElem?_eq_getElem hi] using q
  obtain ⟨i0, ei0⟩ := is_v g3
  obtain rfl : w0 = (.int i0) := Option.some.inj ei0
  obtain ⟨i1, ei1⟩ := is_v g4
  obtain rfl : w1 = (.int i1) := Option.some.inj ei1
  obtain ⟨n, o, h1, h2, h3, _, L, rfl, ⟨hv, N⟩, hq⟩ := rm0 l s _ hw tables_1 i0 i1  s.heap s.heap.size (Nat.le_refl _)  p e ha hc hk s m _ below hf ((Spec.applies_iff_loose hf).mp happ).1 ⟨rfl, State.Warmed39.refl s, rfl⟩ trivial
  rw [own_law] at hv
  subst hv
  refine ⟨n, _, h1, h2, h3, hpost _ _ _ _ _ _ ⟨Cond.after_iff.mpr rfl, Cond.after_iff.mpr (eq_i res_at (Term.int_eval (1)) rfl), trivial⟩ ⟨hq.1, hq.2.1, (hq.2.2.sift fun y hy => Or.inr (N y hy)).mono (by decide) (by decide)⟩⟩
theorem main_1_1 : Claimed_1_1 := comes_1 fun _ _ _ _ _ _ h hF => ⟨h.1, hF⟩
theorem main_1_2 : Claimed_1_2 := comes_1 fun _ _ _ _ _ _ h hF => ⟨h.2.1, hF⟩
end Jvm.Pilot.@@N@@
namespace Jvm.Pilot.@@N@@
open Jvm Jvm.ClassFile Sem Op Lib Jvm.Free Jvm.Stand Jvm.Pilot.@@N@@.Jvm.D
/-! MADE BY PROGRAM (witnessworld.py) out of the Statement's table words and the real class files: 10 classes; the members and pool entries that the words name. The judged class is class 1, her method 1. -/
namespace start1
open Jvm.ClassFile
def u (s : String) : CpInfo := .utf8 (stringToUtf16 s)
/-- a pool by its gaps: so many unusable entries, then the entry; so many at the end -/
def gap : Nat → List CpInfo → List CpInfo
  | 0, r => r
  | n + 1, r => .unusable :: gap n r
def poolList (es : List (Nat × CpInfo)) (last : Nat) : List CpInfo := es.foldr (fun e r => gap e.1 (e.2 :: r)) (gap last [])
def pool (es : List (Nat × CpInfo)) (last : Nat) : Array CpInfo := ⟨poolList es last⟩
def fileOf (pool : Array CpInfo) (this : Nat) (attrs : Array Attribute := #[]) (ms : Array MethodInfo := #[]) (fl : Nat := 33) (sup : Nat := 0) (ifs : Array Nat := #[]) (fds : Array FieldInfo := #[]) : ClassFile where
  minorVersion := 0
  majorVersion := 65
  constantPool := pool
  accessFlags := fl
  thisClass := this
  superClass := sup
  interfaces := ifs
  fields := fds
  methods := ms
  attributes := attrs
def plain (name : String) (sup : Option ClassId) : Class where
  name := name
  kind := .ordinary
  loader := none
  accessFlags := 33
  super := sup
  interfaces := #[]
  cf := none
  fields := #[]
  methods := #[]
  instanceTypes := #[]
  staticTypes := #[]
  resolved := #[]
  callSites := []
  init := .initialized
  statics := none
  mirror := none

def pool0 : Array CpInfo := pool [(5, u "<init>"), (0, u "()V"), (1, .class_ 10), (1, u "java/lang/Object")] 113

def k0m0 : Method := { name := "<init>", desc := "()V", sig := { parameters := [], returnType := none }, accessFlags := 1, code := none }
/-- java/lang/Object -/
def k0 : Class := { plain "java/lang/Object" none with
  accessFlags := 33
  interfaces := #[]
  cf := some (fileOf pool0 8 #[] #[{ accessFlags := 1, nameIndex := 5, descriptorIndex := 6, attributes := #[] }] 33 0 #[] #[])
  fields := #[]
  methods := #[k0m0]
  instanceTypes := #[]
  staticTypes := #[]
  resolved := Array.replicate 124 none
  statics := none }

def pool1 : Array CpInfo := pool [(2, .class_ 4), (1, u "java/lang/Object"), (0, u "<init>"), (0, u "()V"), (0, .integer 2147483647), (0, .methodref 9 10), (0, .class_ 11), (0, .nameAndType 12 13), (0, u "java/lang/Math"), (0, u "min"), (0, u "(II)I"), (0, .methodref 9 15), (0, .nameAndType 16 13), (0, u "max"), (0, .long 4294967296), (1, .methodref 20 21), (0, .class_ 22), (0, .nameAndType 23 24), (0, u "org/predicaterefinery/automaton/PairSet"), (0, u "key"), (0, u "(II)J"), (0, .methodref 20 26), (0, .nameAndType 27 28), (0, u "first"), (0, u "(J)I"), (0, .methodref 20 30), (0, .nameAndType 31 28), (0, u "second"), (0, .class_ 33), (0, u "org/predicaterefinery/automaton/PairSetKeyPinLaw"), (2, u "law"), (0, u "(II)Z")] 3

def k1m0 : Method := { name := "<init>", desc := "()V", sig := { parameters := [], returnType := none }, accessFlags := 1, code := none }
def k1c1 : Code := { maxStack := 4, maxLocals := 12, code := code, exceptionTable := #[], attributes := #[] }
def k1m1 : Method := { name := "law", desc := "(II)Z", sig := { parameters := [.int, .int], returnType := some .boolean }, accessFlags := 9, code := some k1c1 }
/-- org/predicaterefinery/automaton/PairSetKeyPinLaw -/
def k1 : Class := { plain "org/predicaterefinery/automaton/PairSetKeyPinLaw" (some 0) with
  accessFlags := 49
  interfaces := #[]
  cf := some (fileOf pool1 32 #[] #[{ accessFlags := 1, nameIndex := 5, descriptorIndex := 6, attributes := #[] }, { accessFlags := 9, nameIndex := 36, descriptorIndex := 37, attributes := #[] }] 49 2 #[] #[])
  fields := #[]
  methods := #[k1m0, k1m1]
  instanceTypes := #[]
  staticTypes := #[]
  resolved := Array.replicate 41 none
  statics := none }

def pool2 : Array CpInfo := pool [(1, .class_ 2), (0, u "java/lang/Math"), (1, .class_ 6), (1, u "java/lang/Object"), (0, u "<init>"), (0, u "()V"), (89, .class_ 100), (1, u "java/lang/Math$RandomNumberGeneratorHolder"), (71, u "negativeZeroFloatBits"), (0, u "J"), (2, u "negativeZeroDoubleBits"), (21, u "max"), (2, u "min"), (43, u "$assertionsDisabled"), (0, u "Z"), (88, u "(II)I"), (2, u "twoToTheDoubleScaleDown"), (0, u "D"), (4, u "twoToTheDoubleScaleUp"), (9, u "E"), (3, u "PI"), (2, u "TAU"), (2, u "DEGREES_TO_RADIANS"), (0, u "RADIANS_TO_DEGREES")] 94

def k2m0 : Method := { name := "<init>", desc := "()V", sig := { parameters := [], returnType := none }, accessFlags := 2, code := none }
def k2c1 : Code := { maxStack := 2, maxLocals := 2, code := jdk_29_method_65_code, exceptionTable := #[], attributes := #[] }
def k2m1 : Method := { name := "max", desc := "(II)I", sig := { parameters := [.int, .int], returnType := some .int }, accessFlags := 9, code := some k2c1 }
def k2c2 : Code := { maxStack := 2, maxLocals := 2, code := jdk_29_method_69_code, exceptionTable := #[], attributes := #[] }
def k2m2 : Method := { name := "min", desc := "(II)I", sig := { parameters := [.int, .int], returnType := some .int }, accessFlags := 9, code := some k2c2 }
/-- java/lang/Math -/
def k2 : Class := { plain "java/lang/Math" (some 0) with
  accessFlags := 49
  interfaces := #[]
  cf := some (fileOf pool2 1 #[.nestMembers #[98]] #[{ accessFlags := 2, nameIndex := 7, descriptorIndex := 8, attributes := #[] }, { accessFlags := 9, nameIndex := 198, descriptorIndex := 335, attributes := #[] }, { accessFlags := 9, nameIndex := 201, descriptorIndex := 335, attributes := #[] }] 49 4 #[] #[{ accessFlags := 25, nameIndex := 354, descriptorIndex := 339, attributes := #[] }, { accessFlags := 25, nameIndex := 358, descriptorIndex := 339, attributes := #[] }, { accessFlags := 25, nameIndex := 361, descriptorIndex := 339, attributes := #[] }, { accessFlags := 26, nameIndex := 364, descriptorIndex := 339, attributes := #[] }, { accessFlags := 26, nameIndex := 365, descriptorIndex := 339, attributes := #[] }, { accessFlags := 26, nameIndex := 172, descriptorIndex := 173, attributes := #[] }, { accessFlags := 26, nameIndex := 176, descriptorIndex := 173, attributes := #[] }, { accessFlags := 8, nameIndex := 344, descriptorIndex := 339, attributes := #[] }, { accessFlags := 8, nameIndex := 338, descriptorIndex := 339, attributes := #[] }, { accessFlags := 4120, nameIndex := 245, descriptorIndex := 246, attributes := #[] }])
  fields := #[{ name := "E", type := .double, accessFlags := 25, slot := 0, constantValue := 0 }, { name := "PI", type := .double, accessFlags := 25, slot := 1, constantValue := 0 }, { name := "TAU", type := .double, accessFlags := 25, slot := 2, constantValue := 0 }, { name := "DEGREES_TO_RADIANS", type := .double, accessFlags := 26, slot := 3, constantValue := 0 }, { name := "RADIANS_TO_DEGREES", type := .double, accessFlags := 26, slot := 4, constantValue := 0 }, { name := "negativeZeroFloatBits", type := .long, accessFlags := 26, slot := 5, constantValue := 0 }, { name := "negativeZeroDoubleBits", type := .long, accessFlags := 26, slot := 6, constantValue := 0 }, { name := "twoToTheDoubleScaleUp", type := .double, accessFlags := 8, slot := 7, constantValue := 0 }, { name := "twoToTheDoubleScaleDown", type := .double, accessFlags := 8, slot := 8, constantValue := 0 }, { name := "$assertionsDisabled", type := .boolean, accessFlags := 4120, slot := 9, constantValue := 0 }]
  methods := #[k2m0, k2m1, k2m2]
  instanceTypes := #[]
  staticTypes := #[.double, .double, .double, .double, .double, .long, .long, .double, .double, .boolean]
  resolved := Array.replicate 460 none
  statics := none }

def pool3 : Array CpInfo := pool [(2, .class_ 4), (1, u "java/lang/Object"), (0, u "<init>"), (0, u "()V"), (0, .class_ 8), (0, u "org/predicaterefinery/automaton/PairSet"), (2, u "_slots"), (0, u "[J"), (2, u "_size"), (0, u "I"), (3, u "(J)I"), (13, u "EMPTY"), (0, u "J"), (3, u "MIN_SLOTS"), (3, u "key"), (0, u "(II)J"), (1, u "first"), (0, u "second")] 9

def k3m0 : Method := { name := "<init>", desc := "()V", sig := { parameters := [], returnType := none }, accessFlags := 0, code := none }
def k3c1 : Code := { maxStack := 4, maxLocals := 2, code := prog_38_method_2_code, exceptionTable := #[], attributes := #[] }
def k3m1 : Method := { name := "key", desc := "(II)J", sig := { parameters := [.int, .int], returnType := some .long }, accessFlags := 8, code := some k3c1 }
def k3c2 : Code := { maxStack := 3, maxLocals := 2, code := prog_38_method_3_code, exceptionTable := #[], attributes := #[] }
def k3m2 : Method := { name := "first", desc := "(J)I", sig := { parameters := [.long], returnType := some .int }, accessFlags := 8, code := some k3c2 }
def k3c3 : Code := { maxStack := 2, maxLocals := 2, code := prog_38_method_4_code, exceptionTable := #[], attributes := #[] }
def k3m3 : Method := { name := "second", desc := "(J)I", sig := { parameters := [.long], returnType := some .int }, accessFlags := 8, code := some k3c3 }
/-- org/predicaterefinery/automaton/PairSet -/
def k3 : Class := { plain "org/predicaterefinery/automaton/PairSet" (some 0) with
  accessFlags := 48
  interfaces := #[]
  cf := some (fileOf pool3 7 #[] #[{ accessFlags := 0, nameIndex := 5, descriptorIndex := 6, attributes := #[] }, { accessFlags := 8, nameIndex := 43, descriptorIndex := 44, attributes := #[] }, { accessFlags := 8, nameIndex := 46, descriptorIndex := 20, attributes := #[] }, { accessFlags := 8, nameIndex := 47, descriptorIndex := 20, attributes := #[] }] 48 2 #[] #[{ accessFlags := 26, nameIndex := 34, descriptorIndex := 35, attributes := #[] }, { accessFlags := 26, nameIndex := 39, descriptorIndex := 16, attributes := #[] }, { accessFlags := 2, nameIndex := 11, descriptorIndex := 12, attributes := #[] }, { accessFlags := 2, nameIndex := 15, descriptorIndex := 16, attributes := #[] }])
  fields := #[{ name := "EMPTY", type := .long, accessFlags := 26, slot := 0, constantValue := 0 }, { name := "MIN_SLOTS", type := .int, accessFlags := 26, slot := 1, constantValue := 0 }, { name := "_slots", type := (.array .long), accessFlags := 2, slot := 0, constantValue := 0 }, { name := "_size", type := .int, accessFlags := 2, slot := 1, constantValue := 0 }]
  methods := #[k3m0, k3m1, k3m2, k3m3]
  instanceTypes := #[(.array .long), .int]
  staticTypes := #[.long, .int]
  resolved := Array.replicate 57 none
  statics := none }

def pool4 : Array CpInfo := pool [(1, u "java/lang/Cloneable"), (0, .class_ 1), (0, u "java/lang/Object"), (0, .class_ 3)] 3

/-- java/lang/Cloneable -/
def k4 : Class := { plain "java/lang/Cloneable" (some 0) with
  accessFlags := 1537
  interfaces := #[]
  cf := some (fileOf pool4 2 #[] #[] 1537 4 #[] #[])
  fields := #[]
  methods := #[]
  instanceTypes := #[]
  staticTypes := #[]
  resolved := Array.replicate 8 none
  statics := none }

def pool5 : Array CpInfo := pool [(1, u "java/io/Serializable"), (0, .class_ 1), (0, u "java/lang/Object"), (0, .class_ 3)] 3

/-- java/io/Serializable -/
def k5 : Class := { plain "java/io/Serializable" (some 0) with
  accessFlags := 1537
  interfaces := #[]
  cf := some (fileOf pool5 2 #[] #[] 1537 4 #[] #[])
  fields := #[]
  methods := #[]
  instanceTypes := #[]
  staticTypes := #[]
  resolved := Array.replicate 8 none
  statics := none }

/-- the primitive byte -/
def k6 : Class := { plain "byte" none with kind := .primitive 'B', accessFlags := 0x411 }
/-- [B -/
def k7 : Class := { plain "[B" (some 0) with kind := .array 6 .byte, interfaces := #[4, 5], accessFlags := 1041 }

/-- the primitive int -/
def k8 : Class := { plain "int" none with kind := .primitive 'I', accessFlags := 0x411 }
/-- [I -/
def k9 : Class := { plain "[I" (some 0) with kind := .array 8 .int, interfaces := #[4, 5], accessFlags := 1041 }

def heap : Heap := #[]
def classes : Array Class := #[k0, k1, k2, k3, k4, k5, k6, k7, k8, k9]
def interned : List (Array UInt16 × Addr) := []
def slotsUsed : Nat := 0
def theMethod : MethodId := ⟨1, 1⟩
def args0 : Array Value := #[.int 5, .int 9]
def aboutOver (below : List Frame) : State where
  vm := { classes := classes, interned := interned.toArray }
  heap := heap
  slotsUsed := slotsUsed
  threads := #[{ frames := .invoking theMethod args0 :: below }]
def below0 : List Frame := [.native { method := ⟨0, 0⟩, args := #[] }]
def about1 : State := aboutOver below0
def p0 : Program := .bare "" "" ""
def e0 : Env := launch0.env 0 0 0
theorem w_frames : about1.frames = Frame.invoking theMethod args0 :: below0 := rfl
set_option maxRecDepth 65536 in
theorem w_args : argsFit about1.vm theMethod args0 = true := by decide +kernel
set_option maxRecDepth 65536 in
theorem w_heap : heapFits about1 = true := by decide +kernel
set_option maxRecDepth 65536 in
theorem w_runnable : about1.curStatus? = some .runnable := by decide +kernel
set_option maxRecDepth 65536 in
theorem w_alone : about1.alone = true := by decide +kernel
set_option maxRecDepth 65536 in
theorem w_named : about1.methodNamed? x = some theMethod := by decide +kernel
set_option maxRecDepth 65536 in
theorem w_hears : about1.hears theMethod below0 = true := by decide +kernel
set_option maxRecDepth 65536 in
theorem w_ripe : about1.ripe theMethod args0 below0 = true := by decide +kernel
theorem w_running : about1.status = .running := rfl
set_option maxRecDepth 65536 in
theorem w_room : about1.hasRoom e0.platform room_1 = true :=
  launch0.hasRoom_least _ room_1 (by decide +kernel) (by decide +kernel) (by decide +kernel) (by decide +kernel) (by decide +kernel) (by decide +kernel)
theorem allAtoms_all (ts : List Jvm.Cond) (a : Array Jvm.Value) (st : Jvm.State) : (allAtoms ts).before a st = ts.all (fun c => c.before a st) := by
  induction ts with
  | nil => rfl
  | cons c t ih =>
    show (Jvm.Cond.and c (allAtoms t)).before a st = _
    rw [Jvm.Cond.before_and, ih, List.all_cons]
def words1 : List Jvm.Cond := Jvm.Cond.code x code maxLocals ret :: tables_1
/-- a 'code' word, met by the world's own term for the bytes: nothing is compared byte by byte -/
theorem code_word {y : MethodName} {bytes : ByteArray} {mx : Nat} {rt : Option FieldType} {a : Array Value} {s : State} {m : MethodId} {meth : Method} {c : Code} (h1 : s.methodNamed? y = some m) (h2 : s.vm.method? m = some meth) (h3 : meth.code = some c) (h4 : c.code = bytes)
    (h5 : (c.maxLocals == mx && c.exceptionTable.isEmpty && decide (c.maxStack ≤ mostOperands) && decide (meth.sig.returnType = rt) && !meth.locks && decide (parseMethodDescriptor y.desc = some meth.sig)) = true) : (Jvm.Cond.code y bytes mx rt).before a s = true := by
  simp only [Bool.and_eq_true, beq_iff_eq, Bool.not_eq_true', decide_eq_true_eq] at h5
  obtain ⟨⟨⟨⟨⟨g1, g2⟩, g3⟩, g4⟩, g5⟩, g6⟩ := h5
  simp [Cond.before, Cond.holds, Cond.value, h1, h2, h3, h4, g1, g2, g3, g4, g5, g6]
def isCode : Jvm.Cond → Bool
  | .code _ _ _ _ => true
  | _ => false
theorem all_split {L : List Jvm.Cond} {P : Jvm.Cond → Bool} (h1 : L.all (fun c => isCode c || P c) = true) (h2 : ∀ c ∈ L.filter isCode, P c = true) : L.all P = true := by
  refine List.all_eq_true.mpr fun c hc => ?_
  have h := List.all_eq_true.mp h1 c hc
  rcases Bool.eq_false_or_eq_true (isCode c) with hi | hi
  · exact h2 c (List.mem_filter.mpr ⟨hc, hi⟩)
  · simpa [hi] using h
set_option maxRecDepth 65536 in
theorem w_c0 : (Jvm.Cond.code x code maxLocals ret).before args0 about1 = true := code_word (m := ⟨1, 1⟩) (meth := k1m1) (c := k1c1) (by decide +kernel) rfl rfl rfl (by decide +kernel)
set_option maxRecDepth 65536 in
theorem w_c1 : (Jvm.Cond.code ({ cls := "java/lang/Math", name := "min", desc := "(II)I" } : Jvm.MethodName) jdk_29_method_69_code (2 : Nat) (Option.some Jvm.ClassFile.FieldType.int)).before args0 about1 = true := code_word (m := ⟨2, 2⟩) (meth := k2m2) (c := k2c2) (by decide +kernel) rfl rfl rfl (by decide +kernel)
set_option maxRecDepth 65536 in
theorem w_c2 : (Jvm.Cond.code ({ cls := "java/lang/Math", name := "max", desc := "(II)I" } : Jvm.MethodName) jdk_29_method_65_code (2 : Nat) (Option.some Jvm.ClassFile.FieldType.int)).before args0 about1 = true := code_word (m := ⟨2, 1⟩) (meth := k2m1) (c := k2c1) (by decide +kernel) rfl rfl rfl (by decide +kernel)
set_option maxRecDepth 65536 in
theorem w_c3 : (Jvm.Cond.code ({ cls := "org/predicaterefinery/automaton/PairSet", name := "key", desc := "(II)J" } : Jvm.MethodName) prog_38_method_2_code (2 : Nat) (Option.some Jvm.ClassFile.FieldType.long)).before args0 about1 = true := code_word (m := ⟨3, 1⟩) (meth := k3m1) (c := k3c1) (by decide +kernel) rfl rfl rfl (by decide +kernel)
set_option maxRecDepth 65536 in
theorem w_c4 : (Jvm.Cond.code ({ cls := "org/predicaterefinery/automaton/PairSet", name := "first", desc := "(J)I" } : Jvm.MethodName) prog_38_method_3_code (2 : Nat) (Option.some Jvm.ClassFile.FieldType.int)).before args0 about1 = true := code_word (m := ⟨3, 2⟩) (meth := k3m2) (c := k3c2) (by decide +kernel) rfl rfl rfl (by decide +kernel)
set_option maxRecDepth 65536 in
theorem w_c5 : (Jvm.Cond.code ({ cls := "org/predicaterefinery/automaton/PairSet", name := "second", desc := "(J)I" } : Jvm.MethodName) prog_38_method_4_code (2 : Nat) (Option.some Jvm.ClassFile.FieldType.int)).before args0 about1 = true := code_word (m := ⟨3, 3⟩) (meth := k3m3) (c := k3c3) (by decide +kernel) rfl rfl rfl (by decide +kernel)
def codes1 : List Jvm.Cond := [Jvm.Cond.code x code maxLocals ret, Jvm.Cond.code ({ cls := "java/lang/Math", name := "min", desc := "(II)I" } : Jvm.MethodName) jdk_29_method_69_code (2 : Nat) (Option.some Jvm.ClassFile.FieldType.int), Jvm.Cond.code ({ cls := "java/lang/Math", name := "max", desc := "(II)I" } : Jvm.MethodName) jdk_29_method_65_code (2 : Nat) (Option.some Jvm.ClassFile.FieldType.int), Jvm.Cond.code ({ cls := "org/predicaterefinery/automaton/PairSet", name := "key", desc := "(II)J" } : Jvm.MethodName) prog_38_method_2_code (2 : Nat) (Option.some Jvm.ClassFile.FieldType.long), Jvm.Cond.code ({ cls := "org/predicaterefinery/automaton/PairSet", name := "first", desc := "(J)I" } : Jvm.MethodName) prog_38_method_3_code (2 : Nat) (Option.some Jvm.ClassFile.FieldType.int), Jvm.Cond.code ({ cls := "org/predicaterefinery/automaton/PairSet", name := "second", desc := "(J)I" } : Jvm.MethodName) prog_38_method_4_code (2 : Nat) (Option.some Jvm.ClassFile.FieldType.int)]
set_option maxRecDepth 65536 in
theorem codes_eq : words1.filter isCode = codes1 := rfl
theorem w_codes : ∀ c ∈ words1.filter isCode, c.before args0 about1 = true := by
  rw [codes_eq]
  intro c hc
  simp only [codes1, List.mem_cons, List.not_mem_nil, or_false] at hc
  rcases hc with rfl | rfl | rfl | rfl | rfl | rfl
  · exact w_c0
  · exact w_c1
  · exact w_c2
  · exact w_c3
  · exact w_c4
  · exact w_c5
set_option maxRecDepth 65536 in
theorem w_t1 : words1.all (fun c => isCode c || c.before args0 about1) = true := by decide +kernel
theorem w_tables : (allAtoms (Jvm.Cond.code x code maxLocals ret :: tables_1)).before args0 about1 = true := by
  rw [allAtoms_all]
  show words1.all (fun c => c.before args0 about1) = true
  refine all_split ?_ w_codes
  rw [w_t1]
set_option maxRecDepth 65536 in
theorem w_case : (Jvm.Cond.and given_1 narrow_1).before args0 about1 = true := by decide +kernel
theorem w_applies : (headSpec (Jvm.Cond.code x code maxLocals ret :: tables_1) room_1).applies x e0.platform about1 = true :=
  (Spec.applies_iff w_frames).mpr ⟨w_running, w_runnable, w_alone, w_named, w_hears, w_ripe, w_room, w_tables⟩
theorem atStart : AtStart classFile x code maxLocals ret World_1 tables_1 room_1 Calls_1 rest_1 Pre_1 launch0 p0 e0 about1 theMethod args0 below0 :=
  ⟨lists_1, trivial, launch0.admits_env _ _ _, launch0.least_env, fairChoices_fair.cas, fairChoices_fair.clock, w_frames, w_args, w_heap, w_applies, trivial, trivial, w_case⟩
end start1
theorem witness_1 : WitnessClaimed_1 := ⟨start1.p0, start1.e0, start1.about1, start1.theMethod, start1.args0, start1.below0, start1.atStart⟩
end Jvm.Pilot.@@N@@
