import JvmDerived
import JvmDerived.Pilot.@@N@@Statement
import JvmDerived.Pilot.@@N@@Code
set_option linter.unusedVariables false
set_option linter.unusedSimpArgs false
namespace Jvm.RoadKit
open Sem ClassFile Op Lib Jvm.Stand Jvm.Free Jvm.LawKit
section New
variable {p : Program} {l : Launch} {e : Env} {R : Room} {s : State} {m : MethodId} {args : Array Value} {below : List Frame} {meth : Method} {c : Code} {T : State} {locs : List Loc} {cells slots : Nat}
theorem retI (X : Stand p l e R s m args below meth c T locs cells slots) (hx : p.tables.exec = Jvm.exec) {pc : Nat} {Ls : Array Slot} {z : Int32} {rest : List Value} (hret : meth.sig.returnType = some .int) (hd : decode c.code pc = .ok (.ireturn, 1)) {fs : List Frame}
    (hl : ∀ (f : JFrame) (acts : List Action), f.method = m → f.locked = none → f.entered = [] → (doReturn e (T.setTop f) acts (some (.int z))).1 = T.setFrames fs) : Steps p.tables e below (T.setTop (mkF m pc Ls (.int z :: rest))) (T.setFrames fs) := by
  have hm' : T.vm.method? m = some meth := X.method'
  have hn : narrow .int (.int z) = .int z := rfl
  show Steps p.tables e below (T.setTop { method := m, pc := pc, locals := Ls, stack := _ :: rest, locked := none }) _
  jvm_step X.here [X.here.top, hx, hd, hm', hret, hn]
  first | (intro acts; rw [hl _ acts rfl rfl rfl]) | rw [hl _ _ rfl rfl rfl]
  exact Steps.refl _
end New
end Jvm.RoadKit
namespace Jvm.Pilot.@@N@@
open Jvm Jvm.ClassFile Sem Op Lib Jvm.Free Jvm.Stand Jvm.LawKit Jvm.RoadKit Bundle Jvm.Pilot.@@N@@.Jvm.D
theorem own_bt {P : Prop} [Decidable P] (h : P) : ifCond.holds .eq (if P then (1 : Int32) else (0 : Int32)) = false ∧ ifCond.holds .ne (if P then (1 : Int32) else (0 : Int32)) = true := by rw [if_pos h]; exact ⟨rfl, rfl⟩
theorem own_bf {P : Prop} [Decidable P] (h : ¬ P) : ifCond.holds .eq (if P then (1 : Int32) else (0 : Int32)) = true ∧ ifCond.holds .ne (if P then (1 : Int32) else (0 : Int32)) = false := by rw [if_neg h]; exact ⟨rfl, rfl⟩
theorem own_getI (L : List Int32) (i : Nat) : (List.map Value.int L).getD i (.int (0 : Int32)) = .int (L.getD i 0) := by
  simp only [List.getD_eq_getElem?_getD, List.getElem?_map]; cases L[i]? <;> rfl
theorem own_getJ (L : List Int64) (i : Nat) : (List.map Value.long L).getD i (.long (0 : Int64)) = .long (L.getD i 0) := by
  simp only [List.getD_eq_getElem?_getD, List.getElem?_map]; cases L[i]? <;> rfl
theorem own_setI (L : List Int32) (i : Nat) (x : Int32) : (List.map Value.int L).set i (.int x) = List.map Value.int (L.set i x) := (List.map_set).symm
theorem own_setJ (L : List Int64) (i : Nat) (x : Int64) : (List.map Value.long L).set i (.long x) = List.map Value.long (L.set i x) := (List.map_set).symm
theorem own_ns {Z : State} {h : Heap} {o : Addr} {C : String} (E : Exa Z h o C) : ∃ c : Cell, h[o]? = some c ∧ c.vm.isStatics = false := by
  obtain ⟨c, k, h1, -, -, h4, -⟩ := E; exact ⟨c, h1, h4⟩
theorem own_sta_keep {Z : State} {h h' : Heap} {ws : List Addr} {C n d : String} {v : Value} (S : Sta Z h C n d v) (K : Keep h h' ws) (q : ∀ w ∈ ws, ∃ c : Cell, h[w]? = some c ∧ c.vm.isStatics = false) : Sta Z h' C n d v := by
  obtain ⟨cf, i, k, f, st, cell, h1, h2, h3, h4, h5, h6, h7⟩ := S
  refine ⟨cf, i, k, f, st, cell, h1, h2, h3, h4, K.2.1 _ _ h5 (fun z => ?_), h6, h7⟩
  obtain ⟨c, e1, e2⟩ := q _ z
  cases h5.symm.trans e1; rw [e2] at h6; cases h6
theorem own_selp {s : State} {args args' : Array Value} {y z : MethodName} (hcls : z.cls = y.cls) (hnf : NotFace s z) (hz : (Cond.instanceMethod z).before args' s = true) (hpriv : s.PrivateAt y) (hinst : (Cond.instanceMethod y).before args s = true) (hy : y.cls ≠ "java/lang/invoke/MethodHandle" ∧ y.cls ≠ "java/lang/invoke/VarHandle") : (Cond.selects y.cls y y).before args s = true := by
  obtain ⟨mz, _, hnz, _⟩ := Cond.instanceMethod_spec hz
  obtain ⟨k, hk, hni⟩ := hnf mz hnz
  exact selects_self_of_private (by rw [← hcls]; exact findClass_of_methodNamed hnz) hk hni hpriv hinst hy
theorem own_swne {x k : Int32} {n : Int} (h : ¬ x = k) (e : k.toInt = n) : n ≠ x.toInt := fun q => h (Int32.toInt_inj.mp (by rw [e, q]))
theorem d4_0 : decode jdk_29_method_65_code 0 = .ok (.iload_n 0, 1) := by decide +kernel
theorem d4_1 : decode jdk_29_method_65_code 1 = .ok (.iload_n 1, 1) := by decide +kernel
theorem d4_2 : decode jdk_29_method_65_code 2 = .ok (.if_icmp .lt 7, 3) := by decide +kernel
theorem d4_5 : decode jdk_29_method_65_code 5 = .ok (.iload_n 0, 1) := by decide +kernel
theorem d4_6 : decode jdk_29_method_65_code 6 = .ok (.goto 4, 3) := by decide +kernel
theorem d4_9 : decode jdk_29_method_65_code 9 = .ok (.iload_n 1, 1) := by decide +kernel
theorem d4_10 : decode jdk_29_method_65_code 10 = .ok (.ireturn, 1) := by decide +kernel
theorem ef_4 (m : MethodId) (x0 : Int32) (x1 : Int32)  : entryFrame m #[(.int x0), (.int x1)] 2 = mkF m 0 #[.val (.int x0), .val (.int x1)] [] := by first | (simp [entryFrame, mkF, argsToLocals, Value.category]; done) | rfl
def F4 (x0 : Int32) (x1 : Int32) : Int32 := if x0 < x1 then x1 else x0
def Q4 (Z : State) (x0 : Int32) (x1 : Int32) (h0 : Heap) (n0 : Nat) (vE : Option Value) (hE : Heap) (LE : List Loc) : Prop := vE = some (.int (F4 x0 x1)) ∧ Fr n0 LE ∧ hE = h0
set_option maxRecDepth 65536 in
set_option maxHeartbeats 40000000 in
theorem rm4 (l : Launch) (Z : State) (a0 : Array Value) (hw : ∀ d ∈ tables_1, d.before a0 Z = true) (ws : List Jvm.Cond) (x0 : Int32) (x1 : Int32) (h0 : Heap) (n0 : Nat) (Z0 : n0 ≤ h0.size) :
    MetFree l (⟨"java/lang/Math", "max", "(II)I"⟩ : MethodName) (head1 (Jvm.Cond.code (⟨"java/lang/Math", "max", "(II)I"⟩ : MethodName) jdk_29_method_65_code 2 (some .int) :: ws) ({ frames := 0, cells := 0, slots := 0, locals := 0 } : Room)) (fun a U => a = #[(.int x0), (.int x1)] ∧ Z.Warmed39 U.vm ∧ U.heap = h0) (fun _ _ _ _ _ => True) (fun _ U o U' => ∃ vE LE, o = .returned vE ∧ Q4 Z x0 x1 h0 n0 vE U'.heap LE ∧ FrameEnd U o U' LE ({ frames := 0, cells := 0, slots := 0, locals := 0 } : Room).cells ({ frames := 0, cells := 0, slots := 0, locals := 0 } : Room).slots) := by
  refine MetFree.of_bodySF (Jvm.Free.JP.mathPlain rfl (by decide +kernel)) hisR ?_
  intro p e s m args below meth c s₁ Bd hml0 hP hK
  obtain ⟨rfl, hZ, hh⟩ := hP
  have hx := Bd.exec
  have hby := Bd.bytes
  have hml : c.maxLocals = 2 := hml0
  have hown : s.vm.findClass "java/lang/Math" = some m.cls := findClass_of_methodNamed Bd.named
  have hnm := (name_of_methodNamed Bd.named Bd.method).1
  have X0 : Stand p l e ({ frames := 0, cells := 0, slots := 0, locals := 0 } : Room) s m #[(.int x0), (.int x1)] below meth c s₁ [] 0 0 := Stand.of_body Bd
  have e0 : s₁.heap = h0 := by rw [← hh, Bd.state]; rfl
  have N0 := Fr.nil n0
  have st0 : Steps p.tables e below (s₁.setTop (entryFrame m #[(.int x0), (.int x1)] 2)) (s₁.setTop (mkF m 0 #[.val (.int x0), .val (.int x1)] [])) := castTop (ef_4 m x0 x1) (Steps.refl _)
  have st1 : Steps p.tables e below (s₁.setTop (entryFrame m #[(.int x0), (.int x1)] 2)) (s₁.setTop (mkF m 2 #[.val (.int x0), .val (.int x1)] [(.int x1), (.int x0)])) := st0.trans (by
      show Steps p.tables e below (s₁.setTop (mkF m 0 #[.val (.int x0), .val (.int x1)] [])) _
      refine XS.iloadN X0.here hx rfl (hb hby d4_0) rfl ?_
      show Steps p.tables e below (s₁.setTop (mkF m 1 #[.val (.int x0), .val (.int x1)] [(.int x0)])) _
      refine XS.iloadN X0.here hx rfl (hb hby d4_1) rfl ?_
      exact Steps.refl _)
  by_cases hc2 : x0 < x1
  · have st3 : Steps p.tables e below (s₁.setTop (entryFrame m #[(.int x0), (.int x1)] 2)) (s₁.setTop (mkF m 10 #[.val (.int x0), .val (.int x1)] [(.int x1)])) := st1.trans (by
        show Steps p.tables e below (s₁.setTop (mkF m 2 #[.val (.int x0), .val (.int x1)] [(.int x1), (.int x0)])) _
        refine XS.icmpYes X0.here hx rfl (pc0 := 2) (pc' := 9) rfl (hb hby d4_2) rfl (tlt hc2).1 (by decide) (by decide) ?_
        show Steps p.tables e below (s₁.setTop (mkF m 9 #[.val (.int x0), .val (.int x1)] [])) _
        refine XS.iloadN X0.here hx rfl (hb hby d4_9) rfl ?_
        exact Steps.refl _)
    obtain ⟨fs, hr, hrun, hended, hW, hsame⟩ := X0.leave (v := some (.int x1)) (fun h => by rw [Bd.returns] at h; cases h)
    refine ⟨_, _, st3.trans ?_, hrun, hended, _, _, rfl, ?_, ⟨_, rfl⟩, hW, hsame.mono (by decide) (by decide)⟩
    · exact retI X0 hx Bd.returns (hb hby d4_10) hr
    · show Q4 Z x0 x1 h0 n0 _ s₁.heap _
      rw [e0]
      exact ⟨by rw [F4, if_pos hc2], N0, rfl⟩
  · have st4 : Steps p.tables e below (s₁.setTop (entryFrame m #[(.int x0), (.int x1)] 2)) (s₁.setTop (mkF m 10 #[.val (.int x0), .val (.int x1)] [(.int x0)])) := st1.trans (by
        show Steps p.tables e below (s₁.setTop (mkF m 2 #[.val (.int x0), .val (.int x1)] [(.int x1), (.int x0)])) _
        refine XS.icmpNo X0.here hx rfl (hb hby d4_2) rfl (flt hc2).1 ?_
        show Steps p.tables e below (s₁.setTop (mkF m 5 #[.val (.int x0), .val (.int x1)] [])) _
        refine XS.iloadN X0.here hx rfl (hb hby d4_5) rfl ?_
        show Steps p.tables e below (s₁.setTop (mkF m 6 #[.val (.int x0), .val (.int x1)] [(.int x0)])) _
        refine XS.goto X0.here hx rfl (pc0 := 6) (pc' := 10) rfl (hb hby d4_6) (by decide) (by decide) ?_
        exact Steps.refl _)
    obtain ⟨fs, hr, hrun, hended, hW, hsame⟩ := X0.leave (v := some (.int x0)) (fun h => by rw [Bd.returns] at h; cases h)
    refine ⟨_, _, st4.trans ?_, hrun, hended, _, _, rfl, ?_, ⟨_, rfl⟩, hW, hsame.mono (by decide) (by decide)⟩
    · exact retI X0 hx Bd.returns (hb hby d4_10) hr
    · show Q4 Z x0 x1 h0 n0 _ s₁.heap _
      rw [e0]
      exact ⟨by rw [F4, if_neg hc2], N0, rfl⟩
theorem d1_0 : decode method_2_code 0 = .ok (.iload_n 0, 1) := by decide +kernel
theorem d1_1 : decode method_2_code 1 = .ok (.iconst 2, 1) := by decide +kernel
theorem d1_2 : decode method_2_code 2 = .ok (.iload_n 3, 1) := by decide +kernel
theorem d1_3 : decode method_2_code 3 = .ok (.imul, 1) := by decide +kernel
theorem d1_4 : decode method_2_code 4 = .ok (.iushr, 1) := by decide +kernel
theorem d1_5 : decode method_2_code 5 = .ok (.iconst 3, 1) := by decide +kernel
theorem d1_6 : decode method_2_code 6 = .ok (.iand, 1) := by decide +kernel
theorem d1_7 : decode method_2_code 7 = .ok (.istore 4, 2) := by decide +kernel
theorem d1_9 : decode method_2_code 9 = .ok (.iload 4, 2) := by decide +kernel
theorem d1_11 : decode method_2_code 11 = .ok (.ifCond .ne 6, 3) := by decide +kernel
theorem d1_14 : decode method_2_code 14 = .ok (.bipush 10, 2) := by decide +kernel
theorem d1_16 : decode method_2_code 16 = .ok (.ireturn, 1) := by decide +kernel
theorem d1_17 : decode method_2_code 17 = .ok (.iload 4, 2) := by decide +kernel
theorem d1_19 : decode method_2_code 19 = .ok (.iconst 1, 1) := by decide +kernel
theorem d1_20 : decode method_2_code 20 = .ok (.if_icmp .ne 6, 3) := by decide +kernel
theorem d1_23 : decode method_2_code 23 = .ok (.bipush 13, 2) := by decide +kernel
theorem d1_25 : decode method_2_code 25 = .ok (.ireturn, 1) := by decide +kernel
theorem d1_26 : decode method_2_code 26 = .ok (.lload_n 1, 1) := by decide +kernel
theorem d1_27 : decode method_2_code 27 = .ok (.bipush 8, 2) := by decide +kernel
theorem d1_29 : decode method_2_code 29 = .ok (.iload_n 3, 1) := by decide +kernel
theorem d1_30 : decode method_2_code 30 = .ok (.imul, 1) := by decide +kernel
theorem d1_31 : decode method_2_code 31 = .ok (.lushr, 1) := by decide +kernel
theorem d1_32 : decode method_2_code 32 = .ok (.l2i, 1) := by decide +kernel
theorem d1_33 : decode method_2_code 33 = .ok (.i2b, 1) := by decide +kernel
theorem d1_34 : decode method_2_code 34 = .ok (.ireturn, 1) := by decide +kernel
theorem pn_0 : plainName "com/example/persephone/persephone/executor/RequestHeadEndPinLaw" = true := by first | (simp [plainName, overriddenIn]; done) | decide +kernel
theorem ef_1 (m : MethodId) (x0 : Int32) (x1 : Int64) (x2 : Int32)  : entryFrame m #[(.int x0), (.long x1), (.int x2)] 5 = mkF m 0 #[.val (.int x0), .val (.long x1), .second, .val (.int x2), .unset] [] := by first | (simp [entryFrame, mkF, argsToLocals, Value.category]; done) | rfl
def F1 (x0 : Int32) (x1 : Int64) (x2 : Int32) : Int32 := if (((x0.toUInt32 >>> (((2 : Int32) * x2) &&& 31).toUInt32).toInt32) &&& (3 : Int32)) = (0 : Int32) then (10 : Int32) else (if (((x0.toUInt32 >>> (((2 : Int32) * x2) &&& 31).toUInt32).toInt32) &&& (3 : Int32)) = (1 : Int32) then (13 : Int32) else (nar .byte ((((x1.toUInt64 >>> (((8 : Int32) * x2) &&& 0x3f).toInt64.toUInt64).toInt64).toInt32).toInt8.toInt32)))
def Q1 (Z : State) (x0 : Int32) (x1 : Int64) (x2 : Int32) (h0 : Heap) (n0 : Nat) (vE : Option Value) (hE : Heap) (LE : List Loc) : Prop := vE = some (.int (F1 x0 x1 x2)) ∧ Fr n0 LE ∧ hE = h0
set_option maxRecDepth 65536 in
set_option maxHeartbeats 40000000 in
theorem rm1 (l : Launch) (Z : State) (a0 : Array Value) (hw : ∀ d ∈ tables_1, d.before a0 Z = true) (ws : List Jvm.Cond) (x0 : Int32) (x1 : Int64) (x2 : Int32) (h0 : Heap) (n0 : Nat) (Z0 : n0 ≤ h0.size) :
    MetFree l (⟨"com/example/persephone/persephone/executor/RequestHeadEndPinLaw", "pick", "(IJI)B"⟩ : MethodName) (head1 (Jvm.Cond.code (⟨"com/example/persephone/persephone/executor/RequestHeadEndPinLaw", "pick", "(IJI)B"⟩ : MethodName) method_2_code 5 (some .byte) :: ws) ({ frames := 0, cells := 0, slots := 0, locals := 0 } : Room)) (fun a U => a = #[(.int x0), (.long x1), (.int x2)] ∧ Z.Warmed39 U.vm ∧ U.heap = h0) (fun _ _ _ _ _ => True) (fun _ U o U' => ∃ vE LE, o = .returned vE ∧ Q1 Z x0 x1 x2 h0 n0 vE U'.heap LE ∧ FrameEnd U o U' LE ({ frames := 0, cells := 0, slots := 0, locals := 0 } : Room).cells ({ frames := 0, cells := 0, slots := 0, locals := 0 } : Room).slots) := by
  refine MetFree.of_bodySF (plainFor_of_name pn_0) hisR ?_
  intro p e s m args below meth c s₁ Bd hml0 hP hK
  obtain ⟨rfl, hZ, hh⟩ := hP
  have hx := Bd.exec
  have hby := Bd.bytes
  have hml : c.maxLocals = 5 := hml0
  have hown : s.vm.findClass "com/example/persephone/persephone/executor/RequestHeadEndPinLaw" = some m.cls := findClass_of_methodNamed Bd.named
  have hnm := (name_of_methodNamed Bd.named Bd.method).1
  have X0 : Stand p l e ({ frames := 0, cells := 0, slots := 0, locals := 0 } : Room) s m #[(.int x0), (.long x1), (.int x2)] below meth c s₁ [] 0 0 := Stand.of_body Bd
  have e0 : s₁.heap = h0 := by rw [← hh, Bd.state]; rfl
  have N0 := Fr.nil n0
  have st0 : Steps p.tables e below (s₁.setTop (entryFrame m #[(.int x0), (.long x1), (.int x2)] 5)) (s₁.setTop (mkF m 0 #[.val (.int x0), .val (.long x1), .second, .val (.int x2), .unset] [])) := castTop (ef_1 m x0 x1 x2) (Steps.refl _)
  have st1 : Steps p.tables e below (s₁.setTop (entryFrame m #[(.int x0), (.long x1), (.int x2)] 5)) (s₁.setTop (mkF m 11 #[.val (.int x0), .val (.long x1), .second, .val (.int x2), .val (.int (((x0.toUInt32 >>> (((2 : Int32) * x2) &&& 31).toUInt32).toInt32) &&& (3 : Int32)))] [(.int (((x0.toUInt32 >>> (((2 : Int32) * x2) &&& 31).toUInt32).toInt32) &&& (3 : Int32)))])) := st0.trans (by
      show Steps p.tables e below (s₁.setTop (mkF m 0 #[.val (.int x0), .val (.long x1), .second, .val (.int x2), .unset] [])) _
      refine XS.iloadN X0.here hx rfl (hb hby d1_0) rfl ?_
      show Steps p.tables e below (s₁.setTop (mkF m 1 #[.val (.int x0), .val (.long x1), .second, .val (.int x2), .unset] [(.int x0)])) _
      refine XS.iconst X0.here hx rfl (hb hby d1_1) ?_
      show Steps p.tables e below (s₁.setTop (mkF m 2 #[.val (.int x0), .val (.long x1), .second, .val (.int x2), .unset] [(.int (2 : Int32)), (.int x0)])) _
      refine XS.iloadN X0.here hx rfl (hb hby d1_2) rfl ?_
      show Steps p.tables e below (s₁.setTop (mkF m 3 #[.val (.int x0), .val (.long x1), .second, .val (.int x2), .unset] [(.int x2), (.int (2 : Int32)), (.int x0)])) _
      refine XS.imul X0.here hx rfl (hb hby d1_3) rfl ?_
      show Steps p.tables e below (s₁.setTop (mkF m 4 #[.val (.int x0), .val (.long x1), .second, .val (.int x2), .unset] [(.int ((2 : Int32) * x2)), (.int x0)])) _
      refine XS.iushr X0.here hx rfl (hb hby d1_4) rfl ?_
      show Steps p.tables e below (s₁.setTop (mkF m 5 #[.val (.int x0), .val (.long x1), .second, .val (.int x2), .unset] [(.int ((x0.toUInt32 >>> (((2 : Int32) * x2) &&& 31).toUInt32).toInt32))])) _
      refine XS.iconst X0.here hx rfl (hb hby d1_5) ?_
      show Steps p.tables e below (s₁.setTop (mkF m 6 #[.val (.int x0), .val (.long x1), .second, .val (.int x2), .unset] [(.int (3 : Int32)), (.int ((x0.toUInt32 >>> (((2 : Int32) * x2) &&& 31).toUInt32).toInt32))])) _
      refine XS.iand X0.here hx rfl (hb hby d1_6) rfl ?_
      show Steps p.tables e below (s₁.setTop (mkF m 7 #[.val (.int x0), .val (.long x1), .second, .val (.int x2), .unset] [(.int (((x0.toUInt32 >>> (((2 : Int32) * x2) &&& 31).toUInt32).toInt32) &&& (3 : Int32)))])) _
      refine XS.istore X0.here hx rfl (hb hby d1_7) rfl (l' := #[.val (.int x0), .val (.long x1), .second, .val (.int x2), .val (.int (((x0.toUInt32 >>> (((2 : Int32) * x2) &&& 31).toUInt32).toInt32) &&& (3 : Int32)))]) rfl ?_
      show Steps p.tables e below (s₁.setTop (mkF m 9 #[.val (.int x0), .val (.long x1), .second, .val (.int x2), .val (.int (((x0.toUInt32 >>> (((2 : Int32) * x2) &&& 31).toUInt32).toInt32) &&& (3 : Int32)))] [])) _
      refine XS.iload X0.here hx rfl (hb hby d1_9) rfl ?_
      exact Steps.refl _)
  by_cases hc2 : (((x0.toUInt32 >>> (((2 : Int32) * x2) &&& 31).toUInt32).toInt32) &&& (3 : Int32)) = (0 : Int32)
  · have st3 : Steps p.tables e below (s₁.setTop (entryFrame m #[(.int x0), (.long x1), (.int x2)] 5)) (s₁.setTop (mkF m 16 #[.val (.int x0), .val (.long x1), .second, .val (.int x2), .val (.int (((x0.toUInt32 >>> (((2 : Int32) * x2) &&& 31).toUInt32).toInt32) &&& (3 : Int32)))] [(.int (10 : Int32))])) := st1.trans (by
        show Steps p.tables e below (s₁.setTop (mkF m 11 #[.val (.int x0), .val (.long x1), .second, .val (.int x2), .val (.int (((x0.toUInt32 >>> (((2 : Int32) * x2) &&& 31).toUInt32).toInt32) &&& (3 : Int32)))] [(.int (((x0.toUInt32 >>> (((2 : Int32) * x2) &&& 31).toUInt32).toInt32) &&& (3 : Int32)))])) _
        refine XS.ifNo X0.here hx rfl (hb hby d1_11) rfl ((if0 _ _).trans (teq hc2).2) ?_
        show Steps p.tables e below (s₁.setTop (mkF m 14 #[.val (.int x0), .val (.long x1), .second, .val (.int x2), .val (.int (((x0.toUInt32 >>> (((2 : Int32) * x2) &&& 31).toUInt32).toInt32) &&& (3 : Int32)))] [])) _
        refine XS.bipush X0.here hx rfl (hb hby d1_14) ?_
        exact Steps.refl _)
    obtain ⟨fs, hr, hrun, hended, hW, hsame⟩ := X0.leave (v := some (.int (10 : Int32))) (fun h => by rw [Bd.returns] at h; cases h)
    refine ⟨_, _, st3.trans ?_, hrun, hended, _, _, rfl, ?_, ⟨_, rfl⟩, hW, hsame.mono (by decide) (by decide)⟩
    · exact retN X0 hx (t := .byte) Bd.returns (by simp) (hb hby d1_16) hr
    · show Q1 Z x0 x1 x2 h0 n0 _ s₁.heap _
      rw [e0]
      exact ⟨by rw [F1, if_pos hc2], N0, rfl⟩
  · have st4 : Steps p.tables e below (s₁.setTop (entryFrame m #[(.int x0), (.long x1), (.int x2)] 5)) (s₁.setTop (mkF m 20 #[.val (.int x0), .val (.long x1), .second, .val (.int x2), .val (.int (((x0.toUInt32 >>> (((2 : Int32) * x2) &&& 31).toUInt32).toInt32) &&& (3 : Int32)))] [(.int (1 : Int32)), (.int (((x0.toUInt32 >>> (((2 : Int32) * x2) &&& 31).toUInt32).toInt32) &&& (3 : Int32)))])) := st1.trans (by
        show Steps p.tables e below (s₁.setTop (mkF m 11 #[.val (.int x0), .val (.long x1), .second, .val (.int x2), .val (.int (((x0.toUInt32 >>> (((2 : Int32) * x2) &&& 31).toUInt32).toInt32) &&& (3 : Int32)))] [(.int (((x0.toUInt32 >>> (((2 : Int32) * x2) &&& 31).toUInt32).toInt32) &&& (3 : Int32)))])) _
        refine XS.ifYes X0.here hx rfl (pc0 := 11) (pc' := 17) rfl (hb hby d1_11) rfl ((if0 _ _).trans (feq hc2).2) (by decide) (by decide) ?_
        show Steps p.tables e below (s₁.setTop (mkF m 17 #[.val (.int x0), .val (.long x1), .second, .val (.int x2), .val (.int (((x0.toUInt32 >>> (((2 : Int32) * x2) &&& 31).toUInt32).toInt32) &&& (3 : Int32)))] [])) _
        refine XS.iload X0.here hx rfl (hb hby d1_17) rfl ?_
        show Steps p.tables e below (s₁.setTop (mkF m 19 #[.val (.int x0), .val (.long x1), .second, .val (.int x2), .val (.int (((x0.toUInt32 >>> (((2 : Int32) * x2) &&& 31).toUInt32).toInt32) &&& (3 : Int32)))] [(.int (((x0.toUInt32 >>> (((2 : Int32) * x2) &&& 31).toUInt32).toInt32) &&& (3 : Int32)))])) _
        refine XS.iconst X0.here hx rfl (hb hby d1_19) ?_
        exact Steps.refl _)
    by_cases hc5 : (((x0.toUInt32 >>> (((2 : Int32) * x2) &&& 31).toUInt32).toInt32) &&& (3 : Int32)) = (1 : Int32)
    · have st6 : Steps p.tables e below (s₁.setTop (entryFrame m #[(.int x0), (.long x1), (.int x2)] 5)) (s₁.setTop (mkF m 25 #[.val (.int x0), .val (.long x1), .second, .val (.int x2), .val (.int (((x0.toUInt32 >>> (((2 : Int32) * x2) &&& 31).toUInt32).toInt32) &&& (3 : Int32)))] [(.int (13 : Int32))])) := st4.trans (by
          show Steps p.tables e below (s₁.setTop (mkF m 20 #[.val (.int x0), .val (.long x1), .second, .val (.int x2), .val (.int (((x0.toUInt32 >>> (((2 : Int32) * x2) &&& 31).toUInt32).toInt32) &&& (3 : Int32)))] [(.int (1 : Int32)), (.int (((x0.toUInt32 >>> (((2 : Int32) * x2) &&& 31).toUInt32).toInt32) &&& (3 : Int32)))])) _
          refine XS.icmpNo X0.here hx rfl (hb hby d1_20) rfl (teq hc5).2 ?_
          show Steps p.tables e below (s₁.setTop (mkF m 23 #[.val (.int x0), .val (.long x1), .second, .val (.int x2), .val (.int (((x0.toUInt32 >>> (((2 : Int32) * x2) &&& 31).toUInt32).toInt32) &&& (3 : Int32)))] [])) _
          refine XS.bipush X0.here hx rfl (hb hby d1_23) ?_
          exact Steps.refl _)
      obtain ⟨fs, hr, hrun, hended, hW, hsame⟩ := X0.leave (v := some (.int (13 : Int32))) (fun h => by rw [Bd.returns] at h; cases h)
      refine ⟨_, _, st6.trans ?_, hrun, hended, _, _, rfl, ?_, ⟨_, rfl⟩, hW, hsame.mono (by decide) (by decide)⟩
      · exact retN X0 hx (t := .byte) Bd.returns (by simp) (hb hby d1_25) hr
      · show Q1 Z x0 x1 x2 h0 n0 _ s₁.heap _
        rw [e0]
        exact ⟨by rw [F1, if_neg hc2, if_pos hc5], N0, rfl⟩
    · have st7 : Steps p.tables e below (s₁.setTop (entryFrame m #[(.int x0), (.long x1), (.int x2)] 5)) (s₁.setTop (mkF m 34 #[.val (.int x0), .val (.long x1), .second, .val (.int x2), .val (.int (((x0.toUInt32 >>> (((2 : Int32) * x2) &&& 31).toUInt32).toInt32) &&& (3 : Int32)))] [(.int ((((x1.toUInt64 >>> (((8 : Int32) * x2) &&& 0x3f).toInt64.toUInt64).toInt64).toInt32).toInt8.toInt32))])) := st4.trans (by
          show Steps p.tables e below (s₁.setTop (mkF m 20 #[.val (.int x0), .val (.long x1), .second, .val (.int x2), .val (.int (((x0.toUInt32 >>> (((2 : Int32) * x2) &&& 31).toUInt32).toInt32) &&& (3 : Int32)))] [(.int (1 : Int32)), (.int (((x0.toUInt32 >>> (((2 : Int32) * x2) &&& 31).toUInt32).toInt32) &&& (3 : Int32)))])) _
          refine XS.icmpYes X0.here hx rfl (pc0 := 20) (pc' := 26) rfl (hb hby d1_20) rfl (feq hc5).2 (by decide) (by decide) ?_
          show Steps p.tables e below (s₁.setTop (mkF m 26 #[.val (.int x0), .val (.long x1), .second, .val (.int x2), .val (.int (((x0.toUInt32 >>> (((2 : Int32) * x2) &&& 31).toUInt32).toInt32) &&& (3 : Int32)))] [])) _
          refine XS.lloadN X0.here hx rfl (hb hby d1_26) rfl ?_
          show Steps p.tables e below (s₁.setTop (mkF m 27 #[.val (.int x0), .val (.long x1), .second, .val (.int x2), .val (.int (((x0.toUInt32 >>> (((2 : Int32) * x2) &&& 31).toUInt32).toInt32) &&& (3 : Int32)))] [(.long x1)])) _
          refine XS.bipush X0.here hx rfl (hb hby d1_27) ?_
          show Steps p.tables e below (s₁.setTop (mkF m 29 #[.val (.int x0), .val (.long x1), .second, .val (.int x2), .val (.int (((x0.toUInt32 >>> (((2 : Int32) * x2) &&& 31).toUInt32).toInt32) &&& (3 : Int32)))] [(.int (8 : Int32)), (.long x1)])) _
          refine XS.iloadN X0.here hx rfl (hb hby d1_29) rfl ?_
          show Steps p.tables e below (s₁.setTop (mkF m 30 #[.val (.int x0), .val (.long x1), .second, .val (.int x2), .val (.int (((x0.toUInt32 >>> (((2 : Int32) * x2) &&& 31).toUInt32).toInt32) &&& (3 : Int32)))] [(.int x2), (.int (8 : Int32)), (.long x1)])) _
          refine XS.imul X0.here hx rfl (hb hby d1_30) rfl ?_
          show Steps p.tables e below (s₁.setTop (mkF m 31 #[.val (.int x0), .val (.long x1), .second, .val (.int x2), .val (.int (((x0.toUInt32 >>> (((2 : Int32) * x2) &&& 31).toUInt32).toInt32) &&& (3 : Int32)))] [(.int ((8 : Int32) * x2)), (.long x1)])) _
          refine XS.lushr X0.here hx rfl (hb hby d1_31) rfl ?_
          show Steps p.tables e below (s₁.setTop (mkF m 32 #[.val (.int x0), .val (.long x1), .second, .val (.int x2), .val (.int (((x0.toUInt32 >>> (((2 : Int32) * x2) &&& 31).toUInt32).toInt32) &&& (3 : Int32)))] [(.long ((x1.toUInt64 >>> (((8 : Int32) * x2) &&& 0x3f).toInt64.toUInt64).toInt64))])) _
          refine XS.l2i X0.here hx rfl (hb hby d1_32) rfl ?_
          show Steps p.tables e below (s₁.setTop (mkF m 33 #[.val (.int x0), .val (.long x1), .second, .val (.int x2), .val (.int (((x0.toUInt32 >>> (((2 : Int32) * x2) &&& 31).toUInt32).toInt32) &&& (3 : Int32)))] [(.int (((x1.toUInt64 >>> (((8 : Int32) * x2) &&& 0x3f).toInt64.toUInt64).toInt64).toInt32))])) _
          refine XS.i2b X0.here hx rfl (hb hby d1_33) rfl ?_
          exact Steps.refl _)
      obtain ⟨fs, hr, hrun, hended, hW, hsame⟩ := X0.leave (v := some (.int (nar .byte ((((x1.toUInt64 >>> (((8 : Int32) * x2) &&& 0x3f).toInt64.toUInt64).toInt64).toInt32).toInt8.toInt32)))) (fun h => by rw [Bd.returns] at h; cases h)
      refine ⟨_, _, st7.trans ?_, hrun, hended, _, _, rfl, ?_, ⟨_, rfl⟩, hW, hsame.mono (by decide) (by decide)⟩
      · exact retN X0 hx (t := .byte) Bd.returns (by simp) (hb hby d1_34) hr
      · show Q1 Z x0 x1 x2 h0 n0 _ s₁.heap _
        rw [e0]
        exact ⟨by rw [F1, if_neg hc2, if_neg hc5], N0, rfl⟩
theorem own_ix (p j : Int32) (k : Int) (hp : k ≤ p.toInt ∧ p.toInt ≤ 6) (hk : 1 ≤ j.toInt ∧ j.toInt ≤ k) : ¬ (p - j) < 0 ∧ (p - j) < (6 : Int32) := by
  have e := c_isub p j
  have r := rng32 (p - j)
  have k0 : (0 : Int32).toInt = 0 := by decide
  have k6 : (6 : Int32).toInt = 6 := by decide
  rw [Int32.lt_iff_toInt_lt, Int32.lt_iff_toInt_lt]; omega
theorem own_ge3 (p : Int32) (h : ¬ p < (3 : Int32)) : 3 ≤ p.toInt := by
  have k : (3 : Int32).toInt = 3 := by decide
  rw [Int32.lt_iff_toInt_lt] at h; omega
theorem d2_0 : decode method_3_code 0 = .ok (.iload_n 1, 1) := by decide +kernel
theorem d2_1 : decode method_3_code 1 = .ok (.iload_n 3, 1) := by decide +kernel
theorem d2_2 : decode method_3_code 2 = .ok (.if_icmp .le 5, 3) := by decide +kernel
theorem d2_5 : decode method_3_code 5 = .ok (.iconst 0, 1) := by decide +kernel
theorem d2_6 : decode method_3_code 6 = .ok (.ireturn, 1) := by decide +kernel
theorem d2_7 : decode method_3_code 7 = .ok (.iload_n 1, 1) := by decide +kernel
theorem d2_8 : decode method_3_code 8 = .ok (.iconst 1, 1) := by decide +kernel
theorem d2_9 : decode method_3_code 9 = .ok (.isub, 1) := by decide +kernel
theorem d2_10 : decode method_3_code 10 = .ok (.iload_n 2, 1) := by decide +kernel
theorem d2_11 : decode method_3_code 11 = .ok (.if_icmp .ge 5, 3) := by decide +kernel
theorem d2_14 : decode method_3_code 14 = .ok (.iconst 0, 1) := by decide +kernel
theorem d2_15 : decode method_3_code 15 = .ok (.ireturn, 1) := by decide +kernel
theorem d2_16 : decode method_3_code 16 = .ok (.aload_n 0, 1) := by decide +kernel
theorem d2_17 : decode method_3_code 17 = .ok (.iload_n 1, 1) := by decide +kernel
theorem d2_18 : decode method_3_code 18 = .ok (.iconst 1, 1) := by decide +kernel
theorem d2_19 : decode method_3_code 19 = .ok (.isub, 1) := by decide +kernel
theorem d2_20 : decode method_3_code 20 = .ok (.baload, 1) := by decide +kernel
theorem d2_21 : decode method_3_code 21 = .ok (.bipush 10, 2) := by decide +kernel
theorem d2_23 : decode method_3_code 23 = .ok (.if_icmp .ne 17, 3) := by decide +kernel
theorem d2_26 : decode method_3_code 26 = .ok (.aload_n 0, 1) := by decide +kernel
theorem d2_27 : decode method_3_code 27 = .ok (.iload_n 1, 1) := by decide +kernel
theorem d2_28 : decode method_3_code 28 = .ok (.iconst 2, 1) := by decide +kernel
theorem d2_29 : decode method_3_code 29 = .ok (.isub, 1) := by decide +kernel
theorem d2_30 : decode method_3_code 30 = .ok (.baload, 1) := by decide +kernel
theorem d2_31 : decode method_3_code 31 = .ok (.bipush 10, 2) := by decide +kernel
theorem d2_33 : decode method_3_code 33 = .ok (.if_icmp .ne 7, 3) := by decide +kernel
theorem d2_36 : decode method_3_code 36 = .ok (.iconst 1, 1) := by decide +kernel
theorem d2_37 : decode method_3_code 37 = .ok (.goto 4, 3) := by decide +kernel
theorem d2_40 : decode method_3_code 40 = .ok (.iconst 0, 1) := by decide +kernel
theorem d2_41 : decode method_3_code 41 = .ok (.istore 4, 2) := by decide +kernel
theorem d2_43 : decode method_3_code 43 = .ok (.iload_n 1, 1) := by decide +kernel
theorem d2_44 : decode method_3_code 44 = .ok (.iconst 3, 1) := by decide +kernel
theorem d2_45 : decode method_3_code 45 = .ok (.if_icmp .lt 37, 3) := by decide +kernel
theorem d2_48 : decode method_3_code 48 = .ok (.aload_n 0, 1) := by decide +kernel
theorem d2_49 : decode method_3_code 49 = .ok (.iload_n 1, 1) := by decide +kernel
theorem d2_50 : decode method_3_code 50 = .ok (.iconst 1, 1) := by decide +kernel
theorem d2_51 : decode method_3_code 51 = .ok (.isub, 1) := by decide +kernel
theorem d2_52 : decode method_3_code 52 = .ok (.baload, 1) := by decide +kernel
theorem d2_53 : decode method_3_code 53 = .ok (.bipush 10, 2) := by decide +kernel
theorem d2_55 : decode method_3_code 55 = .ok (.if_icmp .ne 27, 3) := by decide +kernel
theorem d2_58 : decode method_3_code 58 = .ok (.aload_n 0, 1) := by decide +kernel
theorem d2_59 : decode method_3_code 59 = .ok (.iload_n 1, 1) := by decide +kernel
theorem d2_60 : decode method_3_code 60 = .ok (.iconst 2, 1) := by decide +kernel
theorem d2_61 : decode method_3_code 61 = .ok (.isub, 1) := by decide +kernel
theorem d2_62 : decode method_3_code 62 = .ok (.baload, 1) := by decide +kernel
theorem d2_63 : decode method_3_code 63 = .ok (.bipush 13, 2) := by decide +kernel
theorem d2_65 : decode method_3_code 65 = .ok (.if_icmp .ne 17, 3) := by decide +kernel
theorem d2_68 : decode method_3_code 68 = .ok (.aload_n 0, 1) := by decide +kernel
theorem d2_69 : decode method_3_code 69 = .ok (.iload_n 1, 1) := by decide +kernel
theorem d2_70 : decode method_3_code 70 = .ok (.iconst 3, 1) := by decide +kernel
theorem d2_71 : decode method_3_code 71 = .ok (.isub, 1) := by decide +kernel
theorem d2_72 : decode method_3_code 72 = .ok (.baload, 1) := by decide +kernel
theorem d2_73 : decode method_3_code 73 = .ok (.bipush 10, 2) := by decide +kernel
theorem d2_75 : decode method_3_code 75 = .ok (.if_icmp .ne 7, 3) := by decide +kernel
theorem d2_78 : decode method_3_code 78 = .ok (.iconst 1, 1) := by decide +kernel
theorem d2_79 : decode method_3_code 79 = .ok (.goto 4, 3) := by decide +kernel
theorem d2_82 : decode method_3_code 82 = .ok (.iconst 0, 1) := by decide +kernel
theorem d2_83 : decode method_3_code 83 = .ok (.istore 5, 2) := by decide +kernel
theorem d2_85 : decode method_3_code 85 = .ok (.iload 4, 2) := by decide +kernel
theorem d2_87 : decode method_3_code 87 = .ok (.ifCond .ne 8, 3) := by decide +kernel
theorem d2_90 : decode method_3_code 90 = .ok (.iload 5, 2) := by decide +kernel
theorem d2_92 : decode method_3_code 92 = .ok (.ifCond .eq 7, 3) := by decide +kernel
theorem d2_95 : decode method_3_code 95 = .ok (.iconst 1, 1) := by decide +kernel
theorem d2_96 : decode method_3_code 96 = .ok (.goto 4, 3) := by decide +kernel
theorem d2_99 : decode method_3_code 99 = .ok (.iconst 0, 1) := by decide +kernel
theorem d2_100 : decode method_3_code 100 = .ok (.ireturn, 1) := by decide +kernel
theorem ef_2 (m : MethodId) (x0 : Addr) (x1 : Int32) (x2 : Int32) (x3 : Int32)  : entryFrame m #[(.ref x0), (.int x1), (.int x2), (.int x3)] 6 = mkF m 0 #[.val (.ref x0), .val (.int x1), .val (.int x2), .val (.int x3), .unset, .unset] [] := by first | (simp [entryFrame, mkF, argsToLocals, Value.category]; done) | rfl
def F2 (x1 : Int32) (x2 : Int32) (x3 : Int32) (L : List Int32) : Int32 := if x3 < x1 then (0 : Int32) else (if (x1 - (1 : Int32)) < x2 then (0 : Int32) else (if (if (L.getD ((x1 - (1 : Int32))).toNatClampNeg 0) = (10 : Int32) then (if (L.getD ((x1 - (2 : Int32))).toNatClampNeg 0) = (10 : Int32) then (1 : Int32) else (0 : Int32)) else (0 : Int32)) = (0 : Int32) then (if (if x1 < (3 : Int32) then (0 : Int32) else (if (L.getD ((x1 - (1 : Int32))).toNatClampNeg 0) = (10 : Int32) then (if (L.getD ((x1 - (2 : Int32))).toNatClampNeg 0) = (13 : Int32) then (if (L.getD ((x1 - (3 : Int32))).toNatClampNeg 0) = (10 : Int32) then (1 : Int32) else (0 : Int32)) else (0 : Int32)) else (0 : Int32))) = (0 : Int32) then (0 : Int32) else (1 : Int32)) else (1 : Int32)))
def Q2 (Z : State) (x0 : Addr) (x1 : Int32) (x2 : Int32) (x3 : Int32) (ka : ClassId) (L : List Int32) (h0 : Heap) (n0 : Nat) (vE : Option Value) (hE : Heap) (LE : List Loc) : Prop := vE = some (.int (F2 x1 x2 x3 L)) ∧ Fr n0 LE ∧ hE = h0
set_option maxRecDepth 65536 in
set_option maxHeartbeats 40000000 in
theorem rm2 (l : Launch) (Z : State) (a0 : Array Value) (hw : ∀ d ∈ tables_1, d.before a0 Z = true) (ws : List Jvm.Cond) (x0 : Addr) (x1 : Int32) (x2 : Int32) (x3 : Int32) (ka : ClassId) (L : List Int32) (h0 : Heap) (n0 : Nat) (Z0 : n0 ≤ h0.size) (A_x : Arv Z h0 x0 ka .byte (6 : Int32) (List.map Value.int L) (.int (0 : Int32))) (hp : 2 ≤ x1.toInt ∧ x1.toInt ≤ 6) :
    MetFree l (⟨"com/example/persephone/persephone/executor/RequestHeadEndPinLaw", "endsAt", "([BIII)Z"⟩ : MethodName) (head1 (Jvm.Cond.code (⟨"com/example/persephone/persephone/executor/RequestHeadEndPinLaw", "endsAt", "([BIII)Z"⟩ : MethodName) method_3_code 6 (some .boolean) :: ws) ({ frames := 0, cells := 0, slots := 0, locals := 0 } : Room)) (fun a U => a = #[(.ref x0), (.int x1), (.int x2), (.int x3)] ∧ Z.Warmed39 U.vm ∧ U.heap = h0) (fun _ _ _ _ _ => True) (fun _ U o U' => ∃ vE LE, o = .returned vE ∧ Q2 Z x0 x1 x2 x3 ka L h0 n0 vE U'.heap LE ∧ FrameEnd U o U' LE ({ frames := 0, cells := 0, slots := 0, locals := 0 } : Room).cells ({ frames := 0, cells := 0, slots := 0, locals := 0 } : Room).slots) := by
  refine MetFree.of_bodySF (plainFor_of_name pn_0) hisR ?_
  intro p e s m args below meth c s₁ Bd hml0 hP hK
  obtain ⟨rfl, hZ, hh⟩ := hP
  have hx := Bd.exec
  have hby := Bd.bytes
  have hml : c.maxLocals = 6 := hml0
  have hown : s.vm.findClass "com/example/persephone/persephone/executor/RequestHeadEndPinLaw" = some m.cls := findClass_of_methodNamed Bd.named
  have hnm := (name_of_methodNamed Bd.named Bd.method).1
  have X0 : Stand p l e ({ frames := 0, cells := 0, slots := 0, locals := 0 } : Room) s m #[(.ref x0), (.int x1), (.int x2), (.int x3)] below meth c s₁ [] 0 0 := Stand.of_body Bd
  have e0 : s₁.heap = h0 := by rw [← hh, Bd.state]; rfl
  have N0 := Fr.nil n0
  have st0 : Steps p.tables e below (s₁.setTop (entryFrame m #[(.ref x0), (.int x1), (.int x2), (.int x3)] 6)) (s₁.setTop (mkF m 0 #[.val (.ref x0), .val (.int x1), .val (.int x2), .val (.int x3), .unset, .unset] [])) := castTop (ef_2 m x0 x1 x2 x3) (Steps.refl _)
  have st1 : Steps p.tables e below (s₁.setTop (entryFrame m #[(.ref x0), (.int x1), (.int x2), (.int x3)] 6)) (s₁.setTop (mkF m 2 #[.val (.ref x0), .val (.int x1), .val (.int x2), .val (.int x3), .unset, .unset] [(.int x3), (.int x1)])) := st0.trans (by
      show Steps p.tables e below (s₁.setTop (mkF m 0 #[.val (.ref x0), .val (.int x1), .val (.int x2), .val (.int x3), .unset, .unset] [])) _
      refine XS.iloadN X0.here hx rfl (hb hby d2_0) rfl ?_
      show Steps p.tables e below (s₁.setTop (mkF m 1 #[.val (.ref x0), .val (.int x1), .val (.int x2), .val (.int x3), .unset, .unset] [(.int x1)])) _
      refine XS.iloadN X0.here hx rfl (hb hby d2_1) rfl ?_
      exact Steps.refl _)
  by_cases hc2 : x3 < x1
  · have st3 : Steps p.tables e below (s₁.setTop (entryFrame m #[(.ref x0), (.int x1), (.int x2), (.int x3)] 6)) (s₁.setTop (mkF m 6 #[.val (.ref x0), .val (.int x1), .val (.int x2), .val (.int x3), .unset, .unset] [(.int (0 : Int32))])) := st1.trans (by
        show Steps p.tables e below (s₁.setTop (mkF m 2 #[.val (.ref x0), .val (.int x1), .val (.int x2), .val (.int x3), .unset, .unset] [(.int x3), (.int x1)])) _
        refine XS.icmpNo X0.here hx rfl (hb hby d2_2) rfl (tlt hc2).2.2.2 ?_
        show Steps p.tables e below (s₁.setTop (mkF m 5 #[.val (.ref x0), .val (.int x1), .val (.int x2), .val (.int x3), .unset, .unset] [])) _
        refine XS.iconst X0.here hx rfl (hb hby d2_5) ?_
        exact Steps.refl _)
    obtain ⟨fs, hr, hrun, hended, hW, hsame⟩ := X0.leave (v := some (.int (0 : Int32))) (fun h => by rw [Bd.returns] at h; cases h)
    refine ⟨_, _, st3.trans ?_, hrun, hended, _, _, rfl, ?_, ⟨_, rfl⟩, hW, hsame.mono (by decide) (by decide)⟩
    · exact retN X0 hx (t := .boolean) Bd.returns (by simp) (hb hby d2_6) hr
    · show Q2 Z x0 x1 x2 x3 ka L h0 n0 _ s₁.heap _
      rw [e0]
      exact ⟨by rw [F2, if_pos hc2], N0, rfl⟩
  · have st4 : Steps p.tables e below (s₁.setTop (entryFrame m #[(.ref x0), (.int x1), (.int x2), (.int x3)] 6)) (s₁.setTop (mkF m 11 #[.val (.ref x0), .val (.int x1), .val (.int x2), .val (.int x3), .unset, .unset] [(.int x2), (.int (x1 - (1 : Int32)))])) := st1.trans (by
        show Steps p.tables e below (s₁.setTop (mkF m 2 #[.val (.ref x0), .val (.int x1), .val (.int x2), .val (.int x3), .unset, .unset] [(.int x3), (.int x1)])) _
        refine XS.icmpYes X0.here hx rfl (pc0 := 2) (pc' := 7) rfl (hb hby d2_2) rfl (flt hc2).2.2.2 (by decide) (by decide) ?_
        show Steps p.tables e below (s₁.setTop (mkF m 7 #[.val (.ref x0), .val (.int x1), .val (.int x2), .val (.int x3), .unset, .unset] [])) _
        refine XS.iloadN X0.here hx rfl (hb hby d2_7) rfl ?_
        show Steps p.tables e below (s₁.setTop (mkF m 8 #[.val (.ref x0), .val (.int x1), .val (.int x2), .val (.int x3), .unset, .unset] [(.int x1)])) _
        refine XS.iconst X0.here hx rfl (hb hby d2_8) ?_
        show Steps p.tables e below (s₁.setTop (mkF m 9 #[.val (.ref x0), .val (.int x1), .val (.int x2), .val (.int x3), .unset, .unset] [(.int (1 : Int32)), (.int x1)])) _
        refine XS.isub X0.here hx rfl (hb hby d2_9) rfl ?_
        show Steps p.tables e below (s₁.setTop (mkF m 10 #[.val (.ref x0), .val (.int x1), .val (.int x2), .val (.int x3), .unset, .unset] [(.int (x1 - (1 : Int32)))])) _
        refine XS.iloadN X0.here hx rfl (hb hby d2_10) rfl ?_
        exact Steps.refl _)
    by_cases hc5 : (x1 - (1 : Int32)) < x2
    · have st6 : Steps p.tables e below (s₁.setTop (entryFrame m #[(.ref x0), (.int x1), (.int x2), (.int x3)] 6)) (s₁.setTop (mkF m 15 #[.val (.ref x0), .val (.int x1), .val (.int x2), .val (.int x3), .unset, .unset] [(.int (0 : Int32))])) := st4.trans (by
          show Steps p.tables e below (s₁.setTop (mkF m 11 #[.val (.ref x0), .val (.int x1), .val (.int x2), .val (.int x3), .unset, .unset] [(.int x2), (.int (x1 - (1 : Int32)))])) _
          refine XS.icmpNo X0.here hx rfl (hb hby d2_11) rfl (tlt hc5).2.1 ?_
          show Steps p.tables e below (s₁.setTop (mkF m 14 #[.val (.ref x0), .val (.int x1), .val (.int x2), .val (.int x3), .unset, .unset] [])) _
          refine XS.iconst X0.here hx rfl (hb hby d2_14) ?_
          exact Steps.refl _)
      obtain ⟨fs, hr, hrun, hended, hW, hsame⟩ := X0.leave (v := some (.int (0 : Int32))) (fun h => by rw [Bd.returns] at h; cases h)
      refine ⟨_, _, st6.trans ?_, hrun, hended, _, _, rfl, ?_, ⟨_, rfl⟩, hW, hsame.mono (by decide) (by decide)⟩
      · exact retN X0 hx (t := .boolean) Bd.returns (by simp) (hb hby d2_15) hr
      · show Q2 Z x0 x1 x2 x3 ka L h0 n0 _ s₁.heap _
        rw [e0]
        exact ⟨by rw [F2, if_neg hc2, if_pos hc5], N0, rfl⟩
    · obtain ⟨cl7, Ar7, q7, S7, N7, H7, G7⟩ := id A_x
      have hin7 : ¬ ((x1 - (1 : Int32)) < 0 ∨ cl7.slots.size ≤ ((x1 - (1 : Int32))).toNatClampNeg) := inb_of S7 (own_ix x1 1 2 hp (by decide))
      have hat7 : cl7.slots[((x1 - (1 : Int32))).toNatClampNeg]? = some (.int (L.getD ((x1 - (1 : Int32))).toNatClampNeg 0)) := H7.at hin7 (own_getI L _)
      have st8 : Steps p.tables e below (s₁.setTop (entryFrame m #[(.ref x0), (.int x1), (.int x2), (.int x3)] 6)) (s₁.setTop (mkF m 23 #[.val (.ref x0), .val (.int x1), .val (.int x2), .val (.int x3), .unset, .unset] [(.int (10 : Int32)), (.int (L.getD ((x1 - (1 : Int32))).toNatClampNeg 0))])) := st4.trans (by
          show Steps p.tables e below (s₁.setTop (mkF m 11 #[.val (.ref x0), .val (.int x1), .val (.int x2), .val (.int x3), .unset, .unset] [(.int x2), (.int (x1 - (1 : Int32)))])) _
          refine XS.icmpYes X0.here hx rfl (pc0 := 11) (pc' := 16) rfl (hb hby d2_11) rfl (flt hc5).2.1 (by decide) (by decide) ?_
          show Steps p.tables e below (s₁.setTop (mkF m 16 #[.val (.ref x0), .val (.int x1), .val (.int x2), .val (.int x3), .unset, .unset] [])) _
          refine XS.aloadN X0.here hx rfl (hb hby d2_16) rfl rfl ?_
          show Steps p.tables e below (s₁.setTop (mkF m 17 #[.val (.ref x0), .val (.int x1), .val (.int x2), .val (.int x3), .unset, .unset] [(.ref x0)])) _
          refine XS.iloadN X0.here hx rfl (hb hby d2_17) rfl ?_
          show Steps p.tables e below (s₁.setTop (mkF m 18 #[.val (.ref x0), .val (.int x1), .val (.int x2), .val (.int x3), .unset, .unset] [(.int x1), (.ref x0)])) _
          refine XS.iconst X0.here hx rfl (hb hby d2_18) ?_
          show Steps p.tables e below (s₁.setTop (mkF m 19 #[.val (.ref x0), .val (.int x1), .val (.int x2), .val (.int x3), .unset, .unset] [(.int (1 : Int32)), (.int x1), (.ref x0)])) _
          refine XS.isub X0.here hx rfl (hb hby d2_19) rfl ?_
          show Steps p.tables e below (s₁.setTop (mkF m 20 #[.val (.ref x0), .val (.int x1), .val (.int x2), .val (.int x3), .unset, .unset] [(.int (x1 - (1 : Int32))), (.ref x0)])) _
          refine X0.baloadBytes hx (j := (x1 - (1 : Int32))) (v := (.int (L.getD ((x1 - (1 : Int32))).toNatClampNeg 0))) (by rw [e0]; exact Ar7.1) (State.isArrayOf_alike hZ.alike Ar7.2.1) Ar7.2.2 hin7 hat7 (g := (mkF m 20 #[.val (.ref x0), .val (.int x1), .val (.int x2), .val (.int x3), .unset, .unset] [(.int (x1 - (1 : Int32))), (.ref x0)])) rfl rfl (hb hby d2_20) _ ?_
          show Steps p.tables e below (s₁.setTop (mkF m 21 #[.val (.ref x0), .val (.int x1), .val (.int x2), .val (.int x3), .unset, .unset] [(.int (L.getD ((x1 - (1 : Int32))).toNatClampNeg 0))])) _
          refine XS.bipush X0.here hx rfl (hb hby d2_21) ?_
          exact Steps.refl _)
      have st12 : Steps p.tables e below (s₁.setTop (entryFrame m #[(.ref x0), (.int x1), (.int x2), (.int x3)] 6)) (s₁.setTop (mkF m 41 #[.val (.ref x0), .val (.int x1), .val (.int x2), .val (.int x3), .unset, .unset] [(.int (if (L.getD ((x1 - (1 : Int32))).toNatClampNeg 0) = (10 : Int32) then (if (L.getD ((x1 - (2 : Int32))).toNatClampNeg 0) = (10 : Int32) then (1 : Int32) else (0 : Int32)) else (0 : Int32)))])) := st8.trans (by
          show Steps p.tables e below (s₁.setTop (mkF m 23 #[.val (.ref x0), .val (.int x1), .val (.int x2), .val (.int x3), .unset, .unset] [(.int (10 : Int32)), (.int (L.getD ((x1 - (1 : Int32))).toNatClampNeg 0))])) _
          by_cases hc9 : (L.getD ((x1 - (1 : Int32))).toNatClampNeg 0) = (10 : Int32)
          · show Steps p.tables e below (s₁.setTop (mkF m 23 #[.val (.ref x0), .val (.int x1), .val (.int x2), .val (.int x3), .unset, .unset] [(.int (10 : Int32)), (.int (L.getD ((x1 - (1 : Int32))).toNatClampNeg 0))])) _
            refine XS.icmpNo X0.here hx rfl (hb hby d2_23) rfl (teq hc9).2 ?_
            show Steps p.tables e below (s₁.setTop (mkF m 26 #[.val (.ref x0), .val (.int x1), .val (.int x2), .val (.int x3), .unset, .unset] [])) _
            refine XS.aloadN X0.here hx rfl (hb hby d2_26) rfl rfl ?_
            show Steps p.tables e below (s₁.setTop (mkF m 27 #[.val (.ref x0), .val (.int x1), .val (.int x2), .val (.int x3), .unset, .unset] [(.ref x0)])) _
            refine XS.iloadN X0.here hx rfl (hb hby d2_27) rfl ?_
            show Steps p.tables e below (s₁.setTop (mkF m 28 #[.val (.ref x0), .val (.int x1), .val (.int x2), .val (.int x3), .unset, .unset] [(.int x1), (.ref x0)])) _
            refine XS.iconst X0.here hx rfl (hb hby d2_28) ?_
            show Steps p.tables e below (s₁.setTop (mkF m 29 #[.val (.ref x0), .val (.int x1), .val (.int x2), .val (.int x3), .unset, .unset] [(.int (2 : Int32)), (.int x1), (.ref x0)])) _
            refine XS.isub X0.here hx rfl (hb hby d2_29) rfl ?_
            obtain ⟨cl10, Ar10, q10, S10, N10, H10, G10⟩ := id A_x
            have hin10 : ¬ ((x1 - (2 : Int32)) < 0 ∨ cl10.slots.size ≤ ((x1 - (2 : Int32))).toNatClampNeg) := inb_of S10 (own_ix x1 2 2 hp (by decide))
            have hat10 : cl10.slots[((x1 - (2 : Int32))).toNatClampNeg]? = some (.int (L.getD ((x1 - (2 : Int32))).toNatClampNeg 0)) := H10.at hin10 (own_getI L _)
            show Steps p.tables e below (s₁.setTop (mkF m 30 #[.val (.ref x0), .val (.int x1), .val (.int x2), .val (.int x3), .unset, .unset] [(.int (x1 - (2 : Int32))), (.ref x0)])) _
            refine X0.baloadBytes hx (j := (x1 - (2 : Int32))) (v := (.int (L.getD ((x1 - (2 : Int32))).toNatClampNeg 0))) (by rw [e0]; exact Ar10.1) (State.isArrayOf_alike hZ.alike Ar10.2.1) Ar10.2.2 hin10 hat10 (g := (mkF m 30 #[.val (.ref x0), .val (.int x1), .val (.int x2), .val (.int x3), .unset, .unset] [(.int (x1 - (2 : Int32))), (.ref x0)])) rfl rfl (hb hby d2_30) _ ?_
            show Steps p.tables e below (s₁.setTop (mkF m 31 #[.val (.ref x0), .val (.int x1), .val (.int x2), .val (.int x3), .unset, .unset] [(.int (L.getD ((x1 - (2 : Int32))).toNatClampNeg 0))])) _
            refine XS.bipush X0.here hx rfl (hb hby d2_31) ?_
            show Steps p.tables e below (s₁.setTop (mkF m 33 #[.val (.ref x0), .val (.int x1), .val (.int x2), .val (.int x3), .unset, .unset] [(.int (10 : Int32)), (.int (L.getD ((x1 - (2 : Int32))).toNatClampNeg 0))])) _
            by_cases hc11 : (L.getD ((x1 - (2 : Int32))).toNatClampNeg 0) = (10 : Int32)
            · show Steps p.tables e below (s₁.setTop (mkF m 33 #[.val (.ref x0), .val (.int x1), .val (.int x2), .val (.int x3), .unset, .unset] [(.int (10 : Int32)), (.int (L.getD ((x1 - (2 : Int32))).toNatClampNeg 0))])) _
              refine XS.icmpNo X0.here hx rfl (hb hby d2_33) rfl (teq hc11).2 ?_
              show Steps p.tables e below (s₁.setTop (mkF m 36 #[.val (.ref x0), .val (.int x1), .val (.int x2), .val (.int x3), .unset, .unset] [])) _
              refine XS.iconst X0.here hx rfl (hb hby d2_36) ?_
              show Steps p.tables e below (s₁.setTop (mkF m 37 #[.val (.ref x0), .val (.int x1), .val (.int x2), .val (.int x3), .unset, .unset] [(.int (1 : Int32))])) _
              refine XS.goto X0.here hx rfl (pc0 := 37) (pc' := 41) rfl (hb hby d2_37) (by decide) (by decide) ?_
              simp only [if_pos hc9, if_pos hc11]
              exact Steps.refl _
            · show Steps p.tables e below (s₁.setTop (mkF m 33 #[.val (.ref x0), .val (.int x1), .val (.int x2), .val (.int x3), .unset, .unset] [(.int (10 : Int32)), (.int (L.getD ((x1 - (2 : Int32))).toNatClampNeg 0))])) _
              refine XS.icmpYes X0.here hx rfl (pc0 := 33) (pc' := 40) rfl (hb hby d2_33) rfl (feq hc11).2 (by decide) (by decide) ?_
              show Steps p.tables e below (s₁.setTop (mkF m 40 #[.val (.ref x0), .val (.int x1), .val (.int x2), .val (.int x3), .unset, .unset] [])) _
              refine XS.iconst X0.here hx rfl (hb hby d2_40) ?_
              simp only [if_pos hc9, if_neg hc11]
              exact Steps.refl _
          · show Steps p.tables e below (s₁.setTop (mkF m 23 #[.val (.ref x0), .val (.int x1), .val (.int x2), .val (.int x3), .unset, .unset] [(.int (10 : Int32)), (.int (L.getD ((x1 - (1 : Int32))).toNatClampNeg 0))])) _
            refine XS.icmpYes X0.here hx rfl (pc0 := 23) (pc' := 40) rfl (hb hby d2_23) rfl (feq hc9).2 (by decide) (by decide) ?_
            show Steps p.tables e below (s₁.setTop (mkF m 40 #[.val (.ref x0), .val (.int x1), .val (.int x2), .val (.int x3), .unset, .unset] [])) _
            refine XS.iconst X0.here hx rfl (hb hby d2_40) ?_
            simp only [if_neg hc9]
            exact Steps.refl _
          )
      have st13 : Steps p.tables e below (s₁.setTop (entryFrame m #[(.ref x0), (.int x1), (.int x2), (.int x3)] 6)) (s₁.setTop (mkF m 45 #[.val (.ref x0), .val (.int x1), .val (.int x2), .val (.int x3), .val (.int (if (L.getD ((x1 - (1 : Int32))).toNatClampNeg 0) = (10 : Int32) then (if (L.getD ((x1 - (2 : Int32))).toNatClampNeg 0) = (10 : Int32) then (1 : Int32) else (0 : Int32)) else (0 : Int32))), .unset] [(.int (3 : Int32)), (.int x1)])) := st12.trans (by
          show Steps p.tables e below (s₁.setTop (mkF m 41 #[.val (.ref x0), .val (.int x1), .val (.int x2), .val (.int x3), .unset, .unset] [(.int (if (L.getD ((x1 - (1 : Int32))).toNatClampNeg 0) = (10 : Int32) then (if (L.getD ((x1 - (2 : Int32))).toNatClampNeg 0) = (10 : Int32) then (1 : Int32) else (0 : Int32)) else (0 : Int32)))])) _
          refine XS.istore X0.here hx rfl (hb hby d2_41) rfl (l' := #[.val (.ref x0), .val (.int x1), .val (.int x2), .val (.int x3), .val (.int (if (L.getD ((x1 - (1 : Int32))).toNatClampNeg 0) = (10 : Int32) then (if (L.getD ((x1 - (2 : Int32))).toNatClampNeg 0) = (10 : Int32) then (1 : Int32) else (0 : Int32)) else (0 : Int32))), .unset]) rfl ?_
          show Steps p.tables e below (s₁.setTop (mkF m 43 #[.val (.ref x0), .val (.int x1), .val (.int x2), .val (.int x3), .val (.int (if (L.getD ((x1 - (1 : Int32))).toNatClampNeg 0) = (10 : Int32) then (if (L.getD ((x1 - (2 : Int32))).toNatClampNeg 0) = (10 : Int32) then (1 : Int32) else (0 : Int32)) else (0 : Int32))), .unset] [])) _
          refine XS.iloadN X0.here hx rfl (hb hby d2_43) rfl ?_
          show Steps p.tables e below (s₁.setTop (mkF m 44 #[.val (.ref x0), .val (.int x1), .val (.int x2), .val (.int x3), .val (.int (if (L.getD ((x1 - (1 : Int32))).toNatClampNeg 0) = (10 : Int32) then (if (L.getD ((x1 - (2 : Int32))).toNatClampNeg 0) = (10 : Int32) then (1 : Int32) else (0 : Int32)) else (0 : Int32))), .unset] [(.int x1)])) _
          refine XS.iconst X0.here hx rfl (hb hby d2_44) ?_
          exact Steps.refl _)
      have st21 : Steps p.tables e below (s₁.setTop (entryFrame m #[(.ref x0), (.int x1), (.int x2), (.int x3)] 6)) (s₁.setTop (mkF m 83 #[.val (.ref x0), .val (.int x1), .val (.int x2), .val (.int x3), .val (.int (if (L.getD ((x1 - (1 : Int32))).toNatClampNeg 0) = (10 : Int32) then (if (L.getD ((x1 - (2 : Int32))).toNatClampNeg 0) = (10 : Int32) then (1 : Int32) else (0 : Int32)) else (0 : Int32))), .unset] [(.int (if x1 < (3 : Int32) then (0 : Int32) else (if (L.getD ((x1 - (1 : Int32))).toNatClampNeg 0) = (10 : Int32) then (if (L.getD ((x1 - (2 : Int32))).toNatClampNeg 0) = (13 : Int32) then (if (L.getD ((x1 - (3 : Int32))).toNatClampNeg 0) = (10 : Int32) then (1 : Int32) else (0 : Int32)) else (0 : Int32)) else (0 : Int32))))])) := st13.trans (by
          show Steps p.tables e below (s₁.setTop (mkF m 45 #[.val (.ref x0), .val (.int x1), .val (.int x2), .val (.int x3), .val (.int (if (L.getD ((x1 - (1 : Int32))).toNatClampNeg 0) = (10 : Int32) then (if (L.getD ((x1 - (2 : Int32))).toNatClampNeg 0) = (10 : Int32) then (1 : Int32) else (0 : Int32)) else (0 : Int32))), .unset] [(.int (3 : Int32)), (.int x1)])) _
          by_cases hc14 : x1 < (3 : Int32)
          · show Steps p.tables e below (s₁.setTop (mkF m 45 #[.val (.ref x0), .val (.int x1), .val (.int x2), .val (.int x3), .val (.int (if (L.getD ((x1 - (1 : Int32))).toNatClampNeg 0) = (10 : Int32) then (if (L.getD ((x1 - (2 : Int32))).toNatClampNeg 0) = (10 : Int32) then (1 : Int32) else (0 : Int32)) else (0 : Int32))), .unset] [(.int (3 : Int32)), (.int x1)])) _
            refine XS.icmpYes X0.here hx rfl (pc0 := 45) (pc' := 82) rfl (hb hby d2_45) rfl (tlt hc14).1 (by decide) (by decide) ?_
            show Steps p.tables e below (s₁.setTop (mkF m 82 #[.val (.ref x0), .val (.int x1), .val (.int x2), .val (.int x3), .val (.int (if (L.getD ((x1 - (1 : Int32))).toNatClampNeg 0) = (10 : Int32) then (if (L.getD ((x1 - (2 : Int32))).toNatClampNeg 0) = (10 : Int32) then (1 : Int32) else (0 : Int32)) else (0 : Int32))), .unset] [])) _
            refine XS.iconst X0.here hx rfl (hb hby d2_82) ?_
            simp only [if_pos hc14]
            exact Steps.refl _
          · show Steps p.tables e below (s₁.setTop (mkF m 45 #[.val (.ref x0), .val (.int x1), .val (.int x2), .val (.int x3), .val (.int (if (L.getD ((x1 - (1 : Int32))).toNatClampNeg 0) = (10 : Int32) then (if (L.getD ((x1 - (2 : Int32))).toNatClampNeg 0) = (10 : Int32) then (1 : Int32) else (0 : Int32)) else (0 : Int32))), .unset] [(.int (3 : Int32)), (.int x1)])) _
            refine XS.icmpNo X0.here hx rfl (hb hby d2_45) rfl (flt hc14).1 ?_
            show Steps p.tables e below (s₁.setTop (mkF m 48 #[.val (.ref x0), .val (.int x1), .val (.int x2), .val (.int x3), .val (.int (if (L.getD ((x1 - (1 : Int32))).toNatClampNeg 0) = (10 : Int32) then (if (L.getD ((x1 - (2 : Int32))).toNatClampNeg 0) = (10 : Int32) then (1 : Int32) else (0 : Int32)) else (0 : Int32))), .unset] [])) _
            refine XS.aloadN X0.here hx rfl (hb hby d2_48) rfl rfl ?_
            show Steps p.tables e below (s₁.setTop (mkF m 49 #[.val (.ref x0), .val (.int x1), .val (.int x2), .val (.int x3), .val (.int (if (L.getD ((x1 - (1 : Int32))).toNatClampNeg 0) = (10 : Int32) then (if (L.getD ((x1 - (2 : Int32))).toNatClampNeg 0) = (10 : Int32) then (1 : Int32) else (0 : Int32)) else (0 : Int32))), .unset] [(.ref x0)])) _
            refine XS.iloadN X0.here hx rfl (hb hby d2_49) rfl ?_
            show Steps p.tables e below (s₁.setTop (mkF m 50 #[.val (.ref x0), .val (.int x1), .val (.int x2), .val (.int x3), .val (.int (if (L.getD ((x1 - (1 : Int32))).toNatClampNeg 0) = (10 : Int32) then (if (L.getD ((x1 - (2 : Int32))).toNatClampNeg 0) = (10 : Int32) then (1 : Int32) else (0 : Int32)) else (0 : Int32))), .unset] [(.int x1), (.ref x0)])) _
            refine XS.iconst X0.here hx rfl (hb hby d2_50) ?_
            show Steps p.tables e below (s₁.setTop (mkF m 51 #[.val (.ref x0), .val (.int x1), .val (.int x2), .val (.int x3), .val (.int (if (L.getD ((x1 - (1 : Int32))).toNatClampNeg 0) = (10 : Int32) then (if (L.getD ((x1 - (2 : Int32))).toNatClampNeg 0) = (10 : Int32) then (1 : Int32) else (0 : Int32)) else (0 : Int32))), .unset] [(.int (1 : Int32)), (.int x1), (.ref x0)])) _
            refine XS.isub X0.here hx rfl (hb hby d2_51) rfl ?_
            obtain ⟨cl15, Ar15, q15, S15, N15, H15, G15⟩ := id A_x
            have hin15 : ¬ ((x1 - (1 : Int32)) < 0 ∨ cl15.slots.size ≤ ((x1 - (1 : Int32))).toNatClampNeg) := inb_of S15 (own_ix x1 1 2 hp (by decide))
            have hat15 : cl15.slots[((x1 - (1 : Int32))).toNatClampNeg]? = some (.int (L.getD ((x1 - (1 : Int32))).toNatClampNeg 0)) := H15.at hin15 (own_getI L _)
            show Steps p.tables e below (s₁.setTop (mkF m 52 #[.val (.ref x0), .val (.int x1), .val (.int x2), .val (.int x3), .val (.int (if (L.getD ((x1 - (1 : Int32))).toNatClampNeg 0) = (10 : Int32) then (if (L.getD ((x1 - (2 : Int32))).toNatClampNeg 0) = (10 : Int32) then (1 : Int32) else (0 : Int32)) else (0 : Int32))), .unset] [(.int (x1 - (1 : Int32))), (.ref x0)])) _
            refine X0.baloadBytes hx (j := (x1 - (1 : Int32))) (v := (.int (L.getD ((x1 - (1 : Int32))).toNatClampNeg 0))) (by rw [e0]; exact Ar15.1) (State.isArrayOf_alike hZ.alike Ar15.2.1) Ar15.2.2 hin15 hat15 (g := (mkF m 52 #[.val (.ref x0), .val (.int x1), .val (.int x2), .val (.int x3), .val (.int (if (L.getD ((x1 - (1 : Int32))).toNatClampNeg 0) = (10 : Int32) then (if (L.getD ((x1 - (2 : Int32))).toNatClampNeg 0) = (10 : Int32) then (1 : Int32) else (0 : Int32)) else (0 : Int32))), .unset] [(.int (x1 - (1 : Int32))), (.ref x0)])) rfl rfl (hb hby d2_52) _ ?_
            show Steps p.tables e below (s₁.setTop (mkF m 53 #[.val (.ref x0), .val (.int x1), .val (.int x2), .val (.int x3), .val (.int (if (L.getD ((x1 - (1 : Int32))).toNatClampNeg 0) = (10 : Int32) then (if (L.getD ((x1 - (2 : Int32))).toNatClampNeg 0) = (10 : Int32) then (1 : Int32) else (0 : Int32)) else (0 : Int32))), .unset] [(.int (L.getD ((x1 - (1 : Int32))).toNatClampNeg 0))])) _
            refine XS.bipush X0.here hx rfl (hb hby d2_53) ?_
            show Steps p.tables e below (s₁.setTop (mkF m 55 #[.val (.ref x0), .val (.int x1), .val (.int x2), .val (.int x3), .val (.int (if (L.getD ((x1 - (1 : Int32))).toNatClampNeg 0) = (10 : Int32) then (if (L.getD ((x1 - (2 : Int32))).toNatClampNeg 0) = (10 : Int32) then (1 : Int32) else (0 : Int32)) else (0 : Int32))), .unset] [(.int (10 : Int32)), (.int (L.getD ((x1 - (1 : Int32))).toNatClampNeg 0))])) _
            by_cases hc16 : (L.getD ((x1 - (1 : Int32))).toNatClampNeg 0) = (10 : Int32)
            · show Steps p.tables e below (s₁.setTop (mkF m 55 #[.val (.ref x0), .val (.int x1), .val (.int x2), .val (.int x3), .val (.int (if (L.getD ((x1 - (1 : Int32))).toNatClampNeg 0) = (10 : Int32) then (if (L.getD ((x1 - (2 : Int32))).toNatClampNeg 0) = (10 : Int32) then (1 : Int32) else (0 : Int32)) else (0 : Int32))), .unset] [(.int (10 : Int32)), (.int (L.getD ((x1 - (1 : Int32))).toNatClampNeg 0))])) _
              refine XS.icmpNo X0.here hx rfl (hb hby d2_55) rfl (teq hc16).2 ?_
              show Steps p.tables e below (s₁.setTop (mkF m 58 #[.val (.ref x0), .val (.int x1), .val (.int x2), .val (.int x3), .val (.int (if (L.getD ((x1 - (1 : Int32))).toNatClampNeg 0) = (10 : Int32) then (if (L.getD ((x1 - (2 : Int32))).toNatClampNeg 0) = (10 : Int32) then (1 : Int32) else (0 : Int32)) else (0 : Int32))), .unset] [])) _
              refine XS.aloadN X0.here hx rfl (hb hby d2_58) rfl rfl ?_
              show Steps p.tables e below (s₁.setTop (mkF m 59 #[.val (.ref x0), .val (.int x1), .val (.int x2), .val (.int x3), .val (.int (if (L.getD ((x1 - (1 : Int32))).toNatClampNeg 0) = (10 : Int32) then (if (L.getD ((x1 - (2 : Int32))).toNatClampNeg 0) = (10 : Int32) then (1 : Int32) else (0 : Int32)) else (0 : Int32))), .unset] [(.ref x0)])) _
              refine XS.iloadN X0.here hx rfl (hb hby d2_59) rfl ?_
              show Steps p.tables e below (s₁.setTop (mkF m 60 #[.val (.ref x0), .val (.int x1), .val (.int x2), .val (.int x3), .val (.int (if (L.getD ((x1 - (1 : Int32))).toNatClampNeg 0) = (10 : Int32) then (if (L.getD ((x1 - (2 : Int32))).toNatClampNeg 0) = (10 : Int32) then (1 : Int32) else (0 : Int32)) else (0 : Int32))), .unset] [(.int x1), (.ref x0)])) _
              refine XS.iconst X0.here hx rfl (hb hby d2_60) ?_
              show Steps p.tables e below (s₁.setTop (mkF m 61 #[.val (.ref x0), .val (.int x1), .val (.int x2), .val (.int x3), .val (.int (if (L.getD ((x1 - (1 : Int32))).toNatClampNeg 0) = (10 : Int32) then (if (L.getD ((x1 - (2 : Int32))).toNatClampNeg 0) = (10 : Int32) then (1 : Int32) else (0 : Int32)) else (0 : Int32))), .unset] [(.int (2 : Int32)), (.int x1), (.ref x0)])) _
              refine XS.isub X0.here hx rfl (hb hby d2_61) rfl ?_
              obtain ⟨cl17, Ar17, q17, S17, N17, H17, G17⟩ := id A_x
              have hin17 : ¬ ((x1 - (2 : Int32)) < 0 ∨ cl17.slots.size ≤ ((x1 - (2 : Int32))).toNatClampNeg) := inb_of S17 (own_ix x1 2 2 hp (by decide))
              have hat17 : cl17.slots[((x1 - (2 : Int32))).toNatClampNeg]? = some (.int (L.getD ((x1 - (2 : Int32))).toNatClampNeg 0)) := H17.at hin17 (own_getI L _)
              show Steps p.tables e below (s₁.setTop (mkF m 62 #[.val (.ref x0), .val (.int x1), .val (.int x2), .val (.int x3), .val (.int (if (L.getD ((x1 - (1 : Int32))).toNatClampNeg 0) = (10 : Int32) then (if (L.getD ((x1 - (2 : Int32))).toNatClampNeg 0) = (10 : Int32) then (1 : Int32) else (0 : Int32)) else (0 : Int32))), .unset] [(.int (x1 - (2 : Int32))), (.ref x0)])) _
              refine X0.baloadBytes hx (j := (x1 - (2 : Int32))) (v := (.int (L.getD ((x1 - (2 : Int32))).toNatClampNeg 0))) (by rw [e0]; exact Ar17.1) (State.isArrayOf_alike hZ.alike Ar17.2.1) Ar17.2.2 hin17 hat17 (g := (mkF m 62 #[.val (.ref x0), .val (.int x1), .val (.int x2), .val (.int x3), .val (.int (if (L.getD ((x1 - (1 : Int32))).toNatClampNeg 0) = (10 : Int32) then (if (L.getD ((x1 - (2 : Int32))).toNatClampNeg 0) = (10 : Int32) then (1 : Int32) else (0 : Int32)) else (0 : Int32))), .unset] [(.int (x1 - (2 : Int32))), (.ref x0)])) rfl rfl (hb hby d2_62) _ ?_
              show Steps p.tables e below (s₁.setTop (mkF m 63 #[.val (.ref x0), .val (.int x1), .val (.int x2), .val (.int x3), .val (.int (if (L.getD ((x1 - (1 : Int32))).toNatClampNeg 0) = (10 : Int32) then (if (L.getD ((x1 - (2 : Int32))).toNatClampNeg 0) = (10 : Int32) then (1 : Int32) else (0 : Int32)) else (0 : Int32))), .unset] [(.int (L.getD ((x1 - (2 : Int32))).toNatClampNeg 0))])) _
              refine XS.bipush X0.here hx rfl (hb hby d2_63) ?_
              show Steps p.tables e below (s₁.setTop (mkF m 65 #[.val (.ref x0), .val (.int x1), .val (.int x2), .val (.int x3), .val (.int (if (L.getD ((x1 - (1 : Int32))).toNatClampNeg 0) = (10 : Int32) then (if (L.getD ((x1 - (2 : Int32))).toNatClampNeg 0) = (10 : Int32) then (1 : Int32) else (0 : Int32)) else (0 : Int32))), .unset] [(.int (13 : Int32)), (.int (L.getD ((x1 - (2 : Int32))).toNatClampNeg 0))])) _
              by_cases hc18 : (L.getD ((x1 - (2 : Int32))).toNatClampNeg 0) = (13 : Int32)
              · show Steps p.tables e below (s₁.setTop (mkF m 65 #[.val (.ref x0), .val (.int x1), .val (.int x2), .val (.int x3), .val (.int (if (L.getD ((x1 - (1 : Int32))).toNatClampNeg 0) = (10 : Int32) then (if (L.getD ((x1 - (2 : Int32))).toNatClampNeg 0) = (10 : Int32) then (1 : Int32) else (0 : Int32)) else (0 : Int32))), .unset] [(.int (13 : Int32)), (.int (L.getD ((x1 - (2 : Int32))).toNatClampNeg 0))])) _
                refine XS.icmpNo X0.here hx rfl (hb hby d2_65) rfl (teq hc18).2 ?_
                show Steps p.tables e below (s₁.setTop (mkF m 68 #[.val (.ref x0), .val (.int x1), .val (.int x2), .val (.int x3), .val (.int (if (L.getD ((x1 - (1 : Int32))).toNatClampNeg 0) = (10 : Int32) then (if (L.getD ((x1 - (2 : Int32))).toNatClampNeg 0) = (10 : Int32) then (1 : Int32) else (0 : Int32)) else (0 : Int32))), .unset] [])) _
                refine XS.aloadN X0.here hx rfl (hb hby d2_68) rfl rfl ?_
                show Steps p.tables e below (s₁.setTop (mkF m 69 #[.val (.ref x0), .val (.int x1), .val (.int x2), .val (.int x3), .val (.int (if (L.getD ((x1 - (1 : Int32))).toNatClampNeg 0) = (10 : Int32) then (if (L.getD ((x1 - (2 : Int32))).toNatClampNeg 0) = (10 : Int32) then (1 : Int32) else (0 : Int32)) else (0 : Int32))), .unset] [(.ref x0)])) _
                refine XS.iloadN X0.here hx rfl (hb hby d2_69) rfl ?_
                show Steps p.tables e below (s₁.setTop (mkF m 70 #[.val (.ref x0), .val (.int x1), .val (.int x2), .val (.int x3), .val (.int (if (L.getD ((x1 - (1 : Int32))).toNatClampNeg 0) = (10 : Int32) then (if (L.getD ((x1 - (2 : Int32))).toNatClampNeg 0) = (10 : Int32) then (1 : Int32) else (0 : Int32)) else (0 : Int32))), .unset] [(.int x1), (.ref x0)])) _
                refine XS.iconst X0.here hx rfl (hb hby d2_70) ?_
                show Steps p.tables e below (s₁.setTop (mkF m 71 #[.val (.ref x0), .val (.int x1), .val (.int x2), .val (.int x3), .val (.int (if (L.getD ((x1 - (1 : Int32))).toNatClampNeg 0) = (10 : Int32) then (if (L.getD ((x1 - (2 : Int32))).toNatClampNeg 0) = (10 : Int32) then (1 : Int32) else (0 : Int32)) else (0 : Int32))), .unset] [(.int (3 : Int32)), (.int x1), (.ref x0)])) _
                refine XS.isub X0.here hx rfl (hb hby d2_71) rfl ?_
                obtain ⟨cl19, Ar19, q19, S19, N19, H19, G19⟩ := id A_x
                have hin19 : ¬ ((x1 - (3 : Int32)) < 0 ∨ cl19.slots.size ≤ ((x1 - (3 : Int32))).toNatClampNeg) := inb_of S19 (own_ix x1 3 3 ⟨own_ge3 x1 hc14, hp.2⟩ (by decide))
                have hat19 : cl19.slots[((x1 - (3 : Int32))).toNatClampNeg]? = some (.int (L.getD ((x1 - (3 : Int32))).toNatClampNeg 0)) := H19.at hin19 (own_getI L _)
                show Steps p.tables e below (s₁.setTop (mkF m 72 #[.val (.ref x0), .val (.int x1), .val (.int x2), .val (.int x3), .val (.int (if (L.getD ((x1 - (1 : Int32))).toNatClampNeg 0) = (10 : Int32) then (if (L.getD ((x1 - (2 : Int32))).toNatClampNeg 0) = (10 : Int32) then (1 : Int32) else (0 : Int32)) else (0 : Int32))), .unset] [(.int (x1 - (3 : Int32))), (.ref x0)])) _
                refine X0.baloadBytes hx (j := (x1 - (3 : Int32))) (v := (.int (L.getD ((x1 - (3 : Int32))).toNatClampNeg 0))) (by rw [e0]; exact Ar19.1) (State.isArrayOf_alike hZ.alike Ar19.2.1) Ar19.2.2 hin19 hat19 (g := (mkF m 72 #[.val (.ref x0), .val (.int x1), .val (.int x2), .val (.int x3), .val (.int (if (L.getD ((x1 - (1 : Int32))).toNatClampNeg 0) = (10 : Int32) then (if (L.getD ((x1 - (2 : Int32))).toNatClampNeg 0) = (10 : Int32) then (1 : Int32) else (0 : Int32)) else (0 : Int32))), .unset] [(.int (x1 - (3 : Int32))), (.ref x0)])) rfl rfl (hb hby d2_72) _ ?_
                show Steps p.tables e below (s₁.setTop (mkF m 73 #[.val (.ref x0), .val (.int x1), .val (.int x2), .val (.int x3), .val (.int (if (L.getD ((x1 - (1 : Int32))).toNatClampNeg 0) = (10 : Int32) then (if (L.getD ((x1 - (2 : Int32))).toNatClampNeg 0) = (10 : Int32) then (1 : Int32) else (0 : Int32)) else (0 : Int32))), .unset] [(.int (L.getD ((x1 - (3 : Int32))).toNatClampNeg 0))])) _
                refine XS.bipush X0.here hx rfl (hb hby d2_73) ?_
                show Steps p.tables e below (s₁.setTop (mkF m 75 #[.val (.ref x0), .val (.int x1), .val (.int x2), .val (.int x3), .val (.int (if (L.getD ((x1 - (1 : Int32))).toNatClampNeg 0) = (10 : Int32) then (if (L.getD ((x1 - (2 : Int32))).toNatClampNeg 0) = (10 : Int32) then (1 : Int32) else (0 : Int32)) else (0 : Int32))), .unset] [(.int (10 : Int32)), (.int (L.getD ((x1 - (3 : Int32))).toNatClampNeg 0))])) _
                by_cases hc20 : (L.getD ((x1 - (3 : Int32))).toNatClampNeg 0) = (10 : Int32)
                · show Steps p.tables e below (s₁.setTop (mkF m 75 #[.val (.ref x0), .val (.int x1), .val (.int x2), .val (.int x3), .val (.int (if (L.getD ((x1 - (1 : Int32))).toNatClampNeg 0) = (10 : Int32) then (if (L.getD ((x1 - (2 : Int32))).toNatClampNeg 0) = (10 : Int32) then (1 : Int32) else (0 : Int32)) else (0 : Int32))), .unset] [(.int (10 : Int32)), (.int (L.getD ((x1 - (3 : Int32))).toNatClampNeg 0))])) _
                  refine XS.icmpNo X0.here hx rfl (hb hby d2_75) rfl (teq hc20).2 ?_
                  show Steps p.tables e below (s₁.setTop (mkF m 78 #[.val (.ref x0), .val (.int x1), .val (.int x2), .val (.int x3), .val (.int (if (L.getD ((x1 - (1 : Int32))).toNatClampNeg 0) = (10 : Int32) then (if (L.getD ((x1 - (2 : Int32))).toNatClampNeg 0) = (10 : Int32) then (1 : Int32) else (0 : Int32)) else (0 : Int32))), .unset] [])) _
                  refine XS.iconst X0.here hx rfl (hb hby d2_78) ?_
                  show Steps p.tables e below (s₁.setTop (mkF m 79 #[.val (.ref x0), .val (.int x1), .val (.int x2), .val (.int x3), .val (.int (if (L.getD ((x1 - (1 : Int32))).toNatClampNeg 0) = (10 : Int32) then (if (L.getD ((x1 - (2 : Int32))).toNatClampNeg 0) = (10 : Int32) then (1 : Int32) else (0 : Int32)) else (0 : Int32))), .unset] [(.int (1 : Int32))])) _
                  refine XS.goto X0.here hx rfl (pc0 := 79) (pc' := 83) rfl (hb hby d2_79) (by decide) (by decide) ?_
                  simp only [if_neg hc14, if_pos hc16, if_pos hc18, if_pos hc20]
                  exact Steps.refl _
                · show Steps p.tables e below (s₁.setTop (mkF m 75 #[.val (.ref x0), .val (.int x1), .val (.int x2), .val (.int x3), .val (.int (if (L.getD ((x1 - (1 : Int32))).toNatClampNeg 0) = (10 : Int32) then (if (L.getD ((x1 - (2 : Int32))).toNatClampNeg 0) = (10 : Int32) then (1 : Int32) else (0 : Int32)) else (0 : Int32))), .unset] [(.int (10 : Int32)), (.int (L.getD ((x1 - (3 : Int32))).toNatClampNeg 0))])) _
                  refine XS.icmpYes X0.here hx rfl (pc0 := 75) (pc' := 82) rfl (hb hby d2_75) rfl (feq hc20).2 (by decide) (by decide) ?_
                  show Steps p.tables e below (s₁.setTop (mkF m 82 #[.val (.ref x0), .val (.int x1), .val (.int x2), .val (.int x3), .val (.int (if (L.getD ((x1 - (1 : Int32))).toNatClampNeg 0) = (10 : Int32) then (if (L.getD ((x1 - (2 : Int32))).toNatClampNeg 0) = (10 : Int32) then (1 : Int32) else (0 : Int32)) else (0 : Int32))), .unset] [])) _
                  refine XS.iconst X0.here hx rfl (hb hby d2_82) ?_
                  simp only [if_neg hc14, if_pos hc16, if_pos hc18, if_neg hc20]
                  exact Steps.refl _
              · show Steps p.tables e below (s₁.setTop (mkF m 65 #[.val (.ref x0), .val (.int x1), .val (.int x2), .val (.int x3), .val (.int (if (L.getD ((x1 - (1 : Int32))).toNatClampNeg 0) = (10 : Int32) then (if (L.getD ((x1 - (2 : Int32))).toNatClampNeg 0) = (10 : Int32) then (1 : Int32) else (0 : Int32)) else (0 : Int32))), .unset] [(.int (13 : Int32)), (.int (L.getD ((x1 - (2 : Int32))).toNatClampNeg 0))])) _
                refine XS.icmpYes X0.here hx rfl (pc0 := 65) (pc' := 82) rfl (hb hby d2_65) rfl (feq hc18).2 (by decide) (by decide) ?_
                show Steps p.tables e below (s₁.setTop (mkF m 82 #[.val (.ref x0), .val (.int x1), .val (.int x2), .val (.int x3), .val (.int (if (L.getD ((x1 - (1 : Int32))).toNatClampNeg 0) = (10 : Int32) then (if (L.getD ((x1 - (2 : Int32))).toNatClampNeg 0) = (10 : Int32) then (1 : Int32) else (0 : Int32)) else (0 : Int32))), .unset] [])) _
                refine XS.iconst X0.here hx rfl (hb hby d2_82) ?_
                simp only [if_neg hc14, if_pos hc16, if_neg hc18]
                exact Steps.refl _
            · show Steps p.tables e below (s₁.setTop (mkF m 55 #[.val (.ref x0), .val (.int x1), .val (.int x2), .val (.int x3), .val (.int (if (L.getD ((x1 - (1 : Int32))).toNatClampNeg 0) = (10 : Int32) then (if (L.getD ((x1 - (2 : Int32))).toNatClampNeg 0) = (10 : Int32) then (1 : Int32) else (0 : Int32)) else (0 : Int32))), .unset] [(.int (10 : Int32)), (.int (L.getD ((x1 - (1 : Int32))).toNatClampNeg 0))])) _
              refine XS.icmpYes X0.here hx rfl (pc0 := 55) (pc' := 82) rfl (hb hby d2_55) rfl (feq hc16).2 (by decide) (by decide) ?_
              show Steps p.tables e below (s₁.setTop (mkF m 82 #[.val (.ref x0), .val (.int x1), .val (.int x2), .val (.int x3), .val (.int (if (L.getD ((x1 - (1 : Int32))).toNatClampNeg 0) = (10 : Int32) then (if (L.getD ((x1 - (2 : Int32))).toNatClampNeg 0) = (10 : Int32) then (1 : Int32) else (0 : Int32)) else (0 : Int32))), .unset] [])) _
              refine XS.iconst X0.here hx rfl (hb hby d2_82) ?_
              simp only [if_neg hc14, if_neg hc16]
              exact Steps.refl _
          )
      have st22 : Steps p.tables e below (s₁.setTop (entryFrame m #[(.ref x0), (.int x1), (.int x2), (.int x3)] 6)) (s₁.setTop (mkF m 87 #[.val (.ref x0), .val (.int x1), .val (.int x2), .val (.int x3), .val (.int (if (L.getD ((x1 - (1 : Int32))).toNatClampNeg 0) = (10 : Int32) then (if (L.getD ((x1 - (2 : Int32))).toNatClampNeg 0) = (10 : Int32) then (1 : Int32) else (0 : Int32)) else (0 : Int32))), .val (.int (if x1 < (3 : Int32) then (0 : Int32) else (if (L.getD ((x1 - (1 : Int32))).toNatClampNeg 0) = (10 : Int32) then (if (L.getD ((x1 - (2 : Int32))).toNatClampNeg 0) = (13 : Int32) then (if (L.getD ((x1 - (3 : Int32))).toNatClampNeg 0) = (10 : Int32) then (1 : Int32) else (0 : Int32)) else (0 : Int32)) else (0 : Int32))))] [(.int (if (L.getD ((x1 - (1 : Int32))).toNatClampNeg 0) = (10 : Int32) then (if (L.getD ((x1 - (2 : Int32))).toNatClampNeg 0) = (10 : Int32) then (1 : Int32) else (0 : Int32)) else (0 : Int32)))])) := st21.trans (by
          show Steps p.tables e below (s₁.setTop (mkF m 83 #[.val (.ref x0), .val (.int x1), .val (.int x2), .val (.int x3), .val (.int (if (L.getD ((x1 - (1 : Int32))).toNatClampNeg 0) = (10 : Int32) then (if (L.getD ((x1 - (2 : Int32))).toNatClampNeg 0) = (10 : Int32) then (1 : Int32) else (0 : Int32)) else (0 : Int32))), .unset] [(.int (if x1 < (3 : Int32) then (0 : Int32) else (if (L.getD ((x1 - (1 : Int32))).toNatClampNeg 0) = (10 : Int32) then (if (L.getD ((x1 - (2 : Int32))).toNatClampNeg 0) = (13 : Int32) then (if (L.getD ((x1 - (3 : Int32))).toNatClampNeg 0) = (10 : Int32) then (1 : Int32) else (0 : Int32)) else (0 : Int32)) else (0 : Int32))))])) _
          refine XS.istore X0.here hx rfl (hb hby d2_83) rfl (l' := #[.val (.ref x0), .val (.int x1), .val (.int x2), .val (.int x3), .val (.int (if (L.getD ((x1 - (1 : Int32))).toNatClampNeg 0) = (10 : Int32) then (if (L.getD ((x1 - (2 : Int32))).toNatClampNeg 0) = (10 : Int32) then (1 : Int32) else (0 : Int32)) else (0 : Int32))), .val (.int (if x1 < (3 : Int32) then (0 : Int32) else (if (L.getD ((x1 - (1 : Int32))).toNatClampNeg 0) = (10 : Int32) then (if (L.getD ((x1 - (2 : Int32))).toNatClampNeg 0) = (13 : Int32) then (if (L.getD ((x1 - (3 : Int32))).toNatClampNeg 0) = (10 : Int32) then (1 : Int32) else (0 : Int32)) else (0 : Int32)) else (0 : Int32))))]) rfl ?_
          show Steps p.tables e below (s₁.setTop (mkF m 85 #[.val (.ref x0), .val (.int x1), .val (.int x2), .val (.int x3), .val (.int (if (L.getD ((x1 - (1 : Int32))).toNatClampNeg 0) = (10 : Int32) then (if (L.getD ((x1 - (2 : Int32))).toNatClampNeg 0) = (10 : Int32) then (1 : Int32) else (0 : Int32)) else (0 : Int32))), .val (.int (if x1 < (3 : Int32) then (0 : Int32) else (if (L.getD ((x1 - (1 : Int32))).toNatClampNeg 0) = (10 : Int32) then (if (L.getD ((x1 - (2 : Int32))).toNatClampNeg 0) = (13 : Int32) then (if (L.getD ((x1 - (3 : Int32))).toNatClampNeg 0) = (10 : Int32) then (1 : Int32) else (0 : Int32)) else (0 : Int32)) else (0 : Int32))))] [])) _
          refine XS.iload X0.here hx rfl (hb hby d2_85) rfl ?_
          exact Steps.refl _)
      by_cases hc23 : (if (L.getD ((x1 - (1 : Int32))).toNatClampNeg 0) = (10 : Int32) then (if (L.getD ((x1 - (2 : Int32))).toNatClampNeg 0) = (10 : Int32) then (1 : Int32) else (0 : Int32)) else (0 : Int32)) = (0 : Int32)
      · have st24 : Steps p.tables e below (s₁.setTop (entryFrame m #[(.ref x0), (.int x1), (.int x2), (.int x3)] 6)) (s₁.setTop (mkF m 92 #[.val (.ref x0), .val (.int x1), .val (.int x2), .val (.int x3), .val (.int (if (L.getD ((x1 - (1 : Int32))).toNatClampNeg 0) = (10 : Int32) then (if (L.getD ((x1 - (2 : Int32))).toNatClampNeg 0) = (10 : Int32) then (1 : Int32) else (0 : Int32)) else (0 : Int32))), .val (.int (if x1 < (3 : Int32) then (0 : Int32) else (if (L.getD ((x1 - (1 : Int32))).toNatClampNeg 0) = (10 : Int32) then (if (L.getD ((x1 - (2 : Int32))).toNatClampNeg 0) = (13 : Int32) then (if (L.getD ((x1 - (3 : Int32))).toNatClampNeg 0) = (10 : Int32) then (1 : Int32) else (0 : Int32)) else (0 : Int32)) else (0 : Int32))))] [(.int (if x1 < (3 : Int32) then (0 : Int32) else (if (L.getD ((x1 - (1 : Int32))).toNatClampNeg 0) = (10 : Int32) then (if (L.getD ((x1 - (2 : Int32))).toNatClampNeg 0) = (13 : Int32) then (if (L.getD ((x1 - (3 : Int32))).toNatClampNeg 0) = (10 : Int32) then (1 : Int32) else (0 : Int32)) else (0 : Int32)) else (0 : Int32))))])) := st22.trans (by
            show Steps p.tables e below (s₁.setTop (mkF m 87 #[.val (.ref x0), .val (.int x1), .val (.int x2), .val (.int x3), .val (.int (if (L.getD ((x1 - (1 : Int32))).toNatClampNeg 0) = (10 : Int32) then (if (L.getD ((x1 - (2 : Int32))).toNatClampNeg 0) = (10 : Int32) then (1 : Int32) else (0 : Int32)) else (0 : Int32))), .val (.int (if x1 < (3 : Int32) then (0 : Int32) else (if (L.getD ((x1 - (1 : Int32))).toNatClampNeg 0) = (10 : Int32) then (if (L.getD ((x1 - (2 : Int32))).toNatClampNeg 0) = (13 : Int32) then (if (L.getD ((x1 - (3 : Int32))).toNatClampNeg 0) = (10 : Int32) then (1 : Int32) else (0 : Int32)) else (0 : Int32)) else (0 : Int32))))] [(.int (if (L.getD ((x1 - (1 : Int32))).toNatClampNeg 0) = (10 : Int32) then (if (L.getD ((x1 - (2 : Int32))).toNatClampNeg 0) = (10 : Int32) then (1 : Int32) else (0 : Int32)) else (0 : Int32)))])) _
            refine XS.ifNo X0.here hx rfl (hb hby d2_87) rfl ((if0 _ _).trans (teq hc23).2) ?_
            show Steps p.tables e below (s₁.setTop (mkF m 90 #[.val (.ref x0), .val (.int x1), .val (.int x2), .val (.int x3), .val (.int (if (L.getD ((x1 - (1 : Int32))).toNatClampNeg 0) = (10 : Int32) then (if (L.getD ((x1 - (2 : Int32))).toNatClampNeg 0) = (10 : Int32) then (1 : Int32) else (0 : Int32)) else (0 : Int32))), .val (.int (if x1 < (3 : Int32) then (0 : Int32) else (if (L.getD ((x1 - (1 : Int32))).toNatClampNeg 0) = (10 : Int32) then (if (L.getD ((x1 - (2 : Int32))).toNatClampNeg 0) = (13 : Int32) then (if (L.getD ((x1 - (3 : Int32))).toNatClampNeg 0) = (10 : Int32) then (1 : Int32) else (0 : Int32)) else (0 : Int32)) else (0 : Int32))))] [])) _
            refine XS.iload X0.here hx rfl (hb hby d2_90) rfl ?_
            exact Steps.refl _)
        by_cases hc25 : (if x1 < (3 : Int32) then (0 : Int32) else (if (L.getD ((x1 - (1 : Int32))).toNatClampNeg 0) = (10 : Int32) then (if (L.getD ((x1 - (2 : Int32))).toNatClampNeg 0) = (13 : Int32) then (if (L.getD ((x1 - (3 : Int32))).toNatClampNeg 0) = (10 : Int32) then (1 : Int32) else (0 : Int32)) else (0 : Int32)) else (0 : Int32))) = (0 : Int32)
        · have st26 : Steps p.tables e below (s₁.setTop (entryFrame m #[(.ref x0), (.int x1), (.int x2), (.int x3)] 6)) (s₁.setTop (mkF m 100 #[.val (.ref x0), .val (.int x1), .val (.int x2), .val (.int x3), .val (.int (if (L.getD ((x1 - (1 : Int32))).toNatClampNeg 0) = (10 : Int32) then (if (L.getD ((x1 - (2 : Int32))).toNatClampNeg 0) = (10 : Int32) then (1 : Int32) else (0 : Int32)) else (0 : Int32))), .val (.int (if x1 < (3 : Int32) then (0 : Int32) else (if (L.getD ((x1 - (1 : Int32))).toNatClampNeg 0) = (10 : Int32) then (if (L.getD ((x1 - (2 : Int32))).toNatClampNeg 0) = (13 : Int32) then (if (L.getD ((x1 - (3 : Int32))).toNatClampNeg 0) = (10 : Int32) then (1 : Int32) else (0 : Int32)) else (0 : Int32)) else (0 : Int32))))] [(.int (0 : Int32))])) := st24.trans (by
              show Steps p.tables e below (s₁.setTop (mkF m 92 #[.val (.ref x0), .val (.int x1), .val (.int x2), .val (.int x3), .val (.int (if (L.getD ((x1 - (1 : Int32))).toNatClampNeg 0) = (10 : Int32) then (if (L.getD ((x1 - (2 : Int32))).toNatClampNeg 0) = (10 : Int32) then (1 : Int32) else (0 : Int32)) else (0 : Int32))), .val (.int (if x1 < (3 : Int32) then (0 : Int32) else (if (L.getD ((x1 - (1 : Int32))).toNatClampNeg 0) = (10 : Int32) then (if (L.getD ((x1 - (2 : Int32))).toNatClampNeg 0) = (13 : Int32) then (if (L.getD ((x1 - (3 : Int32))).toNatClampNeg 0) = (10 : Int32) then (1 : Int32) else (0 : Int32)) else (0 : Int32)) else (0 : Int32))))] [(.int (if x1 < (3 : Int32) then (0 : Int32) else (if (L.getD ((x1 - (1 : Int32))).toNatClampNeg 0) = (10 : Int32) then (if (L.getD ((x1 - (2 : Int32))).toNatClampNeg 0) = (13 : Int32) then (if (L.getD ((x1 - (3 : Int32))).toNatClampNeg 0) = (10 : Int32) then (1 : Int32) else (0 : Int32)) else (0 : Int32)) else (0 : Int32))))])) _
              refine XS.ifYes X0.here hx rfl (pc0 := 92) (pc' := 99) rfl (hb hby d2_92) rfl ((if0 _ _).trans (teq hc25).1) (by decide) (by decide) ?_
              show Steps p.tables e below (s₁.setTop (mkF m 99 #[.val (.ref x0), .val (.int x1), .val (.int x2), .val (.int x3), .val (.int (if (L.getD ((x1 - (1 : Int32))).toNatClampNeg 0) = (10 : Int32) then (if (L.getD ((x1 - (2 : Int32))).toNatClampNeg 0) = (10 : Int32) then (1 : Int32) else (0 : Int32)) else (0 : Int32))), .val (.int (if x1 < (3 : Int32) then (0 : Int32) else (if (L.getD ((x1 - (1 : Int32))).toNatClampNeg 0) = (10 : Int32) then (if (L.getD ((x1 - (2 : Int32))).toNatClampNeg 0) = (13 : Int32) then (if (L.getD ((x1 - (3 : Int32))).toNatClampNeg 0) = (10 : Int32) then (1 : Int32) else (0 : Int32)) else (0 : Int32)) else (0 : Int32))))] [])) _
              refine XS.iconst X0.here hx rfl (hb hby d2_99) ?_
              exact Steps.refl _)
          obtain ⟨fs, hr, hrun, hended, hW, hsame⟩ := X0.leave (v := some (.int (0 : Int32))) (fun h => by rw [Bd.returns] at h; cases h)
          refine ⟨_, _, st26.trans ?_, hrun, hended, _, _, rfl, ?_, ⟨_, rfl⟩, hW, hsame.mono (by decide) (by decide)⟩
          · exact retN X0 hx (t := .boolean) Bd.returns (by simp) (hb hby d2_100) hr
          · show Q2 Z x0 x1 x2 x3 ka L h0 n0 _ s₁.heap _
            rw [e0]
            exact ⟨by rw [F2, if_neg hc2, if_neg hc5, if_pos hc23, if_pos hc25], N0, rfl⟩
        · have st27 : Steps p.tables e below (s₁.setTop (entryFrame m #[(.ref x0), (.int x1), (.int x2), (.int x3)] 6)) (s₁.setTop (mkF m 100 #[.val (.ref x0), .val (.int x1), .val (.int x2), .val (.int x3), .val (.int (if (L.getD ((x1 - (1 : Int32))).toNatClampNeg 0) = (10 : Int32) then (if (L.getD ((x1 - (2 : Int32))).toNatClampNeg 0) = (10 : Int32) then (1 : Int32) else (0 : Int32)) else (0 : Int32))), .val (.int (if x1 < (3 : Int32) then (0 : Int32) else (if (L.getD ((x1 - (1 : Int32))).toNatClampNeg 0) = (10 : Int32) then (if (L.getD ((x1 - (2 : Int32))).toNatClampNeg 0) = (13 : Int32) then (if (L.getD ((x1 - (3 : Int32))).toNatClampNeg 0) = (10 : Int32) then (1 : Int32) else (0 : Int32)) else (0 : Int32)) else (0 : Int32))))] [(.int (1 : Int32))])) := st24.trans (by
              show Steps p.tables e below (s₁.setTop (mkF m 92 #[.val (.ref x0), .val (.int x1), .val (.int x2), .val (.int x3), .val (.int (if (L.getD ((x1 - (1 : Int32))).toNatClampNeg 0) = (10 : Int32) then (if (L.getD ((x1 - (2 : Int32))).toNatClampNeg 0) = (10 : Int32) then (1 : Int32) else (0 : Int32)) else (0 : Int32))), .val (.int (if x1 < (3 : Int32) then (0 : Int32) else (if (L.getD ((x1 - (1 : Int32))).toNatClampNeg 0) = (10 : Int32) then (if (L.getD ((x1 - (2 : Int32))).toNatClampNeg 0) = (13 : Int32) then (if (L.getD ((x1 - (3 : Int32))).toNatClampNeg 0) = (10 : Int32) then (1 : Int32) else (0 : Int32)) else (0 : Int32)) else (0 : Int32))))] [(.int (if x1 < (3 : Int32) then (0 : Int32) else (if (L.getD ((x1 - (1 : Int32))).toNatClampNeg 0) = (10 : Int32) then (if (L.getD ((x1 - (2 : Int32))).toNatClampNeg 0) = (13 : Int32) then (if (L.getD ((x1 - (3 : Int32))).toNatClampNeg 0) = (10 : Int32) then (1 : Int32) else (0 : Int32)) else (0 : Int32)) else (0 : Int32))))])) _
              refine XS.ifNo X0.here hx rfl (hb hby d2_92) rfl ((if0 _ _).trans (feq hc25).1) ?_
              show Steps p.tables e below (s₁.setTop (mkF m 95 #[.val (.ref x0), .val (.int x1), .val (.int x2), .val (.int x3), .val (.int (if (L.getD ((x1 - (1 : Int32))).toNatClampNeg 0) = (10 : Int32) then (if (L.getD ((x1 - (2 : Int32))).toNatClampNeg 0) = (10 : Int32) then (1 : Int32) else (0 : Int32)) else (0 : Int32))), .val (.int (if x1 < (3 : Int32) then (0 : Int32) else (if (L.getD ((x1 - (1 : Int32))).toNatClampNeg 0) = (10 : Int32) then (if (L.getD ((x1 - (2 : Int32))).toNatClampNeg 0) = (13 : Int32) then (if (L.getD ((x1 - (3 : Int32))).toNatClampNeg 0) = (10 : Int32) then (1 : Int32) else (0 : Int32)) else (0 : Int32)) else (0 : Int32))))] [])) _
              refine XS.iconst X0.here hx rfl (hb hby d2_95) ?_
              show Steps p.tables e below (s₁.setTop (mkF m 96 #[.val (.ref x0), .val (.int x1), .val (.int x2), .val (.int x3), .val (.int (if (L.getD ((x1 - (1 : Int32))).toNatClampNeg 0) = (10 : Int32) then (if (L.getD ((x1 - (2 : Int32))).toNatClampNeg 0) = (10 : Int32) then (1 : Int32) else (0 : Int32)) else (0 : Int32))), .val (.int (if x1 < (3 : Int32) then (0 : Int32) else (if (L.getD ((x1 - (1 : Int32))).toNatClampNeg 0) = (10 : Int32) then (if (L.getD ((x1 - (2 : Int32))).toNatClampNeg 0) = (13 : Int32) then (if (L.getD ((x1 - (3 : Int32))).toNatClampNeg 0) = (10 : Int32) then (1 : Int32) else (0 : Int32)) else (0 : Int32)) else (0 : Int32))))] [(.int (1 : Int32))])) _
              refine XS.goto X0.here hx rfl (pc0 := 96) (pc' := 100) rfl (hb hby d2_96) (by decide) (by decide) ?_
              exact Steps.refl _)
          obtain ⟨fs, hr, hrun, hended, hW, hsame⟩ := X0.leave (v := some (.int (1 : Int32))) (fun h => by rw [Bd.returns] at h; cases h)
          refine ⟨_, _, st27.trans ?_, hrun, hended, _, _, rfl, ?_, ⟨_, rfl⟩, hW, hsame.mono (by decide) (by decide)⟩
          · exact retN X0 hx (t := .boolean) Bd.returns (by simp) (hb hby d2_100) hr
          · show Q2 Z x0 x1 x2 x3 ka L h0 n0 _ s₁.heap _
            rw [e0]
            exact ⟨by rw [F2, if_neg hc2, if_neg hc5, if_pos hc23, if_neg hc25], N0, rfl⟩
      · have st28 : Steps p.tables e below (s₁.setTop (entryFrame m #[(.ref x0), (.int x1), (.int x2), (.int x3)] 6)) (s₁.setTop (mkF m 100 #[.val (.ref x0), .val (.int x1), .val (.int x2), .val (.int x3), .val (.int (if (L.getD ((x1 - (1 : Int32))).toNatClampNeg 0) = (10 : Int32) then (if (L.getD ((x1 - (2 : Int32))).toNatClampNeg 0) = (10 : Int32) then (1 : Int32) else (0 : Int32)) else (0 : Int32))), .val (.int (if x1 < (3 : Int32) then (0 : Int32) else (if (L.getD ((x1 - (1 : Int32))).toNatClampNeg 0) = (10 : Int32) then (if (L.getD ((x1 - (2 : Int32))).toNatClampNeg 0) = (13 : Int32) then (if (L.getD ((x1 - (3 : Int32))).toNatClampNeg 0) = (10 : Int32) then (1 : Int32) else (0 : Int32)) else (0 : Int32)) else (0 : Int32))))] [(.int (1 : Int32))])) := st22.trans (by
            show Steps p.tables e below (s₁.setTop (mkF m 87 #[.val (.ref x0), .val (.int x1), .val (.int x2), .val (.int x3), .val (.int (if (L.getD ((x1 - (1 : Int32))).toNatClampNeg 0) = (10 : Int32) then (if (L.getD ((x1 - (2 : Int32))).toNatClampNeg 0) = (10 : Int32) then (1 : Int32) else (0 : Int32)) else (0 : Int32))), .val (.int (if x1 < (3 : Int32) then (0 : Int32) else (if (L.getD ((x1 - (1 : Int32))).toNatClampNeg 0) = (10 : Int32) then (if (L.getD ((x1 - (2 : Int32))).toNatClampNeg 0) = (13 : Int32) then (if (L.getD ((x1 - (3 : Int32))).toNatClampNeg 0) = (10 : Int32) then (1 : Int32) else (0 : Int32)) else (0 : Int32)) else (0 : Int32))))] [(.int (if (L.getD ((x1 - (1 : Int32))).toNatClampNeg 0) = (10 : Int32) then (if (L.getD ((x1 - (2 : Int32))).toNatClampNeg 0) = (10 : Int32) then (1 : Int32) else (0 : Int32)) else (0 : Int32)))])) _
            refine XS.ifYes X0.here hx rfl (pc0 := 87) (pc' := 95) rfl (hb hby d2_87) rfl ((if0 _ _).trans (feq hc23).2) (by decide) (by decide) ?_
            show Steps p.tables e below (s₁.setTop (mkF m 95 #[.val (.ref x0), .val (.int x1), .val (.int x2), .val (.int x3), .val (.int (if (L.getD ((x1 - (1 : Int32))).toNatClampNeg 0) = (10 : Int32) then (if (L.getD ((x1 - (2 : Int32))).toNatClampNeg 0) = (10 : Int32) then (1 : Int32) else (0 : Int32)) else (0 : Int32))), .val (.int (if x1 < (3 : Int32) then (0 : Int32) else (if (L.getD ((x1 - (1 : Int32))).toNatClampNeg 0) = (10 : Int32) then (if (L.getD ((x1 - (2 : Int32))).toNatClampNeg 0) = (13 : Int32) then (if (L.getD ((x1 - (3 : Int32))).toNatClampNeg 0) = (10 : Int32) then (1 : Int32) else (0 : Int32)) else (0 : Int32)) else (0 : Int32))))] [])) _
            refine XS.iconst X0.here hx rfl (hb hby d2_95) ?_
            show Steps p.tables e below (s₁.setTop (mkF m 96 #[.val (.ref x0), .val (.int x1), .val (.int x2), .val (.int x3), .val (.int (if (L.getD ((x1 - (1 : Int32))).toNatClampNeg 0) = (10 : Int32) then (if (L.getD ((x1 - (2 : Int32))).toNatClampNeg 0) = (10 : Int32) then (1 : Int32) else (0 : Int32)) else (0 : Int32))), .val (.int (if x1 < (3 : Int32) then (0 : Int32) else (if (L.getD ((x1 - (1 : Int32))).toNatClampNeg 0) = (10 : Int32) then (if (L.getD ((x1 - (2 : Int32))).toNatClampNeg 0) = (13 : Int32) then (if (L.getD ((x1 - (3 : Int32))).toNatClampNeg 0) = (10 : Int32) then (1 : Int32) else (0 : Int32)) else (0 : Int32)) else (0 : Int32))))] [(.int (1 : Int32))])) _
            refine XS.goto X0.here hx rfl (pc0 := 96) (pc' := 100) rfl (hb hby d2_96) (by decide) (by decide) ?_
            exact Steps.refl _)
        obtain ⟨fs, hr, hrun, hended, hW, hsame⟩ := X0.leave (v := some (.int (1 : Int32))) (fun h => by rw [Bd.returns] at h; cases h)
        refine ⟨_, _, st28.trans ?_, hrun, hended, _, _, rfl, ?_, ⟨_, rfl⟩, hW, hsame.mono (by decide) (by decide)⟩
        · exact retN X0 hx (t := .boolean) Bd.returns (by simp) (hb hby d2_100) hr
        · show Q2 Z x0 x1 x2 x3 ka L h0 n0 _ s₁.heap _
          rw [e0]
          exact ⟨by rw [F2, if_neg hc2, if_neg hc5, if_neg hc23], N0, rfl⟩
theorem own_st4 {a : Addr} {z1 z2 z3 v : Int32} {s4 : Slot} (h : One s4) : storeLocals #[.val (.ref a), .val (.int z1), .val (.int z2), .val (.int z3), s4] 4 (.int v) = some #[.val (.ref a), .val (.int z1), .val (.int z2), .val (.int z3), .val (.int v)] := by
  rcases h with rfl | ⟨w, rfl, hw⟩
  · rfl
  · cases w <;> first | rfl | (simp [Value.category] at hw)
theorem own_ix0 (p : Int32) (hp : 1 ≤ p.toInt ∧ p.toInt ≤ 5) : ¬ p < 0 ∧ p < (6 : Int32) := by
  have k0 : (0 : Int32).toInt = 0 := by decide
  have k6 : (6 : Int32).toInt = 6 := by decide
  rw [Int32.lt_iff_toInt_lt, Int32.lt_iff_toInt_lt]; omega
theorem own_ix1 (p j : Int32) (k : Int) (hp : k ≤ p.toInt ∧ p.toInt ≤ 5) (hk : 1 ≤ j.toInt ∧ j.toInt ≤ k) : ¬ (p - j) < 0 ∧ (p - j) < (6 : Int32) := own_ix p j k ⟨hp.1, by omega⟩ hk
theorem own_ge2 (p : Int32) (h : ¬ p < (2 : Int32)) : 2 ≤ p.toInt := by
  have k : (2 : Int32).toInt = 2 := by decide
  rw [Int32.lt_iff_toInt_lt] at h; omega
theorem d3_6 : decode prog_15_method_2_code 6 = .ok (.iload_n 3, 1) := by decide +kernel
theorem d3_7 : decode prog_15_method_2_code 7 = .ok (.iload_n 2, 1) := by decide +kernel
theorem d3_8 : decode prog_15_method_2_code 8 = .ok (.if_icmp .ge 71, 3) := by decide +kernel
theorem d3_79 : decode prog_15_method_2_code 79 = .ok (.iconst (-1), 1) := by decide +kernel
set_option maxRecDepth 65536 in
set_option maxHeartbeats 40000000 in
theorem own_rX {p : Program} {l : Launch} {e : Env} {R : Room} {s : State} {m : MethodId} {args : Array Value} {below : List Frame} {meth : Method} {c : Code} {T0 : State} {locs : List Loc} {cells slots : Nat} {Z : State} {a0 : Array Value} {h0 : Heap}
    (X0 : Stand p l e R s m args below meth c T0 locs cells slots) (hx : p.tables.exec = Jvm.exec) (hZ : Z.Warmed39 s.vm) (hw : ∀ d ∈ tables_1, d.before a0 Z = true) (hby : c.code = prog_15_method_2_code) (hml : c.maxLocals = 5) (hown : s.vm.findClass "com/example/persephone/persephone/executor/RequestHead" = some m.cls) (e0 : T0.heap = h0) (x0 : Addr) (x1 : Int32) (x2 : Int32) (ix : Int32) (s4 : Slot) (ka : ClassId) (L : List Int32) (hl : ¬ ix < x2) :
    Steps p.tables e below (T0.setTop (mkF m 6 #[.val (.ref x0), .val (.int x1), .val (.int x2), .val (.int ix), s4] [])) (T0.setTop (mkF m 80 #[.val (.ref x0), .val (.int x1), .val (.int x2), .val (.int ix), s4] [(.int (-1 : Int32))])) := by
  show Steps p.tables e below (T0.setTop (mkF m 6 #[.val (.ref x0), .val (.int x1), .val (.int x2), .val (.int ix), s4] [])) _
  refine XS.iloadN X0.here hx rfl (hb hby d3_6) rfl ?_
  show Steps p.tables e below (T0.setTop (mkF m 7 #[.val (.ref x0), .val (.int x1), .val (.int x2), .val (.int ix), s4] [(.int ix)])) _
  refine XS.iloadN X0.here hx rfl (hb hby d3_7) rfl ?_
  have hf1 : ¬ (ix < x2) := hl
  show Steps p.tables e below (T0.setTop (mkF m 8 #[.val (.ref x0), .val (.int x1), .val (.int x2), .val (.int ix), s4] [(.int x2), (.int ix)])) _
  refine XS.icmpYes X0.here hx rfl (pc0 := 8) (pc' := 79) rfl (hb hby d3_8) rfl (flt hf1).2.1 (by decide) (by decide) ?_
  show Steps p.tables e below (T0.setTop (mkF m 79 #[.val (.ref x0), .val (.int x1), .val (.int x2), .val (.int ix), s4] [])) _
  refine XS.iconst X0.here hx rfl (hb hby d3_79) ?_
  exact Steps.refl _
theorem d3_11 : decode prog_15_method_2_code 11 = .ok (.aload_n 0, 1) := by decide +kernel
theorem d3_12 : decode prog_15_method_2_code 12 = .ok (.iload_n 3, 1) := by decide +kernel
theorem d3_13 : decode prog_15_method_2_code 13 = .ok (.baload, 1) := by decide +kernel
theorem d3_14 : decode prog_15_method_2_code 14 = .ok (.bipush 10, 2) := by decide +kernel
theorem d3_16 : decode prog_15_method_2_code 16 = .ok (.if_icmp .eq 6, 3) := by decide +kernel
theorem d3_19 : decode prog_15_method_2_code 19 = .ok (.goto 54, 3) := by decide +kernel
theorem d3_73 : decode prog_15_method_2_code 73 = .ok (.iinc 3 1, 3) := by decide +kernel
theorem d3_76 : decode prog_15_method_2_code 76 = .ok (.goto (-70), 3) := by decide +kernel
set_option maxRecDepth 65536 in
set_option maxHeartbeats 40000000 in
theorem own_rA {p : Program} {l : Launch} {e : Env} {R : Room} {s : State} {m : MethodId} {args : Array Value} {below : List Frame} {meth : Method} {c : Code} {T0 : State} {locs : List Loc} {cells slots : Nat} {Z : State} {a0 : Array Value} {h0 : Heap}
    (X0 : Stand p l e R s m args below meth c T0 locs cells slots) (hx : p.tables.exec = Jvm.exec) (hZ : Z.Warmed39 s.vm) (hw : ∀ d ∈ tables_1, d.before a0 Z = true) (hby : c.code = prog_15_method_2_code) (hml : c.maxLocals = 5) (hown : s.vm.findClass "com/example/persephone/persephone/executor/RequestHead" = some m.cls) (e0 : T0.heap = h0) (x0 : Addr) (x1 : Int32) (x2 : Int32) (ix : Int32) (s4 : Slot) (ka : ClassId) (L : List Int32) (A_x : Arv Z h0 x0 ka .byte (6 : Int32) (List.map Value.int L) (.int (0 : Int32))) (hi : 1 ≤ ix.toInt ∧ ix.toInt ≤ 5) (hs : One s4) (hl : ix < x2) (h0 : ¬ (L.getD (ix).toNatClampNeg 0) = (10 : Int32)) :
    Steps p.tables e below (T0.setTop (mkF m 6 #[.val (.ref x0), .val (.int x1), .val (.int x2), .val (.int ix), s4] [])) (T0.setTop (mkF m 6 #[.val (.ref x0), .val (.int x1), .val (.int x2), .val (.int (ix + (1 : Int32))), s4] [])) := by
  show Steps p.tables e below (T0.setTop (mkF m 6 #[.val (.ref x0), .val (.int x1), .val (.int x2), .val (.int ix), s4] [])) _
  refine XS.iloadN X0.here hx rfl (hb hby d3_6) rfl ?_
  show Steps p.tables e below (T0.setTop (mkF m 7 #[.val (.ref x0), .val (.int x1), .val (.int x2), .val (.int ix), s4] [(.int ix)])) _
  refine XS.iloadN X0.here hx rfl (hb hby d3_7) rfl ?_
  have hf1 : ix < x2 := hl
  show Steps p.tables e below (T0.setTop (mkF m 8 #[.val (.ref x0), .val (.int x1), .val (.int x2), .val (.int ix), s4] [(.int x2), (.int ix)])) _
  refine XS.icmpNo X0.here hx rfl (hb hby d3_8) rfl (tlt hf1).2.1 ?_
  show Steps p.tables e below (T0.setTop (mkF m 11 #[.val (.ref x0), .val (.int x1), .val (.int x2), .val (.int ix), s4] [])) _
  refine XS.aloadN X0.here hx rfl (hb hby d3_11) rfl rfl ?_
  show Steps p.tables e below (T0.setTop (mkF m 12 #[.val (.ref x0), .val (.int x1), .val (.int x2), .val (.int ix), s4] [(.ref x0)])) _
  refine XS.iloadN X0.here hx rfl (hb hby d3_12) rfl ?_
  obtain ⟨cl2, Ar2, q2, S2, N2, H2, G2⟩ := id A_x
  have hin2 : ¬ (ix < 0 ∨ cl2.slots.size ≤ (ix).toNatClampNeg) := inb_of S2 (own_ix0 ix hi)
  have hat2 : cl2.slots[(ix).toNatClampNeg]? = some (.int (L.getD (ix).toNatClampNeg 0)) := H2.at hin2 (own_getI L _)
  show Steps p.tables e below (T0.setTop (mkF m 13 #[.val (.ref x0), .val (.int x1), .val (.int x2), .val (.int ix), s4] [(.int ix), (.ref x0)])) _
  refine X0.baloadBytes hx (j := ix) (v := (.int (L.getD (ix).toNatClampNeg 0))) (by rw [e0]; exact Ar2.1) (State.isArrayOf_alike hZ.alike Ar2.2.1) Ar2.2.2 hin2 hat2 (g := (mkF m 13 #[.val (.ref x0), .val (.int x1), .val (.int x2), .val (.int ix), s4] [(.int ix), (.ref x0)])) rfl rfl (hb hby d3_13) _ ?_
  show Steps p.tables e below (T0.setTop (mkF m 14 #[.val (.ref x0), .val (.int x1), .val (.int x2), .val (.int ix), s4] [(.int (L.getD (ix).toNatClampNeg 0))])) _
  refine XS.bipush X0.here hx rfl (hb hby d3_14) ?_
  have hf3 : ¬ ((L.getD (ix).toNatClampNeg 0) = (10 : Int32)) := h0
  show Steps p.tables e below (T0.setTop (mkF m 16 #[.val (.ref x0), .val (.int x1), .val (.int x2), .val (.int ix), s4] [(.int (10 : Int32)), (.int (L.getD (ix).toNatClampNeg 0))])) _
  refine XS.icmpNo X0.here hx rfl (hb hby d3_16) rfl (feq hf3).1 ?_
  show Steps p.tables e below (T0.setTop (mkF m 19 #[.val (.ref x0), .val (.int x1), .val (.int x2), .val (.int ix), s4] [])) _
  refine XS.goto X0.here hx rfl (pc0 := 19) (pc' := 73) rfl (hb hby d3_19) (by decide) (by decide) ?_
  show Steps p.tables e below (T0.setTop (mkF m 73 #[.val (.ref x0), .val (.int x1), .val (.int x2), .val (.int ix), s4] [])) _
  refine XS.iinc X0.here hx rfl (hb hby d3_73) rfl (l' := #[.val (.ref x0), .val (.int x1), .val (.int x2), .val (.int (ix + (1 : Int32))), s4]) rfl ?_
  show Steps p.tables e below (T0.setTop (mkF m 76 #[.val (.ref x0), .val (.int x1), .val (.int x2), .val (.int (ix + (1 : Int32))), s4] [])) _
  refine XS.goto X0.here hx rfl (pc0 := 76) (pc' := 6) rfl (hb hby d3_76) (by decide) (by decide) ?_
  exact Steps.refl _
theorem d3_22 : decode prog_15_method_2_code 22 = .ok (.aload_n 0, 1) := by decide +kernel
theorem d3_23 : decode prog_15_method_2_code 23 = .ok (.iload_n 3, 1) := by decide +kernel
theorem d3_24 : decode prog_15_method_2_code 24 = .ok (.iconst 1, 1) := by decide +kernel
theorem d3_25 : decode prog_15_method_2_code 25 = .ok (.isub, 1) := by decide +kernel
theorem d3_26 : decode prog_15_method_2_code 26 = .ok (.baload, 1) := by decide +kernel
theorem d3_27 : decode prog_15_method_2_code 27 = .ok (.bipush 10, 2) := by decide +kernel
theorem d3_29 : decode prog_15_method_2_code 29 = .ok (.if_icmp .eq 28, 3) := by decide +kernel
theorem d3_57 : decode prog_15_method_2_code 57 = .ok (.iconst 1, 1) := by decide +kernel
theorem d3_58 : decode prog_15_method_2_code 58 = .ok (.goto 4, 3) := by decide +kernel
theorem d3_62 : decode prog_15_method_2_code 62 = .ok (.istore 4, 2) := by decide +kernel
theorem d3_64 : decode prog_15_method_2_code 64 = .ok (.iload 4, 2) := by decide +kernel
theorem d3_66 : decode prog_15_method_2_code 66 = .ok (.ifCond .eq 7, 3) := by decide +kernel
theorem d3_69 : decode prog_15_method_2_code 69 = .ok (.iload_n 3, 1) := by decide +kernel
theorem d3_70 : decode prog_15_method_2_code 70 = .ok (.iconst 1, 1) := by decide +kernel
theorem d3_71 : decode prog_15_method_2_code 71 = .ok (.iadd, 1) := by decide +kernel
set_option maxRecDepth 65536 in
set_option maxHeartbeats 40000000 in
theorem own_rB {p : Program} {l : Launch} {e : Env} {R : Room} {s : State} {m : MethodId} {args : Array Value} {below : List Frame} {meth : Method} {c : Code} {T0 : State} {locs : List Loc} {cells slots : Nat} {Z : State} {a0 : Array Value} {h0 : Heap}
    (X0 : Stand p l e R s m args below meth c T0 locs cells slots) (hx : p.tables.exec = Jvm.exec) (hZ : Z.Warmed39 s.vm) (hw : ∀ d ∈ tables_1, d.before a0 Z = true) (hby : c.code = prog_15_method_2_code) (hml : c.maxLocals = 5) (hown : s.vm.findClass "com/example/persephone/persephone/executor/RequestHead" = some m.cls) (e0 : T0.heap = h0) (x0 : Addr) (x1 : Int32) (x2 : Int32) (ix : Int32) (s4 : Slot) (ka : ClassId) (L : List Int32) (A_x : Arv Z h0 x0 ka .byte (6 : Int32) (List.map Value.int L) (.int (0 : Int32))) (hi : 1 ≤ ix.toInt ∧ ix.toInt ≤ 5) (hs : One s4) (hl : ix < x2) (h0 : (L.getD (ix).toNatClampNeg 0) = (10 : Int32)) (h1 : (L.getD ((ix - (1 : Int32))).toNatClampNeg 0) = (10 : Int32)) :
    Steps p.tables e below (T0.setTop (mkF m 6 #[.val (.ref x0), .val (.int x1), .val (.int x2), .val (.int ix), s4] [])) (T0.setTop (mkF m 72 #[.val (.ref x0), .val (.int x1), .val (.int x2), .val (.int ix), .val (.int (1 : Int32))] [(.int (ix + (1 : Int32)))])) := by
  show Steps p.tables e below (T0.setTop (mkF m 6 #[.val (.ref x0), .val (.int x1), .val (.int x2), .val (.int ix), s4] [])) _
  refine XS.iloadN X0.here hx rfl (hb hby d3_6) rfl ?_
  show Steps p.tables e below (T0.setTop (mkF m 7 #[.val (.ref x0), .val (.int x1), .val (.int x2), .val (.int ix), s4] [(.int ix)])) _
  refine XS.iloadN X0.here hx rfl (hb hby d3_7) rfl ?_
  have hf1 : ix < x2 := hl
  show Steps p.tables e below (T0.setTop (mkF m 8 #[.val (.ref x0), .val (.int x1), .val (.int x2), .val (.int ix), s4] [(.int x2), (.int ix)])) _
  refine XS.icmpNo X0.here hx rfl (hb hby d3_8) rfl (tlt hf1).2.1 ?_
  show Steps p.tables e below (T0.setTop (mkF m 11 #[.val (.ref x0), .val (.int x1), .val (.int x2), .val (.int ix), s4] [])) _
  refine XS.aloadN X0.here hx rfl (hb hby d3_11) rfl rfl ?_
  show Steps p.tables e below (T0.setTop (mkF m 12 #[.val (.ref x0), .val (.int x1), .val (.int x2), .val (.int ix), s4] [(.ref x0)])) _
  refine XS.iloadN X0.here hx rfl (hb hby d3_12) rfl ?_
  obtain ⟨cl2, Ar2, q2, S2, N2, H2, G2⟩ := id A_x
  have hin2 : ¬ (ix < 0 ∨ cl2.slots.size ≤ (ix).toNatClampNeg) := inb_of S2 (own_ix0 ix hi)
  have hat2 : cl2.slots[(ix).toNatClampNeg]? = some (.int (L.getD (ix).toNatClampNeg 0)) := H2.at hin2 (own_getI L _)
  show Steps p.tables e below (T0.setTop (mkF m 13 #[.val (.ref x0), .val (.int x1), .val (.int x2), .val (.int ix), s4] [(.int ix), (.ref x0)])) _
  refine X0.baloadBytes hx (j := ix) (v := (.int (L.getD (ix).toNatClampNeg 0))) (by rw [e0]; exact Ar2.1) (State.isArrayOf_alike hZ.alike Ar2.2.1) Ar2.2.2 hin2 hat2 (g := (mkF m 13 #[.val (.ref x0), .val (.int x1), .val (.int x2), .val (.int ix), s4] [(.int ix), (.ref x0)])) rfl rfl (hb hby d3_13) _ ?_
  show Steps p.tables e below (T0.setTop (mkF m 14 #[.val (.ref x0), .val (.int x1), .val (.int x2), .val (.int ix), s4] [(.int (L.getD (ix).toNatClampNeg 0))])) _
  refine XS.bipush X0.here hx rfl (hb hby d3_14) ?_
  have hf3 : (L.getD (ix).toNatClampNeg 0) = (10 : Int32) := h0
  show Steps p.tables e below (T0.setTop (mkF m 16 #[.val (.ref x0), .val (.int x1), .val (.int x2), .val (.int ix), s4] [(.int (10 : Int32)), (.int (L.getD (ix).toNatClampNeg 0))])) _
  refine XS.icmpYes X0.here hx rfl (pc0 := 16) (pc' := 22) rfl (hb hby d3_16) rfl (teq hf3).1 (by decide) (by decide) ?_
  show Steps p.tables e below (T0.setTop (mkF m 22 #[.val (.ref x0), .val (.int x1), .val (.int x2), .val (.int ix), s4] [])) _
  refine XS.aloadN X0.here hx rfl (hb hby d3_22) rfl rfl ?_
  show Steps p.tables e below (T0.setTop (mkF m 23 #[.val (.ref x0), .val (.int x1), .val (.int x2), .val (.int ix), s4] [(.ref x0)])) _
  refine XS.iloadN X0.here hx rfl (hb hby d3_23) rfl ?_
  show Steps p.tables e below (T0.setTop (mkF m 24 #[.val (.ref x0), .val (.int x1), .val (.int x2), .val (.int ix), s4] [(.int ix), (.ref x0)])) _
  refine XS.iconst X0.here hx rfl (hb hby d3_24) ?_
  show Steps p.tables e below (T0.setTop (mkF m 25 #[.val (.ref x0), .val (.int x1), .val (.int x2), .val (.int ix), s4] [(.int (1 : Int32)), (.int ix), (.ref x0)])) _
  refine XS.isub X0.here hx rfl (hb hby d3_25) rfl ?_
  obtain ⟨cl4, Ar4, q4, S4, N4, H4, G4⟩ := id A_x
  have hin4 : ¬ ((ix - (1 : Int32)) < 0 ∨ cl4.slots.size ≤ ((ix - (1 : Int32))).toNatClampNeg) := inb_of S4 (own_ix1 ix 1 1 hi (by decide))
  have hat4 : cl4.slots[((ix - (1 : Int32))).toNatClampNeg]? = some (.int (L.getD ((ix - (1 : Int32))).toNatClampNeg 0)) := H4.at hin4 (own_getI L _)
  show Steps p.tables e below (T0.setTop (mkF m 26 #[.val (.ref x0), .val (.int x1), .val (.int x2), .val (.int ix), s4] [(.int (ix - (1 : Int32))), (.ref x0)])) _
  refine X0.baloadBytes hx (j := (ix - (1 : Int32))) (v := (.int (L.getD ((ix - (1 : Int32))).toNatClampNeg 0))) (by rw [e0]; exact Ar4.1) (State.isArrayOf_alike hZ.alike Ar4.2.1) Ar4.2.2 hin4 hat4 (g := (mkF m 26 #[.val (.ref x0), .val (.int x1), .val (.int x2), .val (.int ix), s4] [(.int (ix - (1 : Int32))), (.ref x0)])) rfl rfl (hb hby d3_26) _ ?_
  show Steps p.tables e below (T0.setTop (mkF m 27 #[.val (.ref x0), .val (.int x1), .val (.int x2), .val (.int ix), s4] [(.int (L.getD ((ix - (1 : Int32))).toNatClampNeg 0))])) _
  refine XS.bipush X0.here hx rfl (hb hby d3_27) ?_
  have hf5 : (L.getD ((ix - (1 : Int32))).toNatClampNeg 0) = (10 : Int32) := h1
  show Steps p.tables e below (T0.setTop (mkF m 29 #[.val (.ref x0), .val (.int x1), .val (.int x2), .val (.int ix), s4] [(.int (10 : Int32)), (.int (L.getD ((ix - (1 : Int32))).toNatClampNeg 0))])) _
  refine XS.icmpYes X0.here hx rfl (pc0 := 29) (pc' := 57) rfl (hb hby d3_29) rfl (teq hf5).1 (by decide) (by decide) ?_
  show Steps p.tables e below (T0.setTop (mkF m 57 #[.val (.ref x0), .val (.int x1), .val (.int x2), .val (.int ix), s4] [])) _
  refine XS.iconst X0.here hx rfl (hb hby d3_57) ?_
  show Steps p.tables e below (T0.setTop (mkF m 58 #[.val (.ref x0), .val (.int x1), .val (.int x2), .val (.int ix), s4] [(.int (1 : Int32))])) _
  refine XS.goto X0.here hx rfl (pc0 := 58) (pc' := 62) rfl (hb hby d3_58) (by decide) (by decide) ?_
  show Steps p.tables e below (T0.setTop (mkF m 62 #[.val (.ref x0), .val (.int x1), .val (.int x2), .val (.int ix), s4] [(.int (1 : Int32))])) _
  refine XS.istore X0.here hx rfl (hb hby d3_62) rfl (l' := #[.val (.ref x0), .val (.int x1), .val (.int x2), .val (.int ix), .val (.int (1 : Int32))]) (own_st4 hs) ?_
  show Steps p.tables e below (T0.setTop (mkF m 64 #[.val (.ref x0), .val (.int x1), .val (.int x2), .val (.int ix), .val (.int (1 : Int32))] [])) _
  refine XS.iload X0.here hx rfl (hb hby d3_64) rfl ?_
  have hf6 : ¬ ((1 : Int32) = (0 : Int32)) := by decide
  show Steps p.tables e below (T0.setTop (mkF m 66 #[.val (.ref x0), .val (.int x1), .val (.int x2), .val (.int ix), .val (.int (1 : Int32))] [(.int (1 : Int32))])) _
  refine XS.ifNo X0.here hx rfl (hb hby d3_66) rfl ((if0 _ _).trans (feq hf6).1) ?_
  show Steps p.tables e below (T0.setTop (mkF m 69 #[.val (.ref x0), .val (.int x1), .val (.int x2), .val (.int ix), .val (.int (1 : Int32))] [])) _
  refine XS.iloadN X0.here hx rfl (hb hby d3_69) rfl ?_
  show Steps p.tables e below (T0.setTop (mkF m 70 #[.val (.ref x0), .val (.int x1), .val (.int x2), .val (.int ix), .val (.int (1 : Int32))] [(.int ix)])) _
  refine XS.iconst X0.here hx rfl (hb hby d3_70) ?_
  show Steps p.tables e below (T0.setTop (mkF m 71 #[.val (.ref x0), .val (.int x1), .val (.int x2), .val (.int ix), .val (.int (1 : Int32))] [(.int (1 : Int32)), (.int ix)])) _
  refine XS.iadd X0.here hx rfl (hb hby d3_71) rfl ?_
  exact Steps.refl _
theorem d3_32 : decode prog_15_method_2_code 32 = .ok (.aload_n 0, 1) := by decide +kernel
theorem d3_33 : decode prog_15_method_2_code 33 = .ok (.iload_n 3, 1) := by decide +kernel
theorem d3_34 : decode prog_15_method_2_code 34 = .ok (.iconst 1, 1) := by decide +kernel
theorem d3_35 : decode prog_15_method_2_code 35 = .ok (.isub, 1) := by decide +kernel
theorem d3_36 : decode prog_15_method_2_code 36 = .ok (.baload, 1) := by decide +kernel
theorem d3_37 : decode prog_15_method_2_code 37 = .ok (.bipush 13, 2) := by decide +kernel
theorem d3_39 : decode prog_15_method_2_code 39 = .ok (.if_icmp .ne 22, 3) := by decide +kernel
theorem d3_61 : decode prog_15_method_2_code 61 = .ok (.iconst 0, 1) := by decide +kernel
set_option maxRecDepth 65536 in
set_option maxHeartbeats 40000000 in
theorem own_rC {p : Program} {l : Launch} {e : Env} {R : Room} {s : State} {m : MethodId} {args : Array Value} {below : List Frame} {meth : Method} {c : Code} {T0 : State} {locs : List Loc} {cells slots : Nat} {Z : State} {a0 : Array Value} {h0 : Heap}
    (X0 : Stand p l e R s m args below meth c T0 locs cells slots) (hx : p.tables.exec = Jvm.exec) (hZ : Z.Warmed39 s.vm) (hw : ∀ d ∈ tables_1, d.before a0 Z = true) (hby : c.code = prog_15_method_2_code) (hml : c.maxLocals = 5) (hown : s.vm.findClass "com/example/persephone/persephone/executor/RequestHead" = some m.cls) (e0 : T0.heap = h0) (x0 : Addr) (x1 : Int32) (x2 : Int32) (ix : Int32) (s4 : Slot) (ka : ClassId) (L : List Int32) (A_x : Arv Z h0 x0 ka .byte (6 : Int32) (List.map Value.int L) (.int (0 : Int32))) (hi : 1 ≤ ix.toInt ∧ ix.toInt ≤ 5) (hs : One s4) (hl : ix < x2) (h0 : (L.getD (ix).toNatClampNeg 0) = (10 : Int32)) (h1 : ¬ (L.getD ((ix - (1 : Int32))).toNatClampNeg 0) = (10 : Int32)) (h13 : ¬ (L.getD ((ix - (1 : Int32))).toNatClampNeg 0) = (13 : Int32)) :
    Steps p.tables e below (T0.setTop (mkF m 6 #[.val (.ref x0), .val (.int x1), .val (.int x2), .val (.int ix), s4] [])) (T0.setTop (mkF m 6 #[.val (.ref x0), .val (.int x1), .val (.int x2), .val (.int (ix + (1 : Int32))), .val (.int (0 : Int32))] [])) := by
  show Steps p.tables e below (T0.setTop (mkF m 6 #[.val (.ref x0), .val (.int x1), .val (.int x2), .val (.int ix), s4] [])) _
  refine XS.iloadN X0.here hx rfl (hb hby d3_6) rfl ?_
  show Steps p.tables e below (T0.setTop (mkF m 7 #[.val (.ref x0), .val (.int x1), .val (.int x2), .val (.int ix), s4] [(.int ix)])) _
  refine XS.iloadN X0.here hx rfl (hb hby d3_7) rfl ?_
  have hf1 : ix < x2 := hl
  show Steps p.tables e below (T0.setTop (mkF m 8 #[.val (.ref x0), .val (.int x1), .val (.int x2), .val (.int ix), s4] [(.int x2), (.int ix)])) _
  refine XS.icmpNo X0.here hx rfl (hb hby d3_8) rfl (tlt hf1).2.1 ?_
  show Steps p.tables e below (T0.setTop (mkF m 11 #[.val (.ref x0), .val (.int x1), .val (.int x2), .val (.int ix), s4] [])) _
  refine XS.aloadN X0.here hx rfl (hb hby d3_11) rfl rfl ?_
  show Steps p.tables e below (T0.setTop (mkF m 12 #[.val (.ref x0), .val (.int x1), .val (.int x2), .val (.int ix), s4] [(.ref x0)])) _
  refine XS.iloadN X0.here hx rfl (hb hby d3_12) rfl ?_
  obtain ⟨cl2, Ar2, q2, S2, N2, H2, G2⟩ := id A_x
  have hin2 : ¬ (ix < 0 ∨ cl2.slots.size ≤ (ix).toNatClampNeg) := inb_of S2 (own_ix0 ix hi)
  have hat2 : cl2.slots[(ix).toNatClampNeg]? = some (.int (L.getD (ix).toNatClampNeg 0)) := H2.at hin2 (own_getI L _)
  show Steps p.tables e below (T0.setTop (mkF m 13 #[.val (.ref x0), .val (.int x1), .val (.int x2), .val (.int ix), s4] [(.int ix), (.ref x0)])) _
  refine X0.baloadBytes hx (j := ix) (v := (.int (L.getD (ix).toNatClampNeg 0))) (by rw [e0]; exact Ar2.1) (State.isArrayOf_alike hZ.alike Ar2.2.1) Ar2.2.2 hin2 hat2 (g := (mkF m 13 #[.val (.ref x0), .val (.int x1), .val (.int x2), .val (.int ix), s4] [(.int ix), (.ref x0)])) rfl rfl (hb hby d3_13) _ ?_
  show Steps p.tables e below (T0.setTop (mkF m 14 #[.val (.ref x0), .val (.int x1), .val (.int x2), .val (.int ix), s4] [(.int (L.getD (ix).toNatClampNeg 0))])) _
  refine XS.bipush X0.here hx rfl (hb hby d3_14) ?_
  have hf3 : (L.getD (ix).toNatClampNeg 0) = (10 : Int32) := h0
  show Steps p.tables e below (T0.setTop (mkF m 16 #[.val (.ref x0), .val (.int x1), .val (.int x2), .val (.int ix), s4] [(.int (10 : Int32)), (.int (L.getD (ix).toNatClampNeg 0))])) _
  refine XS.icmpYes X0.here hx rfl (pc0 := 16) (pc' := 22) rfl (hb hby d3_16) rfl (teq hf3).1 (by decide) (by decide) ?_
  show Steps p.tables e below (T0.setTop (mkF m 22 #[.val (.ref x0), .val (.int x1), .val (.int x2), .val (.int ix), s4] [])) _
  refine XS.aloadN X0.here hx rfl (hb hby d3_22) rfl rfl ?_
  show Steps p.tables e below (T0.setTop (mkF m 23 #[.val (.ref x0), .val (.int x1), .val (.int x2), .val (.int ix), s4] [(.ref x0)])) _
  refine XS.iloadN X0.here hx rfl (hb hby d3_23) rfl ?_
  show Steps p.tables e below (T0.setTop (mkF m 24 #[.val (.ref x0), .val (.int x1), .val (.int x2), .val (.int ix), s4] [(.int ix), (.ref x0)])) _
  refine XS.iconst X0.here hx rfl (hb hby d3_24) ?_
  show Steps p.tables e below (T0.setTop (mkF m 25 #[.val (.ref x0), .val (.int x1), .val (.int x2), .val (.int ix), s4] [(.int (1 : Int32)), (.int ix), (.ref x0)])) _
  refine XS.isub X0.here hx rfl (hb hby d3_25) rfl ?_
  obtain ⟨cl4, Ar4, q4, S4, N4, H4, G4⟩ := id A_x
  have hin4 : ¬ ((ix - (1 : Int32)) < 0 ∨ cl4.slots.size ≤ ((ix - (1 : Int32))).toNatClampNeg) := inb_of S4 (own_ix1 ix 1 1 hi (by decide))
  have hat4 : cl4.slots[((ix - (1 : Int32))).toNatClampNeg]? = some (.int (L.getD ((ix - (1 : Int32))).toNatClampNeg 0)) := H4.at hin4 (own_getI L _)
  show Steps p.tables e below (T0.setTop (mkF m 26 #[.val (.ref x0), .val (.int x1), .val (.int x2), .val (.int ix), s4] [(.int (ix - (1 : Int32))), (.ref x0)])) _
  refine X0.baloadBytes hx (j := (ix - (1 : Int32))) (v := (.int (L.getD ((ix - (1 : Int32))).toNatClampNeg 0))) (by rw [e0]; exact Ar4.1) (State.isArrayOf_alike hZ.alike Ar4.2.1) Ar4.2.2 hin4 hat4 (g := (mkF m 26 #[.val (.ref x0), .val (.int x1), .val (.int x2), .val (.int ix), s4] [(.int (ix - (1 : Int32))), (.ref x0)])) rfl rfl (hb hby d3_26) _ ?_
  show Steps p.tables e below (T0.setTop (mkF m 27 #[.val (.ref x0), .val (.int x1), .val (.int x2), .val (.int ix), s4] [(.int (L.getD ((ix - (1 : Int32))).toNatClampNeg 0))])) _
  refine XS.bipush X0.here hx rfl (hb hby d3_27) ?_
  have hf5 : ¬ ((L.getD ((ix - (1 : Int32))).toNatClampNeg 0) = (10 : Int32)) := h1
  show Steps p.tables e below (T0.setTop (mkF m 29 #[.val (.ref x0), .val (.int x1), .val (.int x2), .val (.int ix), s4] [(.int (10 : Int32)), (.int (L.getD ((ix - (1 : Int32))).toNatClampNeg 0))])) _
  refine XS.icmpNo X0.here hx rfl (hb hby d3_29) rfl (feq hf5).1 ?_
  show Steps p.tables e below (T0.setTop (mkF m 32 #[.val (.ref x0), .val (.int x1), .val (.int x2), .val (.int ix), s4] [])) _
  refine XS.aloadN X0.here hx rfl (hb hby d3_32) rfl rfl ?_
  show Steps p.tables e below (T0.setTop (mkF m 33 #[.val (.ref x0), .val (.int x1), .val (.int x2), .val (.int ix), s4] [(.ref x0)])) _
  refine XS.iloadN X0.here hx rfl (hb hby d3_33) rfl ?_
  show Steps p.tables e below (T0.setTop (mkF m 34 #[.val (.ref x0), .val (.int x1), .val (.int x2), .val (.int ix), s4] [(.int ix), (.ref x0)])) _
  refine XS.iconst X0.here hx rfl (hb hby d3_34) ?_
  show Steps p.tables e below (T0.setTop (mkF m 35 #[.val (.ref x0), .val (.int x1), .val (.int x2), .val (.int ix), s4] [(.int (1 : Int32)), (.int ix), (.ref x0)])) _
  refine XS.isub X0.here hx rfl (hb hby d3_35) rfl ?_
  obtain ⟨cl6, Ar6, q6, S6, N6, H6, G6⟩ := id A_x
  have hin6 : ¬ ((ix - (1 : Int32)) < 0 ∨ cl6.slots.size ≤ ((ix - (1 : Int32))).toNatClampNeg) := inb_of S6 (own_ix1 ix 1 1 hi (by decide))
  have hat6 : cl6.slots[((ix - (1 : Int32))).toNatClampNeg]? = some (.int (L.getD ((ix - (1 : Int32))).toNatClampNeg 0)) := H6.at hin6 (own_getI L _)
  show Steps p.tables e below (T0.setTop (mkF m 36 #[.val (.ref x0), .val (.int x1), .val (.int x2), .val (.int ix), s4] [(.int (ix - (1 : Int32))), (.ref x0)])) _
  refine X0.baloadBytes hx (j := (ix - (1 : Int32))) (v := (.int (L.getD ((ix - (1 : Int32))).toNatClampNeg 0))) (by rw [e0]; exact Ar6.1) (State.isArrayOf_alike hZ.alike Ar6.2.1) Ar6.2.2 hin6 hat6 (g := (mkF m 36 #[.val (.ref x0), .val (.int x1), .val (.int x2), .val (.int ix), s4] [(.int (ix - (1 : Int32))), (.ref x0)])) rfl rfl (hb hby d3_36) _ ?_
  show Steps p.tables e below (T0.setTop (mkF m 37 #[.val (.ref x0), .val (.int x1), .val (.int x2), .val (.int ix), s4] [(.int (L.getD ((ix - (1 : Int32))).toNatClampNeg 0))])) _
  refine XS.bipush X0.here hx rfl (hb hby d3_37) ?_
  have hf7 : ¬ ((L.getD ((ix - (1 : Int32))).toNatClampNeg 0) = (13 : Int32)) := h13
  show Steps p.tables e below (T0.setTop (mkF m 39 #[.val (.ref x0), .val (.int x1), .val (.int x2), .val (.int ix), s4] [(.int (13 : Int32)), (.int (L.getD ((ix - (1 : Int32))).toNatClampNeg 0))])) _
  refine XS.icmpYes X0.here hx rfl (pc0 := 39) (pc' := 61) rfl (hb hby d3_39) rfl (feq hf7).2 (by decide) (by decide) ?_
  show Steps p.tables e below (T0.setTop (mkF m 61 #[.val (.ref x0), .val (.int x1), .val (.int x2), .val (.int ix), s4] [])) _
  refine XS.iconst X0.here hx rfl (hb hby d3_61) ?_
  show Steps p.tables e below (T0.setTop (mkF m 62 #[.val (.ref x0), .val (.int x1), .val (.int x2), .val (.int ix), s4] [(.int (0 : Int32))])) _
  refine XS.istore X0.here hx rfl (hb hby d3_62) rfl (l' := #[.val (.ref x0), .val (.int x1), .val (.int x2), .val (.int ix), .val (.int (0 : Int32))]) (own_st4 hs) ?_
  show Steps p.tables e below (T0.setTop (mkF m 64 #[.val (.ref x0), .val (.int x1), .val (.int x2), .val (.int ix), .val (.int (0 : Int32))] [])) _
  refine XS.iload X0.here hx rfl (hb hby d3_64) rfl ?_
  have hf8 : (0 : Int32) = (0 : Int32) := by decide
  show Steps p.tables e below (T0.setTop (mkF m 66 #[.val (.ref x0), .val (.int x1), .val (.int x2), .val (.int ix), .val (.int (0 : Int32))] [(.int (0 : Int32))])) _
  refine XS.ifYes X0.here hx rfl (pc0 := 66) (pc' := 73) rfl (hb hby d3_66) rfl ((if0 _ _).trans (teq hf8).1) (by decide) (by decide) ?_
  show Steps p.tables e below (T0.setTop (mkF m 73 #[.val (.ref x0), .val (.int x1), .val (.int x2), .val (.int ix), .val (.int (0 : Int32))] [])) _
  refine XS.iinc X0.here hx rfl (hb hby d3_73) rfl (l' := #[.val (.ref x0), .val (.int x1), .val (.int x2), .val (.int (ix + (1 : Int32))), .val (.int (0 : Int32))]) rfl ?_
  show Steps p.tables e below (T0.setTop (mkF m 76 #[.val (.ref x0), .val (.int x1), .val (.int x2), .val (.int (ix + (1 : Int32))), .val (.int (0 : Int32))] [])) _
  refine XS.goto X0.here hx rfl (pc0 := 76) (pc' := 6) rfl (hb hby d3_76) (by decide) (by decide) ?_
  exact Steps.refl _
theorem d3_42 : decode prog_15_method_2_code 42 = .ok (.iload_n 3, 1) := by decide +kernel
theorem d3_43 : decode prog_15_method_2_code 43 = .ok (.iconst 2, 1) := by decide +kernel
theorem d3_44 : decode prog_15_method_2_code 44 = .ok (.if_icmp .lt 17, 3) := by decide +kernel
set_option maxRecDepth 65536 in
set_option maxHeartbeats 40000000 in
theorem own_rD {p : Program} {l : Launch} {e : Env} {R : Room} {s : State} {m : MethodId} {args : Array Value} {below : List Frame} {meth : Method} {c : Code} {T0 : State} {locs : List Loc} {cells slots : Nat} {Z : State} {a0 : Array Value} {h0 : Heap}
    (X0 : Stand p l e R s m args below meth c T0 locs cells slots) (hx : p.tables.exec = Jvm.exec) (hZ : Z.Warmed39 s.vm) (hw : ∀ d ∈ tables_1, d.before a0 Z = true) (hby : c.code = prog_15_method_2_code) (hml : c.maxLocals = 5) (hown : s.vm.findClass "com/example/persephone/persephone/executor/RequestHead" = some m.cls) (e0 : T0.heap = h0) (x0 : Addr) (x1 : Int32) (x2 : Int32) (ix : Int32) (s4 : Slot) (ka : ClassId) (L : List Int32) (A_x : Arv Z h0 x0 ka .byte (6 : Int32) (List.map Value.int L) (.int (0 : Int32))) (hi : 1 ≤ ix.toInt ∧ ix.toInt ≤ 5) (hs : One s4) (hl : ix < x2) (h0 : (L.getD (ix).toNatClampNeg 0) = (10 : Int32)) (h1 : ¬ (L.getD ((ix - (1 : Int32))).toNatClampNeg 0) = (10 : Int32)) (h13 : (L.getD ((ix - (1 : Int32))).toNatClampNeg 0) = (13 : Int32)) (h2 : ix < (2 : Int32)) :
    Steps p.tables e below (T0.setTop (mkF m 6 #[.val (.ref x0), .val (.int x1), .val (.int x2), .val (.int ix), s4] [])) (T0.setTop (mkF m 6 #[.val (.ref x0), .val (.int x1), .val (.int x2), .val (.int (ix + (1 : Int32))), .val (.int (0 : Int32))] [])) := by
  show Steps p.tables e below (T0.setTop (mkF m 6 #[.val (.ref x0), .val (.int x1), .val (.int x2), .val (.int ix), s4] [])) _
  refine XS.iloadN X0.here hx rfl (hb hby d3_6) rfl ?_
  show Steps p.tables e below (T0.setTop (mkF m 7 #[.val (.ref x0), .val (.int x1), .val (.int x2), .val (.int ix), s4] [(.int ix)])) _
  refine XS.iloadN X0.here hx rfl (hb hby d3_7) rfl ?_
  have hf1 : ix < x2 := hl
  show Steps p.tables e below (T0.setTop (mkF m 8 #[.val (.ref x0), .val (.int x1), .val (.int x2), .val (.int ix), s4] [(.int x2), (.int ix)])) _
  refine XS.icmpNo X0.here hx rfl (hb hby d3_8) rfl (tlt hf1).2.1 ?_
  show Steps p.tables e below (T0.setTop (mkF m 11 #[.val (.ref x0), .val (.int x1), .val (.int x2), .val (.int ix), s4] [])) _
  refine XS.aloadN X0.here hx rfl (hb hby d3_11) rfl rfl ?_
  show Steps p.tables e below (T0.setTop (mkF m 12 #[.val (.ref x0), .val (.int x1), .val (.int x2), .val (.int ix), s4] [(.ref x0)])) _
  refine XS.iloadN X0.here hx rfl (hb hby d3_12) rfl ?_
  obtain ⟨cl2, Ar2, q2, S2, N2, H2, G2⟩ := id A_x
  have hin2 : ¬ (ix < 0 ∨ cl2.slots.size ≤ (ix).toNatClampNeg) := inb_of S2 (own_ix0 ix hi)
  have hat2 : cl2.slots[(ix).toNatClampNeg]? = some (.int (L.getD (ix).toNatClampNeg 0)) := H2.at hin2 (own_getI L _)
  show Steps p.tables e below (T0.setTop (mkF m 13 #[.val (.ref x0), .val (.int x1), .val (.int x2), .val (.int ix), s4] [(.int ix), (.ref x0)])) _
  refine X0.baloadBytes hx (j := ix) (v := (.int (L.getD (ix).toNatClampNeg 0))) (by rw [e0]; exact Ar2.1) (State.isArrayOf_alike hZ.alike Ar2.2.1) Ar2.2.2 hin2 hat2 (g := (mkF m 13 #[.val (.ref x0), .val (.int x1), .val (.int x2), .val (.int ix), s4] [(.int ix), (.ref x0)])) rfl rfl (hb hby d3_13) _ ?_
  show Steps p.tables e below (T0.setTop (mkF m 14 #[.val (.ref x0), .val (.int x1), .val (.int x2), .val (.int ix), s4] [(.int (L.getD (ix).toNatClampNeg 0))])) _
  refine XS.bipush X0.here hx rfl (hb hby d3_14) ?_
  have hf3 : (L.getD (ix).toNatClampNeg 0) = (10 : Int32) := h0
  show Steps p.tables e below (T0.setTop (mkF m 16 #[.val (.ref x0), .val (.int x1), .val (.int x2), .val (.int ix), s4] [(.int (10 : Int32)), (.int (L.getD (ix).toNatClampNeg 0))])) _
  refine XS.icmpYes X0.here hx rfl (pc0 := 16) (pc' := 22) rfl (hb hby d3_16) rfl (teq hf3).1 (by decide) (by decide) ?_
  show Steps p.tables e below (T0.setTop (mkF m 22 #[.val (.ref x0), .val (.int x1), .val (.int x2), .val (.int ix), s4] [])) _
  refine XS.aloadN X0.here hx rfl (hb hby d3_22) rfl rfl ?_
  show Steps p.tables e below (T0.setTop (mkF m 23 #[.val (.ref x0), .val (.int x1), .val (.int x2), .val (.int ix), s4] [(.ref x0)])) _
  refine XS.iloadN X0.here hx rfl (hb hby d3_23) rfl ?_
  show Steps p.tables e below (T0.setTop (mkF m 24 #[.val (.ref x0), .val (.int x1), .val (.int x2), .val (.int ix), s4] [(.int ix), (.ref x0)])) _
  refine XS.iconst X0.here hx rfl (hb hby d3_24) ?_
  show Steps p.tables e below (T0.setTop (mkF m 25 #[.val (.ref x0), .val (.int x1), .val (.int x2), .val (.int ix), s4] [(.int (1 : Int32)), (.int ix), (.ref x0)])) _
  refine XS.isub X0.here hx rfl (hb hby d3_25) rfl ?_
  obtain ⟨cl4, Ar4, q4, S4, N4, H4, G4⟩ := id A_x
  have hin4 : ¬ ((ix - (1 : Int32)) < 0 ∨ cl4.slots.size ≤ ((ix - (1 : Int32))).toNatClampNeg) := inb_of S4 (own_ix1 ix 1 1 hi (by decide))
  have hat4 : cl4.slots[((ix - (1 : Int32))).toNatClampNeg]? = some (.int (L.getD ((ix - (1 : Int32))).toNatClampNeg 0)) := H4.at hin4 (own_getI L _)
  show Steps p.tables e below (T0.setTop (mkF m 26 #[.val (.ref x0), .val (.int x1), .val (.int x2), .val (.int ix), s4] [(.int (ix - (1 : Int32))), (.ref x0)])) _
  refine X0.baloadBytes hx (j := (ix - (1 : Int32))) (v := (.int (L.getD ((ix - (1 : Int32))).toNatClampNeg 0))) (by rw [e0]; exact Ar4.1) (State.isArrayOf_alike hZ.alike Ar4.2.1) Ar4.2.2 hin4 hat4 (g := (mkF m 26 #[.val (.ref x0), .val (.int x1), .val (.int x2), .val (.int ix), s4] [(.int (ix - (1 : Int32))), (.ref x0)])) rfl rfl (hb hby d3_26) _ ?_
  show Steps p.tables e below (T0.setTop (mkF m 27 #[.val (.ref x0), .val (.int x1), .val (.int x2), .val (.int ix), s4] [(.int (L.getD ((ix - (1 : Int32))).toNatClampNeg 0))])) _
  refine XS.bipush X0.here hx rfl (hb hby d3_27) ?_
  have hf5 : ¬ ((L.getD ((ix - (1 : Int32))).toNatClampNeg 0) = (10 : Int32)) := h1
  show Steps p.tables e below (T0.setTop (mkF m 29 #[.val (.ref x0), .val (.int x1), .val (.int x2), .val (.int ix), s4] [(.int (10 : Int32)), (.int (L.getD ((ix - (1 : Int32))).toNatClampNeg 0))])) _
  refine XS.icmpNo X0.here hx rfl (hb hby d3_29) rfl (feq hf5).1 ?_
  show Steps p.tables e below (T0.setTop (mkF m 32 #[.val (.ref x0), .val (.int x1), .val (.int x2), .val (.int ix), s4] [])) _
  refine XS.aloadN X0.here hx rfl (hb hby d3_32) rfl rfl ?_
  show Steps p.tables e below (T0.setTop (mkF m 33 #[.val (.ref x0), .val (.int x1), .val (.int x2), .val (.int ix), s4] [(.ref x0)])) _
  refine XS.iloadN X0.here hx rfl (hb hby d3_33) rfl ?_
  show Steps p.tables e below (T0.setTop (mkF m 34 #[.val (.ref x0), .val (.int x1), .val (.int x2), .val (.int ix), s4] [(.int ix), (.ref x0)])) _
  refine XS.iconst X0.here hx rfl (hb hby d3_34) ?_
  show Steps p.tables e below (T0.setTop (mkF m 35 #[.val (.ref x0), .val (.int x1), .val (.int x2), .val (.int ix), s4] [(.int (1 : Int32)), (.int ix), (.ref x0)])) _
  refine XS.isub X0.here hx rfl (hb hby d3_35) rfl ?_
  obtain ⟨cl6, Ar6, q6, S6, N6, H6, G6⟩ := id A_x
  have hin6 : ¬ ((ix - (1 : Int32)) < 0 ∨ cl6.slots.size ≤ ((ix - (1 : Int32))).toNatClampNeg) := inb_of S6 (own_ix1 ix 1 1 hi (by decide))
  have hat6 : cl6.slots[((ix - (1 : Int32))).toNatClampNeg]? = some (.int (L.getD ((ix - (1 : Int32))).toNatClampNeg 0)) := H6.at hin6 (own_getI L _)
  show Steps p.tables e below (T0.setTop (mkF m 36 #[.val (.ref x0), .val (.int x1), .val (.int x2), .val (.int ix), s4] [(.int (ix - (1 : Int32))), (.ref x0)])) _
  refine X0.baloadBytes hx (j := (ix - (1 : Int32))) (v := (.int (L.getD ((ix - (1 : Int32))).toNatClampNeg 0))) (by rw [e0]; exact Ar6.1) (State.isArrayOf_alike hZ.alike Ar6.2.1) Ar6.2.2 hin6 hat6 (g := (mkF m 36 #[.val (.ref x0), .val (.int x1), .val (.int x2), .val (.int ix), s4] [(.int (ix - (1 : Int32))), (.ref x0)])) rfl rfl (hb hby d3_36) _ ?_
  show Steps p.tables e below (T0.setTop (mkF m 37 #[.val (.ref x0), .val (.int x1), .val (.int x2), .val (.int ix), s4] [(.int (L.getD ((ix - (1 : Int32))).toNatClampNeg 0))])) _
  refine XS.bipush X0.here hx rfl (hb hby d3_37) ?_
  have hf7 : (L.getD ((ix - (1 : Int32))).toNatClampNeg 0) = (13 : Int32) := h13
  show Steps p.tables e below (T0.setTop (mkF m 39 #[.val (.ref x0), .val (.int x1), .val (.int x2), .val (.int ix), s4] [(.int (13 : Int32)), (.int (L.getD ((ix - (1 : Int32))).toNatClampNeg 0))])) _
  refine XS.icmpNo X0.here hx rfl (hb hby d3_39) rfl (teq hf7).2 ?_
  show Steps p.tables e below (T0.setTop (mkF m 42 #[.val (.ref x0), .val (.int x1), .val (.int x2), .val (.int ix), s4] [])) _
  refine XS.iloadN X0.here hx rfl (hb hby d3_42) rfl ?_
  show Steps p.tables e below (T0.setTop (mkF m 43 #[.val (.ref x0), .val (.int x1), .val (.int x2), .val (.int ix), s4] [(.int ix)])) _
  refine XS.iconst X0.here hx rfl (hb hby d3_43) ?_
  have hf8 : ix < (2 : Int32) := h2
  show Steps p.tables e below (T0.setTop (mkF m 44 #[.val (.ref x0), .val (.int x1), .val (.int x2), .val (.int ix), s4] [(.int (2 : Int32)), (.int ix)])) _
  refine XS.icmpYes X0.here hx rfl (pc0 := 44) (pc' := 61) rfl (hb hby d3_44) rfl (tlt hf8).1 (by decide) (by decide) ?_
  show Steps p.tables e below (T0.setTop (mkF m 61 #[.val (.ref x0), .val (.int x1), .val (.int x2), .val (.int ix), s4] [])) _
  refine XS.iconst X0.here hx rfl (hb hby d3_61) ?_
  show Steps p.tables e below (T0.setTop (mkF m 62 #[.val (.ref x0), .val (.int x1), .val (.int x2), .val (.int ix), s4] [(.int (0 : Int32))])) _
  refine XS.istore X0.here hx rfl (hb hby d3_62) rfl (l' := #[.val (.ref x0), .val (.int x1), .val (.int x2), .val (.int ix), .val (.int (0 : Int32))]) (own_st4 hs) ?_
  show Steps p.tables e below (T0.setTop (mkF m 64 #[.val (.ref x0), .val (.int x1), .val (.int x2), .val (.int ix), .val (.int (0 : Int32))] [])) _
  refine XS.iload X0.here hx rfl (hb hby d3_64) rfl ?_
  have hf9 : (0 : Int32) = (0 : Int32) := by decide
  show Steps p.tables e below (T0.setTop (mkF m 66 #[.val (.ref x0), .val (.int x1), .val (.int x2), .val (.int ix), .val (.int (0 : Int32))] [(.int (0 : Int32))])) _
  refine XS.ifYes X0.here hx rfl (pc0 := 66) (pc' := 73) rfl (hb hby d3_66) rfl ((if0 _ _).trans (teq hf9).1) (by decide) (by decide) ?_
  show Steps p.tables e below (T0.setTop (mkF m 73 #[.val (.ref x0), .val (.int x1), .val (.int x2), .val (.int ix), .val (.int (0 : Int32))] [])) _
  refine XS.iinc X0.here hx rfl (hb hby d3_73) rfl (l' := #[.val (.ref x0), .val (.int x1), .val (.int x2), .val (.int (ix + (1 : Int32))), .val (.int (0 : Int32))]) rfl ?_
  show Steps p.tables e below (T0.setTop (mkF m 76 #[.val (.ref x0), .val (.int x1), .val (.int x2), .val (.int (ix + (1 : Int32))), .val (.int (0 : Int32))] [])) _
  refine XS.goto X0.here hx rfl (pc0 := 76) (pc' := 6) rfl (hb hby d3_76) (by decide) (by decide) ?_
  exact Steps.refl _
theorem d3_47 : decode prog_15_method_2_code 47 = .ok (.aload_n 0, 1) := by decide +kernel
theorem d3_48 : decode prog_15_method_2_code 48 = .ok (.iload_n 3, 1) := by decide +kernel
theorem d3_49 : decode prog_15_method_2_code 49 = .ok (.iconst 2, 1) := by decide +kernel
theorem d3_50 : decode prog_15_method_2_code 50 = .ok (.isub, 1) := by decide +kernel
theorem d3_51 : decode prog_15_method_2_code 51 = .ok (.baload, 1) := by decide +kernel
theorem d3_52 : decode prog_15_method_2_code 52 = .ok (.bipush 10, 2) := by decide +kernel
theorem d3_54 : decode prog_15_method_2_code 54 = .ok (.if_icmp .ne 7, 3) := by decide +kernel
set_option maxRecDepth 65536 in
set_option maxHeartbeats 40000000 in
theorem own_rE {p : Program} {l : Launch} {e : Env} {R : Room} {s : State} {m : MethodId} {args : Array Value} {below : List Frame} {meth : Method} {c : Code} {T0 : State} {locs : List Loc} {cells slots : Nat} {Z : State} {a0 : Array Value} {h0 : Heap}
    (X0 : Stand p l e R s m args below meth c T0 locs cells slots) (hx : p.tables.exec = Jvm.exec) (hZ : Z.Warmed39 s.vm) (hw : ∀ d ∈ tables_1, d.before a0 Z = true) (hby : c.code = prog_15_method_2_code) (hml : c.maxLocals = 5) (hown : s.vm.findClass "com/example/persephone/persephone/executor/RequestHead" = some m.cls) (e0 : T0.heap = h0) (x0 : Addr) (x1 : Int32) (x2 : Int32) (ix : Int32) (s4 : Slot) (ka : ClassId) (L : List Int32) (A_x : Arv Z h0 x0 ka .byte (6 : Int32) (List.map Value.int L) (.int (0 : Int32))) (hi : 1 ≤ ix.toInt ∧ ix.toInt ≤ 5) (hs : One s4) (hl : ix < x2) (h0 : (L.getD (ix).toNatClampNeg 0) = (10 : Int32)) (h1 : ¬ (L.getD ((ix - (1 : Int32))).toNatClampNeg 0) = (10 : Int32)) (h13 : (L.getD ((ix - (1 : Int32))).toNatClampNeg 0) = (13 : Int32)) (h2 : ¬ ix < (2 : Int32)) (h3 : (L.getD ((ix - (2 : Int32))).toNatClampNeg 0) = (10 : Int32)) :
    Steps p.tables e below (T0.setTop (mkF m 6 #[.val (.ref x0), .val (.int x1), .val (.int x2), .val (.int ix), s4] [])) (T0.setTop (mkF m 72 #[.val (.ref x0), .val (.int x1), .val (.int x2), .val (.int ix), .val (.int (1 : Int32))] [(.int (ix + (1 : Int32)))])) := by
  show Steps p.tables e below (T0.setTop (mkF m 6 #[.val (.ref x0), .val (.int x1), .val (.int x2), .val (.int ix), s4] [])) _
  refine XS.iloadN X0.here hx rfl (hb hby d3_6) rfl ?_
  show Steps p.tables e below (T0.setTop (mkF m 7 #[.val (.ref x0), .val (.int x1), .val (.int x2), .val (.int ix), s4] [(.int ix)])) _
  refine XS.iloadN X0.here hx rfl (hb hby d3_7) rfl ?_
  have hf1 : ix < x2 := hl
  show Steps p.tables e below (T0.setTop (mkF m 8 #[.val (.ref x0), .val (.int x1), .val (.int x2), .val (.int ix), s4] [(.int x2), (.int ix)])) _
  refine XS.icmpNo X0.here hx rfl (hb hby d3_8) rfl (tlt hf1).2.1 ?_
  show Steps p.tables e below (T0.setTop (mkF m 11 #[.val (.ref x0), .val (.int x1), .val (.int x2), .val (.int ix), s4] [])) _
  refine XS.aloadN X0.here hx rfl (hb hby d3_11) rfl rfl ?_
  show Steps p.tables e below (T0.setTop (mkF m 12 #[.val (.ref x0), .val (.int x1), .val (.int x2), .val (.int ix), s4] [(.ref x0)])) _
  refine XS.iloadN X0.here hx rfl (hb hby d3_12) rfl ?_
  obtain ⟨cl2, Ar2, q2, S2, N2, H2, G2⟩ := id A_x
  have hin2 : ¬ (ix < 0 ∨ cl2.slots.size ≤ (ix).toNatClampNeg) := inb_of S2 (own_ix0 ix hi)
  have hat2 : cl2.slots[(ix).toNatClampNeg]? = some (.int (L.getD (ix).toNatClampNeg 0)) := H2.at hin2 (own_getI L _)
  show Steps p.tables e below (T0.setTop (mkF m 13 #[.val (.ref x0), .val (.int x1), .val (.int x2), .val (.int ix), s4] [(.int ix), (.ref x0)])) _
  refine X0.baloadBytes hx (j := ix) (v := (.int (L.getD (ix).toNatClampNeg 0))) (by rw [e0]; exact Ar2.1) (State.isArrayOf_alike hZ.alike Ar2.2.1) Ar2.2.2 hin2 hat2 (g := (mkF m 13 #[.val (.ref x0), .val (.int x1), .val (.int x2), .val (.int ix), s4] [(.int ix), (.ref x0)])) rfl rfl (hb hby d3_13) _ ?_
  show Steps p.tables e below (T0.setTop (mkF m 14 #[.val (.ref x0), .val (.int x1), .val (.int x2), .val (.int ix), s4] [(.int (L.getD (ix).toNatClampNeg 0))])) _
  refine XS.bipush X0.here hx rfl (hb hby d3_14) ?_
  have hf3 : (L.getD (ix).toNatClampNeg 0) = (10 : Int32) := h0
  show Steps p.tables e below (T0.setTop (mkF m 16 #[.val (.ref x0), .val (.int x1), .val (.int x2), .val (.int ix), s4] [(.int (10 : Int32)), (.int (L.getD (ix).toNatClampNeg 0))])) _
  refine XS.icmpYes X0.here hx rfl (pc0 := 16) (pc' := 22) rfl (hb hby d3_16) rfl (teq hf3).1 (by decide) (by decide) ?_
  show Steps p.tables e below (T0.setTop (mkF m 22 #[.val (.ref x0), .val (.int x1), .val (.int x2), .val (.int ix), s4] [])) _
  refine XS.aloadN X0.here hx rfl (hb hby d3_22) rfl rfl ?_
  show Steps p.tables e below (T0.setTop (mkF m 23 #[.val (.ref x0), .val (.int x1), .val (.int x2), .val (.int ix), s4] [(.ref x0)])) _
  refine XS.iloadN X0.here hx rfl (hb hby d3_23) rfl ?_
  show Steps p.tables e below (T0.setTop (mkF m 24 #[.val (.ref x0), .val (.int x1), .val (.int x2), .val (.int ix), s4] [(.int ix), (.ref x0)])) _
  refine XS.iconst X0.here hx rfl (hb hby d3_24) ?_
  show Steps p.tables e below (T0.setTop (mkF m 25 #[.val (.ref x0), .val (.int x1), .val (.int x2), .val (.int ix), s4] [(.int (1 : Int32)), (.int ix), (.ref x0)])) _
  refine XS.isub X0.here hx rfl (hb hby d3_25) rfl ?_
  obtain ⟨cl4, Ar4, q4, S4, N4, H4, G4⟩ := id A_x
  have hin4 : ¬ ((ix - (1 : Int32)) < 0 ∨ cl4.slots.size ≤ ((ix - (1 : Int32))).toNatClampNeg) := inb_of S4 (own_ix1 ix 1 1 hi (by decide))
  have hat4 : cl4.slots[((ix - (1 : Int32))).toNatClampNeg]? = some (.int (L.getD ((ix - (1 : Int32))).toNatClampNeg 0)) := H4.at hin4 (own_getI L _)
  show Steps p.tables e below (T0.setTop (mkF m 26 #[.val (.ref x0), .val (.int x1), .val (.int x2), .val (.int ix), s4] [(.int (ix - (1 : Int32))), (.ref x0)])) _
  refine X0.baloadBytes hx (j := (ix - (1 : Int32))) (v := (.int (L.getD ((ix - (1 : Int32))).toNatClampNeg 0))) (by rw [e0]; exact Ar4.1) (State.isArrayOf_alike hZ.alike Ar4.2.1) Ar4.2.2 hin4 hat4 (g := (mkF m 26 #[.val (.ref x0), .val (.int x1), .val (.int x2), .val (.int ix), s4] [(.int (ix - (1 : Int32))), (.ref x0)])) rfl rfl (hb hby d3_26) _ ?_
  show Steps p.tables e below (T0.setTop (mkF m 27 #[.val (.ref x0), .val (.int x1), .val (.int x2), .val (.int ix), s4] [(.int (L.getD ((ix - (1 : Int32))).toNatClampNeg 0))])) _
  refine XS.bipush X0.here hx rfl (hb hby d3_27) ?_
  have hf5 : ¬ ((L.getD ((ix - (1 : Int32))).toNatClampNeg 0) = (10 : Int32)) := h1
  show Steps p.tables e below (T0.setTop (mkF m 29 #[.val (.ref x0), .val (.int x1), .val (.int x2), .val (.int ix), s4] [(.int (10 : Int32)), (.int (L.getD ((ix - (1 : Int32))).toNatClampNeg 0))])) _
  refine XS.icmpNo X0.here hx rfl (hb hby d3_29) rfl (feq hf5).1 ?_
  show Steps p.tables e below (T0.setTop (mkF m 32 #[.val (.ref x0), .val (.int x1), .val (.int x2), .val (.int ix), s4] [])) _
  refine XS.aloadN X0.here hx rfl (hb hby d3_32) rfl rfl ?_
  show Steps p.tables e below (T0.setTop (mkF m 33 #[.val (.ref x0), .val (.int x1), .val (.int x2), .val (.int ix), s4] [(.ref x0)])) _
  refine XS.iloadN X0.here hx rfl (hb hby d3_33) rfl ?_
  show Steps p.tables e below (T0.setTop (mkF m 34 #[.val (.ref x0), .val (.int x1), .val (.int x2), .val (.int ix), s4] [(.int ix), (.ref x0)])) _
  refine XS.iconst X0.here hx rfl (hb hby d3_34) ?_
  show Steps p.tables e below (T0.setTop (mkF m 35 #[.val (.ref x0), .val (.int x1), .val (.int x2), .val (.int ix), s4] [(.int (1 : Int32)), (.int ix), (.ref x0)])) _
  refine XS.isub X0.here hx rfl (hb hby d3_35) rfl ?_
  obtain ⟨cl6, Ar6, q6, S6, N6, H6, G6⟩ := id A_x
  have hin6 : ¬ ((ix - (1 : Int32)) < 0 ∨ cl6.slots.size ≤ ((ix - (1 : Int32))).toNatClampNeg) := inb_of S6 (own_ix1 ix 1 1 hi (by decide))
  have hat6 : cl6.slots[((ix - (1 : Int32))).toNatClampNeg]? = some (.int (L.getD ((ix - (1 : Int32))).toNatClampNeg 0)) := H6.at hin6 (own_getI L _)
  show Steps p.tables e below (T0.setTop (mkF m 36 #[.val (.ref x0), .val (.int x1), .val (.int x2), .val (.int ix), s4] [(.int (ix - (1 : Int32))), (.ref x0)])) _
  refine X0.baloadBytes hx (j := (ix - (1 : Int32))) (v := (.int (L.getD ((ix - (1 : Int32))).toNatClampNeg 0))) (by rw [e0]; exact Ar6.1) (State.isArrayOf_alike hZ.alike Ar6.2.1) Ar6.2.2 hin6 hat6 (g := (mkF m 36 #[.val (.ref x0), .val (.int x1), .val (.int x2), .val (.int ix), s4] [(.int (ix - (1 : Int32))), (.ref x0)])) rfl rfl (hb hby d3_36) _ ?_
  show Steps p.tables e below (T0.setTop (mkF m 37 #[.val (.ref x0), .val (.int x1), .val (.int x2), .val (.int ix), s4] [(.int (L.getD ((ix - (1 : Int32))).toNatClampNeg 0))])) _
  refine XS.bipush X0.here hx rfl (hb hby d3_37) ?_
  have hf7 : (L.getD ((ix - (1 : Int32))).toNatClampNeg 0) = (13 : Int32) := h13
  show Steps p.tables e below (T0.setTop (mkF m 39 #[.val (.ref x0), .val (.int x1), .val (.int x2), .val (.int ix), s4] [(.int (13 : Int32)), (.int (L.getD ((ix - (1 : Int32))).toNatClampNeg 0))])) _
  refine XS.icmpNo X0.here hx rfl (hb hby d3_39) rfl (teq hf7).2 ?_
  show Steps p.tables e below (T0.setTop (mkF m 42 #[.val (.ref x0), .val (.int x1), .val (.int x2), .val (.int ix), s4] [])) _
  refine XS.iloadN X0.here hx rfl (hb hby d3_42) rfl ?_
  show Steps p.tables e below (T0.setTop (mkF m 43 #[.val (.ref x0), .val (.int x1), .val (.int x2), .val (.int ix), s4] [(.int ix)])) _
  refine XS.iconst X0.here hx rfl (hb hby d3_43) ?_
  have hf8 : ¬ (ix < (2 : Int32)) := h2
  show Steps p.tables e below (T0.setTop (mkF m 44 #[.val (.ref x0), .val (.int x1), .val (.int x2), .val (.int ix), s4] [(.int (2 : Int32)), (.int ix)])) _
  refine XS.icmpNo X0.here hx rfl (hb hby d3_44) rfl (flt hf8).1 ?_
  show Steps p.tables e below (T0.setTop (mkF m 47 #[.val (.ref x0), .val (.int x1), .val (.int x2), .val (.int ix), s4] [])) _
  refine XS.aloadN X0.here hx rfl (hb hby d3_47) rfl rfl ?_
  show Steps p.tables e below (T0.setTop (mkF m 48 #[.val (.ref x0), .val (.int x1), .val (.int x2), .val (.int ix), s4] [(.ref x0)])) _
  refine XS.iloadN X0.here hx rfl (hb hby d3_48) rfl ?_
  show Steps p.tables e below (T0.setTop (mkF m 49 #[.val (.ref x0), .val (.int x1), .val (.int x2), .val (.int ix), s4] [(.int ix), (.ref x0)])) _
  refine XS.iconst X0.here hx rfl (hb hby d3_49) ?_
  show Steps p.tables e below (T0.setTop (mkF m 50 #[.val (.ref x0), .val (.int x1), .val (.int x2), .val (.int ix), s4] [(.int (2 : Int32)), (.int ix), (.ref x0)])) _
  refine XS.isub X0.here hx rfl (hb hby d3_50) rfl ?_
  obtain ⟨cl9, Ar9, q9, S9, N9, H9, G9⟩ := id A_x
  have hin9 : ¬ ((ix - (2 : Int32)) < 0 ∨ cl9.slots.size ≤ ((ix - (2 : Int32))).toNatClampNeg) := inb_of S9 (own_ix1 ix 2 2 ⟨own_ge2 ix h2, hi.2⟩ (by decide))
  have hat9 : cl9.slots[((ix - (2 : Int32))).toNatClampNeg]? = some (.int (L.getD ((ix - (2 : Int32))).toNatClampNeg 0)) := H9.at hin9 (own_getI L _)
  show Steps p.tables e below (T0.setTop (mkF m 51 #[.val (.ref x0), .val (.int x1), .val (.int x2), .val (.int ix), s4] [(.int (ix - (2 : Int32))), (.ref x0)])) _
  refine X0.baloadBytes hx (j := (ix - (2 : Int32))) (v := (.int (L.getD ((ix - (2 : Int32))).toNatClampNeg 0))) (by rw [e0]; exact Ar9.1) (State.isArrayOf_alike hZ.alike Ar9.2.1) Ar9.2.2 hin9 hat9 (g := (mkF m 51 #[.val (.ref x0), .val (.int x1), .val (.int x2), .val (.int ix), s4] [(.int (ix - (2 : Int32))), (.ref x0)])) rfl rfl (hb hby d3_51) _ ?_
  show Steps p.tables e below (T0.setTop (mkF m 52 #[.val (.ref x0), .val (.int x1), .val (.int x2), .val (.int ix), s4] [(.int (L.getD ((ix - (2 : Int32))).toNatClampNeg 0))])) _
  refine XS.bipush X0.here hx rfl (hb hby d3_52) ?_
  have hf10 : (L.getD ((ix - (2 : Int32))).toNatClampNeg 0) = (10 : Int32) := h3
  show Steps p.tables e below (T0.setTop (mkF m 54 #[.val (.ref x0), .val (.int x1), .val (.int x2), .val (.int ix), s4] [(.int (10 : Int32)), (.int (L.getD ((ix - (2 : Int32))).toNatClampNeg 0))])) _
  refine XS.icmpNo X0.here hx rfl (hb hby d3_54) rfl (teq hf10).2 ?_
  show Steps p.tables e below (T0.setTop (mkF m 57 #[.val (.ref x0), .val (.int x1), .val (.int x2), .val (.int ix), s4] [])) _
  refine XS.iconst X0.here hx rfl (hb hby d3_57) ?_
  show Steps p.tables e below (T0.setTop (mkF m 58 #[.val (.ref x0), .val (.int x1), .val (.int x2), .val (.int ix), s4] [(.int (1 : Int32))])) _
  refine XS.goto X0.here hx rfl (pc0 := 58) (pc' := 62) rfl (hb hby d3_58) (by decide) (by decide) ?_
  show Steps p.tables e below (T0.setTop (mkF m 62 #[.val (.ref x0), .val (.int x1), .val (.int x2), .val (.int ix), s4] [(.int (1 : Int32))])) _
  refine XS.istore X0.here hx rfl (hb hby d3_62) rfl (l' := #[.val (.ref x0), .val (.int x1), .val (.int x2), .val (.int ix), .val (.int (1 : Int32))]) (own_st4 hs) ?_
  show Steps p.tables e below (T0.setTop (mkF m 64 #[.val (.ref x0), .val (.int x1), .val (.int x2), .val (.int ix), .val (.int (1 : Int32))] [])) _
  refine XS.iload X0.here hx rfl (hb hby d3_64) rfl ?_
  have hf11 : ¬ ((1 : Int32) = (0 : Int32)) := by decide
  show Steps p.tables e below (T0.setTop (mkF m 66 #[.val (.ref x0), .val (.int x1), .val (.int x2), .val (.int ix), .val (.int (1 : Int32))] [(.int (1 : Int32))])) _
  refine XS.ifNo X0.here hx rfl (hb hby d3_66) rfl ((if0 _ _).trans (feq hf11).1) ?_
  show Steps p.tables e below (T0.setTop (mkF m 69 #[.val (.ref x0), .val (.int x1), .val (.int x2), .val (.int ix), .val (.int (1 : Int32))] [])) _
  refine XS.iloadN X0.here hx rfl (hb hby d3_69) rfl ?_
  show Steps p.tables e below (T0.setTop (mkF m 70 #[.val (.ref x0), .val (.int x1), .val (.int x2), .val (.int ix), .val (.int (1 : Int32))] [(.int ix)])) _
  refine XS.iconst X0.here hx rfl (hb hby d3_70) ?_
  show Steps p.tables e below (T0.setTop (mkF m 71 #[.val (.ref x0), .val (.int x1), .val (.int x2), .val (.int ix), .val (.int (1 : Int32))] [(.int (1 : Int32)), (.int ix)])) _
  refine XS.iadd X0.here hx rfl (hb hby d3_71) rfl ?_
  exact Steps.refl _
set_option maxRecDepth 65536 in
set_option maxHeartbeats 40000000 in
theorem own_rF {p : Program} {l : Launch} {e : Env} {R : Room} {s : State} {m : MethodId} {args : Array Value} {below : List Frame} {meth : Method} {c : Code} {T0 : State} {locs : List Loc} {cells slots : Nat} {Z : State} {a0 : Array Value} {h0 : Heap}
    (X0 : Stand p l e R s m args below meth c T0 locs cells slots) (hx : p.tables.exec = Jvm.exec) (hZ : Z.Warmed39 s.vm) (hw : ∀ d ∈ tables_1, d.before a0 Z = true) (hby : c.code = prog_15_method_2_code) (hml : c.maxLocals = 5) (hown : s.vm.findClass "com/example/persephone/persephone/executor/RequestHead" = some m.cls) (e0 : T0.heap = h0) (x0 : Addr) (x1 : Int32) (x2 : Int32) (ix : Int32) (s4 : Slot) (ka : ClassId) (L : List Int32) (A_x : Arv Z h0 x0 ka .byte (6 : Int32) (List.map Value.int L) (.int (0 : Int32))) (hi : 1 ≤ ix.toInt ∧ ix.toInt ≤ 5) (hs : One s4) (hl : ix < x2) (h0 : (L.getD (ix).toNatClampNeg 0) = (10 : Int32)) (h1 : ¬ (L.getD ((ix - (1 : Int32))).toNatClampNeg 0) = (10 : Int32)) (h13 : (L.getD ((ix - (1 : Int32))).toNatClampNeg 0) = (13 : Int32)) (h2 : ¬ ix < (2 : Int32)) (h3 : ¬ (L.getD ((ix - (2 : Int32))).toNatClampNeg 0) = (10 : Int32)) :
    Steps p.tables e below (T0.setTop (mkF m 6 #[.val (.ref x0), .val (.int x1), .val (.int x2), .val (.int ix), s4] [])) (T0.setTop (mkF m 6 #[.val (.ref x0), .val (.int x1), .val (.int x2), .val (.int (ix + (1 : Int32))), .val (.int (0 : Int32))] [])) := by
  show Steps p.tables e below (T0.setTop (mkF m 6 #[.val (.ref x0), .val (.int x1), .val (.int x2), .val (.int ix), s4] [])) _
  refine XS.iloadN X0.here hx rfl (hb hby d3_6) rfl ?_
  show Steps p.tables e below (T0.setTop (mkF m 7 #[.val (.ref x0), .val (.int x1), .val (.int x2), .val (.int ix), s4] [(.int ix)])) _
  refine XS.iloadN X0.here hx rfl (hb hby d3_7) rfl ?_
  have hf1 : ix < x2 := hl
  show Steps p.tables e below (T0.setTop (mkF m 8 #[.val (.ref x0), .val (.int x1), .val (.int x2), .val (.int ix), s4] [(.int x2), (.int ix)])) _
  refine XS.icmpNo X0.here hx rfl (hb hby d3_8) rfl (tlt hf1).2.1 ?_
  show Steps p.tables e below (T0.setTop (mkF m 11 #[.val (.ref x0), .val (.int x1), .val (.int x2), .val (.int ix), s4] [])) _
  refine XS.aloadN X0.here hx rfl (hb hby d3_11) rfl rfl ?_
  show Steps p.tables e below (T0.setTop (mkF m 12 #[.val (.ref x0), .val (.int x1), .val (.int x2), .val (.int ix), s4] [(.ref x0)])) _
  refine XS.iloadN X0.here hx rfl (hb hby d3_12) rfl ?_
  obtain ⟨cl2, Ar2, q2, S2, N2, H2, G2⟩ := id A_x
  have hin2 : ¬ (ix < 0 ∨ cl2.slots.size ≤ (ix).toNatClampNeg) := inb_of S2 (own_ix0 ix hi)
  have hat2 : cl2.slots[(ix).toNatClampNeg]? = some (.int (L.getD (ix).toNatClampNeg 0)) := H2.at hin2 (own_getI L _)
  show Steps p.tables e below (T0.setTop (mkF m 13 #[.val (.ref x0), .val (.int x1), .val (.int x2), .val (.int ix), s4] [(.int ix), (.ref x0)])) _
  refine X0.baloadBytes hx (j := ix) (v := (.int (L.getD (ix).toNatClampNeg 0))) (by rw [e0]; exact Ar2.1) (State.isArrayOf_alike hZ.alike Ar2.2.1) Ar2.2.2 hin2 hat2 (g := (mkF m 13 #[.val (.ref x0), .val (.int x1), .val (.int x2), .val (.int ix), s4] [(.int ix), (.ref x0)])) rfl rfl (hb hby d3_13) _ ?_
  show Steps p.tables e below (T0.setTop (mkF m 14 #[.val (.ref x0), .val (.int x1), .val (.int x2), .val (.int ix), s4] [(.int (L.getD (ix).toNatClampNeg 0))])) _
  refine XS.bipush X0.here hx rfl (hb hby d3_14) ?_
  have hf3 : (L.getD (ix).toNatClampNeg 0) = (10 : Int32) := h0
  show Steps p.tables e below (T0.setTop (mkF m 16 #[.val (.ref x0), .val (.int x1), .val (.int x2), .val (.int ix), s4] [(.int (10 : Int32)), (.int (L.getD (ix).toNatClampNeg 0))])) _
  refine XS.icmpYes X0.here hx rfl (pc0 := 16) (pc' := 22) rfl (hb hby d3_16) rfl (teq hf3).1 (by decide) (by decide) ?_
  show Steps p.tables e below (T0.setTop (mkF m 22 #[.val (.ref x0), .val (.int x1), .val (.int x2), .val (.int ix), s4] [])) _
  refine XS.aloadN X0.here hx rfl (hb hby d3_22) rfl rfl ?_
  show Steps p.tables e below (T0.setTop (mkF m 23 #[.val (.ref x0), .val (.int x1), .val (.int x2), .val (.int ix), s4] [(.ref x0)])) _
  refine XS.iloadN X0.here hx rfl (hb hby d3_23) rfl ?_
  show Steps p.tables e below (T0.setTop (mkF m 24 #[.val (.ref x0), .val (.int x1), .val (.int x2), .val (.int ix), s4] [(.int ix), (.ref x0)])) _
  refine XS.iconst X0.here hx rfl (hb hby d3_24) ?_
  show Steps p.tables e below (T0.setTop (mkF m 25 #[.val (.ref x0), .val (.int x1), .val (.int x2), .val (.int ix), s4] [(.int (1 : Int32)), (.int ix), (.ref x0)])) _
  refine XS.isub X0.here hx rfl (hb hby d3_25) rfl ?_
  obtain ⟨cl4, Ar4, q4, S4, N4, H4, G4⟩ := id A_x
  have hin4 : ¬ ((ix - (1 : Int32)) < 0 ∨ cl4.slots.size ≤ ((ix - (1 : Int32))).toNatClampNeg) := inb_of S4 (own_ix1 ix 1 1 hi (by decide))
  have hat4 : cl4.slots[((ix - (1 : Int32))).toNatClampNeg]? = some (.int (L.getD ((ix - (1 : Int32))).toNatClampNeg 0)) := H4.at hin4 (own_getI L _)
  show Steps p.tables e below (T0.setTop (mkF m 26 #[.val (.ref x0), .val (.int x1), .val (.int x2), .val (.int ix), s4] [(.int (ix - (1 : Int32))), (.ref x0)])) _
  refine X0.baloadBytes hx (j := (ix - (1 : Int32))) (v := (.int (L.getD ((ix - (1 : Int32))).toNatClampNeg 0))) (by rw [e0]; exact Ar4.1) (State.isArrayOf_alike hZ.alike Ar4.2.1) Ar4.2.2 hin4 hat4 (g := (mkF m 26 #[.val (.ref x0), .val (.int x1), .val (.int x2), .val (.int ix), s4] [(.int (ix - (1 : Int32))), (.ref x0)])) rfl rfl (hb hby d3_26) _ ?_
  show Steps p.tables e below (T0.setTop (mkF m 27 #[.val (.ref x0), .val (.int x1), .val (.int x2), .val (.int ix), s4] [(.int (L.getD ((ix - (1 : Int32))).toNatClampNeg 0))])) _
  refine XS.bipush X0.here hx rfl (hb hby d3_27) ?_
  have hf5 : ¬ ((L.getD ((ix - (1 : Int32))).toNatClampNeg 0) = (10 : Int32)) := h1
  show Steps p.tables e below (T0.setTop (mkF m 29 #[.val (.ref x0), .val (.int x1), .val (.int x2), .val (.int ix), s4] [(.int (10 : Int32)), (.int (L.getD ((ix - (1 : Int32))).toNatClampNeg 0))])) _
  refine XS.icmpNo X0.here hx rfl (hb hby d3_29) rfl (feq hf5).1 ?_
  show Steps p.tables e below (T0.setTop (mkF m 32 #[.val (.ref x0), .val (.int x1), .val (.int x2), .val (.int ix), s4] [])) _
  refine XS.aloadN X0.here hx rfl (hb hby d3_32) rfl rfl ?_
  show Steps p.tables e below (T0.setTop (mkF m 33 #[.val (.ref x0), .val (.int x1), .val (.int x2), .val (.int ix), s4] [(.ref x0)])) _
  refine XS.iloadN X0.here hx rfl (hb hby d3_33) rfl ?_
  show Steps p.tables e below (T0.setTop (mkF m 34 #[.val (.ref x0), .val (.int x1), .val (.int x2), .val (.int ix), s4] [(.int ix), (.ref x0)])) _
  refine XS.iconst X0.here hx rfl (hb hby d3_34) ?_
  show Steps p.tables e below (T0.setTop (mkF m 35 #[.val (.ref x0), .val (.int x1), .val (.int x2), .val (.int ix), s4] [(.int (1 : Int32)), (.int ix), (.ref x0)])) _
  refine XS.isub X0.here hx rfl (hb hby d3_35) rfl ?_
  obtain ⟨cl6, Ar6, q6, S6, N6, H6, G6⟩ := id A_x
  have hin6 : ¬ ((ix - (1 : Int32)) < 0 ∨ cl6.slots.size ≤ ((ix - (1 : Int32))).toNatClampNeg) := inb_of S6 (own_ix1 ix 1 1 hi (by decide))
  have hat6 : cl6.slots[((ix - (1 : Int32))).toNatClampNeg]? = some (.int (L.getD ((ix - (1 : Int32))).toNatClampNeg 0)) := H6.at hin6 (own_getI L _)
  show Steps p.tables e below (T0.setTop (mkF m 36 #[.val (.ref x0), .val (.int x1), .val (.int x2), .val (.int ix), s4] [(.int (ix - (1 : Int32))), (.ref x0)])) _
  refine X0.baloadBytes hx (j := (ix - (1 : Int32))) (v := (.int (L.getD ((ix - (1 : Int32))).toNatClampNeg 0))) (by rw [e0]; exact Ar6.1) (State.isArrayOf_alike hZ.alike Ar6.2.1) Ar6.2.2 hin6 hat6 (g := (mkF m 36 #[.val (.ref x0), .val (.int x1), .val (.int x2), .val (.int ix), s4] [(.int (ix - (1 : Int32))), (.ref x0)])) rfl rfl (hb hby d3_36) _ ?_
  show Steps p.tables e below (T0.setTop (mkF m 37 #[.val (.ref x0), .val (.int x1), .val (.int x2), .val (.int ix), s4] [(.int (L.getD ((ix - (1 : Int32))).toNatClampNeg 0))])) _
  refine XS.bipush X0.here hx rfl (hb hby d3_37) ?_
  have hf7 : (L.getD ((ix - (1 : Int32))).toNatClampNeg 0) = (13 : Int32) := h13
  show Steps p.tables e below (T0.setTop (mkF m 39 #[.val (.ref x0), .val (.int x1), .val (.int x2), .val (.int ix), s4] [(.int (13 : Int32)), (.int (L.getD ((ix - (1 : Int32))).toNatClampNeg 0))])) _
  refine XS.icmpNo X0.here hx rfl (hb hby d3_39) rfl (teq hf7).2 ?_
  show Steps p.tables e below (T0.setTop (mkF m 42 #[.val (.ref x0), .val (.int x1), .val (.int x2), .val (.int ix), s4] [])) _
  refine XS.iloadN X0.here hx rfl (hb hby d3_42) rfl ?_
  show Steps p.tables e below (T0.setTop (mkF m 43 #[.val (.ref x0), .val (.int x1), .val (.int x2), .val (.int ix), s4] [(.int ix)])) _
  refine XS.iconst X0.here hx rfl (hb hby d3_43) ?_
  have hf8 : ¬ (ix < (2 : Int32)) := h2
  show Steps p.tables e below (T0.setTop (mkF m 44 #[.val (.ref x0), .val (.int x1), .val (.int x2), .val (.int ix), s4] [(.int (2 : Int32)), (.int ix)])) _
  refine XS.icmpNo X0.here hx rfl (hb hby d3_44) rfl (flt hf8).1 ?_
  show Steps p.tables e below (T0.setTop (mkF m 47 #[.val (.ref x0), .val (.int x1), .val (.int x2), .val (.int ix), s4] [])) _
  refine XS.aloadN X0.here hx rfl (hb hby d3_47) rfl rfl ?_
  show Steps p.tables e below (T0.setTop (mkF m 48 #[.val (.ref x0), .val (.int x1), .val (.int x2), .val (.int ix), s4] [(.ref x0)])) _
  refine XS.iloadN X0.here hx rfl (hb hby d3_48) rfl ?_
  show Steps p.tables e below (T0.setTop (mkF m 49 #[.val (.ref x0), .val (.int x1), .val (.int x2), .val (.int ix), s4] [(.int ix), (.ref x0)])) _
  refine XS.iconst X0.here hx rfl (hb hby d3_49) ?_
  show Steps p.tables e below (T0.setTop (mkF m 50 #[.val (.ref x0), .val (.int x1), .val (.int x2), .val (.int ix), s4] [(.int (2 : Int32)), (.int ix), (.ref x0)])) _
  refine XS.isub X0.here hx rfl (hb hby d3_50) rfl ?_
  obtain ⟨cl9, Ar9, q9, S9, N9, H9, G9⟩ := id A_x
  have hin9 : ¬ ((ix - (2 : Int32)) < 0 ∨ cl9.slots.size ≤ ((ix - (2 : Int32))).toNatClampNeg) := inb_of S9 (own_ix1 ix 2 2 ⟨own_ge2 ix h2, hi.2⟩ (by decide))
  have hat9 : cl9.slots[((ix - (2 : Int32))).toNatClampNeg]? = some (.int (L.getD ((ix - (2 : Int32))).toNatClampNeg 0)) := H9.at hin9 (own_getI L _)
  show Steps p.tables e below (T0.setTop (mkF m 51 #[.val (.ref x0), .val (.int x1), .val (.int x2), .val (.int ix), s4] [(.int (ix - (2 : Int32))), (.ref x0)])) _
  refine X0.baloadBytes hx (j := (ix - (2 : Int32))) (v := (.int (L.getD ((ix - (2 : Int32))).toNatClampNeg 0))) (by rw [e0]; exact Ar9.1) (State.isArrayOf_alike hZ.alike Ar9.2.1) Ar9.2.2 hin9 hat9 (g := (mkF m 51 #[.val (.ref x0), .val (.int x1), .val (.int x2), .val (.int ix), s4] [(.int (ix - (2 : Int32))), (.ref x0)])) rfl rfl (hb hby d3_51) _ ?_
  show Steps p.tables e below (T0.setTop (mkF m 52 #[.val (.ref x0), .val (.int x1), .val (.int x2), .val (.int ix), s4] [(.int (L.getD ((ix - (2 : Int32))).toNatClampNeg 0))])) _
  refine XS.bipush X0.here hx rfl (hb hby d3_52) ?_
  have hf10 : ¬ ((L.getD ((ix - (2 : Int32))).toNatClampNeg 0) = (10 : Int32)) := h3
  show Steps p.tables e below (T0.setTop (mkF m 54 #[.val (.ref x0), .val (.int x1), .val (.int x2), .val (.int ix), s4] [(.int (10 : Int32)), (.int (L.getD ((ix - (2 : Int32))).toNatClampNeg 0))])) _
  refine XS.icmpYes X0.here hx rfl (pc0 := 54) (pc' := 61) rfl (hb hby d3_54) rfl (feq hf10).2 (by decide) (by decide) ?_
  show Steps p.tables e below (T0.setTop (mkF m 61 #[.val (.ref x0), .val (.int x1), .val (.int x2), .val (.int ix), s4] [])) _
  refine XS.iconst X0.here hx rfl (hb hby d3_61) ?_
  show Steps p.tables e below (T0.setTop (mkF m 62 #[.val (.ref x0), .val (.int x1), .val (.int x2), .val (.int ix), s4] [(.int (0 : Int32))])) _
  refine XS.istore X0.here hx rfl (hb hby d3_62) rfl (l' := #[.val (.ref x0), .val (.int x1), .val (.int x2), .val (.int ix), .val (.int (0 : Int32))]) (own_st4 hs) ?_
  show Steps p.tables e below (T0.setTop (mkF m 64 #[.val (.ref x0), .val (.int x1), .val (.int x2), .val (.int ix), .val (.int (0 : Int32))] [])) _
  refine XS.iload X0.here hx rfl (hb hby d3_64) rfl ?_
  have hf11 : (0 : Int32) = (0 : Int32) := by decide
  show Steps p.tables e below (T0.setTop (mkF m 66 #[.val (.ref x0), .val (.int x1), .val (.int x2), .val (.int ix), .val (.int (0 : Int32))] [(.int (0 : Int32))])) _
  refine XS.ifYes X0.here hx rfl (pc0 := 66) (pc' := 73) rfl (hb hby d3_66) rfl ((if0 _ _).trans (teq hf11).1) (by decide) (by decide) ?_
  show Steps p.tables e below (T0.setTop (mkF m 73 #[.val (.ref x0), .val (.int x1), .val (.int x2), .val (.int ix), .val (.int (0 : Int32))] [])) _
  refine XS.iinc X0.here hx rfl (hb hby d3_73) rfl (l' := #[.val (.ref x0), .val (.int x1), .val (.int x2), .val (.int (ix + (1 : Int32))), .val (.int (0 : Int32))]) rfl ?_
  show Steps p.tables e below (T0.setTop (mkF m 76 #[.val (.ref x0), .val (.int x1), .val (.int x2), .val (.int (ix + (1 : Int32))), .val (.int (0 : Int32))] [])) _
  refine XS.goto X0.here hx rfl (pc0 := 76) (pc' := 6) rfl (hb hby d3_76) (by decide) (by decide) ?_
  exact Steps.refl _
abbrev own_hit (L : List Int32) (ix : Int32) : Prop := (L.getD (ix).toNatClampNeg 0) = (10 : Int32) ∧ ((L.getD ((ix - (1 : Int32))).toNatClampNeg 0) = (10 : Int32) ∨ ((L.getD ((ix - (1 : Int32))).toNatClampNeg 0) = (13 : Int32) ∧ ¬ ix < (2 : Int32) ∧ (L.getD ((ix - (2 : Int32))).toNatClampNeg 0) = (10 : Int32)))
def own_end : Nat → List Int32 → Int32 → Int32 → Int32
  | 0, _, _, _ => (-1 : Int32)
  | n + 1, L, ix, x2 => if ix < x2 then (if own_hit L ix then (ix + (1 : Int32)) else own_end n L (ix + (1 : Int32)) x2) else (-1 : Int32)
theorem own_yes {p : Program} {l : Launch} {e : Env} {R : Room} {s : State} {m : MethodId} {args : Array Value} {below : List Frame} {meth : Method} {c : Code} {T0 : State} {locs : List Loc} {cells slots : Nat} {Z : State} {a0 : Array Value} {h0 : Heap}
    (X0 : Stand p l e R s m args below meth c T0 locs cells slots) (hx : p.tables.exec = Jvm.exec) (hZ : Z.Warmed39 s.vm) (hw : ∀ d ∈ tables_1, d.before a0 Z = true) (hby : c.code = prog_15_method_2_code) (hml : c.maxLocals = 5) (hown : s.vm.findClass "com/example/persephone/persephone/executor/RequestHead" = some m.cls) (e0 : T0.heap = h0) (x0 : Addr) (x1 x2 : Int32) (ka : ClassId) (L : List Int32) (A_x : Arv Z h0 x0 ka .byte (6 : Int32) (List.map Value.int L) (.int (0 : Int32))) (ix : Int32) (s4 : Slot) (hi : 1 ≤ ix.toInt ∧ ix.toInt ≤ 5) (hs : One s4) (hl : ix < x2) (h : own_hit L ix) :
    ∃ s', One s' ∧ Steps p.tables e below (T0.setTop (mkF m 6 #[.val (.ref x0), .val (.int x1), .val (.int x2), .val (.int ix), s4] [])) (T0.setTop (mkF m 72 #[.val (.ref x0), .val (.int x1), .val (.int x2), .val (.int ix), s'] [(.int (ix + (1 : Int32)))])) := by
  obtain ⟨h0, h⟩ := h
  by_cases h1 : (L.getD ((ix - (1 : Int32))).toNatClampNeg 0) = (10 : Int32)
  · exact ⟨_, One.val rfl, own_rB X0 hx hZ hw hby hml hown e0 x0 x1 x2 ix s4 ka L A_x hi hs hl h0 h1⟩
  · rcases h with h | ⟨h13, h2, h3⟩
    · exact absurd h h1
    · exact ⟨_, One.val rfl, own_rE X0 hx hZ hw hby hml hown e0 x0 x1 x2 ix s4 ka L A_x hi hs hl h0 h1 h13 h2 h3⟩
theorem own_no {p : Program} {l : Launch} {e : Env} {R : Room} {s : State} {m : MethodId} {args : Array Value} {below : List Frame} {meth : Method} {c : Code} {T0 : State} {locs : List Loc} {cells slots : Nat} {Z : State} {a0 : Array Value} {h0 : Heap}
    (X0 : Stand p l e R s m args below meth c T0 locs cells slots) (hx : p.tables.exec = Jvm.exec) (hZ : Z.Warmed39 s.vm) (hw : ∀ d ∈ tables_1, d.before a0 Z = true) (hby : c.code = prog_15_method_2_code) (hml : c.maxLocals = 5) (hown : s.vm.findClass "com/example/persephone/persephone/executor/RequestHead" = some m.cls) (e0 : T0.heap = h0) (x0 : Addr) (x1 x2 : Int32) (ka : ClassId) (L : List Int32) (A_x : Arv Z h0 x0 ka .byte (6 : Int32) (List.map Value.int L) (.int (0 : Int32))) (ix : Int32) (s4 : Slot) (hi : 1 ≤ ix.toInt ∧ ix.toInt ≤ 5) (hs : One s4) (hl : ix < x2) (h : ¬ own_hit L ix) :
    ∃ s', One s' ∧ Steps p.tables e below (T0.setTop (mkF m 6 #[.val (.ref x0), .val (.int x1), .val (.int x2), .val (.int ix), s4] [])) (T0.setTop (mkF m 6 #[.val (.ref x0), .val (.int x1), .val (.int x2), .val (.int (ix + (1 : Int32))), s'] [])) := by
  by_cases h0 : (L.getD (ix).toNatClampNeg 0) = (10 : Int32)
  · by_cases h1 : (L.getD ((ix - (1 : Int32))).toNatClampNeg 0) = (10 : Int32)
    · exact absurd ⟨h0, Or.inl h1⟩ h
    · by_cases h13 : (L.getD ((ix - (1 : Int32))).toNatClampNeg 0) = (13 : Int32)
      · by_cases h2 : ix < (2 : Int32)
        · exact ⟨_, One.val rfl, own_rD X0 hx hZ hw hby hml hown e0 x0 x1 x2 ix s4 ka L A_x hi hs hl h0 h1 h13 h2⟩
        · by_cases h3 : (L.getD ((ix - (2 : Int32))).toNatClampNeg 0) = (10 : Int32)
          · exact absurd ⟨h0, Or.inr ⟨h13, h2, h3⟩⟩ h
          · exact ⟨_, One.val rfl, own_rF X0 hx hZ hw hby hml hown e0 x0 x1 x2 ix s4 ka L A_x hi hs hl h0 h1 h13 h2 h3⟩
      · exact ⟨_, One.val rfl, own_rC X0 hx hZ hw hby hml hown e0 x0 x1 x2 ix s4 ka L A_x hi hs hl h0 h1 h13⟩
  · exact ⟨s4, hs, own_rA X0 hx hZ hw hby hml hown e0 x0 x1 x2 ix s4 ka L A_x hi hs hl h0⟩
theorem own_loop {p : Program} {l : Launch} {e : Env} {R : Room} {s : State} {m : MethodId} {args : Array Value} {below : List Frame} {meth : Method} {c : Code} {T0 : State} {locs : List Loc} {cells slots : Nat} {Z : State} {a0 : Array Value} {h0 : Heap}
    (X0 : Stand p l e R s m args below meth c T0 locs cells slots) (hx : p.tables.exec = Jvm.exec) (hZ : Z.Warmed39 s.vm) (hw : ∀ d ∈ tables_1, d.before a0 Z = true) (hby : c.code = prog_15_method_2_code) (hml : c.maxLocals = 5) (hown : s.vm.findClass "com/example/persephone/persephone/executor/RequestHead" = some m.cls) (e0 : T0.heap = h0) (x0 : Addr) (x1 x2 : Int32) (ka : ClassId) (L : List Int32) (A_x : Arv Z h0 x0 ka .byte (6 : Int32) (List.map Value.int L) (.int (0 : Int32))) (h6 : x2.toInt ≤ 6) :
    ∀ (k : Nat) (ix : Int32) (s4 : Slot), 1 ≤ ix.toInt → x2.toInt ≤ ix.toInt + k → One s4 →
      (∃ i' s', own_end k L ix x2 = (i' + (1 : Int32)) ∧ Steps p.tables e below (T0.setTop (mkF m 6 #[.val (.ref x0), .val (.int x1), .val (.int x2), .val (.int ix), s4] [])) (T0.setTop (mkF m 72 #[.val (.ref x0), .val (.int x1), .val (.int x2), .val (.int i'), s'] [(.int (i' + (1 : Int32)))]))) ∨
      (∃ i' s', own_end k L ix x2 = (-1 : Int32) ∧ Steps p.tables e below (T0.setTop (mkF m 6 #[.val (.ref x0), .val (.int x1), .val (.int x2), .val (.int ix), s4] [])) (T0.setTop (mkF m 80 #[.val (.ref x0), .val (.int x1), .val (.int x2), .val (.int i'), s'] [(.int (-1 : Int32))])))
  | 0, ix, s4, h1, hk, hs => Or.inr ⟨ix, s4, rfl, own_rX X0 hx hZ hw hby hml hown e0 x0 x1 x2 ix s4 ka L (by rw [Int32.lt_iff_toInt_lt]; omega)⟩
  | k + 1, ix, s4, h1, hk, hs => by
    by_cases hl : ix < x2
    · have hl' := Int32.lt_iff_toInt_lt.mp hl
      by_cases h : own_hit L ix
      · obtain ⟨s', _, st⟩ := own_yes X0 hx hZ hw hby hml hown e0 x0 x1 x2 ka L A_x ix s4 ⟨h1, by omega⟩ hs hl h
        exact Or.inl ⟨ix, s', by rw [own_end, if_pos hl, if_pos h], st⟩
      · obtain ⟨s', hs', st⟩ := own_no X0 hx hZ hw hby hml hown e0 x0 x1 x2 ka L A_x ix s4 ⟨h1, by omega⟩ hs hl h
        have e1 := c_iadd ix 1
        have r1 := rng32 (ix + 1)
        rw [show (1 : Int32).toInt = 1 by decide] at e1
        have ee : own_end (k + 1) L ix x2 = own_end k L (ix + (1 : Int32)) x2 := by rw [own_end, if_pos hl, if_neg h]
        rw [ee]
        rcases own_loop X0 hx hZ hw hby hml hown e0 x0 x1 x2 ka L A_x h6 k (ix + (1 : Int32)) s' (by omega) (by omega) hs' with ⟨i', t', q1, q2⟩ | ⟨i', t', q1, q2⟩
        · exact Or.inl ⟨i', t', q1, st.trans q2⟩
        · exact Or.inr ⟨i', t', q1, st.trans q2⟩
    · exact Or.inr ⟨ix, s4, by rw [own_end, if_neg hl], own_rX X0 hx hZ hw hby hml hown e0 x0 x1 x2 ix s4 ka L hl⟩
theorem own_mx (x : Int32) : 1 ≤ (F4 x (1 : Int32)).toInt := by
  have k : (1 : Int32).toInt = 1 := by decide
  unfold F4
  split
  · omega
  · rename_i h; rw [Int32.lt_iff_toInt_lt] at h; omega
theorem pd_0 : parseMethodDescriptor "(II)I" = some ⟨[.int, .int], some .int⟩ := by decide +kernel
theorem d3_0 : decode prog_15_method_2_code 0 = .ok (.iload_n 1, 1) := by decide +kernel
theorem d3_1 : decode prog_15_method_2_code 1 = .ok (.iconst 1, 1) := by decide +kernel
theorem d3_2 : decode prog_15_method_2_code 2 = .ok (.invokestatic 23, 3) := by decide +kernel
theorem d3_5 : decode prog_15_method_2_code 5 = .ok (.istore_n 3, 1) := by decide +kernel
theorem d3_72 : decode prog_15_method_2_code 72 = .ok (.ireturn, 1) := by decide +kernel
theorem d3_80 : decode prog_15_method_2_code 80 = .ok (.ireturn, 1) := by decide +kernel
theorem pn_1 : plainName "com/example/persephone/persephone/executor/RequestHead" = true := by first | (simp [plainName, overriddenIn]; done) | decide +kernel
theorem ef_3 (m : MethodId) (x0 : Addr) (x1 : Int32) (x2 : Int32)  : entryFrame m #[(.ref x0), (.int x1), (.int x2)] 5 = mkF m 0 #[.val (.ref x0), .val (.int x1), .val (.int x2), .unset, .unset] [] := by first | (simp [entryFrame, mkF, argsToLocals, Value.category]; done) | rfl
def Q3 (Z : State) (x0 : Addr) (x1 : Int32) (x2 : Int32) (ka : ClassId) (L : List Int32) (h0 : Heap) (n0 : Nat) (vE : Option Value) (hE : Heap) (LE : List Loc) : Prop := vE = some (.int (own_end 6 L (F4 x1 (1 : Int32)) x2)) ∧ Fr n0 LE ∧ hE = h0
set_option maxRecDepth 65536 in
set_option maxHeartbeats 40000000 in
theorem rm3 (l : Launch) (Z : State) (a0 : Array Value) (hw : ∀ d ∈ tables_1, d.before a0 Z = true) (ws : List Jvm.Cond) (x0 : Addr) (x1 : Int32) (x2 : Int32) (ka : ClassId) (L : List Int32) (h0 : Heap) (n0 : Nat) (Z0 : n0 ≤ h0.size) (A_x : Arv Z h0 x0 ka .byte (6 : Int32) (List.map Value.int L) (.int (0 : Int32))) (h6 : x2.toInt ≤ 6) :
    MetFree l (⟨"com/example/persephone/persephone/executor/RequestHead", "end", "([BII)I"⟩ : MethodName) (head1 (Jvm.Cond.code (⟨"com/example/persephone/persephone/executor/RequestHead", "end", "([BII)I"⟩ : MethodName) prog_15_method_2_code 5 (some .int) :: ws) ({ frames := 1, cells := 0, slots := 0, locals := 13 } : Room)) (fun a U => a = #[(.ref x0), (.int x1), (.int x2)] ∧ Z.Warmed39 U.vm ∧ U.heap = h0) (fun _ _ _ _ _ => True) (fun _ U o U' => ∃ vE LE, o = .returned vE ∧ Q3 Z x0 x1 x2 ka L h0 n0 vE U'.heap LE ∧ FrameEnd U o U' LE ({ frames := 1, cells := 0, slots := 0, locals := 13 } : Room).cells ({ frames := 1, cells := 0, slots := 0, locals := 13 } : Room).slots) := by
  refine MetFree.of_bodySF (plainFor_of_name pn_1) hisR ?_
  intro p e s m args below meth c s₁ Bd hml0 hP hK
  obtain ⟨rfl, hZ, hh⟩ := hP
  have hx := Bd.exec
  have hby := Bd.bytes
  have hml : c.maxLocals = 5 := hml0
  have hown : s.vm.findClass "com/example/persephone/persephone/executor/RequestHead" = some m.cls := findClass_of_methodNamed Bd.named
  have hnm := (name_of_methodNamed Bd.named Bd.method).1
  have X0 : Stand p l e ({ frames := 1, cells := 0, slots := 0, locals := 13 } : Room) s m #[(.ref x0), (.int x1), (.int x2)] below meth c s₁ [] 0 0 := Stand.of_body Bd
  have e0 : s₁.heap = h0 := by rw [← hh, Bd.state]; rfl
  have N0 := Fr.nil n0
  have st0 : Steps p.tables e below (s₁.setTop (entryFrame m #[(.ref x0), (.int x1), (.int x2)] 5)) (s₁.setTop (mkF m 0 #[.val (.ref x0), .val (.int x1), .val (.int x2), .unset, .unset] [])) := castTop (ef_3 m x0 x1 x2) (Steps.refl _)
  have st1 : Steps p.tables e below (s₁.setTop (entryFrame m #[(.ref x0), (.int x1), (.int x2)] 5)) (s₁.setTop (mkF m 2 #[.val (.ref x0), .val (.int x1), .val (.int x2), .unset, .unset] [(.int (1 : Int32)), (.int x1)])) := st0.trans (by
      show Steps p.tables e below (s₁.setTop (mkF m 0 #[.val (.ref x0), .val (.int x1), .val (.int x2), .unset, .unset] [])) _
      refine XS.iloadN X0.here hx rfl (hb hby d3_0) rfl ?_
      show Steps p.tables e below (s₁.setTop (mkF m 1 #[.val (.ref x0), .val (.int x1), .val (.int x2), .unset, .unset] [(.int x1)])) _
      refine XS.iconst X0.here hx rfl (hb hby d3_1) ?_
      exact Steps.refl _)
  obtain ⟨_, _, ⟨T2, L2, k2, n2⟩, -, X2, ⟨Lc2, hQ2, l2, y2, z2⟩, sr2⟩ := Jvm.LawKit.callS X0 hx (y := (⟨"java/lang/Math", "max", "(II)I"⟩ : MethodName)) hown (mvT hZ (hw _ (List.mem_of_getElem? (i := 12) rfl))) (mvT hZ (hw _ (List.mem_of_getElem? (i := 13) rfl))) (mvT hZ (hw _ (List.mem_of_getElem? (i := 14) rfl))) (mvT hZ (hw _ (List.mem_of_getElem? (i := 15) rfl))) (by decide) (backOf (W := 0) (rm4 l Z a0 hw [] x1 (1 : Int32)  h0 n0 Z0 ) hZ (hw _ (List.mem_of_getElem? (i := 15) rfl)) (hw _ (List.mem_of_getElem? (i := 14) rfl)) (by decide) (by decide)) (g := (mkF m 2 #[.val (.ref x0), .val (.int x1), .val (.int x2), .unset, .unset] [(.int (1 : Int32)), (.int x1)])) rfl (by rw [hml]; rfl) (argsL := [(.int x1), (.int (1 : Int32))]) (rest := []) (lenOf pd_0 rfl) rfl (by show 2 * 0 + _ ≤ _; exact Nat.le_of_eq rfl) (hb hby d3_2) (fun _ _ => ⟨rfl, e0, (by decide : 0 + 0 ≤ _), (by decide : 0 + 0 ≤ _)⟩)
  dsimp only [Pt.U, Pt.locs, Pt.cells, Pt.slots] at X2 l2 y2 z2 sr2 hQ2
  subst l2 y2 z2
  obtain ⟨rfl, N2q, hh2⟩ := hQ2
  have N2 := Fr.app N0 N2q
  have st3 : Steps p.tables e below (s₁.setTop (entryFrame m #[(.ref x0), (.int x1), (.int x2)] 5)) (T2.setTop (mkF m 5 #[.val (.ref x0), .val (.int x1), .val (.int x2), .unset, .unset] [(.int (F4 x1 (1 : Int32)))])) := st1.trans (sr2 _ (Steps.refl _))
  have st4 : Steps p.tables e below (s₁.setTop (entryFrame m #[(.ref x0), (.int x1), (.int x2)] 5)) (T2.setTop (mkF m 6 #[.val (.ref x0), .val (.int x1), .val (.int x2), .val (.int (F4 x1 (1 : Int32))), .unset] [])) := st3.trans (by
      show Steps p.tables e below (T2.setTop (mkF m 5 #[.val (.ref x0), .val (.int x1), .val (.int x2), .unset, .unset] [(.int (F4 x1 (1 : Int32)))])) _
      refine XS.istoreN X2.here hx rfl (hb hby d3_5) rfl (l' := #[.val (.ref x0), .val (.int x1), .val (.int x2), .val (.int (F4 x1 (1 : Int32))), .unset]) rfl ?_
      exact Steps.refl _)
  have hmx := own_mx x1
  rcases own_loop X2 hx hZ hw hby hml hown hh2 x0 x1 x2 ka L A_x h6 6 (F4 x1 (1 : Int32)) .unset hmx (by omega) One.u with ⟨i', s', hv, sl⟩ | ⟨i', s', hv, sl⟩
  · have st5 : Steps p.tables e below (s₁.setTop (entryFrame m #[(.ref x0), (.int x1), (.int x2)] 5)) (T2.setTop (mkF m 72 #[.val (.ref x0), .val (.int x1), .val (.int x2), .val (.int i'), s'] [(.int (i' + (1 : Int32)))])) := st4.trans sl
    obtain ⟨fs, hr, hrun, hended, hW, hsame⟩ := X2.leave (v := some (.int (i' + (1 : Int32)))) (fun h => by rw [Bd.returns] at h; cases h)
    refine ⟨_, _, st5.trans ?_, hrun, hended, _, _, rfl, ?_, ⟨_, rfl⟩, hW, hsame.mono (by decide) (by decide)⟩
    · exact retI X2 hx Bd.returns (hb hby d3_72) hr
    · show Q3 Z x0 x1 x2 ka L h0 n0 _ T2.heap _
      rw [hh2]
      exact ⟨by rw [hv], N2, rfl⟩
  · have st6 : Steps p.tables e below (s₁.setTop (entryFrame m #[(.ref x0), (.int x1), (.int x2)] 5)) (T2.setTop (mkF m 80 #[.val (.ref x0), .val (.int x1), .val (.int x2), .val (.int i'), s'] [(.int (-1 : Int32))])) := st4.trans sl
    obtain ⟨fs, hr, hrun, hended, hW, hsame⟩ := X2.leave (v := some (.int (-1 : Int32))) (fun h => by rw [Bd.returns] at h; cases h)
    refine ⟨_, _, st6.trans ?_, hrun, hended, _, _, rfl, ?_, ⟨_, rfl⟩, hW, hsame.mono (by decide) (by decide)⟩
    · exact retI X2 hx Bd.returns (hb hby d3_80) hr
    · show Q3 Z x0 x1 x2 ka L h0 n0 _ T2.heap _
      rw [hh2]
      exact ⟨by rw [hv], N2, rfl⟩
theorem own_es (n : Nat) (L : List Int32) (i len : Int32) (h : i.toInt < 1000) : own_end (n + 1) L i len = if i < len ∧ own_hit L i then i + 1 else own_end n L (i + 1) len := by
  have e1 := c_iadd i 1
  have r0 := rng32 i
  have r1 := rng32 (i + 1)
  rw [show (1 : Int32).toInt = 1 by decide] at e1
  rw [own_end]
  by_cases hl : i < len
  · rw [if_pos hl]
    by_cases hh : own_hit L i
    · rw [if_pos hh, if_pos ⟨hl, hh⟩]
    · rw [if_neg hh, if_neg (fun q => hh q.2)]
  · rw [if_neg hl, if_neg (fun q => hl q.1)]
    have hl2 : ¬ (i + 1) < len := by rw [Int32.lt_iff_toInt_lt] at *; omega
    cases n with
    | zero => rfl
    | succ n => rw [own_end, if_neg hl2]
theorem own_fe (p i f len : Int32) (L : List Int32) (hp : p - 1 = i) (hp2 : p - 2 = i - 1) (hp3 : p - 3 = i - 2) (hi : 1 ≤ i.toInt ∧ i.toInt ≤ 5) (hpi : p.toInt = i.toInt + 1) : F2 p f len L = if (i < len ∧ ¬ i < f ∧ own_hit L i) then 1 else 0 := by
  have a1 : len < p ↔ ¬ i < len := by rw [Int32.lt_iff_toInt_lt, Int32.lt_iff_toInt_lt]; omega
  have a3 : p < 3 ↔ i < 2 := by rw [Int32.lt_iff_toInt_lt, Int32.lt_iff_toInt_lt, show (3 : Int32).toInt = 3 by decide, show (2 : Int32).toInt = 2 by decide]; omega
  unfold F2 own_hit
  rw [hp, hp2, hp3]
  simp only [a1, a3]
  generalize L.getD i.toNatClampNeg 0 = A
  generalize L.getD (i - 1).toNatClampNeg 0 = B
  generalize L.getD (i - 2).toNatClampNeg 0 = D
  by_cases q1 : i < len
  · by_cases q2 : i < f
    · simp [q1, q2]
    · by_cases q3 : A = 10
      · by_cases q4 : B = 10
        · simp +decide [q1, q2, q3, q4]
        · by_cases q5 : B = 13
          · by_cases q6 : i < 2
            · simp +decide [q1, q2, q3, q4, q5, q6]
            · by_cases q7 : D = 10
              · simp +decide [q1, q2, q3, q4, q5, q6, q7]
              · simp +decide [q1, q2, q3, q4, q5, q6, q7]
          · simp +decide [q1, q2, q3, q4, q5]
      · simp +decide [q1, q2, q3]
  · simp [q1]
theorem own_tail (n : Nat) (L : List Int32) (i len : Int32) (h6 : len.toInt ≤ 6) (h : 6 ≤ i.toInt) : own_end n L i len = -1 := by
  cases n with
  | zero => rfl
  | succ n => rw [own_end, if_neg (by rw [Int32.lt_iff_toInt_lt]; omega)]
theorem own_main (f len : Int32) (L : List Int32) (h6 : len.toInt ≤ 6) : own_end 6 L (F4 f 1) len = if F2 2 f len L = 0 then (if F2 3 f len L = 0 then (if F2 4 f len L = 0 then (if F2 5 f len L = 0 then (if F2 6 f len L = 0 then -1 else 6) else 5) else 4) else 3) else 2 := by
  have g1 := own_fe 2 1 f len L (by decide) (by decide) (by decide) (by decide) (by decide)
  have g2 := own_fe 3 2 f len L (by decide) (by decide) (by decide) (by decide) (by decide)
  have g3 := own_fe 4 3 f len L (by decide) (by decide) (by decide) (by decide) (by decide)
  have g4 := own_fe 5 4 f len L (by decide) (by decide) (by decide) (by decide) (by decide)
  have g5 := own_fe 6 5 f len L (by decide) (by decide) (by decide) (by decide) (by decide)
  have k1 : (1 : Int32).toInt = 1 := by decide
  have k2 : (2 : Int32).toInt = 2 := by decide
  have k3 : (3 : Int32).toInt = 3 := by decide
  have k4 : (4 : Int32).toInt = 4 := by decide
  have k5 : (5 : Int32).toInt = 5 := by decide
  have z : ∀ P : Prop, [Decidable P] → ((if P then (1 : Int32) else 0) = 0 ↔ ¬ P) := fun P _ => by by_cases q : P <;> simp +decide [q]
  rw [g1, g2, g3, g4, g5]
  simp only [z]
  have hm : (F4 f 1).toInt = if f.toInt < 1 then 1 else f.toInt := by
    unfold F4
    by_cases q : f < 1
    · rw [if_pos q, if_pos (by rw [Int32.lt_iff_toInt_lt] at q; omega)]; exact k1
    · rw [if_neg q, if_neg (by rw [Int32.lt_iff_toInt_lt] at q; omega)]
  have n1 : (1 : Int32) + 1 = 2 := by decide
  have n2 : (2 : Int32) + 1 = 3 := by decide
  have n3 : (3 : Int32) + 1 = 4 := by decide
  have n4 : (4 : Int32) + 1 = 5 := by decide
  have n5 : (5 : Int32) + 1 = 6 := by decide
  have s1 := fun n => own_es n L 1 len (by decide)
  have s2 := fun n => own_es n L 2 len (by decide)
  have s3 := fun n => own_es n L 3 len (by decide)
  have s4 := fun n => own_es n L 4 len (by decide)
  have s5 := fun n => own_es n L 5 len (by decide)
  have s6 := fun n => own_tail n L 6 len h6 (by decide)
  rw [n1] at s1; rw [n2] at s2; rw [n3] at s3; rw [n4] at s4; rw [n5] at s5
  have lt : ∀ a b : Int32, a < b ↔ a.toInt < b.toInt := fun a b => Int32.lt_iff_toInt_lt
  generalize F4 f 1 = mm at *
  by_cases c1 : f.toInt ≤ 1
  · have e : mm = 1 := by apply Int32.toInt_inj.mp; rw [hm, k1]; split <;> omega
    have d1 : ¬ 1 < f := by rw [lt]; omega
    have d2 : ¬ 2 < f := by rw [lt]; omega
    have d3 : ¬ 3 < f := by rw [lt]; omega
    have d4 : ¬ 4 < f := by rw [lt]; omega
    have d5 : ¬ 5 < f := by rw [lt]; omega
    rw [e, s1, s2, s3, s4, s5, s6]
    simp only [d1, d2, d3, d4, d5, not_false_eq_true, true_and, ite_not]
  rw [if_neg (by omega)] at hm
  by_cases c2 : f.toInt = 2
  · have e : mm = 2 := by apply Int32.toInt_inj.mp; omega
    have d1 : 1 < f := by rw [lt]; omega
    have d2 : ¬ 2 < f := by rw [lt]; omega
    have d3 : ¬ 3 < f := by rw [lt]; omega
    have d4 : ¬ 4 < f := by rw [lt]; omega
    have d5 : ¬ 5 < f := by rw [lt]; omega
    rw [e, s2, s3, s4, s5, s6]
    simp only [d1, d2, d3, d4, d5, not_false_eq_true, not_true_eq_false, true_and, false_and, and_false, ite_not, if_false, if_true]
  by_cases c3 : f.toInt = 3
  · have e : mm = 3 := by apply Int32.toInt_inj.mp; omega
    have d1 : 1 < f := by rw [lt]; omega
    have d2 : 2 < f := by rw [lt]; omega
    have d3 : ¬ 3 < f := by rw [lt]; omega
    have d4 : ¬ 4 < f := by rw [lt]; omega
    have d5 : ¬ 5 < f := by rw [lt]; omega
    rw [e, s3, s4, s5, s6]
    simp only [d1, d2, d3, d4, d5, not_false_eq_true, not_true_eq_false, true_and, false_and, and_false, ite_not, if_false, if_true]
  by_cases c4 : f.toInt = 4
  · have e : mm = 4 := by apply Int32.toInt_inj.mp; omega
    have d1 : 1 < f := by rw [lt]; omega
    have d2 : 2 < f := by rw [lt]; omega
    have d3 : 3 < f := by rw [lt]; omega
    have d4 : ¬ 4 < f := by rw [lt]; omega
    have d5 : ¬ 5 < f := by rw [lt]; omega
    rw [e, s4, s5, s6]
    simp only [d1, d2, d3, d4, d5, not_false_eq_true, not_true_eq_false, true_and, false_and, and_false, ite_not, if_false, if_true]
  by_cases c5 : f.toInt = 5
  · have e : mm = 5 := by apply Int32.toInt_inj.mp; omega
    have d1 : 1 < f := by rw [lt]; omega
    have d2 : 2 < f := by rw [lt]; omega
    have d3 : 3 < f := by rw [lt]; omega
    have d4 : 4 < f := by rw [lt]; omega
    have d5 : ¬ 5 < f := by rw [lt]; omega
    rw [e, s5, s6]
    simp only [d1, d2, d3, d4, d5, not_false_eq_true, not_true_eq_false, true_and, false_and, and_false, ite_not, if_false, if_true]
  have d1 : 1 < f := by rw [lt]; omega
  have d2 : 2 < f := by rw [lt]; omega
  have d3 : 3 < f := by rw [lt]; omega
  have d4 : 4 < f := by rw [lt]; omega
  have d5 : 5 < f := by rw [lt]; omega
  rw [own_tail 6 L mm len h6 (by omega)]
  simp only [d1, d2, d3, d4, d5, not_false_eq_true, not_true_eq_false, true_and, false_and, and_false, ite_not, if_false, if_true]
theorem own_ln (x s ln : Int32) (h : ln = (if (s &&& (2 : Int32)) = (0 : Int32) then ((x &&& (2147483647 : Int32)) % (7 : Int32)) else (if (6 : Int32) < x then (x % (7 : Int32)) else x))) : ln.toInt ≤ 6 := by
  have e1 : (x &&& 2147483647).toInt = x.toInt % (2 ^ 31 : Nat) := c_mask x 2147483647 31 (by decide) (by decide)
  have e2 := (c_irem (x &&& 2147483647) 7 7 (by decide)).1 (by omega)
  have e3 := c_irem x 7 7 (by decide)
  have k6 : (6 : Int32).toInt = 6 := by decide
  subst h
  split
  · omega
  · split
    · rename_i q; rw [Int32.lt_iff_toInt_lt] at q; have := e3.1 (by omega); omega
    · rename_i q; rw [Int32.lt_iff_toInt_lt] at q; omega
theorem pd_1 : parseMethodDescriptor "(IJI)B" = some ⟨[.int, .long, .int], some .byte⟩ := by decide +kernel
theorem pd_2 : parseMethodDescriptor "([BIII)Z" = some ⟨[(.array .byte), .int, .int, .int], some .boolean⟩ := by decide +kernel
theorem pd_3 : parseMethodDescriptor "([BII)I" = some ⟨[(.array .byte), .int, .int], some .int⟩ := by decide +kernel
theorem ef_0 (m : MethodId) (x0 : Int32) (x1 : Int64) (x2 : Int32) (x3 : Int32) (x4 : Int32)  : entryFrame m #[(.int x0), (.long x1), (.int x2), (.int x3), (.int x4)] maxLocals = mkF m 0 #[.val (.int x0), .val (.long x1), .second, .val (.int x2), .val (.int x3), .val (.int x4), .unset, .unset, .unset, .unset, .unset] [] := by first | (simp [entryFrame, mkF, argsToLocals, Value.category, maxLocals]; done) | rfl
def Q0 (Z : State) (x0 : Int32) (x1 : Int64) (x2 : Int32) (x3 : Int32) (x4 : Int32) (h0 : Heap) (n0 : Nat) (vE : Option Value) (hE : Heap) (LE : List Loc) : Prop := vE = some (.int (1 : Int32)) ∧ Fr n0 LE
set_option maxRecDepth 65536 in
set_option maxHeartbeats 40000000 in
theorem rm0 (l : Launch) (Z : State) (a0 : Array Value) (hw : ∀ d ∈ tables_1, d.before a0 Z = true) (ws : List Jvm.Cond) (x0 : Int32) (x1 : Int64) (x2 : Int32) (x3 : Int32) (x4 : Int32) (h0 : Heap) (n0 : Nat) (Z0 : n0 ≤ h0.size) :
    MetFree l x (head1 (Jvm.Cond.code x code maxLocals ret :: ws) room_1) (fun a U => a = #[(.int x0), (.long x1), (.int x2), (.int x3), (.int x4)] ∧ Z.Warmed39 U.vm ∧ U.heap = h0) (fun _ _ _ _ _ => True) (fun _ U o U' => ∃ vE LE, o = .returned vE ∧ Q0 Z x0 x1 x2 x3 x4 h0 n0 vE U'.heap LE ∧ FrameEnd U o U' LE room_1.cells room_1.slots) := by
  refine MetFree.of_bodySF (plainFor_of_name pn_0) hisR ?_
  intro p e s m args below meth c s₁ Bd hml0 hP hK
  obtain ⟨rfl, hZ, hh⟩ := hP
  have hx := Bd.exec
  have hby := Bd.bytes
  have hml : c.maxLocals = 11 := hml0
  have hown : s.vm.findClass "com/example/persephone/persephone/executor/RequestHeadEndPinLaw" = some m.cls := findClass_of_methodNamed Bd.named
  have hnm := (name_of_methodNamed Bd.named Bd.method).1
  have X0 : Stand p l e room_1 s m #[(.int x0), (.long x1), (.int x2), (.int x3), (.int x4)] below meth c s₁ [] 0 0 := Stand.of_body Bd
  have e0 : s₁.heap = h0 := by rw [← hh, Bd.state]; rfl
  have N0 := Fr.nil n0
  have st0 : Steps p.tables e below (s₁.setTop (entryFrame m #[(.int x0), (.long x1), (.int x2), (.int x3), (.int x4)] maxLocals)) (s₁.setTop (mkF m 0 #[.val (.int x0), .val (.long x1), .second, .val (.int x2), .val (.int x3), .val (.int x4), .unset, .unset, .unset, .unset, .unset] [])) := castTop (ef_0 m x0 x1 x2 x3 x4) (Steps.refl _)
  have st1 : Steps p.tables e below (s₁.setTop (entryFrame m #[(.int x0), (.long x1), (.int x2), (.int x3), (.int x4)] maxLocals)) (s₁.setTop (mkF m 2 #[.val (.int x0), .val (.long x1), .second, .val (.int x2), .val (.int x3), .val (.int x4), .unset, .unset, .unset, .unset, .unset] [(.int (6 : Int32))])) := st0.trans (by
      show Steps p.tables e below (s₁.setTop (mkF m 0 #[.val (.int x0), .val (.long x1), .second, .val (.int x2), .val (.int x3), .val (.int x4), .unset, .unset, .unset, .unset, .unset] [])) _
      refine XS.bipush X0.here hx rfl (hb hby at_0) ?_
      exact Steps.refl _)
  obtain ⟨T2, h2, k2, X2, e2, E2, A2, sr2⟩ := newP X0 hx hZ (hw _ (List.mem_of_getElem? (i := 0) rfl)) e0 (g := (mkF m 2 #[.val (.int x0), .val (.long x1), .second, .val (.int x2), .val (.int x3), .val (.int x4), .unset, .unset, .unset, .unset, .unset] [(.int (6 : Int32))])) rfl (hb hby at_2) rfl (by decide) (cap := 6) (by decide) (by decide) (by decide) (by decide)
  obtain ⟨b2, g2⟩ : ∃ z, z = h0.size := ⟨_, rfl⟩
  rw [← g2] at A2 sr2
  have g_b2 : n0 ≤ b2 := Nat.le_trans Z0 (Nat.le_of_eq g2.symm)
  have f3 : Arv Z h2 b2 k2 .byte (6 : Int32) [(.int (0 : Int32)), (.int (0 : Int32)), (.int (0 : Int32)), (.int (0 : Int32)), (.int (0 : Int32)), (.int (0 : Int32))] (.int (0 : Int32)) := (Arv.new A2 (by decide)).pad (pad_rep [] (.int (0 : Int32)) 6)
  have Z2 : n0 ≤ h2.size := Nat.le_trans Z0 E2.1
  have st4 : Steps p.tables e below (s₁.setTop (entryFrame m #[(.int x0), (.long x1), (.int x2), (.int x3), (.int x4)] maxLocals)) (T2.setTop (mkF m 4 #[.val (.int x0), .val (.long x1), .second, .val (.int x2), .val (.int x3), .val (.int x4), .unset, .unset, .unset, .unset, .unset] [(.ref b2)])) := st1.trans (sr2 _ (Steps.refl _))
  have st5 : Steps p.tables e below (s₁.setTop (entryFrame m #[(.int x0), (.long x1), (.int x2), (.int x3), (.int x4)] maxLocals)) (T2.setTop (mkF m 12 #[.val (.int x0), .val (.long x1), .second, .val (.int x2), .val (.int x3), .val (.int x4), .val (.ref b2), .unset, .unset, .unset, .unset] [(.int (0 : Int32)), (.long x1), (.int x0), (.int (0 : Int32)), (.ref b2)])) := st4.trans (by
      show Steps p.tables e below (T2.setTop (mkF m 4 #[.val (.int x0), .val (.long x1), .second, .val (.int x2), .val (.int x3), .val (.int x4), .unset, .unset, .unset, .unset, .unset] [(.ref b2)])) _
      refine XS.astore X2.here hx rfl (hb hby at_4) rfl rfl (l' := #[.val (.int x0), .val (.long x1), .second, .val (.int x2), .val (.int x3), .val (.int x4), .val (.ref b2), .unset, .unset, .unset, .unset]) rfl ?_
      show Steps p.tables e below (T2.setTop (mkF m 6 #[.val (.int x0), .val (.long x1), .second, .val (.int x2), .val (.int x3), .val (.int x4), .val (.ref b2), .unset, .unset, .unset, .unset] [])) _
      refine XS.aload X2.here hx rfl (hb hby at_6) rfl rfl ?_
      show Steps p.tables e below (T2.setTop (mkF m 8 #[.val (.int x0), .val (.long x1), .second, .val (.int x2), .val (.int x3), .val (.int x4), .val (.ref b2), .unset, .unset, .unset, .unset] [(.ref b2)])) _
      refine XS.iconst X2.here hx rfl (hb hby at_8) ?_
      show Steps p.tables e below (T2.setTop (mkF m 9 #[.val (.int x0), .val (.long x1), .second, .val (.int x2), .val (.int x3), .val (.int x4), .val (.ref b2), .unset, .unset, .unset, .unset] [(.int (0 : Int32)), (.ref b2)])) _
      refine XS.iloadN X2.here hx rfl (hb hby at_9) rfl ?_
      show Steps p.tables e below (T2.setTop (mkF m 10 #[.val (.int x0), .val (.long x1), .second, .val (.int x2), .val (.int x3), .val (.int x4), .val (.ref b2), .unset, .unset, .unset, .unset] [(.int x0), (.int (0 : Int32)), (.ref b2)])) _
      refine XS.lloadN X2.here hx rfl (hb hby at_10) rfl ?_
      show Steps p.tables e below (T2.setTop (mkF m 11 #[.val (.int x0), .val (.long x1), .second, .val (.int x2), .val (.int x3), .val (.int x4), .val (.ref b2), .unset, .unset, .unset, .unset] [(.long x1), (.int x0), (.int (0 : Int32)), (.ref b2)])) _
      refine XS.iconst X2.here hx rfl (hb hby at_11) ?_
      exact Steps.refl _)
  obtain ⟨_, _, ⟨T6, L6, k6, n6⟩, -, X6, ⟨Lc6, hQ6, l6, y6, z6⟩, sr6⟩ := Jvm.LawKit.callS X2 hx (y := (⟨"com/example/persephone/persephone/executor/RequestHeadEndPinLaw", "pick", "(IJI)B"⟩ : MethodName)) hown (mvT hZ (hw _ (List.mem_of_getElem? (i := 1) rfl))) (mvT hZ (hw _ (List.mem_of_getElem? (i := 2) rfl))) (mvT hZ (hw _ (List.mem_of_getElem? (i := 3) rfl))) (mvT hZ (hw _ (List.mem_of_getElem? (i := 4) rfl))) (by decide) (backOf (W := 2) (rm1 l Z a0 hw [] x0 x1 (0 : Int32)  h2 n0 Z2 ) hZ (hw _ (List.mem_of_getElem? (i := 4) rfl)) (hw _ (List.mem_of_getElem? (i := 3) rfl)) (by decide) (by decide)) (g := (mkF m 12 #[.val (.int x0), .val (.long x1), .second, .val (.int x2), .val (.int x3), .val (.int x4), .val (.ref b2), .unset, .unset, .unset, .unset] [(.int (0 : Int32)), (.long x1), (.int x0), (.int (0 : Int32)), (.ref b2)])) rfl (by rw [hml]; rfl) (argsL := [(.int x0), (.long x1), (.int (0 : Int32))]) (rest := [(.int (0 : Int32)), (.ref b2)]) (lenOf pd_1 rfl) rfl (by show 2 * 0 + _ ≤ _; exact Nat.le_of_eq rfl) (hb hby at_12) (fun _ _ => ⟨rfl, e2, (by decide : 1 + 0 ≤ _), (by decide : 6 + 0 ≤ _)⟩)
  dsimp only [Pt.U, Pt.locs, Pt.cells, Pt.slots] at X6 l6 y6 z6 sr6 hQ6
  subst l6 y6 z6
  obtain ⟨rfl, N6q, hh6⟩ := hQ6
  have N6 := Fr.app N0 N6q
  have st7 : Steps p.tables e below (s₁.setTop (entryFrame m #[(.int x0), (.long x1), (.int x2), (.int x3), (.int x4)] maxLocals)) (T6.setTop (mkF m 15 #[.val (.int x0), .val (.long x1), .second, .val (.int x2), .val (.int x3), .val (.int x4), .val (.ref b2), .unset, .unset, .unset, .unset] [(.int (F1 x0 x1 (0 : Int32))), (.int (0 : Int32)), (.ref b2)])) := st5.trans (sr6 _ (Steps.refl _))
  obtain ⟨v0, e_v0⟩ : ∃ z, z = (F1 x0 x1 (0 : Int32)) := ⟨_, rfl⟩
  rw [← e_v0] at st7
  obtain ⟨cl8, Ar8, q8, S8, N8, H8, G8⟩ := id f3
  have hin8 : ¬ ((0 : Int32) < 0 ∨ cl8.slots.size ≤ ((0 : Int32)).toNatClampNeg) := inb_of S8 ⟨by decide, by decide⟩
  obtain ⟨T9, h9, X9, e9, W9, sr9⟩ := stB X6 hx hZ hh6 Ar8 (j := (0 : Int32)) hin8 (g := (mkF m 15 #[.val (.int x0), .val (.long x1), .second, .val (.int x2), .val (.int x3), .val (.int x4), .val (.ref b2), .unset, .unset, .unset, .unset] [(.int v0), (.int (0 : Int32)), (.ref b2)])) rfl rfl (hb hby at_15)
  have f10 : Arv Z h9 b2 k2 .byte (6 : Int32) [(.int (v0).toInt8.toInt32), (.int (0 : Int32)), (.int (0 : Int32)), (.int (0 : Int32)), (.int (0 : Int32)), (.int (0 : Int32))] (.int (0 : Int32)) := Arv.set Ar8 q8 S8 N8 H8 G8 (fits_nar_byte _) W9 0 rfl (Nat.le_of_ble_eq_true rfl)
  have Z9 : n0 ≤ h9.size := Nat.le_trans Z2 (Keep.of_wr W9).1
  have N9 := Fr.snoc X9 N6 g_b2
  have st11 : Steps p.tables e below (s₁.setTop (entryFrame m #[(.int x0), (.long x1), (.int x2), (.int x3), (.int x4)] maxLocals)) (T9.setTop (mkF m 16 #[.val (.int x0), .val (.long x1), .second, .val (.int x2), .val (.int x3), .val (.int x4), .val (.ref b2), .unset, .unset, .unset, .unset] [])) := st7.trans (sr9 _ (Steps.refl _))
  have st12 : Steps p.tables e below (s₁.setTop (entryFrame m #[(.int x0), (.long x1), (.int x2), (.int x3), (.int x4)] maxLocals)) (T9.setTop (mkF m 22 #[.val (.int x0), .val (.long x1), .second, .val (.int x2), .val (.int x3), .val (.int x4), .val (.ref b2), .unset, .unset, .unset, .unset] [(.int (1 : Int32)), (.long x1), (.int x0), (.int (1 : Int32)), (.ref b2)])) := st11.trans (by
      show Steps p.tables e below (T9.setTop (mkF m 16 #[.val (.int x0), .val (.long x1), .second, .val (.int x2), .val (.int x3), .val (.int x4), .val (.ref b2), .unset, .unset, .unset, .unset] [])) _
      refine XS.aload X9.here hx rfl (hb hby at_16) rfl rfl ?_
      show Steps p.tables e below (T9.setTop (mkF m 18 #[.val (.int x0), .val (.long x1), .second, .val (.int x2), .val (.int x3), .val (.int x4), .val (.ref b2), .unset, .unset, .unset, .unset] [(.ref b2)])) _
      refine XS.iconst X9.here hx rfl (hb hby at_18) ?_
      show Steps p.tables e below (T9.setTop (mkF m 19 #[.val (.int x0), .val (.long x1), .second, .val (.int x2), .val (.int x3), .val (.int x4), .val (.ref b2), .unset, .unset, .unset, .unset] [(.int (1 : Int32)), (.ref b2)])) _
      refine XS.iloadN X9.here hx rfl (hb hby at_19) rfl ?_
      show Steps p.tables e below (T9.setTop (mkF m 20 #[.val (.int x0), .val (.long x1), .second, .val (.int x2), .val (.int x3), .val (.int x4), .val (.ref b2), .unset, .unset, .unset, .unset] [(.int x0), (.int (1 : Int32)), (.ref b2)])) _
      refine XS.lloadN X9.here hx rfl (hb hby at_20) rfl ?_
      show Steps p.tables e below (T9.setTop (mkF m 21 #[.val (.int x0), .val (.long x1), .second, .val (.int x2), .val (.int x3), .val (.int x4), .val (.ref b2), .unset, .unset, .unset, .unset] [(.long x1), (.int x0), (.int (1 : Int32)), (.ref b2)])) _
      refine XS.iconst X9.here hx rfl (hb hby at_21) ?_
      exact Steps.refl _)
  obtain ⟨_, _, ⟨T13, L13, k13, n13⟩, -, X13, ⟨Lc13, hQ13, l13, y13, z13⟩, sr13⟩ := Jvm.LawKit.callS X9 hx (y := (⟨"com/example/persephone/persephone/executor/RequestHeadEndPinLaw", "pick", "(IJI)B"⟩ : MethodName)) hown (mvT hZ (hw _ (List.mem_of_getElem? (i := 1) rfl))) (mvT hZ (hw _ (List.mem_of_getElem? (i := 2) rfl))) (mvT hZ (hw _ (List.mem_of_getElem? (i := 3) rfl))) (mvT hZ (hw _ (List.mem_of_getElem? (i := 4) rfl))) (by decide) (backOf (W := 2) (rm1 l Z a0 hw [] x0 x1 (1 : Int32)  h9 n0 Z9 ) hZ (hw _ (List.mem_of_getElem? (i := 4) rfl)) (hw _ (List.mem_of_getElem? (i := 3) rfl)) (by decide) (by decide)) (g := (mkF m 22 #[.val (.int x0), .val (.long x1), .second, .val (.int x2), .val (.int x3), .val (.int x4), .val (.ref b2), .unset, .unset, .unset, .unset] [(.int (1 : Int32)), (.long x1), (.int x0), (.int (1 : Int32)), (.ref b2)])) rfl (by rw [hml]; rfl) (argsL := [(.int x0), (.long x1), (.int (1 : Int32))]) (rest := [(.int (1 : Int32)), (.ref b2)]) (lenOf pd_1 rfl) rfl (by show 2 * 0 + _ ≤ _; exact Nat.le_of_eq rfl) (hb hby at_22) (fun _ _ => ⟨rfl, e9, (by decide : 1 + 0 ≤ _), (by decide : 6 + 0 ≤ _)⟩)
  dsimp only [Pt.U, Pt.locs, Pt.cells, Pt.slots] at X13 l13 y13 z13 sr13 hQ13
  subst l13 y13 z13
  obtain ⟨rfl, N13q, hh13⟩ := hQ13
  have N13 := Fr.app N9 N13q
  have st14 : Steps p.tables e below (s₁.setTop (entryFrame m #[(.int x0), (.long x1), (.int x2), (.int x3), (.int x4)] maxLocals)) (T13.setTop (mkF m 25 #[.val (.int x0), .val (.long x1), .second, .val (.int x2), .val (.int x3), .val (.int x4), .val (.ref b2), .unset, .unset, .unset, .unset] [(.int (F1 x0 x1 (1 : Int32))), (.int (1 : Int32)), (.ref b2)])) := st12.trans (sr13 _ (Steps.refl _))
  obtain ⟨v1, e_v1⟩ : ∃ z, z = (F1 x0 x1 (1 : Int32)) := ⟨_, rfl⟩
  rw [← e_v1] at st14
  obtain ⟨cl15, Ar15, q15, S15, N15, H15, G15⟩ := id f10
  have hin15 : ¬ ((1 : Int32) < 0 ∨ cl15.slots.size ≤ ((1 : Int32)).toNatClampNeg) := inb_of S15 ⟨by decide, by decide⟩
  obtain ⟨T16, h16, X16, e16, W16, sr16⟩ := stB X13 hx hZ hh13 Ar15 (j := (1 : Int32)) hin15 (g := (mkF m 25 #[.val (.int x0), .val (.long x1), .second, .val (.int x2), .val (.int x3), .val (.int x4), .val (.ref b2), .unset, .unset, .unset, .unset] [(.int v1), (.int (1 : Int32)), (.ref b2)])) rfl rfl (hb hby at_25)
  have f17 : Arv Z h16 b2 k2 .byte (6 : Int32) [(.int (v0).toInt8.toInt32), (.int (v1).toInt8.toInt32), (.int (0 : Int32)), (.int (0 : Int32)), (.int (0 : Int32)), (.int (0 : Int32))] (.int (0 : Int32)) := Arv.set Ar15 q15 S15 N15 H15 G15 (fits_nar_byte _) W16 1 rfl (Nat.le_of_ble_eq_true rfl)
  have Z16 : n0 ≤ h16.size := Nat.le_trans Z9 (Keep.of_wr W16).1
  have N16 := Fr.snoc X16 N13 g_b2
  have st18 : Steps p.tables e below (s₁.setTop (entryFrame m #[(.int x0), (.long x1), (.int x2), (.int x3), (.int x4)] maxLocals)) (T16.setTop (mkF m 26 #[.val (.int x0), .val (.long x1), .second, .val (.int x2), .val (.int x3), .val (.int x4), .val (.ref b2), .unset, .unset, .unset, .unset] [])) := st14.trans (sr16 _ (Steps.refl _))
  have st19 : Steps p.tables e below (s₁.setTop (entryFrame m #[(.int x0), (.long x1), (.int x2), (.int x3), (.int x4)] maxLocals)) (T16.setTop (mkF m 32 #[.val (.int x0), .val (.long x1), .second, .val (.int x2), .val (.int x3), .val (.int x4), .val (.ref b2), .unset, .unset, .unset, .unset] [(.int (2 : Int32)), (.long x1), (.int x0), (.int (2 : Int32)), (.ref b2)])) := st18.trans (by
      show Steps p.tables e below (T16.setTop (mkF m 26 #[.val (.int x0), .val (.long x1), .second, .val (.int x2), .val (.int x3), .val (.int x4), .val (.ref b2), .unset, .unset, .unset, .unset] [])) _
      refine XS.aload X16.here hx rfl (hb hby at_26) rfl rfl ?_
      show Steps p.tables e below (T16.setTop (mkF m 28 #[.val (.int x0), .val (.long x1), .second, .val (.int x2), .val (.int x3), .val (.int x4), .val (.ref b2), .unset, .unset, .unset, .unset] [(.ref b2)])) _
      refine XS.iconst X16.here hx rfl (hb hby at_28) ?_
      show Steps p.tables e below (T16.setTop (mkF m 29 #[.val (.int x0), .val (.long x1), .second, .val (.int x2), .val (.int x3), .val (.int x4), .val (.ref b2), .unset, .unset, .unset, .unset] [(.int (2 : Int32)), (.ref b2)])) _
      refine XS.iloadN X16.here hx rfl (hb hby at_29) rfl ?_
      show Steps p.tables e below (T16.setTop (mkF m 30 #[.val (.int x0), .val (.long x1), .second, .val (.int x2), .val (.int x3), .val (.int x4), .val (.ref b2), .unset, .unset, .unset, .unset] [(.int x0), (.int (2 : Int32)), (.ref b2)])) _
      refine XS.lloadN X16.here hx rfl (hb hby at_30) rfl ?_
      show Steps p.tables e below (T16.setTop (mkF m 31 #[.val (.int x0), .val (.long x1), .second, .val (.int x2), .val (.int x3), .val (.int x4), .val (.ref b2), .unset, .unset, .unset, .unset] [(.long x1), (.int x0), (.int (2 : Int32)), (.ref b2)])) _
      refine XS.iconst X16.here hx rfl (hb hby at_31) ?_
      exact Steps.refl _)
  obtain ⟨_, _, ⟨T20, L20, k20, n20⟩, -, X20, ⟨Lc20, hQ20, l20, y20, z20⟩, sr20⟩ := Jvm.LawKit.callS X16 hx (y := (⟨"com/example/persephone/persephone/executor/RequestHeadEndPinLaw", "pick", "(IJI)B"⟩ : MethodName)) hown (mvT hZ (hw _ (List.mem_of_getElem? (i := 1) rfl))) (mvT hZ (hw _ (List.mem_of_getElem? (i := 2) rfl))) (mvT hZ (hw _ (List.mem_of_getElem? (i := 3) rfl))) (mvT hZ (hw _ (List.mem_of_getElem? (i := 4) rfl))) (by decide) (backOf (W := 2) (rm1 l Z a0 hw [] x0 x1 (2 : Int32)  h16 n0 Z16 ) hZ (hw _ (List.mem_of_getElem? (i := 4) rfl)) (hw _ (List.mem_of_getElem? (i := 3) rfl)) (by decide) (by decide)) (g := (mkF m 32 #[.val (.int x0), .val (.long x1), .second, .val (.int x2), .val (.int x3), .val (.int x4), .val (.ref b2), .unset, .unset, .unset, .unset] [(.int (2 : Int32)), (.long x1), (.int x0), (.int (2 : Int32)), (.ref b2)])) rfl (by rw [hml]; rfl) (argsL := [(.int x0), (.long x1), (.int (2 : Int32))]) (rest := [(.int (2 : Int32)), (.ref b2)]) (lenOf pd_1 rfl) rfl (by show 2 * 0 + _ ≤ _; exact Nat.le_of_eq rfl) (hb hby at_32) (fun _ _ => ⟨rfl, e16, (by decide : 1 + 0 ≤ _), (by decide : 6 + 0 ≤ _)⟩)
  dsimp only [Pt.U, Pt.locs, Pt.cells, Pt.slots] at X20 l20 y20 z20 sr20 hQ20
  subst l20 y20 z20
  obtain ⟨rfl, N20q, hh20⟩ := hQ20
  have N20 := Fr.app N16 N20q
  have st21 : Steps p.tables e below (s₁.setTop (entryFrame m #[(.int x0), (.long x1), (.int x2), (.int x3), (.int x4)] maxLocals)) (T20.setTop (mkF m 35 #[.val (.int x0), .val (.long x1), .second, .val (.int x2), .val (.int x3), .val (.int x4), .val (.ref b2), .unset, .unset, .unset, .unset] [(.int (F1 x0 x1 (2 : Int32))), (.int (2 : Int32)), (.ref b2)])) := st19.trans (sr20 _ (Steps.refl _))
  obtain ⟨v2, e_v2⟩ : ∃ z, z = (F1 x0 x1 (2 : Int32)) := ⟨_, rfl⟩
  rw [← e_v2] at st21
  obtain ⟨cl22, Ar22, q22, S22, N22, H22, G22⟩ := id f17
  have hin22 : ¬ ((2 : Int32) < 0 ∨ cl22.slots.size ≤ ((2 : Int32)).toNatClampNeg) := inb_of S22 ⟨by decide, by decide⟩
  obtain ⟨T23, h23, X23, e23, W23, sr23⟩ := stB X20 hx hZ hh20 Ar22 (j := (2 : Int32)) hin22 (g := (mkF m 35 #[.val (.int x0), .val (.long x1), .second, .val (.int x2), .val (.int x3), .val (.int x4), .val (.ref b2), .unset, .unset, .unset, .unset] [(.int v2), (.int (2 : Int32)), (.ref b2)])) rfl rfl (hb hby at_35)
  have f24 : Arv Z h23 b2 k2 .byte (6 : Int32) [(.int (v0).toInt8.toInt32), (.int (v1).toInt8.toInt32), (.int (v2).toInt8.toInt32), (.int (0 : Int32)), (.int (0 : Int32)), (.int (0 : Int32))] (.int (0 : Int32)) := Arv.set Ar22 q22 S22 N22 H22 G22 (fits_nar_byte _) W23 2 rfl (Nat.le_of_ble_eq_true rfl)
  have Z23 : n0 ≤ h23.size := Nat.le_trans Z16 (Keep.of_wr W23).1
  have N23 := Fr.snoc X23 N20 g_b2
  have st25 : Steps p.tables e below (s₁.setTop (entryFrame m #[(.int x0), (.long x1), (.int x2), (.int x3), (.int x4)] maxLocals)) (T23.setTop (mkF m 36 #[.val (.int x0), .val (.long x1), .second, .val (.int x2), .val (.int x3), .val (.int x4), .val (.ref b2), .unset, .unset, .unset, .unset] [])) := st21.trans (sr23 _ (Steps.refl _))
  have st26 : Steps p.tables e below (s₁.setTop (entryFrame m #[(.int x0), (.long x1), (.int x2), (.int x3), (.int x4)] maxLocals)) (T23.setTop (mkF m 42 #[.val (.int x0), .val (.long x1), .second, .val (.int x2), .val (.int x3), .val (.int x4), .val (.ref b2), .unset, .unset, .unset, .unset] [(.int (3 : Int32)), (.long x1), (.int x0), (.int (3 : Int32)), (.ref b2)])) := st25.trans (by
      show Steps p.tables e below (T23.setTop (mkF m 36 #[.val (.int x0), .val (.long x1), .second, .val (.int x2), .val (.int x3), .val (.int x4), .val (.ref b2), .unset, .unset, .unset, .unset] [])) _
      refine XS.aload X23.here hx rfl (hb hby at_36) rfl rfl ?_
      show Steps p.tables e below (T23.setTop (mkF m 38 #[.val (.int x0), .val (.long x1), .second, .val (.int x2), .val (.int x3), .val (.int x4), .val (.ref b2), .unset, .unset, .unset, .unset] [(.ref b2)])) _
      refine XS.iconst X23.here hx rfl (hb hby at_38) ?_
      show Steps p.tables e below (T23.setTop (mkF m 39 #[.val (.int x0), .val (.long x1), .second, .val (.int x2), .val (.int x3), .val (.int x4), .val (.ref b2), .unset, .unset, .unset, .unset] [(.int (3 : Int32)), (.ref b2)])) _
      refine XS.iloadN X23.here hx rfl (hb hby at_39) rfl ?_
      show Steps p.tables e below (T23.setTop (mkF m 40 #[.val (.int x0), .val (.long x1), .second, .val (.int x2), .val (.int x3), .val (.int x4), .val (.ref b2), .unset, .unset, .unset, .unset] [(.int x0), (.int (3 : Int32)), (.ref b2)])) _
      refine XS.lloadN X23.here hx rfl (hb hby at_40) rfl ?_
      show Steps p.tables e below (T23.setTop (mkF m 41 #[.val (.int x0), .val (.long x1), .second, .val (.int x2), .val (.int x3), .val (.int x4), .val (.ref b2), .unset, .unset, .unset, .unset] [(.long x1), (.int x0), (.int (3 : Int32)), (.ref b2)])) _
      refine XS.iconst X23.here hx rfl (hb hby at_41) ?_
      exact Steps.refl _)
  obtain ⟨_, _, ⟨T27, L27, k27, n27⟩, -, X27, ⟨Lc27, hQ27, l27, y27, z27⟩, sr27⟩ := Jvm.LawKit.callS X23 hx (y := (⟨"com/example/persephone/persephone/executor/RequestHeadEndPinLaw", "pick", "(IJI)B"⟩ : MethodName)) hown (mvT hZ (hw _ (List.mem_of_getElem? (i := 1) rfl))) (mvT hZ (hw _ (List.mem_of_getElem? (i := 2) rfl))) (mvT hZ (hw _ (List.mem_of_getElem? (i := 3) rfl))) (mvT hZ (hw _ (List.mem_of_getElem? (i := 4) rfl))) (by decide) (backOf (W := 2) (rm1 l Z a0 hw [] x0 x1 (3 : Int32)  h23 n0 Z23 ) hZ (hw _ (List.mem_of_getElem? (i := 4) rfl)) (hw _ (List.mem_of_getElem? (i := 3) rfl)) (by decide) (by decide)) (g := (mkF m 42 #[.val (.int x0), .val (.long x1), .second, .val (.int x2), .val (.int x3), .val (.int x4), .val (.ref b2), .unset, .unset, .unset, .unset] [(.int (3 : Int32)), (.long x1), (.int x0), (.int (3 : Int32)), (.ref b2)])) rfl (by rw [hml]; rfl) (argsL := [(.int x0), (.long x1), (.int (3 : Int32))]) (rest := [(.int (3 : Int32)), (.ref b2)]) (lenOf pd_1 rfl) rfl (by show 2 * 0 + _ ≤ _; exact Nat.le_of_eq rfl) (hb hby at_42) (fun _ _ => ⟨rfl, e23, (by decide : 1 + 0 ≤ _), (by decide : 6 + 0 ≤ _)⟩)
  dsimp only [Pt.U, Pt.locs, Pt.cells, Pt.slots] at X27 l27 y27 z27 sr27 hQ27
  subst l27 y27 z27
  obtain ⟨rfl, N27q, hh27⟩ := hQ27
  have N27 := Fr.app N23 N27q
  have st28 : Steps p.tables e below (s₁.setTop (entryFrame m #[(.int x0), (.long x1), (.int x2), (.int x3), (.int x4)] maxLocals)) (T27.setTop (mkF m 45 #[.val (.int x0), .val (.long x1), .second, .val (.int x2), .val (.int x3), .val (.int x4), .val (.ref b2), .unset, .unset, .unset, .unset] [(.int (F1 x0 x1 (3 : Int32))), (.int (3 : Int32)), (.ref b2)])) := st26.trans (sr27 _ (Steps.refl _))
  obtain ⟨v3, e_v3⟩ : ∃ z, z = (F1 x0 x1 (3 : Int32)) := ⟨_, rfl⟩
  rw [← e_v3] at st28
  obtain ⟨cl29, Ar29, q29, S29, N29, H29, G29⟩ := id f24
  have hin29 : ¬ ((3 : Int32) < 0 ∨ cl29.slots.size ≤ ((3 : Int32)).toNatClampNeg) := inb_of S29 ⟨by decide, by decide⟩
  obtain ⟨T30, h30, X30, e30, W30, sr30⟩ := stB X27 hx hZ hh27 Ar29 (j := (3 : Int32)) hin29 (g := (mkF m 45 #[.val (.int x0), .val (.long x1), .second, .val (.int x2), .val (.int x3), .val (.int x4), .val (.ref b2), .unset, .unset, .unset, .unset] [(.int v3), (.int (3 : Int32)), (.ref b2)])) rfl rfl (hb hby at_45)
  have f31 : Arv Z h30 b2 k2 .byte (6 : Int32) [(.int (v0).toInt8.toInt32), (.int (v1).toInt8.toInt32), (.int (v2).toInt8.toInt32), (.int (v3).toInt8.toInt32), (.int (0 : Int32)), (.int (0 : Int32))] (.int (0 : Int32)) := Arv.set Ar29 q29 S29 N29 H29 G29 (fits_nar_byte _) W30 3 rfl (Nat.le_of_ble_eq_true rfl)
  have Z30 : n0 ≤ h30.size := Nat.le_trans Z23 (Keep.of_wr W30).1
  have N30 := Fr.snoc X30 N27 g_b2
  have st32 : Steps p.tables e below (s₁.setTop (entryFrame m #[(.int x0), (.long x1), (.int x2), (.int x3), (.int x4)] maxLocals)) (T30.setTop (mkF m 46 #[.val (.int x0), .val (.long x1), .second, .val (.int x2), .val (.int x3), .val (.int x4), .val (.ref b2), .unset, .unset, .unset, .unset] [])) := st28.trans (sr30 _ (Steps.refl _))
  have st33 : Steps p.tables e below (s₁.setTop (entryFrame m #[(.int x0), (.long x1), (.int x2), (.int x3), (.int x4)] maxLocals)) (T30.setTop (mkF m 52 #[.val (.int x0), .val (.long x1), .second, .val (.int x2), .val (.int x3), .val (.int x4), .val (.ref b2), .unset, .unset, .unset, .unset] [(.int (4 : Int32)), (.long x1), (.int x0), (.int (4 : Int32)), (.ref b2)])) := st32.trans (by
      show Steps p.tables e below (T30.setTop (mkF m 46 #[.val (.int x0), .val (.long x1), .second, .val (.int x2), .val (.int x3), .val (.int x4), .val (.ref b2), .unset, .unset, .unset, .unset] [])) _
      refine XS.aload X30.here hx rfl (hb hby at_46) rfl rfl ?_
      show Steps p.tables e below (T30.setTop (mkF m 48 #[.val (.int x0), .val (.long x1), .second, .val (.int x2), .val (.int x3), .val (.int x4), .val (.ref b2), .unset, .unset, .unset, .unset] [(.ref b2)])) _
      refine XS.iconst X30.here hx rfl (hb hby at_48) ?_
      show Steps p.tables e below (T30.setTop (mkF m 49 #[.val (.int x0), .val (.long x1), .second, .val (.int x2), .val (.int x3), .val (.int x4), .val (.ref b2), .unset, .unset, .unset, .unset] [(.int (4 : Int32)), (.ref b2)])) _
      refine XS.iloadN X30.here hx rfl (hb hby at_49) rfl ?_
      show Steps p.tables e below (T30.setTop (mkF m 50 #[.val (.int x0), .val (.long x1), .second, .val (.int x2), .val (.int x3), .val (.int x4), .val (.ref b2), .unset, .unset, .unset, .unset] [(.int x0), (.int (4 : Int32)), (.ref b2)])) _
      refine XS.lloadN X30.here hx rfl (hb hby at_50) rfl ?_
      show Steps p.tables e below (T30.setTop (mkF m 51 #[.val (.int x0), .val (.long x1), .second, .val (.int x2), .val (.int x3), .val (.int x4), .val (.ref b2), .unset, .unset, .unset, .unset] [(.long x1), (.int x0), (.int (4 : Int32)), (.ref b2)])) _
      refine XS.iconst X30.here hx rfl (hb hby at_51) ?_
      exact Steps.refl _)
  obtain ⟨_, _, ⟨T34, L34, k34, n34⟩, -, X34, ⟨Lc34, hQ34, l34, y34, z34⟩, sr34⟩ := Jvm.LawKit.callS X30 hx (y := (⟨"com/example/persephone/persephone/executor/RequestHeadEndPinLaw", "pick", "(IJI)B"⟩ : MethodName)) hown (mvT hZ (hw _ (List.mem_of_getElem? (i := 1) rfl))) (mvT hZ (hw _ (List.mem_of_getElem? (i := 2) rfl))) (mvT hZ (hw _ (List.mem_of_getElem? (i := 3) rfl))) (mvT hZ (hw _ (List.mem_of_getElem? (i := 4) rfl))) (by decide) (backOf (W := 2) (rm1 l Z a0 hw [] x0 x1 (4 : Int32)  h30 n0 Z30 ) hZ (hw _ (List.mem_of_getElem? (i := 4) rfl)) (hw _ (List.mem_of_getElem? (i := 3) rfl)) (by decide) (by decide)) (g := (mkF m 52 #[.val (.int x0), .val (.long x1), .second, .val (.int x2), .val (.int x3), .val (.int x4), .val (.ref b2), .unset, .unset, .unset, .unset] [(.int (4 : Int32)), (.long x1), (.int x0), (.int (4 : Int32)), (.ref b2)])) rfl (by rw [hml]; rfl) (argsL := [(.int x0), (.long x1), (.int (4 : Int32))]) (rest := [(.int (4 : Int32)), (.ref b2)]) (lenOf pd_1 rfl) rfl (by show 2 * 0 + _ ≤ _; exact Nat.le_of_eq rfl) (hb hby at_52) (fun _ _ => ⟨rfl, e30, (by decide : 1 + 0 ≤ _), (by decide : 6 + 0 ≤ _)⟩)
  dsimp only [Pt.U, Pt.locs, Pt.cells, Pt.slots] at X34 l34 y34 z34 sr34 hQ34
  subst l34 y34 z34
  obtain ⟨rfl, N34q, hh34⟩ := hQ34
  have N34 := Fr.app N30 N34q
  have st35 : Steps p.tables e below (s₁.setTop (entryFrame m #[(.int x0), (.long x1), (.int x2), (.int x3), (.int x4)] maxLocals)) (T34.setTop (mkF m 55 #[.val (.int x0), .val (.long x1), .second, .val (.int x2), .val (.int x3), .val (.int x4), .val (.ref b2), .unset, .unset, .unset, .unset] [(.int (F1 x0 x1 (4 : Int32))), (.int (4 : Int32)), (.ref b2)])) := st33.trans (sr34 _ (Steps.refl _))
  obtain ⟨v4, e_v4⟩ : ∃ z, z = (F1 x0 x1 (4 : Int32)) := ⟨_, rfl⟩
  rw [← e_v4] at st35
  obtain ⟨cl36, Ar36, q36, S36, N36, H36, G36⟩ := id f31
  have hin36 : ¬ ((4 : Int32) < 0 ∨ cl36.slots.size ≤ ((4 : Int32)).toNatClampNeg) := inb_of S36 ⟨by decide, by decide⟩
  obtain ⟨T37, h37, X37, e37, W37, sr37⟩ := stB X34 hx hZ hh34 Ar36 (j := (4 : Int32)) hin36 (g := (mkF m 55 #[.val (.int x0), .val (.long x1), .second, .val (.int x2), .val (.int x3), .val (.int x4), .val (.ref b2), .unset, .unset, .unset, .unset] [(.int v4), (.int (4 : Int32)), (.ref b2)])) rfl rfl (hb hby at_55)
  have f38 : Arv Z h37 b2 k2 .byte (6 : Int32) [(.int (v0).toInt8.toInt32), (.int (v1).toInt8.toInt32), (.int (v2).toInt8.toInt32), (.int (v3).toInt8.toInt32), (.int (v4).toInt8.toInt32), (.int (0 : Int32))] (.int (0 : Int32)) := Arv.set Ar36 q36 S36 N36 H36 G36 (fits_nar_byte _) W37 4 rfl (Nat.le_of_ble_eq_true rfl)
  have Z37 : n0 ≤ h37.size := Nat.le_trans Z30 (Keep.of_wr W37).1
  have N37 := Fr.snoc X37 N34 g_b2
  have st39 : Steps p.tables e below (s₁.setTop (entryFrame m #[(.int x0), (.long x1), (.int x2), (.int x3), (.int x4)] maxLocals)) (T37.setTop (mkF m 56 #[.val (.int x0), .val (.long x1), .second, .val (.int x2), .val (.int x3), .val (.int x4), .val (.ref b2), .unset, .unset, .unset, .unset] [])) := st35.trans (sr37 _ (Steps.refl _))
  have st40 : Steps p.tables e below (s₁.setTop (entryFrame m #[(.int x0), (.long x1), (.int x2), (.int x3), (.int x4)] maxLocals)) (T37.setTop (mkF m 62 #[.val (.int x0), .val (.long x1), .second, .val (.int x2), .val (.int x3), .val (.int x4), .val (.ref b2), .unset, .unset, .unset, .unset] [(.int (5 : Int32)), (.long x1), (.int x0), (.int (5 : Int32)), (.ref b2)])) := st39.trans (by
      show Steps p.tables e below (T37.setTop (mkF m 56 #[.val (.int x0), .val (.long x1), .second, .val (.int x2), .val (.int x3), .val (.int x4), .val (.ref b2), .unset, .unset, .unset, .unset] [])) _
      refine XS.aload X37.here hx rfl (hb hby at_56) rfl rfl ?_
      show Steps p.tables e below (T37.setTop (mkF m 58 #[.val (.int x0), .val (.long x1), .second, .val (.int x2), .val (.int x3), .val (.int x4), .val (.ref b2), .unset, .unset, .unset, .unset] [(.ref b2)])) _
      refine XS.iconst X37.here hx rfl (hb hby at_58) ?_
      show Steps p.tables e below (T37.setTop (mkF m 59 #[.val (.int x0), .val (.long x1), .second, .val (.int x2), .val (.int x3), .val (.int x4), .val (.ref b2), .unset, .unset, .unset, .unset] [(.int (5 : Int32)), (.ref b2)])) _
      refine XS.iloadN X37.here hx rfl (hb hby at_59) rfl ?_
      show Steps p.tables e below (T37.setTop (mkF m 60 #[.val (.int x0), .val (.long x1), .second, .val (.int x2), .val (.int x3), .val (.int x4), .val (.ref b2), .unset, .unset, .unset, .unset] [(.int x0), (.int (5 : Int32)), (.ref b2)])) _
      refine XS.lloadN X37.here hx rfl (hb hby at_60) rfl ?_
      show Steps p.tables e below (T37.setTop (mkF m 61 #[.val (.int x0), .val (.long x1), .second, .val (.int x2), .val (.int x3), .val (.int x4), .val (.ref b2), .unset, .unset, .unset, .unset] [(.long x1), (.int x0), (.int (5 : Int32)), (.ref b2)])) _
      refine XS.iconst X37.here hx rfl (hb hby at_61) ?_
      exact Steps.refl _)
  obtain ⟨_, _, ⟨T41, L41, k41, n41⟩, -, X41, ⟨Lc41, hQ41, l41, y41, z41⟩, sr41⟩ := Jvm.LawKit.callS X37 hx (y := (⟨"com/example/persephone/persephone/executor/RequestHeadEndPinLaw", "pick", "(IJI)B"⟩ : MethodName)) hown (mvT hZ (hw _ (List.mem_of_getElem? (i := 1) rfl))) (mvT hZ (hw _ (List.mem_of_getElem? (i := 2) rfl))) (mvT hZ (hw _ (List.mem_of_getElem? (i := 3) rfl))) (mvT hZ (hw _ (List.mem_of_getElem? (i := 4) rfl))) (by decide) (backOf (W := 2) (rm1 l Z a0 hw [] x0 x1 (5 : Int32)  h37 n0 Z37 ) hZ (hw _ (List.mem_of_getElem? (i := 4) rfl)) (hw _ (List.mem_of_getElem? (i := 3) rfl)) (by decide) (by decide)) (g := (mkF m 62 #[.val (.int x0), .val (.long x1), .second, .val (.int x2), .val (.int x3), .val (.int x4), .val (.ref b2), .unset, .unset, .unset, .unset] [(.int (5 : Int32)), (.long x1), (.int x0), (.int (5 : Int32)), (.ref b2)])) rfl (by rw [hml]; rfl) (argsL := [(.int x0), (.long x1), (.int (5 : Int32))]) (rest := [(.int (5 : Int32)), (.ref b2)]) (lenOf pd_1 rfl) rfl (by show 2 * 0 + _ ≤ _; exact Nat.le_of_eq rfl) (hb hby at_62) (fun _ _ => ⟨rfl, e37, (by decide : 1 + 0 ≤ _), (by decide : 6 + 0 ≤ _)⟩)
  dsimp only [Pt.U, Pt.locs, Pt.cells, Pt.slots] at X41 l41 y41 z41 sr41 hQ41
  subst l41 y41 z41
  obtain ⟨rfl, N41q, hh41⟩ := hQ41
  have N41 := Fr.app N37 N41q
  have st42 : Steps p.tables e below (s₁.setTop (entryFrame m #[(.int x0), (.long x1), (.int x2), (.int x3), (.int x4)] maxLocals)) (T41.setTop (mkF m 65 #[.val (.int x0), .val (.long x1), .second, .val (.int x2), .val (.int x3), .val (.int x4), .val (.ref b2), .unset, .unset, .unset, .unset] [(.int (F1 x0 x1 (5 : Int32))), (.int (5 : Int32)), (.ref b2)])) := st40.trans (sr41 _ (Steps.refl _))
  obtain ⟨v5, e_v5⟩ : ∃ z, z = (F1 x0 x1 (5 : Int32)) := ⟨_, rfl⟩
  rw [← e_v5] at st42
  obtain ⟨cl43, Ar43, q43, S43, N43, H43, G43⟩ := id f38
  have hin43 : ¬ ((5 : Int32) < 0 ∨ cl43.slots.size ≤ ((5 : Int32)).toNatClampNeg) := inb_of S43 ⟨by decide, by decide⟩
  obtain ⟨T44, h44, X44, e44, W44, sr44⟩ := stB X41 hx hZ hh41 Ar43 (j := (5 : Int32)) hin43 (g := (mkF m 65 #[.val (.int x0), .val (.long x1), .second, .val (.int x2), .val (.int x3), .val (.int x4), .val (.ref b2), .unset, .unset, .unset, .unset] [(.int v5), (.int (5 : Int32)), (.ref b2)])) rfl rfl (hb hby at_65)
  have f45 : Arv Z h44 b2 k2 .byte (6 : Int32) [(.int (v0).toInt8.toInt32), (.int (v1).toInt8.toInt32), (.int (v2).toInt8.toInt32), (.int (v3).toInt8.toInt32), (.int (v4).toInt8.toInt32), (.int (v5).toInt8.toInt32)] (.int (0 : Int32)) := Arv.set Ar43 q43 S43 N43 H43 G43 (fits_nar_byte _) W44 5 rfl (Nat.le_of_ble_eq_true rfl)
  have Z44 : n0 ≤ h44.size := Nat.le_trans Z37 (Keep.of_wr W44).1
  have N44 := Fr.snoc X44 N41 g_b2
  have st46 : Steps p.tables e below (s₁.setTop (entryFrame m #[(.int x0), (.long x1), (.int x2), (.int x3), (.int x4)] maxLocals)) (T44.setTop (mkF m 66 #[.val (.int x0), .val (.long x1), .second, .val (.int x2), .val (.int x3), .val (.int x4), .val (.ref b2), .unset, .unset, .unset, .unset] [])) := st42.trans (sr44 _ (Steps.refl _))
  have st47 : Steps p.tables e below (s₁.setTop (entryFrame m #[(.int x0), (.long x1), (.int x2), (.int x3), (.int x4)] maxLocals)) (T44.setTop (mkF m 70 #[.val (.int x0), .val (.long x1), .second, .val (.int x2), .val (.int x3), .val (.int x4), .val (.ref b2), .unset, .unset, .unset, .unset] [(.int (x4 &&& (1 : Int32)))])) := st46.trans (by
      show Steps p.tables e below (T44.setTop (mkF m 66 #[.val (.int x0), .val (.long x1), .second, .val (.int x2), .val (.int x3), .val (.int x4), .val (.ref b2), .unset, .unset, .unset, .unset] [])) _
      refine XS.iload X44.here hx rfl (hb hby at_66) rfl ?_
      show Steps p.tables e below (T44.setTop (mkF m 68 #[.val (.int x0), .val (.long x1), .second, .val (.int x2), .val (.int x3), .val (.int x4), .val (.ref b2), .unset, .unset, .unset, .unset] [(.int x4)])) _
      refine XS.iconst X44.here hx rfl (hb hby at_68) ?_
      show Steps p.tables e below (T44.setTop (mkF m 69 #[.val (.int x0), .val (.long x1), .second, .val (.int x2), .val (.int x3), .val (.int x4), .val (.ref b2), .unset, .unset, .unset, .unset] [(.int (1 : Int32)), (.int x4)])) _
      refine XS.iand X44.here hx rfl (hb hby at_69) rfl ?_
      exact Steps.refl _)
  have st49 : Steps p.tables e below (s₁.setTop (entryFrame m #[(.int x0), (.long x1), (.int x2), (.int x3), (.int x4)] maxLocals)) (T44.setTop (mkF m 81 #[.val (.int x0), .val (.long x1), .second, .val (.int x2), .val (.int x3), .val (.int x4), .val (.ref b2), .unset, .unset, .unset, .unset] [(.int (if (x4 &&& (1 : Int32)) = (0 : Int32) then (x2 % (8 : Int32)) else x2))])) := st47.trans (by
      show Steps p.tables e below (T44.setTop (mkF m 70 #[.val (.int x0), .val (.long x1), .second, .val (.int x2), .val (.int x3), .val (.int x4), .val (.ref b2), .unset, .unset, .unset, .unset] [(.int (x4 &&& (1 : Int32)))])) _
      by_cases hc48 : (x4 &&& (1 : Int32)) = (0 : Int32)
      · show Steps p.tables e below (T44.setTop (mkF m 70 #[.val (.int x0), .val (.long x1), .second, .val (.int x2), .val (.int x3), .val (.int x4), .val (.ref b2), .unset, .unset, .unset, .unset] [(.int (x4 &&& (1 : Int32)))])) _
        refine XS.ifYes X44.here hx rfl (pc0 := 70) (pc' := 77) rfl (hb hby at_70) rfl ((if0 _ _).trans (teq hc48).1) (by decide) (by decide) ?_
        show Steps p.tables e below (T44.setTop (mkF m 77 #[.val (.int x0), .val (.long x1), .second, .val (.int x2), .val (.int x3), .val (.int x4), .val (.ref b2), .unset, .unset, .unset, .unset] [])) _
        refine XS.iloadN X44.here hx rfl (hb hby at_77) rfl ?_
        show Steps p.tables e below (T44.setTop (mkF m 78 #[.val (.int x0), .val (.long x1), .second, .val (.int x2), .val (.int x3), .val (.int x4), .val (.ref b2), .unset, .unset, .unset, .unset] [(.int x2)])) _
        refine XS.bipush X44.here hx rfl (hb hby at_78) ?_
        show Steps p.tables e below (T44.setTop (mkF m 80 #[.val (.int x0), .val (.long x1), .second, .val (.int x2), .val (.int x3), .val (.int x4), .val (.ref b2), .unset, .unset, .unset, .unset] [(.int (8 : Int32)), (.int x2)])) _
        refine iremM X44 hx rfl (hb hby at_80) rfl (by decide) ?_
        simp only [if_pos hc48]
        exact Steps.refl _
      · show Steps p.tables e below (T44.setTop (mkF m 70 #[.val (.int x0), .val (.long x1), .second, .val (.int x2), .val (.int x3), .val (.int x4), .val (.ref b2), .unset, .unset, .unset, .unset] [(.int (x4 &&& (1 : Int32)))])) _
        refine XS.ifNo X44.here hx rfl (hb hby at_70) rfl ((if0 _ _).trans (feq hc48).1) ?_
        show Steps p.tables e below (T44.setTop (mkF m 73 #[.val (.int x0), .val (.long x1), .second, .val (.int x2), .val (.int x3), .val (.int x4), .val (.ref b2), .unset, .unset, .unset, .unset] [])) _
        refine XS.iloadN X44.here hx rfl (hb hby at_73) rfl ?_
        show Steps p.tables e below (T44.setTop (mkF m 74 #[.val (.int x0), .val (.long x1), .second, .val (.int x2), .val (.int x3), .val (.int x4), .val (.ref b2), .unset, .unset, .unset, .unset] [(.int x2)])) _
        refine XS.goto X44.here hx rfl (pc0 := 74) (pc' := 81) rfl (hb hby at_74) (by decide) (by decide) ?_
        simp only [if_neg hc48]
        exact Steps.refl _
      )
  have st50 : Steps p.tables e below (s₁.setTop (entryFrame m #[(.int x0), (.long x1), (.int x2), (.int x3), (.int x4)] maxLocals)) (T44.setTop (mkF m 87 #[.val (.int x0), .val (.long x1), .second, .val (.int x2), .val (.int x3), .val (.int x4), .val (.ref b2), .val (.int (if (x4 &&& (1 : Int32)) = (0 : Int32) then (x2 % (8 : Int32)) else x2)), .unset, .unset, .unset] [(.int (x4 &&& (2 : Int32)))])) := st49.trans (by
      show Steps p.tables e below (T44.setTop (mkF m 81 #[.val (.int x0), .val (.long x1), .second, .val (.int x2), .val (.int x3), .val (.int x4), .val (.ref b2), .unset, .unset, .unset, .unset] [(.int (if (x4 &&& (1 : Int32)) = (0 : Int32) then (x2 % (8 : Int32)) else x2))])) _
      refine XS.istore X44.here hx rfl (hb hby at_81) rfl (l' := #[.val (.int x0), .val (.long x1), .second, .val (.int x2), .val (.int x3), .val (.int x4), .val (.ref b2), .val (.int (if (x4 &&& (1 : Int32)) = (0 : Int32) then (x2 % (8 : Int32)) else x2)), .unset, .unset, .unset]) rfl ?_
      show Steps p.tables e below (T44.setTop (mkF m 83 #[.val (.int x0), .val (.long x1), .second, .val (.int x2), .val (.int x3), .val (.int x4), .val (.ref b2), .val (.int (if (x4 &&& (1 : Int32)) = (0 : Int32) then (x2 % (8 : Int32)) else x2)), .unset, .unset, .unset] [])) _
      refine XS.iload X44.here hx rfl (hb hby at_83) rfl ?_
      show Steps p.tables e below (T44.setTop (mkF m 85 #[.val (.int x0), .val (.long x1), .second, .val (.int x2), .val (.int x3), .val (.int x4), .val (.ref b2), .val (.int (if (x4 &&& (1 : Int32)) = (0 : Int32) then (x2 % (8 : Int32)) else x2)), .unset, .unset, .unset] [(.int x4)])) _
      refine XS.iconst X44.here hx rfl (hb hby at_85) ?_
      show Steps p.tables e below (T44.setTop (mkF m 86 #[.val (.int x0), .val (.long x1), .second, .val (.int x2), .val (.int x3), .val (.int x4), .val (.ref b2), .val (.int (if (x4 &&& (1 : Int32)) = (0 : Int32) then (x2 % (8 : Int32)) else x2)), .unset, .unset, .unset] [(.int (2 : Int32)), (.int x4)])) _
      refine XS.iand X44.here hx rfl (hb hby at_86) rfl ?_
      exact Steps.refl _)
  have st53 : Steps p.tables e below (s₁.setTop (entryFrame m #[(.int x0), (.long x1), (.int x2), (.int x3), (.int x4)] maxLocals)) (T44.setTop (mkF m 122 #[.val (.int x0), .val (.long x1), .second, .val (.int x2), .val (.int x3), .val (.int x4), .val (.ref b2), .val (.int (if (x4 &&& (1 : Int32)) = (0 : Int32) then (x2 % (8 : Int32)) else x2)), .val (.int (if (x4 &&& (2 : Int32)) = (0 : Int32) then ((x3 &&& (2147483647 : Int32)) % (7 : Int32)) else (if (6 : Int32) < x3 then (x3 % (7 : Int32)) else x3))), .unset, .unset] [])) := st50.trans (by
      show Steps p.tables e below (T44.setTop (mkF m 87 #[.val (.int x0), .val (.long x1), .second, .val (.int x2), .val (.int x3), .val (.int x4), .val (.ref b2), .val (.int (if (x4 &&& (1 : Int32)) = (0 : Int32) then (x2 % (8 : Int32)) else x2)), .unset, .unset, .unset] [(.int (x4 &&& (2 : Int32)))])) _
      by_cases hc51 : (x4 &&& (2 : Int32)) = (0 : Int32)
      · show Steps p.tables e below (T44.setTop (mkF m 87 #[.val (.int x0), .val (.long x1), .second, .val (.int x2), .val (.int x3), .val (.int x4), .val (.ref b2), .val (.int (if (x4 &&& (1 : Int32)) = (0 : Int32) then (x2 % (8 : Int32)) else x2)), .unset, .unset, .unset] [(.int (x4 &&& (2 : Int32)))])) _
        refine XS.ifYes X44.here hx rfl (pc0 := 87) (pc' := 112) rfl (hb hby at_87) rfl ((if0 _ _).trans (teq hc51).1) (by decide) (by decide) ?_
        show Steps p.tables e below (T44.setTop (mkF m 112 #[.val (.int x0), .val (.long x1), .second, .val (.int x2), .val (.int x3), .val (.int x4), .val (.ref b2), .val (.int (if (x4 &&& (1 : Int32)) = (0 : Int32) then (x2 % (8 : Int32)) else x2)), .unset, .unset, .unset] [])) _
        refine XS.iload X44.here hx rfl (hb hby at_112) rfl ?_
        show Steps p.tables e below (T44.setTop (mkF m 114 #[.val (.int x0), .val (.long x1), .second, .val (.int x2), .val (.int x3), .val (.int x4), .val (.ref b2), .val (.int (if (x4 &&& (1 : Int32)) = (0 : Int32) then (x2 % (8 : Int32)) else x2)), .unset, .unset, .unset] [(.int x3)])) _
        refine X44.ldcInt hx hown (mvT hZ (hw _ (List.mem_of_getElem? (i := 16) rfl))) (g := (mkF m 114 #[.val (.int x0), .val (.long x1), .second, .val (.int x2), .val (.int x3), .val (.int x4), .val (.ref b2), .val (.int (if (x4 &&& (1 : Int32)) = (0 : Int32) then (x2 % (8 : Int32)) else x2)), .unset, .unset, .unset] [(.int x3)])) rfl (hb hby at_114) _ ?_
        show Steps p.tables e below (T44.setTop (mkF m 116 #[.val (.int x0), .val (.long x1), .second, .val (.int x2), .val (.int x3), .val (.int x4), .val (.ref b2), .val (.int (if (x4 &&& (1 : Int32)) = (0 : Int32) then (x2 % (8 : Int32)) else x2)), .unset, .unset, .unset] [(.int (2147483647 : Int32)), (.int x3)])) _
        refine XS.iand X44.here hx rfl (hb hby at_116) rfl ?_
        show Steps p.tables e below (T44.setTop (mkF m 117 #[.val (.int x0), .val (.long x1), .second, .val (.int x2), .val (.int x3), .val (.int x4), .val (.ref b2), .val (.int (if (x4 &&& (1 : Int32)) = (0 : Int32) then (x2 % (8 : Int32)) else x2)), .unset, .unset, .unset] [(.int (x3 &&& (2147483647 : Int32)))])) _
        refine XS.bipush X44.here hx rfl (hb hby at_117) ?_
        show Steps p.tables e below (T44.setTop (mkF m 119 #[.val (.int x0), .val (.long x1), .second, .val (.int x2), .val (.int x3), .val (.int x4), .val (.ref b2), .val (.int (if (x4 &&& (1 : Int32)) = (0 : Int32) then (x2 % (8 : Int32)) else x2)), .unset, .unset, .unset] [(.int (7 : Int32)), (.int (x3 &&& (2147483647 : Int32)))])) _
        refine iremM X44 hx rfl (hb hby at_119) rfl (by decide) ?_
        show Steps p.tables e below (T44.setTop (mkF m 120 #[.val (.int x0), .val (.long x1), .second, .val (.int x2), .val (.int x3), .val (.int x4), .val (.ref b2), .val (.int (if (x4 &&& (1 : Int32)) = (0 : Int32) then (x2 % (8 : Int32)) else x2)), .unset, .unset, .unset] [(.int ((x3 &&& (2147483647 : Int32)) % (7 : Int32)))])) _
        refine XS.istore X44.here hx rfl (hb hby at_120) rfl (l' := #[.val (.int x0), .val (.long x1), .second, .val (.int x2), .val (.int x3), .val (.int x4), .val (.ref b2), .val (.int (if (x4 &&& (1 : Int32)) = (0 : Int32) then (x2 % (8 : Int32)) else x2)), .val (.int ((x3 &&& (2147483647 : Int32)) % (7 : Int32))), .unset, .unset]) rfl ?_
        simp only [if_pos hc51]
        exact Steps.refl _
      · show Steps p.tables e below (T44.setTop (mkF m 87 #[.val (.int x0), .val (.long x1), .second, .val (.int x2), .val (.int x3), .val (.int x4), .val (.ref b2), .val (.int (if (x4 &&& (1 : Int32)) = (0 : Int32) then (x2 % (8 : Int32)) else x2)), .unset, .unset, .unset] [(.int (x4 &&& (2 : Int32)))])) _
        refine XS.ifNo X44.here hx rfl (hb hby at_87) rfl ((if0 _ _).trans (feq hc51).1) ?_
        show Steps p.tables e below (T44.setTop (mkF m 90 #[.val (.int x0), .val (.long x1), .second, .val (.int x2), .val (.int x3), .val (.int x4), .val (.ref b2), .val (.int (if (x4 &&& (1 : Int32)) = (0 : Int32) then (x2 % (8 : Int32)) else x2)), .unset, .unset, .unset] [])) _
        refine XS.iload X44.here hx rfl (hb hby at_90) rfl ?_
        show Steps p.tables e below (T44.setTop (mkF m 92 #[.val (.int x0), .val (.long x1), .second, .val (.int x2), .val (.int x3), .val (.int x4), .val (.ref b2), .val (.int (if (x4 &&& (1 : Int32)) = (0 : Int32) then (x2 % (8 : Int32)) else x2)), .unset, .unset, .unset] [(.int x3)])) _
        refine XS.bipush X44.here hx rfl (hb hby at_92) ?_
        show Steps p.tables e below (T44.setTop (mkF m 94 #[.val (.int x0), .val (.long x1), .second, .val (.int x2), .val (.int x3), .val (.int x4), .val (.ref b2), .val (.int (if (x4 &&& (1 : Int32)) = (0 : Int32) then (x2 % (8 : Int32)) else x2)), .unset, .unset, .unset] [(.int (6 : Int32)), (.int x3)])) _
        by_cases hc52 : (6 : Int32) < x3
        · show Steps p.tables e below (T44.setTop (mkF m 94 #[.val (.int x0), .val (.long x1), .second, .val (.int x2), .val (.int x3), .val (.int x4), .val (.ref b2), .val (.int (if (x4 &&& (1 : Int32)) = (0 : Int32) then (x2 % (8 : Int32)) else x2)), .unset, .unset, .unset] [(.int (6 : Int32)), (.int x3)])) _
          refine XS.icmpNo X44.here hx rfl (hb hby at_94) rfl (tlt hc52).2.2.2 ?_
          show Steps p.tables e below (T44.setTop (mkF m 97 #[.val (.int x0), .val (.long x1), .second, .val (.int x2), .val (.int x3), .val (.int x4), .val (.ref b2), .val (.int (if (x4 &&& (1 : Int32)) = (0 : Int32) then (x2 % (8 : Int32)) else x2)), .unset, .unset, .unset] [])) _
          refine XS.iload X44.here hx rfl (hb hby at_97) rfl ?_
          show Steps p.tables e below (T44.setTop (mkF m 99 #[.val (.int x0), .val (.long x1), .second, .val (.int x2), .val (.int x3), .val (.int x4), .val (.ref b2), .val (.int (if (x4 &&& (1 : Int32)) = (0 : Int32) then (x2 % (8 : Int32)) else x2)), .unset, .unset, .unset] [(.int x3)])) _
          refine XS.bipush X44.here hx rfl (hb hby at_99) ?_
          show Steps p.tables e below (T44.setTop (mkF m 101 #[.val (.int x0), .val (.long x1), .second, .val (.int x2), .val (.int x3), .val (.int x4), .val (.ref b2), .val (.int (if (x4 &&& (1 : Int32)) = (0 : Int32) then (x2 % (8 : Int32)) else x2)), .unset, .unset, .unset] [(.int (7 : Int32)), (.int x3)])) _
          refine iremM X44 hx rfl (hb hby at_101) rfl (by decide) ?_
          show Steps p.tables e below (T44.setTop (mkF m 102 #[.val (.int x0), .val (.long x1), .second, .val (.int x2), .val (.int x3), .val (.int x4), .val (.ref b2), .val (.int (if (x4 &&& (1 : Int32)) = (0 : Int32) then (x2 % (8 : Int32)) else x2)), .unset, .unset, .unset] [(.int (x3 % (7 : Int32)))])) _
          refine XS.goto X44.here hx rfl (pc0 := 102) (pc' := 107) rfl (hb hby at_102) (by decide) (by decide) ?_
          show Steps p.tables e below (T44.setTop (mkF m 107 #[.val (.int x0), .val (.long x1), .second, .val (.int x2), .val (.int x3), .val (.int x4), .val (.ref b2), .val (.int (if (x4 &&& (1 : Int32)) = (0 : Int32) then (x2 % (8 : Int32)) else x2)), .unset, .unset, .unset] [(.int (x3 % (7 : Int32)))])) _
          refine XS.istore X44.here hx rfl (hb hby at_107) rfl (l' := #[.val (.int x0), .val (.long x1), .second, .val (.int x2), .val (.int x3), .val (.int x4), .val (.ref b2), .val (.int (if (x4 &&& (1 : Int32)) = (0 : Int32) then (x2 % (8 : Int32)) else x2)), .val (.int (x3 % (7 : Int32))), .unset, .unset]) rfl ?_
          show Steps p.tables e below (T44.setTop (mkF m 109 #[.val (.int x0), .val (.long x1), .second, .val (.int x2), .val (.int x3), .val (.int x4), .val (.ref b2), .val (.int (if (x4 &&& (1 : Int32)) = (0 : Int32) then (x2 % (8 : Int32)) else x2)), .val (.int (x3 % (7 : Int32))), .unset, .unset] [])) _
          refine XS.goto X44.here hx rfl (pc0 := 109) (pc' := 122) rfl (hb hby at_109) (by decide) (by decide) ?_
          simp only [if_neg hc51, if_pos hc52]
          exact Steps.refl _
        · show Steps p.tables e below (T44.setTop (mkF m 94 #[.val (.int x0), .val (.long x1), .second, .val (.int x2), .val (.int x3), .val (.int x4), .val (.ref b2), .val (.int (if (x4 &&& (1 : Int32)) = (0 : Int32) then (x2 % (8 : Int32)) else x2)), .unset, .unset, .unset] [(.int (6 : Int32)), (.int x3)])) _
          refine XS.icmpYes X44.here hx rfl (pc0 := 94) (pc' := 105) rfl (hb hby at_94) rfl (flt hc52).2.2.2 (by decide) (by decide) ?_
          show Steps p.tables e below (T44.setTop (mkF m 105 #[.val (.int x0), .val (.long x1), .second, .val (.int x2), .val (.int x3), .val (.int x4), .val (.ref b2), .val (.int (if (x4 &&& (1 : Int32)) = (0 : Int32) then (x2 % (8 : Int32)) else x2)), .unset, .unset, .unset] [])) _
          refine XS.iload X44.here hx rfl (hb hby at_105) rfl ?_
          show Steps p.tables e below (T44.setTop (mkF m 107 #[.val (.int x0), .val (.long x1), .second, .val (.int x2), .val (.int x3), .val (.int x4), .val (.ref b2), .val (.int (if (x4 &&& (1 : Int32)) = (0 : Int32) then (x2 % (8 : Int32)) else x2)), .unset, .unset, .unset] [(.int x3)])) _
          refine XS.istore X44.here hx rfl (hb hby at_107) rfl (l' := #[.val (.int x0), .val (.long x1), .second, .val (.int x2), .val (.int x3), .val (.int x4), .val (.ref b2), .val (.int (if (x4 &&& (1 : Int32)) = (0 : Int32) then (x2 % (8 : Int32)) else x2)), .val (.int x3), .unset, .unset]) rfl ?_
          show Steps p.tables e below (T44.setTop (mkF m 109 #[.val (.int x0), .val (.long x1), .second, .val (.int x2), .val (.int x3), .val (.int x4), .val (.ref b2), .val (.int (if (x4 &&& (1 : Int32)) = (0 : Int32) then (x2 % (8 : Int32)) else x2)), .val (.int x3), .unset, .unset] [])) _
          refine XS.goto X44.here hx rfl (pc0 := 109) (pc' := 122) rfl (hb hby at_109) (by decide) (by decide) ?_
          simp only [if_neg hc51, if_neg hc52]
          exact Steps.refl _
      )
  obtain ⟨fr, e_fr⟩ : ∃ z, z = (if (x4 &&& (1 : Int32)) = (0 : Int32) then (x2 % (8 : Int32)) else x2) := ⟨_, rfl⟩
  rw [← e_fr] at st53
  obtain ⟨ln, e_ln⟩ : ∃ z, z = (if (x4 &&& (2 : Int32)) = (0 : Int32) then ((x3 &&& (2147483647 : Int32)) % (7 : Int32)) else (if (6 : Int32) < x3 then (x3 % (7 : Int32)) else x3)) := ⟨_, rfl⟩
  rw [← e_ln] at st53
  have h6 := own_ln x3 x4 ln e_ln
  have st54 : Steps p.tables e below (s₁.setTop (entryFrame m #[(.int x0), (.long x1), (.int x2), (.int x3), (.int x4)] maxLocals)) (T44.setTop (mkF m 129 #[.val (.int x0), .val (.long x1), .second, .val (.int x2), .val (.int x3), .val (.int x4), .val (.ref b2), .val (.int fr), .val (.int ln), .unset, .unset] [(.int ln), (.int fr), (.int (2 : Int32)), (.ref b2)])) := st53.trans (by
      show Steps p.tables e below (T44.setTop (mkF m 122 #[.val (.int x0), .val (.long x1), .second, .val (.int x2), .val (.int x3), .val (.int x4), .val (.ref b2), .val (.int fr), .val (.int ln), .unset, .unset] [])) _
      refine XS.aload X44.here hx rfl (hb hby at_122) rfl rfl ?_
      show Steps p.tables e below (T44.setTop (mkF m 124 #[.val (.int x0), .val (.long x1), .second, .val (.int x2), .val (.int x3), .val (.int x4), .val (.ref b2), .val (.int fr), .val (.int ln), .unset, .unset] [(.ref b2)])) _
      refine XS.iconst X44.here hx rfl (hb hby at_124) ?_
      show Steps p.tables e below (T44.setTop (mkF m 125 #[.val (.int x0), .val (.long x1), .second, .val (.int x2), .val (.int x3), .val (.int x4), .val (.ref b2), .val (.int fr), .val (.int ln), .unset, .unset] [(.int (2 : Int32)), (.ref b2)])) _
      refine XS.iload X44.here hx rfl (hb hby at_125) rfl ?_
      show Steps p.tables e below (T44.setTop (mkF m 127 #[.val (.int x0), .val (.long x1), .second, .val (.int x2), .val (.int x3), .val (.int x4), .val (.ref b2), .val (.int fr), .val (.int ln), .unset, .unset] [(.int fr), (.int (2 : Int32)), (.ref b2)])) _
      refine XS.iload X44.here hx rfl (hb hby at_127) rfl ?_
      exact Steps.refl _)
  obtain ⟨_, _, ⟨T55, L55, k55, n55⟩, -, X55, ⟨Lc55, hQ55, l55, y55, z55⟩, sr55⟩ := Jvm.LawKit.callS X44 hx (y := (⟨"com/example/persephone/persephone/executor/RequestHeadEndPinLaw", "endsAt", "([BIII)Z"⟩ : MethodName)) hown (mvT hZ (hw _ (List.mem_of_getElem? (i := 5) rfl))) (mvT hZ (hw _ (List.mem_of_getElem? (i := 6) rfl))) (mvT hZ (hw _ (List.mem_of_getElem? (i := 3) rfl))) (mvT hZ (hw _ (List.mem_of_getElem? (i := 7) rfl))) (by decide) (backOf (W := 0) (rm2 l Z a0 hw [] b2 (2 : Int32) fr ln k2 ([(v0).toInt8.toInt32, (v1).toInt8.toInt32, (v2).toInt8.toInt32, (v3).toInt8.toInt32, (v4).toInt8.toInt32, (v5).toInt8.toInt32] : List Int32) h44 n0 Z44 f45 (by decide)) hZ (hw _ (List.mem_of_getElem? (i := 7) rfl)) (hw _ (List.mem_of_getElem? (i := 3) rfl)) (by decide) (by decide)) (g := (mkF m 129 #[.val (.int x0), .val (.long x1), .second, .val (.int x2), .val (.int x3), .val (.int x4), .val (.ref b2), .val (.int fr), .val (.int ln), .unset, .unset] [(.int ln), (.int fr), (.int (2 : Int32)), (.ref b2)])) rfl (by rw [hml]; rfl) (argsL := [(.ref b2), (.int (2 : Int32)), (.int fr), (.int ln)]) (rest := []) (lenOf pd_2 rfl) rfl (by show 2 * 0 + _ ≤ _; exact Nat.le_of_eq rfl) (hb hby at_129) (fun _ _ => ⟨rfl, e44, (by decide : 1 + 0 ≤ _), (by decide : 6 + 0 ≤ _)⟩)
  dsimp only [Pt.U, Pt.locs, Pt.cells, Pt.slots] at X55 l55 y55 z55 sr55 hQ55
  subst l55 y55 z55
  obtain ⟨rfl, N55q, hh55⟩ := hQ55
  have N55 := Fr.app N44 N55q
  have st56 : Steps p.tables e below (s₁.setTop (entryFrame m #[(.int x0), (.long x1), (.int x2), (.int x3), (.int x4)] maxLocals)) (T55.setTop (mkF m 132 #[.val (.int x0), .val (.long x1), .second, .val (.int x2), .val (.int x3), .val (.int x4), .val (.ref b2), .val (.int fr), .val (.int ln), .unset, .unset] [(.int (F2 (2 : Int32) fr ln ([(v0).toInt8.toInt32, (v1).toInt8.toInt32, (v2).toInt8.toInt32, (v3).toInt8.toInt32, (v4).toInt8.toInt32, (v5).toInt8.toInt32] : List Int32)))])) := st54.trans (sr55 _ (Steps.refl _))
  by_cases hc57 : (F2 (2 : Int32) fr ln ([(v0).toInt8.toInt32, (v1).toInt8.toInt32, (v2).toInt8.toInt32, (v3).toInt8.toInt32, (v4).toInt8.toInt32, (v5).toInt8.toInt32] : List Int32)) = (0 : Int32)
  · have st58 : Steps p.tables e below (s₁.setTop (entryFrame m #[(.int x0), (.long x1), (.int x2), (.int x3), (.int x4)] maxLocals)) (T55.setTop (mkF m 148 #[.val (.int x0), .val (.long x1), .second, .val (.int x2), .val (.int x3), .val (.int x4), .val (.ref b2), .val (.int fr), .val (.int ln), .unset, .unset] [(.int ln), (.int fr), (.int (3 : Int32)), (.ref b2)])) := st56.trans (by
        show Steps p.tables e below (T55.setTop (mkF m 132 #[.val (.int x0), .val (.long x1), .second, .val (.int x2), .val (.int x3), .val (.int x4), .val (.ref b2), .val (.int fr), .val (.int ln), .unset, .unset] [(.int (F2 (2 : Int32) fr ln ([(v0).toInt8.toInt32, (v1).toInt8.toInt32, (v2).toInt8.toInt32, (v3).toInt8.toInt32, (v4).toInt8.toInt32, (v5).toInt8.toInt32] : List Int32)))])) _
        refine XS.ifYes X55.here hx rfl (pc0 := 132) (pc' := 141) rfl (hb hby at_132) rfl ((if0 _ _).trans (teq hc57).1) (by decide) (by decide) ?_
        show Steps p.tables e below (T55.setTop (mkF m 141 #[.val (.int x0), .val (.long x1), .second, .val (.int x2), .val (.int x3), .val (.int x4), .val (.ref b2), .val (.int fr), .val (.int ln), .unset, .unset] [])) _
        refine XS.aload X55.here hx rfl (hb hby at_141) rfl rfl ?_
        show Steps p.tables e below (T55.setTop (mkF m 143 #[.val (.int x0), .val (.long x1), .second, .val (.int x2), .val (.int x3), .val (.int x4), .val (.ref b2), .val (.int fr), .val (.int ln), .unset, .unset] [(.ref b2)])) _
        refine XS.iconst X55.here hx rfl (hb hby at_143) ?_
        show Steps p.tables e below (T55.setTop (mkF m 144 #[.val (.int x0), .val (.long x1), .second, .val (.int x2), .val (.int x3), .val (.int x4), .val (.ref b2), .val (.int fr), .val (.int ln), .unset, .unset] [(.int (3 : Int32)), (.ref b2)])) _
        refine XS.iload X55.here hx rfl (hb hby at_144) rfl ?_
        show Steps p.tables e below (T55.setTop (mkF m 146 #[.val (.int x0), .val (.long x1), .second, .val (.int x2), .val (.int x3), .val (.int x4), .val (.ref b2), .val (.int fr), .val (.int ln), .unset, .unset] [(.int fr), (.int (3 : Int32)), (.ref b2)])) _
        refine XS.iload X55.here hx rfl (hb hby at_146) rfl ?_
        exact Steps.refl _)
    obtain ⟨_, _, ⟨T59, L59, k59, n59⟩, -, X59, ⟨Lc59, hQ59, l59, y59, z59⟩, sr59⟩ := Jvm.LawKit.callS X55 hx (y := (⟨"com/example/persephone/persephone/executor/RequestHeadEndPinLaw", "endsAt", "([BIII)Z"⟩ : MethodName)) hown (mvT hZ (hw _ (List.mem_of_getElem? (i := 5) rfl))) (mvT hZ (hw _ (List.mem_of_getElem? (i := 6) rfl))) (mvT hZ (hw _ (List.mem_of_getElem? (i := 3) rfl))) (mvT hZ (hw _ (List.mem_of_getElem? (i := 7) rfl))) (by decide) (backOf (W := 0) (rm2 l Z a0 hw [] b2 (3 : Int32) fr ln k2 ([(v0).toInt8.toInt32, (v1).toInt8.toInt32, (v2).toInt8.toInt32, (v3).toInt8.toInt32, (v4).toInt8.toInt32, (v5).toInt8.toInt32] : List Int32) h44 n0 Z44 f45 (by decide)) hZ (hw _ (List.mem_of_getElem? (i := 7) rfl)) (hw _ (List.mem_of_getElem? (i := 3) rfl)) (by decide) (by decide)) (g := (mkF m 148 #[.val (.int x0), .val (.long x1), .second, .val (.int x2), .val (.int x3), .val (.int x4), .val (.ref b2), .val (.int fr), .val (.int ln), .unset, .unset] [(.int ln), (.int fr), (.int (3 : Int32)), (.ref b2)])) rfl (by rw [hml]; rfl) (argsL := [(.ref b2), (.int (3 : Int32)), (.int fr), (.int ln)]) (rest := []) (lenOf pd_2 rfl) rfl (by show 2 * 0 + _ ≤ _; exact Nat.le_of_eq rfl) (hb hby at_148) (fun _ _ => ⟨rfl, hh55, (by decide : 1 + 0 ≤ _), (by decide : 6 + 0 ≤ _)⟩)
    dsimp only [Pt.U, Pt.locs, Pt.cells, Pt.slots] at X59 l59 y59 z59 sr59 hQ59
    subst l59 y59 z59
    obtain ⟨rfl, N59q, hh59⟩ := hQ59
    have N59 := Fr.app N55 N59q
    have st60 : Steps p.tables e below (s₁.setTop (entryFrame m #[(.int x0), (.long x1), (.int x2), (.int x3), (.int x4)] maxLocals)) (T59.setTop (mkF m 151 #[.val (.int x0), .val (.long x1), .second, .val (.int x2), .val (.int x3), .val (.int x4), .val (.ref b2), .val (.int fr), .val (.int ln), .unset, .unset] [(.int (F2 (3 : Int32) fr ln ([(v0).toInt8.toInt32, (v1).toInt8.toInt32, (v2).toInt8.toInt32, (v3).toInt8.toInt32, (v4).toInt8.toInt32, (v5).toInt8.toInt32] : List Int32)))])) := st58.trans (sr59 _ (Steps.refl _))
    by_cases hc61 : (F2 (3 : Int32) fr ln ([(v0).toInt8.toInt32, (v1).toInt8.toInt32, (v2).toInt8.toInt32, (v3).toInt8.toInt32, (v4).toInt8.toInt32, (v5).toInt8.toInt32] : List Int32)) = (0 : Int32)
    · have st62 : Steps p.tables e below (s₁.setTop (entryFrame m #[(.int x0), (.long x1), (.int x2), (.int x3), (.int x4)] maxLocals)) (T59.setTop (mkF m 167 #[.val (.int x0), .val (.long x1), .second, .val (.int x2), .val (.int x3), .val (.int x4), .val (.ref b2), .val (.int fr), .val (.int ln), .unset, .unset] [(.int ln), (.int fr), (.int (4 : Int32)), (.ref b2)])) := st60.trans (by
          show Steps p.tables e below (T59.setTop (mkF m 151 #[.val (.int x0), .val (.long x1), .second, .val (.int x2), .val (.int x3), .val (.int x4), .val (.ref b2), .val (.int fr), .val (.int ln), .unset, .unset] [(.int (F2 (3 : Int32) fr ln ([(v0).toInt8.toInt32, (v1).toInt8.toInt32, (v2).toInt8.toInt32, (v3).toInt8.toInt32, (v4).toInt8.toInt32, (v5).toInt8.toInt32] : List Int32)))])) _
          refine XS.ifYes X59.here hx rfl (pc0 := 151) (pc' := 160) rfl (hb hby at_151) rfl ((if0 _ _).trans (teq hc61).1) (by decide) (by decide) ?_
          show Steps p.tables e below (T59.setTop (mkF m 160 #[.val (.int x0), .val (.long x1), .second, .val (.int x2), .val (.int x3), .val (.int x4), .val (.ref b2), .val (.int fr), .val (.int ln), .unset, .unset] [])) _
          refine XS.aload X59.here hx rfl (hb hby at_160) rfl rfl ?_
          show Steps p.tables e below (T59.setTop (mkF m 162 #[.val (.int x0), .val (.long x1), .second, .val (.int x2), .val (.int x3), .val (.int x4), .val (.ref b2), .val (.int fr), .val (.int ln), .unset, .unset] [(.ref b2)])) _
          refine XS.iconst X59.here hx rfl (hb hby at_162) ?_
          show Steps p.tables e below (T59.setTop (mkF m 163 #[.val (.int x0), .val (.long x1), .second, .val (.int x2), .val (.int x3), .val (.int x4), .val (.ref b2), .val (.int fr), .val (.int ln), .unset, .unset] [(.int (4 : Int32)), (.ref b2)])) _
          refine XS.iload X59.here hx rfl (hb hby at_163) rfl ?_
          show Steps p.tables e below (T59.setTop (mkF m 165 #[.val (.int x0), .val (.long x1), .second, .val (.int x2), .val (.int x3), .val (.int x4), .val (.ref b2), .val (.int fr), .val (.int ln), .unset, .unset] [(.int fr), (.int (4 : Int32)), (.ref b2)])) _
          refine XS.iload X59.here hx rfl (hb hby at_165) rfl ?_
          exact Steps.refl _)
      obtain ⟨_, _, ⟨T63, L63, k63, n63⟩, -, X63, ⟨Lc63, hQ63, l63, y63, z63⟩, sr63⟩ := Jvm.LawKit.callS X59 hx (y := (⟨"com/example/persephone/persephone/executor/RequestHeadEndPinLaw", "endsAt", "([BIII)Z"⟩ : MethodName)) hown (mvT hZ (hw _ (List.mem_of_getElem? (i := 5) rfl))) (mvT hZ (hw _ (List.mem_of_getElem? (i := 6) rfl))) (mvT hZ (hw _ (List.mem_of_getElem? (i := 3) rfl))) (mvT hZ (hw _ (List.mem_of_getElem? (i := 7) rfl))) (by decide) (backOf (W := 0) (rm2 l Z a0 hw [] b2 (4 : Int32) fr ln k2 ([(v0).toInt8.toInt32, (v1).toInt8.toInt32, (v2).toInt8.toInt32, (v3).toInt8.toInt32, (v4).toInt8.toInt32, (v5).toInt8.toInt32] : List Int32) h44 n0 Z44 f45 (by decide)) hZ (hw _ (List.mem_of_getElem? (i := 7) rfl)) (hw _ (List.mem_of_getElem? (i := 3) rfl)) (by decide) (by decide)) (g := (mkF m 167 #[.val (.int x0), .val (.long x1), .second, .val (.int x2), .val (.int x3), .val (.int x4), .val (.ref b2), .val (.int fr), .val (.int ln), .unset, .unset] [(.int ln), (.int fr), (.int (4 : Int32)), (.ref b2)])) rfl (by rw [hml]; rfl) (argsL := [(.ref b2), (.int (4 : Int32)), (.int fr), (.int ln)]) (rest := []) (lenOf pd_2 rfl) rfl (by show 2 * 0 + _ ≤ _; exact Nat.le_of_eq rfl) (hb hby at_167) (fun _ _ => ⟨rfl, hh59, (by decide : 1 + 0 ≤ _), (by decide : 6 + 0 ≤ _)⟩)
      dsimp only [Pt.U, Pt.locs, Pt.cells, Pt.slots] at X63 l63 y63 z63 sr63 hQ63
      subst l63 y63 z63
      obtain ⟨rfl, N63q, hh63⟩ := hQ63
      have N63 := Fr.app N59 N63q
      have st64 : Steps p.tables e below (s₁.setTop (entryFrame m #[(.int x0), (.long x1), (.int x2), (.int x3), (.int x4)] maxLocals)) (T63.setTop (mkF m 170 #[.val (.int x0), .val (.long x1), .second, .val (.int x2), .val (.int x3), .val (.int x4), .val (.ref b2), .val (.int fr), .val (.int ln), .unset, .unset] [(.int (F2 (4 : Int32) fr ln ([(v0).toInt8.toInt32, (v1).toInt8.toInt32, (v2).toInt8.toInt32, (v3).toInt8.toInt32, (v4).toInt8.toInt32, (v5).toInt8.toInt32] : List Int32)))])) := st62.trans (sr63 _ (Steps.refl _))
      by_cases hc65 : (F2 (4 : Int32) fr ln ([(v0).toInt8.toInt32, (v1).toInt8.toInt32, (v2).toInt8.toInt32, (v3).toInt8.toInt32, (v4).toInt8.toInt32, (v5).toInt8.toInt32] : List Int32)) = (0 : Int32)
      · have st66 : Steps p.tables e below (s₁.setTop (entryFrame m #[(.int x0), (.long x1), (.int x2), (.int x3), (.int x4)] maxLocals)) (T63.setTop (mkF m 186 #[.val (.int x0), .val (.long x1), .second, .val (.int x2), .val (.int x3), .val (.int x4), .val (.ref b2), .val (.int fr), .val (.int ln), .unset, .unset] [(.int ln), (.int fr), (.int (5 : Int32)), (.ref b2)])) := st64.trans (by
            show Steps p.tables e below (T63.setTop (mkF m 170 #[.val (.int x0), .val (.long x1), .second, .val (.int x2), .val (.int x3), .val (.int x4), .val (.ref b2), .val (.int fr), .val (.int ln), .unset, .unset] [(.int (F2 (4 : Int32) fr ln ([(v0).toInt8.toInt32, (v1).toInt8.toInt32, (v2).toInt8.toInt32, (v3).toInt8.toInt32, (v4).toInt8.toInt32, (v5).toInt8.toInt32] : List Int32)))])) _
            refine XS.ifYes X63.here hx rfl (pc0 := 170) (pc' := 179) rfl (hb hby at_170) rfl ((if0 _ _).trans (teq hc65).1) (by decide) (by decide) ?_
            show Steps p.tables e below (T63.setTop (mkF m 179 #[.val (.int x0), .val (.long x1), .second, .val (.int x2), .val (.int x3), .val (.int x4), .val (.ref b2), .val (.int fr), .val (.int ln), .unset, .unset] [])) _
            refine XS.aload X63.here hx rfl (hb hby at_179) rfl rfl ?_
            show Steps p.tables e below (T63.setTop (mkF m 181 #[.val (.int x0), .val (.long x1), .second, .val (.int x2), .val (.int x3), .val (.int x4), .val (.ref b2), .val (.int fr), .val (.int ln), .unset, .unset] [(.ref b2)])) _
            refine XS.iconst X63.here hx rfl (hb hby at_181) ?_
            show Steps p.tables e below (T63.setTop (mkF m 182 #[.val (.int x0), .val (.long x1), .second, .val (.int x2), .val (.int x3), .val (.int x4), .val (.ref b2), .val (.int fr), .val (.int ln), .unset, .unset] [(.int (5 : Int32)), (.ref b2)])) _
            refine XS.iload X63.here hx rfl (hb hby at_182) rfl ?_
            show Steps p.tables e below (T63.setTop (mkF m 184 #[.val (.int x0), .val (.long x1), .second, .val (.int x2), .val (.int x3), .val (.int x4), .val (.ref b2), .val (.int fr), .val (.int ln), .unset, .unset] [(.int fr), (.int (5 : Int32)), (.ref b2)])) _
            refine XS.iload X63.here hx rfl (hb hby at_184) rfl ?_
            exact Steps.refl _)
        obtain ⟨_, _, ⟨T67, L67, k67, n67⟩, -, X67, ⟨Lc67, hQ67, l67, y67, z67⟩, sr67⟩ := Jvm.LawKit.callS X63 hx (y := (⟨"com/example/persephone/persephone/executor/RequestHeadEndPinLaw", "endsAt", "([BIII)Z"⟩ : MethodName)) hown (mvT hZ (hw _ (List.mem_of_getElem? (i := 5) rfl))) (mvT hZ (hw _ (List.mem_of_getElem? (i := 6) rfl))) (mvT hZ (hw _ (List.mem_of_getElem? (i := 3) rfl))) (mvT hZ (hw _ (List.mem_of_getElem? (i := 7) rfl))) (by decide) (backOf (W := 0) (rm2 l Z a0 hw [] b2 (5 : Int32) fr ln k2 ([(v0).toInt8.toInt32, (v1).toInt8.toInt32, (v2).toInt8.toInt32, (v3).toInt8.toInt32, (v4).toInt8.toInt32, (v5).toInt8.toInt32] : List Int32) h44 n0 Z44 f45 (by decide)) hZ (hw _ (List.mem_of_getElem? (i := 7) rfl)) (hw _ (List.mem_of_getElem? (i := 3) rfl)) (by decide) (by decide)) (g := (mkF m 186 #[.val (.int x0), .val (.long x1), .second, .val (.int x2), .val (.int x3), .val (.int x4), .val (.ref b2), .val (.int fr), .val (.int ln), .unset, .unset] [(.int ln), (.int fr), (.int (5 : Int32)), (.ref b2)])) rfl (by rw [hml]; rfl) (argsL := [(.ref b2), (.int (5 : Int32)), (.int fr), (.int ln)]) (rest := []) (lenOf pd_2 rfl) rfl (by show 2 * 0 + _ ≤ _; exact Nat.le_of_eq rfl) (hb hby at_186) (fun _ _ => ⟨rfl, hh63, (by decide : 1 + 0 ≤ _), (by decide : 6 + 0 ≤ _)⟩)
        dsimp only [Pt.U, Pt.locs, Pt.cells, Pt.slots] at X67 l67 y67 z67 sr67 hQ67
        subst l67 y67 z67
        obtain ⟨rfl, N67q, hh67⟩ := hQ67
        have N67 := Fr.app N63 N67q
        have st68 : Steps p.tables e below (s₁.setTop (entryFrame m #[(.int x0), (.long x1), (.int x2), (.int x3), (.int x4)] maxLocals)) (T67.setTop (mkF m 189 #[.val (.int x0), .val (.long x1), .second, .val (.int x2), .val (.int x3), .val (.int x4), .val (.ref b2), .val (.int fr), .val (.int ln), .unset, .unset] [(.int (F2 (5 : Int32) fr ln ([(v0).toInt8.toInt32, (v1).toInt8.toInt32, (v2).toInt8.toInt32, (v3).toInt8.toInt32, (v4).toInt8.toInt32, (v5).toInt8.toInt32] : List Int32)))])) := st66.trans (sr67 _ (Steps.refl _))
        by_cases hc69 : (F2 (5 : Int32) fr ln ([(v0).toInt8.toInt32, (v1).toInt8.toInt32, (v2).toInt8.toInt32, (v3).toInt8.toInt32, (v4).toInt8.toInt32, (v5).toInt8.toInt32] : List Int32)) = (0 : Int32)
        · have st70 : Steps p.tables e below (s₁.setTop (entryFrame m #[(.int x0), (.long x1), (.int x2), (.int x3), (.int x4)] maxLocals)) (T67.setTop (mkF m 206 #[.val (.int x0), .val (.long x1), .second, .val (.int x2), .val (.int x3), .val (.int x4), .val (.ref b2), .val (.int fr), .val (.int ln), .unset, .unset] [(.int ln), (.int fr), (.int (6 : Int32)), (.ref b2)])) := st68.trans (by
              show Steps p.tables e below (T67.setTop (mkF m 189 #[.val (.int x0), .val (.long x1), .second, .val (.int x2), .val (.int x3), .val (.int x4), .val (.ref b2), .val (.int fr), .val (.int ln), .unset, .unset] [(.int (F2 (5 : Int32) fr ln ([(v0).toInt8.toInt32, (v1).toInt8.toInt32, (v2).toInt8.toInt32, (v3).toInt8.toInt32, (v4).toInt8.toInt32, (v5).toInt8.toInt32] : List Int32)))])) _
              refine XS.ifYes X67.here hx rfl (pc0 := 189) (pc' := 198) rfl (hb hby at_189) rfl ((if0 _ _).trans (teq hc69).1) (by decide) (by decide) ?_
              show Steps p.tables e below (T67.setTop (mkF m 198 #[.val (.int x0), .val (.long x1), .second, .val (.int x2), .val (.int x3), .val (.int x4), .val (.ref b2), .val (.int fr), .val (.int ln), .unset, .unset] [])) _
              refine XS.aload X67.here hx rfl (hb hby at_198) rfl rfl ?_
              show Steps p.tables e below (T67.setTop (mkF m 200 #[.val (.int x0), .val (.long x1), .second, .val (.int x2), .val (.int x3), .val (.int x4), .val (.ref b2), .val (.int fr), .val (.int ln), .unset, .unset] [(.ref b2)])) _
              refine XS.bipush X67.here hx rfl (hb hby at_200) ?_
              show Steps p.tables e below (T67.setTop (mkF m 202 #[.val (.int x0), .val (.long x1), .second, .val (.int x2), .val (.int x3), .val (.int x4), .val (.ref b2), .val (.int fr), .val (.int ln), .unset, .unset] [(.int (6 : Int32)), (.ref b2)])) _
              refine XS.iload X67.here hx rfl (hb hby at_202) rfl ?_
              show Steps p.tables e below (T67.setTop (mkF m 204 #[.val (.int x0), .val (.long x1), .second, .val (.int x2), .val (.int x3), .val (.int x4), .val (.ref b2), .val (.int fr), .val (.int ln), .unset, .unset] [(.int fr), (.int (6 : Int32)), (.ref b2)])) _
              refine XS.iload X67.here hx rfl (hb hby at_204) rfl ?_
              exact Steps.refl _)
          obtain ⟨_, _, ⟨T71, L71, k71, n71⟩, -, X71, ⟨Lc71, hQ71, l71, y71, z71⟩, sr71⟩ := Jvm.LawKit.callS X67 hx (y := (⟨"com/example/persephone/persephone/executor/RequestHeadEndPinLaw", "endsAt", "([BIII)Z"⟩ : MethodName)) hown (mvT hZ (hw _ (List.mem_of_getElem? (i := 5) rfl))) (mvT hZ (hw _ (List.mem_of_getElem? (i := 6) rfl))) (mvT hZ (hw _ (List.mem_of_getElem? (i := 3) rfl))) (mvT hZ (hw _ (List.mem_of_getElem? (i := 7) rfl))) (by decide) (backOf (W := 0) (rm2 l Z a0 hw [] b2 (6 : Int32) fr ln k2 ([(v0).toInt8.toInt32, (v1).toInt8.toInt32, (v2).toInt8.toInt32, (v3).toInt8.toInt32, (v4).toInt8.toInt32, (v5).toInt8.toInt32] : List Int32) h44 n0 Z44 f45 (by decide)) hZ (hw _ (List.mem_of_getElem? (i := 7) rfl)) (hw _ (List.mem_of_getElem? (i := 3) rfl)) (by decide) (by decide)) (g := (mkF m 206 #[.val (.int x0), .val (.long x1), .second, .val (.int x2), .val (.int x3), .val (.int x4), .val (.ref b2), .val (.int fr), .val (.int ln), .unset, .unset] [(.int ln), (.int fr), (.int (6 : Int32)), (.ref b2)])) rfl (by rw [hml]; rfl) (argsL := [(.ref b2), (.int (6 : Int32)), (.int fr), (.int ln)]) (rest := []) (lenOf pd_2 rfl) rfl (by show 2 * 0 + _ ≤ _; exact Nat.le_of_eq rfl) (hb hby at_206) (fun _ _ => ⟨rfl, hh67, (by decide : 1 + 0 ≤ _), (by decide : 6 + 0 ≤ _)⟩)
          dsimp only [Pt.U, Pt.locs, Pt.cells, Pt.slots] at X71 l71 y71 z71 sr71 hQ71
          subst l71 y71 z71
          obtain ⟨rfl, N71q, hh71⟩ := hQ71
          have N71 := Fr.app N67 N71q
          have st72 : Steps p.tables e below (s₁.setTop (entryFrame m #[(.int x0), (.long x1), (.int x2), (.int x3), (.int x4)] maxLocals)) (T71.setTop (mkF m 209 #[.val (.int x0), .val (.long x1), .second, .val (.int x2), .val (.int x3), .val (.int x4), .val (.ref b2), .val (.int fr), .val (.int ln), .unset, .unset] [(.int (F2 (6 : Int32) fr ln ([(v0).toInt8.toInt32, (v1).toInt8.toInt32, (v2).toInt8.toInt32, (v3).toInt8.toInt32, (v4).toInt8.toInt32, (v5).toInt8.toInt32] : List Int32)))])) := st70.trans (sr71 _ (Steps.refl _))
          by_cases hc73 : (F2 (6 : Int32) fr ln ([(v0).toInt8.toInt32, (v1).toInt8.toInt32, (v2).toInt8.toInt32, (v3).toInt8.toInt32, (v4).toInt8.toInt32, (v5).toInt8.toInt32] : List Int32)) = (0 : Int32)
          · have st74 : Steps p.tables e below (s₁.setTop (entryFrame m #[(.int x0), (.long x1), (.int x2), (.int x3), (.int x4)] maxLocals)) (T71.setTop (mkF m 228 #[.val (.int x0), .val (.long x1), .second, .val (.int x2), .val (.int x3), .val (.int x4), .val (.ref b2), .val (.int fr), .val (.int ln), .val (.int (-1 : Int32)), .unset] [(.int ln), (.int fr), (.ref b2)])) := st72.trans (by
                show Steps p.tables e below (T71.setTop (mkF m 209 #[.val (.int x0), .val (.long x1), .second, .val (.int x2), .val (.int x3), .val (.int x4), .val (.ref b2), .val (.int fr), .val (.int ln), .unset, .unset] [(.int (F2 (6 : Int32) fr ln ([(v0).toInt8.toInt32, (v1).toInt8.toInt32, (v2).toInt8.toInt32, (v3).toInt8.toInt32, (v4).toInt8.toInt32, (v5).toInt8.toInt32] : List Int32)))])) _
                refine XS.ifYes X71.here hx rfl (pc0 := 209) (pc' := 219) rfl (hb hby at_209) rfl ((if0 _ _).trans (teq hc73).1) (by decide) (by decide) ?_
                show Steps p.tables e below (T71.setTop (mkF m 219 #[.val (.int x0), .val (.long x1), .second, .val (.int x2), .val (.int x3), .val (.int x4), .val (.ref b2), .val (.int fr), .val (.int ln), .unset, .unset] [])) _
                refine XS.iconst X71.here hx rfl (hb hby at_219) ?_
                show Steps p.tables e below (T71.setTop (mkF m 220 #[.val (.int x0), .val (.long x1), .second, .val (.int x2), .val (.int x3), .val (.int x4), .val (.ref b2), .val (.int fr), .val (.int ln), .unset, .unset] [(.int (-1 : Int32))])) _
                refine XS.istore X71.here hx rfl (hb hby at_220) rfl (l' := #[.val (.int x0), .val (.long x1), .second, .val (.int x2), .val (.int x3), .val (.int x4), .val (.ref b2), .val (.int fr), .val (.int ln), .val (.int (-1 : Int32)), .unset]) rfl ?_
                show Steps p.tables e below (T71.setTop (mkF m 222 #[.val (.int x0), .val (.long x1), .second, .val (.int x2), .val (.int x3), .val (.int x4), .val (.ref b2), .val (.int fr), .val (.int ln), .val (.int (-1 : Int32)), .unset] [])) _
                refine XS.aload X71.here hx rfl (hb hby at_222) rfl rfl ?_
                show Steps p.tables e below (T71.setTop (mkF m 224 #[.val (.int x0), .val (.long x1), .second, .val (.int x2), .val (.int x3), .val (.int x4), .val (.ref b2), .val (.int fr), .val (.int ln), .val (.int (-1 : Int32)), .unset] [(.ref b2)])) _
                refine XS.iload X71.here hx rfl (hb hby at_224) rfl ?_
                show Steps p.tables e below (T71.setTop (mkF m 226 #[.val (.int x0), .val (.long x1), .second, .val (.int x2), .val (.int x3), .val (.int x4), .val (.ref b2), .val (.int fr), .val (.int ln), .val (.int (-1 : Int32)), .unset] [(.int fr), (.ref b2)])) _
                refine XS.iload X71.here hx rfl (hb hby at_226) rfl ?_
                exact Steps.refl _)
            obtain ⟨_, _, ⟨T75, L75, k75, n75⟩, -, X75, ⟨Lc75, hQ75, l75, y75, z75⟩, sr75⟩ := Jvm.LawKit.callS X71 hx (y := (⟨"com/example/persephone/persephone/executor/RequestHead", "end", "([BII)I"⟩ : MethodName)) hown (mvT hZ (hw _ (List.mem_of_getElem? (i := 8) rfl))) (mvT hZ (hw _ (List.mem_of_getElem? (i := 9) rfl))) (mvT hZ (hw _ (List.mem_of_getElem? (i := 10) rfl))) (mvT hZ (hw _ (List.mem_of_getElem? (i := 11) rfl))) (by decide) (backOf (W := 0) (rm3 l Z a0 hw [] b2 fr ln k2 ([(v0).toInt8.toInt32, (v1).toInt8.toInt32, (v2).toInt8.toInt32, (v3).toInt8.toInt32, (v4).toInt8.toInt32, (v5).toInt8.toInt32] : List Int32) h44 n0 Z44 f45 h6) hZ (hw _ (List.mem_of_getElem? (i := 11) rfl)) (hw _ (List.mem_of_getElem? (i := 10) rfl)) (by decide) (by decide)) (g := (mkF m 228 #[.val (.int x0), .val (.long x1), .second, .val (.int x2), .val (.int x3), .val (.int x4), .val (.ref b2), .val (.int fr), .val (.int ln), .val (.int (-1 : Int32)), .unset] [(.int ln), (.int fr), (.ref b2)])) rfl (by rw [hml]; rfl) (argsL := [(.ref b2), (.int fr), (.int ln)]) (rest := []) (lenOf pd_3 rfl) rfl (by show 2 * 0 + _ ≤ _; exact Nat.le_of_eq rfl) (hb hby at_228) (fun _ _ => ⟨rfl, hh71, (by decide : 1 + 0 ≤ _), (by decide : 6 + 0 ≤ _)⟩)
            dsimp only [Pt.U, Pt.locs, Pt.cells, Pt.slots] at X75 l75 y75 z75 sr75 hQ75
            subst l75 y75 z75
            obtain ⟨rfl, N75q, hh75⟩ := hQ75
            have N75 := Fr.app N71 N75q
            have st76 : Steps p.tables e below (s₁.setTop (entryFrame m #[(.int x0), (.long x1), (.int x2), (.int x3), (.int x4)] maxLocals)) (T75.setTop (mkF m 231 #[.val (.int x0), .val (.long x1), .second, .val (.int x2), .val (.int x3), .val (.int x4), .val (.ref b2), .val (.int fr), .val (.int ln), .val (.int (-1 : Int32)), .unset] [(.int (own_end 6 ([(v0).toInt8.toInt32, (v1).toInt8.toInt32, (v2).toInt8.toInt32, (v3).toInt8.toInt32, (v4).toInt8.toInt32, (v5).toInt8.toInt32] : List Int32) (F4 fr (1 : Int32)) ln))])) := st74.trans (sr75 _ (Steps.refl _))
            have st77 : Steps p.tables e below (s₁.setTop (entryFrame m #[(.int x0), (.long x1), (.int x2), (.int x3), (.int x4)] maxLocals)) (T75.setTop (mkF m 237 #[.val (.int x0), .val (.long x1), .second, .val (.int x2), .val (.int x3), .val (.int x4), .val (.ref b2), .val (.int fr), .val (.int ln), .val (.int (-1 : Int32)), .val (.int (own_end 6 ([(v0).toInt8.toInt32, (v1).toInt8.toInt32, (v2).toInt8.toInt32, (v3).toInt8.toInt32, (v4).toInt8.toInt32, (v5).toInt8.toInt32] : List Int32) (F4 fr (1 : Int32)) ln))] [(.int (-1 : Int32)), (.int (own_end 6 ([(v0).toInt8.toInt32, (v1).toInt8.toInt32, (v2).toInt8.toInt32, (v3).toInt8.toInt32, (v4).toInt8.toInt32, (v5).toInt8.toInt32] : List Int32) (F4 fr (1 : Int32)) ln))])) := st76.trans (by
                show Steps p.tables e below (T75.setTop (mkF m 231 #[.val (.int x0), .val (.long x1), .second, .val (.int x2), .val (.int x3), .val (.int x4), .val (.ref b2), .val (.int fr), .val (.int ln), .val (.int (-1 : Int32)), .unset] [(.int (own_end 6 ([(v0).toInt8.toInt32, (v1).toInt8.toInt32, (v2).toInt8.toInt32, (v3).toInt8.toInt32, (v4).toInt8.toInt32, (v5).toInt8.toInt32] : List Int32) (F4 fr (1 : Int32)) ln))])) _
                refine XS.istore X75.here hx rfl (hb hby at_231) rfl (l' := #[.val (.int x0), .val (.long x1), .second, .val (.int x2), .val (.int x3), .val (.int x4), .val (.ref b2), .val (.int fr), .val (.int ln), .val (.int (-1 : Int32)), .val (.int (own_end 6 ([(v0).toInt8.toInt32, (v1).toInt8.toInt32, (v2).toInt8.toInt32, (v3).toInt8.toInt32, (v4).toInt8.toInt32, (v5).toInt8.toInt32] : List Int32) (F4 fr (1 : Int32)) ln))]) rfl ?_
                show Steps p.tables e below (T75.setTop (mkF m 233 #[.val (.int x0), .val (.long x1), .second, .val (.int x2), .val (.int x3), .val (.int x4), .val (.ref b2), .val (.int fr), .val (.int ln), .val (.int (-1 : Int32)), .val (.int (own_end 6 ([(v0).toInt8.toInt32, (v1).toInt8.toInt32, (v2).toInt8.toInt32, (v3).toInt8.toInt32, (v4).toInt8.toInt32, (v5).toInt8.toInt32] : List Int32) (F4 fr (1 : Int32)) ln))] [])) _
                refine XS.iload X75.here hx rfl (hb hby at_233) rfl ?_
                show Steps p.tables e below (T75.setTop (mkF m 235 #[.val (.int x0), .val (.long x1), .second, .val (.int x2), .val (.int x3), .val (.int x4), .val (.ref b2), .val (.int fr), .val (.int ln), .val (.int (-1 : Int32)), .val (.int (own_end 6 ([(v0).toInt8.toInt32, (v1).toInt8.toInt32, (v2).toInt8.toInt32, (v3).toInt8.toInt32, (v4).toInt8.toInt32, (v5).toInt8.toInt32] : List Int32) (F4 fr (1 : Int32)) ln))] [(.int (own_end 6 ([(v0).toInt8.toInt32, (v1).toInt8.toInt32, (v2).toInt8.toInt32, (v3).toInt8.toInt32, (v4).toInt8.toInt32, (v5).toInt8.toInt32] : List Int32) (F4 fr (1 : Int32)) ln))])) _
                refine XS.iload X75.here hx rfl (hb hby at_235) rfl ?_
                exact Steps.refl _)
            have hf78 : (own_end 6 ([(v0).toInt8.toInt32, (v1).toInt8.toInt32, (v2).toInt8.toInt32, (v3).toInt8.toInt32, (v4).toInt8.toInt32, (v5).toInt8.toInt32] : List Int32) (F4 fr (1 : Int32)) ln) = (-1 : Int32) := by rw [own_main fr ln _ h6, if_pos hc57, if_pos hc61, if_pos hc65, if_pos hc69, if_pos hc73]
            have st79 : Steps p.tables e below (s₁.setTop (entryFrame m #[(.int x0), (.long x1), (.int x2), (.int x3), (.int x4)] maxLocals)) (T75.setTop (mkF m 245 #[.val (.int x0), .val (.long x1), .second, .val (.int x2), .val (.int x3), .val (.int x4), .val (.ref b2), .val (.int fr), .val (.int ln), .val (.int (-1 : Int32)), .val (.int (own_end 6 ([(v0).toInt8.toInt32, (v1).toInt8.toInt32, (v2).toInt8.toInt32, (v3).toInt8.toInt32, (v4).toInt8.toInt32, (v5).toInt8.toInt32] : List Int32) (F4 fr (1 : Int32)) ln))] [(.int (1 : Int32))])) := st77.trans (by
                show Steps p.tables e below (T75.setTop (mkF m 237 #[.val (.int x0), .val (.long x1), .second, .val (.int x2), .val (.int x3), .val (.int x4), .val (.ref b2), .val (.int fr), .val (.int ln), .val (.int (-1 : Int32)), .val (.int (own_end 6 ([(v0).toInt8.toInt32, (v1).toInt8.toInt32, (v2).toInt8.toInt32, (v3).toInt8.toInt32, (v4).toInt8.toInt32, (v5).toInt8.toInt32] : List Int32) (F4 fr (1 : Int32)) ln))] [(.int (-1 : Int32)), (.int (own_end 6 ([(v0).toInt8.toInt32, (v1).toInt8.toInt32, (v2).toInt8.toInt32, (v3).toInt8.toInt32, (v4).toInt8.toInt32, (v5).toInt8.toInt32] : List Int32) (F4 fr (1 : Int32)) ln))])) _
                refine XS.icmpNo X75.here hx rfl (hb hby at_237) rfl (teq hf78).2 ?_
                show Steps p.tables e below (T75.setTop (mkF m 240 #[.val (.int x0), .val (.long x1), .second, .val (.int x2), .val (.int x3), .val (.int x4), .val (.ref b2), .val (.int fr), .val (.int ln), .val (.int (-1 : Int32)), .val (.int (own_end 6 ([(v0).toInt8.toInt32, (v1).toInt8.toInt32, (v2).toInt8.toInt32, (v3).toInt8.toInt32, (v4).toInt8.toInt32, (v5).toInt8.toInt32] : List Int32) (F4 fr (1 : Int32)) ln))] [])) _
                refine XS.iconst X75.here hx rfl (hb hby at_240) ?_
                show Steps p.tables e below (T75.setTop (mkF m 241 #[.val (.int x0), .val (.long x1), .second, .val (.int x2), .val (.int x3), .val (.int x4), .val (.ref b2), .val (.int fr), .val (.int ln), .val (.int (-1 : Int32)), .val (.int (own_end 6 ([(v0).toInt8.toInt32, (v1).toInt8.toInt32, (v2).toInt8.toInt32, (v3).toInt8.toInt32, (v4).toInt8.toInt32, (v5).toInt8.toInt32] : List Int32) (F4 fr (1 : Int32)) ln))] [(.int (1 : Int32))])) _
                refine XS.goto X75.here hx rfl (pc0 := 241) (pc' := 245) rfl (hb hby at_241) (by decide) (by decide) ?_
                exact Steps.refl _)
            obtain ⟨fs, hr, hrun, hended, hW, hsame⟩ := X75.leave (v := some (.int (1 : Int32))) (fun h => by rw [Bd.returns] at h; cases h)
            refine ⟨_, _, st79.trans ?_, hrun, hended, _, _, rfl, ?_, ⟨_, rfl⟩, hW, hsame.mono (by decide) (by decide)⟩
            · exact retN X75 hx (t := .boolean) Bd.returns (by simp) (hb hby at_245) hr
            · show Q0 Z x0 x1 x2 x3 x4 h0 n0 _ T75.heap _
              rw [hh75]
              exact ⟨rfl, N75⟩
          · have st80 : Steps p.tables e below (s₁.setTop (entryFrame m #[(.int x0), (.long x1), (.int x2), (.int x3), (.int x4)] maxLocals)) (T71.setTop (mkF m 228 #[.val (.int x0), .val (.long x1), .second, .val (.int x2), .val (.int x3), .val (.int x4), .val (.ref b2), .val (.int fr), .val (.int ln), .val (.int (6 : Int32)), .unset] [(.int ln), (.int fr), (.ref b2)])) := st72.trans (by
                show Steps p.tables e below (T71.setTop (mkF m 209 #[.val (.int x0), .val (.long x1), .second, .val (.int x2), .val (.int x3), .val (.int x4), .val (.ref b2), .val (.int fr), .val (.int ln), .unset, .unset] [(.int (F2 (6 : Int32) fr ln ([(v0).toInt8.toInt32, (v1).toInt8.toInt32, (v2).toInt8.toInt32, (v3).toInt8.toInt32, (v4).toInt8.toInt32, (v5).toInt8.toInt32] : List Int32)))])) _
                refine XS.ifNo X71.here hx rfl (hb hby at_209) rfl ((if0 _ _).trans (feq hc73).1) ?_
                show Steps p.tables e below (T71.setTop (mkF m 212 #[.val (.int x0), .val (.long x1), .second, .val (.int x2), .val (.int x3), .val (.int x4), .val (.ref b2), .val (.int fr), .val (.int ln), .unset, .unset] [])) _
                refine XS.bipush X71.here hx rfl (hb hby at_212) ?_
                show Steps p.tables e below (T71.setTop (mkF m 214 #[.val (.int x0), .val (.long x1), .second, .val (.int x2), .val (.int x3), .val (.int x4), .val (.ref b2), .val (.int fr), .val (.int ln), .unset, .unset] [(.int (6 : Int32))])) _
                refine XS.istore X71.here hx rfl (hb hby at_214) rfl (l' := #[.val (.int x0), .val (.long x1), .second, .val (.int x2), .val (.int x3), .val (.int x4), .val (.ref b2), .val (.int fr), .val (.int ln), .val (.int (6 : Int32)), .unset]) rfl ?_
                show Steps p.tables e below (T71.setTop (mkF m 216 #[.val (.int x0), .val (.long x1), .second, .val (.int x2), .val (.int x3), .val (.int x4), .val (.ref b2), .val (.int fr), .val (.int ln), .val (.int (6 : Int32)), .unset] [])) _
                refine XS.goto X71.here hx rfl (pc0 := 216) (pc' := 222) rfl (hb hby at_216) (by decide) (by decide) ?_
                show Steps p.tables e below (T71.setTop (mkF m 222 #[.val (.int x0), .val (.long x1), .second, .val (.int x2), .val (.int x3), .val (.int x4), .val (.ref b2), .val (.int fr), .val (.int ln), .val (.int (6 : Int32)), .unset] [])) _
                refine XS.aload X71.here hx rfl (hb hby at_222) rfl rfl ?_
                show Steps p.tables e below (T71.setTop (mkF m 224 #[.val (.int x0), .val (.long x1), .second, .val (.int x2), .val (.int x3), .val (.int x4), .val (.ref b2), .val (.int fr), .val (.int ln), .val (.int (6 : Int32)), .unset] [(.ref b2)])) _
                refine XS.iload X71.here hx rfl (hb hby at_224) rfl ?_
                show Steps p.tables e below (T71.setTop (mkF m 226 #[.val (.int x0), .val (.long x1), .second, .val (.int x2), .val (.int x3), .val (.int x4), .val (.ref b2), .val (.int fr), .val (.int ln), .val (.int (6 : Int32)), .unset] [(.int fr), (.ref b2)])) _
                refine XS.iload X71.here hx rfl (hb hby at_226) rfl ?_
                exact Steps.refl _)
            obtain ⟨_, _, ⟨T81, L81, k81, n81⟩, -, X81, ⟨Lc81, hQ81, l81, y81, z81⟩, sr81⟩ := Jvm.LawKit.callS X71 hx (y := (⟨"com/example/persephone/persephone/executor/RequestHead", "end", "([BII)I"⟩ : MethodName)) hown (mvT hZ (hw _ (List.mem_of_getElem? (i := 8) rfl))) (mvT hZ (hw _ (List.mem_of_getElem? (i := 9) rfl))) (mvT hZ (hw _ (List.mem_of_getElem? (i := 10) rfl))) (mvT hZ (hw _ (List.mem_of_getElem? (i := 11) rfl))) (by decide) (backOf (W := 0) (rm3 l Z a0 hw [] b2 fr ln k2 ([(v0).toInt8.toInt32, (v1).toInt8.toInt32, (v2).toInt8.toInt32, (v3).toInt8.toInt32, (v4).toInt8.toInt32, (v5).toInt8.toInt32] : List Int32) h44 n0 Z44 f45 h6) hZ (hw _ (List.mem_of_getElem? (i := 11) rfl)) (hw _ (List.mem_of_getElem? (i := 10) rfl)) (by decide) (by decide)) (g := (mkF m 228 #[.val (.int x0), .val (.long x1), .second, .val (.int x2), .val (.int x3), .val (.int x4), .val (.ref b2), .val (.int fr), .val (.int ln), .val (.int (6 : Int32)), .unset] [(.int ln), (.int fr), (.ref b2)])) rfl (by rw [hml]; rfl) (argsL := [(.ref b2), (.int fr), (.int ln)]) (rest := []) (lenOf pd_3 rfl) rfl (by show 2 * 0 + _ ≤ _; exact Nat.le_of_eq rfl) (hb hby at_228) (fun _ _ => ⟨rfl, hh71, (by decide : 1 + 0 ≤ _), (by decide : 6 + 0 ≤ _)⟩)
            dsimp only [Pt.U, Pt.locs, Pt.cells, Pt.slots] at X81 l81 y81 z81 sr81 hQ81
            subst l81 y81 z81
            obtain ⟨rfl, N81q, hh81⟩ := hQ81
            have N81 := Fr.app N71 N81q
            have st82 : Steps p.tables e below (s₁.setTop (entryFrame m #[(.int x0), (.long x1), (.int x2), (.int x3), (.int x4)] maxLocals)) (T81.setTop (mkF m 231 #[.val (.int x0), .val (.long x1), .second, .val (.int x2), .val (.int x3), .val (.int x4), .val (.ref b2), .val (.int fr), .val (.int ln), .val (.int (6 : Int32)), .unset] [(.int (own_end 6 ([(v0).toInt8.toInt32, (v1).toInt8.toInt32, (v2).toInt8.toInt32, (v3).toInt8.toInt32, (v4).toInt8.toInt32, (v5).toInt8.toInt32] : List Int32) (F4 fr (1 : Int32)) ln))])) := st80.trans (sr81 _ (Steps.refl _))
            have st83 : Steps p.tables e below (s₁.setTop (entryFrame m #[(.int x0), (.long x1), (.int x2), (.int x3), (.int x4)] maxLocals)) (T81.setTop (mkF m 237 #[.val (.int x0), .val (.long x1), .second, .val (.int x2), .val (.int x3), .val (.int x4), .val (.ref b2), .val (.int fr), .val (.int ln), .val (.int (6 : Int32)), .val (.int (own_end 6 ([(v0).toInt8.toInt32, (v1).toInt8.toInt32, (v2).toInt8.toInt32, (v3).toInt8.toInt32, (v4).toInt8.toInt32, (v5).toInt8.toInt32] : List Int32) (F4 fr (1 : Int32)) ln))] [(.int (6 : Int32)), (.int (own_end 6 ([(v0).toInt8.toInt32, (v1).toInt8.toInt32, (v2).toInt8.toInt32, (v3).toInt8.toInt32, (v4).toInt8.toInt32, (v5).toInt8.toInt32] : List Int32) (F4 fr (1 : Int32)) ln))])) := st82.trans (by
                show Steps p.tables e below (T81.setTop (mkF m 231 #[.val (.int x0), .val (.long x1), .second, .val (.int x2), .val (.int x3), .val (.int x4), .val (.ref b2), .val (.int fr), .val (.int ln), .val (.int (6 : Int32)), .unset] [(.int (own_end 6 ([(v0).toInt8.toInt32, (v1).toInt8.toInt32, (v2).toInt8.toInt32, (v3).toInt8.toInt32, (v4).toInt8.toInt32, (v5).toInt8.toInt32] : List Int32) (F4 fr (1 : Int32)) ln))])) _
                refine XS.istore X81.here hx rfl (hb hby at_231) rfl (l' := #[.val (.int x0), .val (.long x1), .second, .val (.int x2), .val (.int x3), .val (.int x4), .val (.ref b2), .val (.int fr), .val (.int ln), .val (.int (6 : Int32)), .val (.int (own_end 6 ([(v0).toInt8.toInt32, (v1).toInt8.toInt32, (v2).toInt8.toInt32, (v3).toInt8.toInt32, (v4).toInt8.toInt32, (v5).toInt8.toInt32] : List Int32) (F4 fr (1 : Int32)) ln))]) rfl ?_
                show Steps p.tables e below (T81.setTop (mkF m 233 #[.val (.int x0), .val (.long x1), .second, .val (.int x2), .val (.int x3), .val (.int x4), .val (.ref b2), .val (.int fr), .val (.int ln), .val (.int (6 : Int32)), .val (.int (own_end 6 ([(v0).toInt8.toInt32, (v1).toInt8.toInt32, (v2).toInt8.toInt32, (v3).toInt8.toInt32, (v4).toInt8.toInt32, (v5).toInt8.toInt32] : List Int32) (F4 fr (1 : Int32)) ln))] [])) _
                refine XS.iload X81.here hx rfl (hb hby at_233) rfl ?_
                show Steps p.tables e below (T81.setTop (mkF m 235 #[.val (.int x0), .val (.long x1), .second, .val (.int x2), .val (.int x3), .val (.int x4), .val (.ref b2), .val (.int fr), .val (.int ln), .val (.int (6 : Int32)), .val (.int (own_end 6 ([(v0).toInt8.toInt32, (v1).toInt8.toInt32, (v2).toInt8.toInt32, (v3).toInt8.toInt32, (v4).toInt8.toInt32, (v5).toInt8.toInt32] : List Int32) (F4 fr (1 : Int32)) ln))] [(.int (own_end 6 ([(v0).toInt8.toInt32, (v1).toInt8.toInt32, (v2).toInt8.toInt32, (v3).toInt8.toInt32, (v4).toInt8.toInt32, (v5).toInt8.toInt32] : List Int32) (F4 fr (1 : Int32)) ln))])) _
                refine XS.iload X81.here hx rfl (hb hby at_235) rfl ?_
                exact Steps.refl _)
            have hf84 : (own_end 6 ([(v0).toInt8.toInt32, (v1).toInt8.toInt32, (v2).toInt8.toInt32, (v3).toInt8.toInt32, (v4).toInt8.toInt32, (v5).toInt8.toInt32] : List Int32) (F4 fr (1 : Int32)) ln) = (6 : Int32) := by rw [own_main fr ln _ h6, if_pos hc57, if_pos hc61, if_pos hc65, if_pos hc69, if_neg hc73]
            have st85 : Steps p.tables e below (s₁.setTop (entryFrame m #[(.int x0), (.long x1), (.int x2), (.int x3), (.int x4)] maxLocals)) (T81.setTop (mkF m 245 #[.val (.int x0), .val (.long x1), .second, .val (.int x2), .val (.int x3), .val (.int x4), .val (.ref b2), .val (.int fr), .val (.int ln), .val (.int (6 : Int32)), .val (.int (own_end 6 ([(v0).toInt8.toInt32, (v1).toInt8.toInt32, (v2).toInt8.toInt32, (v3).toInt8.toInt32, (v4).toInt8.toInt32, (v5).toInt8.toInt32] : List Int32) (F4 fr (1 : Int32)) ln))] [(.int (1 : Int32))])) := st83.trans (by
                show Steps p.tables e below (T81.setTop (mkF m 237 #[.val (.int x0), .val (.long x1), .second, .val (.int x2), .val (.int x3), .val (.int x4), .val (.ref b2), .val (.int fr), .val (.int ln), .val (.int (6 : Int32)), .val (.int (own_end 6 ([(v0).toInt8.toInt32, (v1).toInt8.toInt32, (v2).toInt8.toInt32, (v3).toInt8.toInt32, (v4).toInt8.toInt32, (v5).toInt8.toInt32] : List Int32) (F4 fr (1 : Int32)) ln))] [(.int (6 : Int32)), (.int (own_end 6 ([(v0).toInt8.toInt32, (v1).toInt8.toInt32, (v2).toInt8.toInt32, (v3).toInt8.toInt32, (v4).toInt8.toInt32, (v5).toInt8.toInt32] : List Int32) (F4 fr (1 : Int32)) ln))])) _
                refine XS.icmpNo X81.here hx rfl (hb hby at_237) rfl (teq hf84).2 ?_
                show Steps p.tables e below (T81.setTop (mkF m 240 #[.val (.int x0), .val (.long x1), .second, .val (.int x2), .val (.int x3), .val (.int x4), .val (.ref b2), .val (.int fr), .val (.int ln), .val (.int (6 : Int32)), .val (.int (own_end 6 ([(v0).toInt8.toInt32, (v1).toInt8.toInt32, (v2).toInt8.toInt32, (v3).toInt8.toInt32, (v4).toInt8.toInt32, (v5).toInt8.toInt32] : List Int32) (F4 fr (1 : Int32)) ln))] [])) _
                refine XS.iconst X81.here hx rfl (hb hby at_240) ?_
                show Steps p.tables e below (T81.setTop (mkF m 241 #[.val (.int x0), .val (.long x1), .second, .val (.int x2), .val (.int x3), .val (.int x4), .val (.ref b2), .val (.int fr), .val (.int ln), .val (.int (6 : Int32)), .val (.int (own_end 6 ([(v0).toInt8.toInt32, (v1).toInt8.toInt32, (v2).toInt8.toInt32, (v3).toInt8.toInt32, (v4).toInt8.toInt32, (v5).toInt8.toInt32] : List Int32) (F4 fr (1 : Int32)) ln))] [(.int (1 : Int32))])) _
                refine XS.goto X81.here hx rfl (pc0 := 241) (pc' := 245) rfl (hb hby at_241) (by decide) (by decide) ?_
                exact Steps.refl _)
            obtain ⟨fs, hr, hrun, hended, hW, hsame⟩ := X81.leave (v := some (.int (1 : Int32))) (fun h => by rw [Bd.returns] at h; cases h)
            refine ⟨_, _, st85.trans ?_, hrun, hended, _, _, rfl, ?_, ⟨_, rfl⟩, hW, hsame.mono (by decide) (by decide)⟩
            · exact retN X81 hx (t := .boolean) Bd.returns (by simp) (hb hby at_245) hr
            · show Q0 Z x0 x1 x2 x3 x4 h0 n0 _ T81.heap _
              rw [hh81]
              exact ⟨rfl, N81⟩
        · have st86 : Steps p.tables e below (s₁.setTop (entryFrame m #[(.int x0), (.long x1), (.int x2), (.int x3), (.int x4)] maxLocals)) (T67.setTop (mkF m 228 #[.val (.int x0), .val (.long x1), .second, .val (.int x2), .val (.int x3), .val (.int x4), .val (.ref b2), .val (.int fr), .val (.int ln), .val (.int (5 : Int32)), .unset] [(.int ln), (.int fr), (.ref b2)])) := st68.trans (by
              show Steps p.tables e below (T67.setTop (mkF m 189 #[.val (.int x0), .val (.long x1), .second, .val (.int x2), .val (.int x3), .val (.int x4), .val (.ref b2), .val (.int fr), .val (.int ln), .unset, .unset] [(.int (F2 (5 : Int32) fr ln ([(v0).toInt8.toInt32, (v1).toInt8.toInt32, (v2).toInt8.toInt32, (v3).toInt8.toInt32, (v4).toInt8.toInt32, (v5).toInt8.toInt32] : List Int32)))])) _
              refine XS.ifNo X67.here hx rfl (hb hby at_189) rfl ((if0 _ _).trans (feq hc69).1) ?_
              show Steps p.tables e below (T67.setTop (mkF m 192 #[.val (.int x0), .val (.long x1), .second, .val (.int x2), .val (.int x3), .val (.int x4), .val (.ref b2), .val (.int fr), .val (.int ln), .unset, .unset] [])) _
              refine XS.iconst X67.here hx rfl (hb hby at_192) ?_
              show Steps p.tables e below (T67.setTop (mkF m 193 #[.val (.int x0), .val (.long x1), .second, .val (.int x2), .val (.int x3), .val (.int x4), .val (.ref b2), .val (.int fr), .val (.int ln), .unset, .unset] [(.int (5 : Int32))])) _
              refine XS.istore X67.here hx rfl (hb hby at_193) rfl (l' := #[.val (.int x0), .val (.long x1), .second, .val (.int x2), .val (.int x3), .val (.int x4), .val (.ref b2), .val (.int fr), .val (.int ln), .val (.int (5 : Int32)), .unset]) rfl ?_
              show Steps p.tables e below (T67.setTop (mkF m 195 #[.val (.int x0), .val (.long x1), .second, .val (.int x2), .val (.int x3), .val (.int x4), .val (.ref b2), .val (.int fr), .val (.int ln), .val (.int (5 : Int32)), .unset] [])) _
              refine XS.goto X67.here hx rfl (pc0 := 195) (pc' := 222) rfl (hb hby at_195) (by decide) (by decide) ?_
              show Steps p.tables e below (T67.setTop (mkF m 222 #[.val (.int x0), .val (.long x1), .second, .val (.int x2), .val (.int x3), .val (.int x4), .val (.ref b2), .val (.int fr), .val (.int ln), .val (.int (5 : Int32)), .unset] [])) _
              refine XS.aload X67.here hx rfl (hb hby at_222) rfl rfl ?_
              show Steps p.tables e below (T67.setTop (mkF m 224 #[.val (.int x0), .val (.long x1), .second, .val (.int x2), .val (.int x3), .val (.int x4), .val (.ref b2), .val (.int fr), .val (.int ln), .val (.int (5 : Int32)), .unset] [(.ref b2)])) _
              refine XS.iload X67.here hx rfl (hb hby at_224) rfl ?_
              show Steps p.tables e below (T67.setTop (mkF m 226 #[.val (.int x0), .val (.long x1), .second, .val (.int x2), .val (.int x3), .val (.int x4), .val (.ref b2), .val (.int fr), .val (.int ln), .val (.int (5 : Int32)), .unset] [(.int fr), (.ref b2)])) _
              refine XS.iload X67.here hx rfl (hb hby at_226) rfl ?_
              exact Steps.refl _)
          obtain ⟨_, _, ⟨T87, L87, k87, n87⟩, -, X87, ⟨Lc87, hQ87, l87, y87, z87⟩, sr87⟩ := Jvm.LawKit.callS X67 hx (y := (⟨"com/example/persephone/persephone/executor/RequestHead", "end", "([BII)I"⟩ : MethodName)) hown (mvT hZ (hw _ (List.mem_of_getElem? (i := 8) rfl))) (mvT hZ (hw _ (List.mem_of_getElem? (i := 9) rfl))) (mvT hZ (hw _ (List.mem_of_getElem? (i := 10) rfl))) (mvT hZ (hw _ (List.mem_of_getElem? (i := 11) rfl))) (by decide) (backOf (W := 0) (rm3 l Z a0 hw [] b2 fr ln k2 ([(v0).toInt8.toInt32, (v1).toInt8.toInt32, (v2).toInt8.toInt32, (v3).toInt8.toInt32, (v4).toInt8.toInt32, (v5).toInt8.toInt32] : List Int32) h44 n0 Z44 f45 h6) hZ (hw _ (List.mem_of_getElem? (i := 11) rfl)) (hw _ (List.mem_of_getElem? (i := 10) rfl)) (by decide) (by decide)) (g := (mkF m 228 #[.val (.int x0), .val (.long x1), .second, .val (.int x2), .val (.int x3), .val (.int x4), .val (.ref b2), .val (.int fr), .val (.int ln), .val (.int (5 : Int32)), .unset] [(.int ln), (.int fr), (.ref b2)])) rfl (by rw [hml]; rfl) (argsL := [(.ref b2), (.int fr), (.int ln)]) (rest := []) (lenOf pd_3 rfl) rfl (by show 2 * 0 + _ ≤ _; exact Nat.le_of_eq rfl) (hb hby at_228) (fun _ _ => ⟨rfl, hh67, (by decide : 1 + 0 ≤ _), (by decide : 6 + 0 ≤ _)⟩)
          dsimp only [Pt.U, Pt.locs, Pt.cells, Pt.slots] at X87 l87 y87 z87 sr87 hQ87
          subst l87 y87 z87
          obtain ⟨rfl, N87q, hh87⟩ := hQ87
          have N87 := Fr.app N67 N87q
          have st88 : Steps p.tables e below (s₁.setTop (entryFrame m #[(.int x0), (.long x1), (.int x2), (.int x3), (.int x4)] maxLocals)) (T87.setTop (mkF m 231 #[.val (.int x0), .val (.long x1), .second, .val (.int x2), .val (.int x3), .val (.int x4), .val (.ref b2), .val (.int fr), .val (.int ln), .val (.int (5 : Int32)), .unset] [(.int (own_end 6 ([(v0).toInt8.toInt32, (v1).toInt8.toInt32, (v2).toInt8.toInt32, (v3).toInt8.toInt32, (v4).toInt8.toInt32, (v5).toInt8.toInt32] : List Int32) (F4 fr (1 : Int32)) ln))])) := st86.trans (sr87 _ (Steps.refl _))
          have st89 : Steps p.tables e below (s₁.setTop (entryFrame m #[(.int x0), (.long x1), (.int x2), (.int x3), (.int x4)] maxLocals)) (T87.setTop (mkF m 237 #[.val (.int x0), .val (.long x1), .second, .val (.int x2), .val (.int x3), .val (.int x4), .val (.ref b2), .val (.int fr), .val (.int ln), .val (.int (5 : Int32)), .val (.int (own_end 6 ([(v0).toInt8.toInt32, (v1).toInt8.toInt32, (v2).toInt8.toInt32, (v3).toInt8.toInt32, (v4).toInt8.toInt32, (v5).toInt8.toInt32] : List Int32) (F4 fr (1 : Int32)) ln))] [(.int (5 : Int32)), (.int (own_end 6 ([(v0).toInt8.toInt32, (v1).toInt8.toInt32, (v2).toInt8.toInt32, (v3).toInt8.toInt32, (v4).toInt8.toInt32, (v5).toInt8.toInt32] : List Int32) (F4 fr (1 : Int32)) ln))])) := st88.trans (by
              show Steps p.tables e below (T87.setTop (mkF m 231 #[.val (.int x0), .val (.long x1), .second, .val (.int x2), .val (.int x3), .val (.int x4), .val (.ref b2), .val (.int fr), .val (.int ln), .val (.int (5 : Int32)), .unset] [(.int (own_end 6 ([(v0).toInt8.toInt32, (v1).toInt8.toInt32, (v2).toInt8.toInt32, (v3).toInt8.toInt32, (v4).toInt8.toInt32, (v5).toInt8.toInt32] : List Int32) (F4 fr (1 : Int32)) ln))])) _
              refine XS.istore X87.here hx rfl (hb hby at_231) rfl (l' := #[.val (.int x0), .val (.long x1), .second, .val (.int x2), .val (.int x3), .val (.int x4), .val (.ref b2), .val (.int fr), .val (.int ln), .val (.int (5 : Int32)), .val (.int (own_end 6 ([(v0).toInt8.toInt32, (v1).toInt8.toInt32, (v2).toInt8.toInt32, (v3).toInt8.toInt32, (v4).toInt8.toInt32, (v5).toInt8.toInt32] : List Int32) (F4 fr (1 : Int32)) ln))]) rfl ?_
              show Steps p.tables e below (T87.setTop (mkF m 233 #[.val (.int x0), .val (.long x1), .second, .val (.int x2), .val (.int x3), .val (.int x4), .val (.ref b2), .val (.int fr), .val (.int ln), .val (.int (5 : Int32)), .val (.int (own_end 6 ([(v0).toInt8.toInt32, (v1).toInt8.toInt32, (v2).toInt8.toInt32, (v3).toInt8.toInt32, (v4).toInt8.toInt32, (v5).toInt8.toInt32] : List Int32) (F4 fr (1 : Int32)) ln))] [])) _
              refine XS.iload X87.here hx rfl (hb hby at_233) rfl ?_
              show Steps p.tables e below (T87.setTop (mkF m 235 #[.val (.int x0), .val (.long x1), .second, .val (.int x2), .val (.int x3), .val (.int x4), .val (.ref b2), .val (.int fr), .val (.int ln), .val (.int (5 : Int32)), .val (.int (own_end 6 ([(v0).toInt8.toInt32, (v1).toInt8.toInt32, (v2).toInt8.toInt32, (v3).toInt8.toInt32, (v4).toInt8.toInt32, (v5).toInt8.toInt32] : List Int32) (F4 fr (1 : Int32)) ln))] [(.int (own_end 6 ([(v0).toInt8.toInt32, (v1).toInt8.toInt32, (v2).toInt8.toInt32, (v3).toInt8.toInt32, (v4).toInt8.toInt32, (v5).toInt8.toInt32] : List Int32) (F4 fr (1 : Int32)) ln))])) _
              refine XS.iload X87.here hx rfl (hb hby at_235) rfl ?_
              exact Steps.refl _)
          have hf90 : (own_end 6 ([(v0).toInt8.toInt32, (v1).toInt8.toInt32, (v2).toInt8.toInt32, (v3).toInt8.toInt32, (v4).toInt8.toInt32, (v5).toInt8.toInt32] : List Int32) (F4 fr (1 : Int32)) ln) = (5 : Int32) := by rw [own_main fr ln _ h6, if_pos hc57, if_pos hc61, if_pos hc65, if_neg hc69]
          have st91 : Steps p.tables e below (s₁.setTop (entryFrame m #[(.int x0), (.long x1), (.int x2), (.int x3), (.int x4)] maxLocals)) (T87.setTop (mkF m 245 #[.val (.int x0), .val (.long x1), .second, .val (.int x2), .val (.int x3), .val (.int x4), .val (.ref b2), .val (.int fr), .val (.int ln), .val (.int (5 : Int32)), .val (.int (own_end 6 ([(v0).toInt8.toInt32, (v1).toInt8.toInt32, (v2).toInt8.toInt32, (v3).toInt8.toInt32, (v4).toInt8.toInt32, (v5).toInt8.toInt32] : List Int32) (F4 fr (1 : Int32)) ln))] [(.int (1 : Int32))])) := st89.trans (by
              show Steps p.tables e below (T87.setTop (mkF m 237 #[.val (.int x0), .val (.long x1), .second, .val (.int x2), .val (.int x3), .val (.int x4), .val (.ref b2), .val (.int fr), .val (.int ln), .val (.int (5 : Int32)), .val (.int (own_end 6 ([(v0).toInt8.toInt32, (v1).toInt8.toInt32, (v2).toInt8.toInt32, (v3).toInt8.toInt32, (v4).toInt8.toInt32, (v5).toInt8.toInt32] : List Int32) (F4 fr (1 : Int32)) ln))] [(.int (5 : Int32)), (.int (own_end 6 ([(v0).toInt8.toInt32, (v1).toInt8.toInt32, (v2).toInt8.toInt32, (v3).toInt8.toInt32, (v4).toInt8.toInt32, (v5).toInt8.toInt32] : List Int32) (F4 fr (1 : Int32)) ln))])) _
              refine XS.icmpNo X87.here hx rfl (hb hby at_237) rfl (teq hf90).2 ?_
              show Steps p.tables e below (T87.setTop (mkF m 240 #[.val (.int x0), .val (.long x1), .second, .val (.int x2), .val (.int x3), .val (.int x4), .val (.ref b2), .val (.int fr), .val (.int ln), .val (.int (5 : Int32)), .val (.int (own_end 6 ([(v0).toInt8.toInt32, (v1).toInt8.toInt32, (v2).toInt8.toInt32, (v3).toInt8.toInt32, (v4).toInt8.toInt32, (v5).toInt8.toInt32] : List Int32) (F4 fr (1 : Int32)) ln))] [])) _
              refine XS.iconst X87.here hx rfl (hb hby at_240) ?_
              show Steps p.tables e below (T87.setTop (mkF m 241 #[.val (.int x0), .val (.long x1), .second, .val (.int x2), .val (.int x3), .val (.int x4), .val (.ref b2), .val (.int fr), .val (.int ln), .val (.int (5 : Int32)), .val (.int (own_end 6 ([(v0).toInt8.toInt32, (v1).toInt8.toInt32, (v2).toInt8.toInt32, (v3).toInt8.toInt32, (v4).toInt8.toInt32, (v5).toInt8.toInt32] : List Int32) (F4 fr (1 : Int32)) ln))] [(.int (1 : Int32))])) _
              refine XS.goto X87.here hx rfl (pc0 := 241) (pc' := 245) rfl (hb hby at_241) (by decide) (by decide) ?_
              exact Steps.refl _)
          obtain ⟨fs, hr, hrun, hended, hW, hsame⟩ := X87.leave (v := some (.int (1 : Int32))) (fun h => by rw [Bd.returns] at h; cases h)
          refine ⟨_, _, st91.trans ?_, hrun, hended, _, _, rfl, ?_, ⟨_, rfl⟩, hW, hsame.mono (by decide) (by decide)⟩
          · exact retN X87 hx (t := .boolean) Bd.returns (by simp) (hb hby at_245) hr
          · show Q0 Z x0 x1 x2 x3 x4 h0 n0 _ T87.heap _
            rw [hh87]
            exact ⟨rfl, N87⟩
      · have st92 : Steps p.tables e below (s₁.setTop (entryFrame m #[(.int x0), (.long x1), (.int x2), (.int x3), (.int x4)] maxLocals)) (T63.setTop (mkF m 228 #[.val (.int x0), .val (.long x1), .second, .val (.int x2), .val (.int x3), .val (.int x4), .val (.ref b2), .val (.int fr), .val (.int ln), .val (.int (4 : Int32)), .unset] [(.int ln), (.int fr), (.ref b2)])) := st64.trans (by
            show Steps p.tables e below (T63.setTop (mkF m 170 #[.val (.int x0), .val (.long x1), .second, .val (.int x2), .val (.int x3), .val (.int x4), .val (.ref b2), .val (.int fr), .val (.int ln), .unset, .unset] [(.int (F2 (4 : Int32) fr ln ([(v0).toInt8.toInt32, (v1).toInt8.toInt32, (v2).toInt8.toInt32, (v3).toInt8.toInt32, (v4).toInt8.toInt32, (v5).toInt8.toInt32] : List Int32)))])) _
            refine XS.ifNo X63.here hx rfl (hb hby at_170) rfl ((if0 _ _).trans (feq hc65).1) ?_
            show Steps p.tables e below (T63.setTop (mkF m 173 #[.val (.int x0), .val (.long x1), .second, .val (.int x2), .val (.int x3), .val (.int x4), .val (.ref b2), .val (.int fr), .val (.int ln), .unset, .unset] [])) _
            refine XS.iconst X63.here hx rfl (hb hby at_173) ?_
            show Steps p.tables e below (T63.setTop (mkF m 174 #[.val (.int x0), .val (.long x1), .second, .val (.int x2), .val (.int x3), .val (.int x4), .val (.ref b2), .val (.int fr), .val (.int ln), .unset, .unset] [(.int (4 : Int32))])) _
            refine XS.istore X63.here hx rfl (hb hby at_174) rfl (l' := #[.val (.int x0), .val (.long x1), .second, .val (.int x2), .val (.int x3), .val (.int x4), .val (.ref b2), .val (.int fr), .val (.int ln), .val (.int (4 : Int32)), .unset]) rfl ?_
            show Steps p.tables e below (T63.setTop (mkF m 176 #[.val (.int x0), .val (.long x1), .second, .val (.int x2), .val (.int x3), .val (.int x4), .val (.ref b2), .val (.int fr), .val (.int ln), .val (.int (4 : Int32)), .unset] [])) _
            refine XS.goto X63.here hx rfl (pc0 := 176) (pc' := 222) rfl (hb hby at_176) (by decide) (by decide) ?_
            show Steps p.tables e below (T63.setTop (mkF m 222 #[.val (.int x0), .val (.long x1), .second, .val (.int x2), .val (.int x3), .val (.int x4), .val (.ref b2), .val (.int fr), .val (.int ln), .val (.int (4 : Int32)), .unset] [])) _
            refine XS.aload X63.here hx rfl (hb hby at_222) rfl rfl ?_
            show Steps p.tables e below (T63.setTop (mkF m 224 #[.val (.int x0), .val (.long x1), .second, .val (.int x2), .val (.int x3), .val (.int x4), .val (.ref b2), .val (.int fr), .val (.int ln), .val (.int (4 : Int32)), .unset] [(.ref b2)])) _
            refine XS.iload X63.here hx rfl (hb hby at_224) rfl ?_
            show Steps p.tables e below (T63.setTop (mkF m 226 #[.val (.int x0), .val (.long x1), .second, .val (.int x2), .val (.int x3), .val (.int x4), .val (.ref b2), .val (.int fr), .val (.int ln), .val (.int (4 : Int32)), .unset] [(.int fr), (.ref b2)])) _
            refine XS.iload X63.here hx rfl (hb hby at_226) rfl ?_
            exact Steps.refl _)
        obtain ⟨_, _, ⟨T93, L93, k93, n93⟩, -, X93, ⟨Lc93, hQ93, l93, y93, z93⟩, sr93⟩ := Jvm.LawKit.callS X63 hx (y := (⟨"com/example/persephone/persephone/executor/RequestHead", "end", "([BII)I"⟩ : MethodName)) hown (mvT hZ (hw _ (List.mem_of_getElem? (i := 8) rfl))) (mvT hZ (hw _ (List.mem_of_getElem? (i := 9) rfl))) (mvT hZ (hw _ (List.mem_of_getElem? (i := 10) rfl))) (mvT hZ (hw _ (List.mem_of_getElem? (i := 11) rfl))) (by decide) (backOf (W := 0) (rm3 l Z a0 hw [] b2 fr ln k2 ([(v0).toInt8.toInt32, (v1).toInt8.toInt32, (v2).toInt8.toInt32, (v3).toInt8.toInt32, (v4).toInt8.toInt32, (v5).toInt8.toInt32] : List Int32) h44 n0 Z44 f45 h6) hZ (hw _ (List.mem_of_getElem? (i := 11) rfl)) (hw _ (List.mem_of_getElem? (i := 10) rfl)) (by decide) (by decide)) (g := (mkF m 228 #[.val (.int x0), .val (.long x1), .second, .val (.int x2), .val (.int x3), .val (.int x4), .val (.ref b2), .val (.int fr), .val (.int ln), .val (.int (4 : Int32)), .unset] [(.int ln), (.int fr), (.ref b2)])) rfl (by rw [hml]; rfl) (argsL := [(.ref b2), (.int fr), (.int ln)]) (rest := []) (lenOf pd_3 rfl) rfl (by show 2 * 0 + _ ≤ _; exact Nat.le_of_eq rfl) (hb hby at_228) (fun _ _ => ⟨rfl, hh63, (by decide : 1 + 0 ≤ _), (by decide : 6 + 0 ≤ _)⟩)
        dsimp only [Pt.U, Pt.locs, Pt.cells, Pt.slots] at X93 l93 y93 z93 sr93 hQ93
        subst l93 y93 z93
        obtain ⟨rfl, N93q, hh93⟩ := hQ93
        have N93 := Fr.app N63 N93q
        have st94 : Steps p.tables e below (s₁.setTop (entryFrame m #[(.int x0), (.long x1), (.int x2), (.int x3), (.int x4)] maxLocals)) (T93.setTop (mkF m 231 #[.val (.int x0), .val (.long x1), .second, .val (.int x2), .val (.int x3), .val (.int x4), .val (.ref b2), .val (.int fr), .val (.int ln), .val (.int (4 : Int32)), .unset] [(.int (own_end 6 ([(v0).toInt8.toInt32, (v1).toInt8.toInt32, (v2).toInt8.toInt32, (v3).toInt8.toInt32, (v4).toInt8.toInt32, (v5).toInt8.toInt32] : List Int32) (F4 fr (1 : Int32)) ln))])) := st92.trans (sr93 _ (Steps.refl _))
        have st95 : Steps p.tables e below (s₁.setTop (entryFrame m #[(.int x0), (.long x1), (.int x2), (.int x3), (.int x4)] maxLocals)) (T93.setTop (mkF m 237 #[.val (.int x0), .val (.long x1), .second, .val (.int x2), .val (.int x3), .val (.int x4), .val (.ref b2), .val (.int fr), .val (.int ln), .val (.int (4 : Int32)), .val (.int (own_end 6 ([(v0).toInt8.toInt32, (v1).toInt8.toInt32, (v2).toInt8.toInt32, (v3).toInt8.toInt32, (v4).toInt8.toInt32, (v5).toInt8.toInt32] : List Int32) (F4 fr (1 : Int32)) ln))] [(.int (4 : Int32)), (.int (own_end 6 ([(v0).toInt8.toInt32, (v1).toInt8.toInt32, (v2).toInt8.toInt32, (v3).toInt8.toInt32, (v4).toInt8.toInt32, (v5).toInt8.toInt32] : List Int32) (F4 fr (1 : Int32)) ln))])) := st94.trans (by
            show Steps p.tables e below (T93.setTop (mkF m 231 #[.val (.int x0), .val (.long x1), .second, .val (.int x2), .val (.int x3), .val (.int x4), .val (.ref b2), .val (.int fr), .val (.int ln), .val (.int (4 : Int32)), .unset] [(.int (own_end 6 ([(v0).toInt8.toInt32, (v1).toInt8.toInt32, (v2).toInt8.toInt32, (v3).toInt8.toInt32, (v4).toInt8.toInt32, (v5).toInt8.toInt32] : List Int32) (F4 fr (1 : Int32)) ln))])) _
            refine XS.istore X93.here hx rfl (hb hby at_231) rfl (l' := #[.val (.int x0), .val (.long x1), .second, .val (.int x2), .val (.int x3), .val (.int x4), .val (.ref b2), .val (.int fr), .val (.int ln), .val (.int (4 : Int32)), .val (.int (own_end 6 ([(v0).toInt8.toInt32, (v1).toInt8.toInt32, (v2).toInt8.toInt32, (v3).toInt8.toInt32, (v4).toInt8.toInt32, (v5).toInt8.toInt32] : List Int32) (F4 fr (1 : Int32)) ln))]) rfl ?_
            show Steps p.tables e below (T93.setTop (mkF m 233 #[.val (.int x0), .val (.long x1), .second, .val (.int x2), .val (.int x3), .val (.int x4), .val (.ref b2), .val (.int fr), .val (.int ln), .val (.int (4 : Int32)), .val (.int (own_end 6 ([(v0).toInt8.toInt32, (v1).toInt8.toInt32, (v2).toInt8.toInt32, (v3).toInt8.toInt32, (v4).toInt8.toInt32, (v5).toInt8.toInt32] : List Int32) (F4 fr (1 : Int32)) ln))] [])) _
            refine XS.iload X93.here hx rfl (hb hby at_233) rfl ?_
            show Steps p.tables e below (T93.setTop (mkF m 235 #[.val (.int x0), .val (.long x1), .second, .val (.int x2), .val (.int x3), .val (.int x4), .val (.ref b2), .val (.int fr), .val (.int ln), .val (.int (4 : Int32)), .val (.int (own_end 6 ([(v0).toInt8.toInt32, (v1).toInt8.toInt32, (v2).toInt8.toInt32, (v3).toInt8.toInt32, (v4).toInt8.toInt32, (v5).toInt8.toInt32] : List Int32) (F4 fr (1 : Int32)) ln))] [(.int (own_end 6 ([(v0).toInt8.toInt32, (v1).toInt8.toInt32, (v2).toInt8.toInt32, (v3).toInt8.toInt32, (v4).toInt8.toInt32, (v5).toInt8.toInt32] : List Int32) (F4 fr (1 : Int32)) ln))])) _
            refine XS.iload X93.here hx rfl (hb hby at_235) rfl ?_
            exact Steps.refl _)
        have hf96 : (own_end 6 ([(v0).toInt8.toInt32, (v1).toInt8.toInt32, (v2).toInt8.toInt32, (v3).toInt8.toInt32, (v4).toInt8.toInt32, (v5).toInt8.toInt32] : List Int32) (F4 fr (1 : Int32)) ln) = (4 : Int32) := by rw [own_main fr ln _ h6, if_pos hc57, if_pos hc61, if_neg hc65]
        have st97 : Steps p.tables e below (s₁.setTop (entryFrame m #[(.int x0), (.long x1), (.int x2), (.int x3), (.int x4)] maxLocals)) (T93.setTop (mkF m 245 #[.val (.int x0), .val (.long x1), .second, .val (.int x2), .val (.int x3), .val (.int x4), .val (.ref b2), .val (.int fr), .val (.int ln), .val (.int (4 : Int32)), .val (.int (own_end 6 ([(v0).toInt8.toInt32, (v1).toInt8.toInt32, (v2).toInt8.toInt32, (v3).toInt8.toInt32, (v4).toInt8.toInt32, (v5).toInt8.toInt32] : List Int32) (F4 fr (1 : Int32)) ln))] [(.int (1 : Int32))])) := st95.trans (by
            show Steps p.tables e below (T93.setTop (mkF m 237 #[.val (.int x0), .val (.long x1), .second, .val (.int x2), .val (.int x3), .val (.int x4), .val (.ref b2), .val (.int fr), .val (.int ln), .val (.int (4 : Int32)), .val (.int (own_end 6 ([(v0).toInt8.toInt32, (v1).toInt8.toInt32, (v2).toInt8.toInt32, (v3).toInt8.toInt32, (v4).toInt8.toInt32, (v5).toInt8.toInt32] : List Int32) (F4 fr (1 : Int32)) ln))] [(.int (4 : Int32)), (.int (own_end 6 ([(v0).toInt8.toInt32, (v1).toInt8.toInt32, (v2).toInt8.toInt32, (v3).toInt8.toInt32, (v4).toInt8.toInt32, (v5).toInt8.toInt32] : List Int32) (F4 fr (1 : Int32)) ln))])) _
            refine XS.icmpNo X93.here hx rfl (hb hby at_237) rfl (teq hf96).2 ?_
            show Steps p.tables e below (T93.setTop (mkF m 240 #[.val (.int x0), .val (.long x1), .second, .val (.int x2), .val (.int x3), .val (.int x4), .val (.ref b2), .val (.int fr), .val (.int ln), .val (.int (4 : Int32)), .val (.int (own_end 6 ([(v0).toInt8.toInt32, (v1).toInt8.toInt32, (v2).toInt8.toInt32, (v3).toInt8.toInt32, (v4).toInt8.toInt32, (v5).toInt8.toInt32] : List Int32) (F4 fr (1 : Int32)) ln))] [])) _
            refine XS.iconst X93.here hx rfl (hb hby at_240) ?_
            show Steps p.tables e below (T93.setTop (mkF m 241 #[.val (.int x0), .val (.long x1), .second, .val (.int x2), .val (.int x3), .val (.int x4), .val (.ref b2), .val (.int fr), .val (.int ln), .val (.int (4 : Int32)), .val (.int (own_end 6 ([(v0).toInt8.toInt32, (v1).toInt8.toInt32, (v2).toInt8.toInt32, (v3).toInt8.toInt32, (v4).toInt8.toInt32, (v5).toInt8.toInt32] : List Int32) (F4 fr (1 : Int32)) ln))] [(.int (1 : Int32))])) _
            refine XS.goto X93.here hx rfl (pc0 := 241) (pc' := 245) rfl (hb hby at_241) (by decide) (by decide) ?_
            exact Steps.refl _)
        obtain ⟨fs, hr, hrun, hended, hW, hsame⟩ := X93.leave (v := some (.int (1 : Int32))) (fun h => by rw [Bd.returns] at h; cases h)
        refine ⟨_, _, st97.trans ?_, hrun, hended, _, _, rfl, ?_, ⟨_, rfl⟩, hW, hsame.mono (by decide) (by decide)⟩
        · exact retN X93 hx (t := .boolean) Bd.returns (by simp) (hb hby at_245) hr
        · show Q0 Z x0 x1 x2 x3 x4 h0 n0 _ T93.heap _
          rw [hh93]
          exact ⟨rfl, N93⟩
    · have st98 : Steps p.tables e below (s₁.setTop (entryFrame m #[(.int x0), (.long x1), (.int x2), (.int x3), (.int x4)] maxLocals)) (T59.setTop (mkF m 228 #[.val (.int x0), .val (.long x1), .second, .val (.int x2), .val (.int x3), .val (.int x4), .val (.ref b2), .val (.int fr), .val (.int ln), .val (.int (3 : Int32)), .unset] [(.int ln), (.int fr), (.ref b2)])) := st60.trans (by
          show Steps p.tables e below (T59.setTop (mkF m 151 #[.val (.int x0), .val (.long x1), .second, .val (.int x2), .val (.int x3), .val (.int x4), .val (.ref b2), .val (.int fr), .val (.int ln), .unset, .unset] [(.int (F2 (3 : Int32) fr ln ([(v0).toInt8.toInt32, (v1).toInt8.toInt32, (v2).toInt8.toInt32, (v3).toInt8.toInt32, (v4).toInt8.toInt32, (v5).toInt8.toInt32] : List Int32)))])) _
          refine XS.ifNo X59.here hx rfl (hb hby at_151) rfl ((if0 _ _).trans (feq hc61).1) ?_
          show Steps p.tables e below (T59.setTop (mkF m 154 #[.val (.int x0), .val (.long x1), .second, .val (.int x2), .val (.int x3), .val (.int x4), .val (.ref b2), .val (.int fr), .val (.int ln), .unset, .unset] [])) _
          refine XS.iconst X59.here hx rfl (hb hby at_154) ?_
          show Steps p.tables e below (T59.setTop (mkF m 155 #[.val (.int x0), .val (.long x1), .second, .val (.int x2), .val (.int x3), .val (.int x4), .val (.ref b2), .val (.int fr), .val (.int ln), .unset, .unset] [(.int (3 : Int32))])) _
          refine XS.istore X59.here hx rfl (hb hby at_155) rfl (l' := #[.val (.int x0), .val (.long x1), .second, .val (.int x2), .val (.int x3), .val (.int x4), .val (.ref b2), .val (.int fr), .val (.int ln), .val (.int (3 : Int32)), .unset]) rfl ?_
          show Steps p.tables e below (T59.setTop (mkF m 157 #[.val (.int x0), .val (.long x1), .second, .val (.int x2), .val (.int x3), .val (.int x4), .val (.ref b2), .val (.int fr), .val (.int ln), .val (.int (3 : Int32)), .unset] [])) _
          refine XS.goto X59.here hx rfl (pc0 := 157) (pc' := 222) rfl (hb hby at_157) (by decide) (by decide) ?_
          show Steps p.tables e below (T59.setTop (mkF m 222 #[.val (.int x0), .val (.long x1), .second, .val (.int x2), .val (.int x3), .val (.int x4), .val (.ref b2), .val (.int fr), .val (.int ln), .val (.int (3 : Int32)), .unset] [])) _
          refine XS.aload X59.here hx rfl (hb hby at_222) rfl rfl ?_
          show Steps p.tables e below (T59.setTop (mkF m 224 #[.val (.int x0), .val (.long x1), .second, .val (.int x2), .val (.int x3), .val (.int x4), .val (.ref b2), .val (.int fr), .val (.int ln), .val (.int (3 : Int32)), .unset] [(.ref b2)])) _
          refine XS.iload X59.here hx rfl (hb hby at_224) rfl ?_
          show Steps p.tables e below (T59.setTop (mkF m 226 #[.val (.int x0), .val (.long x1), .second, .val (.int x2), .val (.int x3), .val (.int x4), .val (.ref b2), .val (.int fr), .val (.int ln), .val (.int (3 : Int32)), .unset] [(.int fr), (.ref b2)])) _
          refine XS.iload X59.here hx rfl (hb hby at_226) rfl ?_
          exact Steps.refl _)
      obtain ⟨_, _, ⟨T99, L99, k99, n99⟩, -, X99, ⟨Lc99, hQ99, l99, y99, z99⟩, sr99⟩ := Jvm.LawKit.callS X59 hx (y := (⟨"com/example/persephone/persephone/executor/RequestHead", "end", "([BII)I"⟩ : MethodName)) hown (mvT hZ (hw _ (List.mem_of_getElem? (i := 8) rfl))) (mvT hZ (hw _ (List.mem_of_getElem? (i := 9) rfl))) (mvT hZ (hw _ (List.mem_of_getElem? (i := 10) rfl))) (mvT hZ (hw _ (List.mem_of_getElem? (i := 11) rfl))) (by decide) (backOf (W := 0) (rm3 l Z a0 hw [] b2 fr ln k2 ([(v0).toInt8.toInt32, (v1).toInt8.toInt32, (v2).toInt8.toInt32, (v3).toInt8.toInt32, (v4).toInt8.toInt32, (v5).toInt8.toInt32] : List Int32) h44 n0 Z44 f45 h6) hZ (hw _ (List.mem_of_getElem? (i := 11) rfl)) (hw _ (List.mem_of_getElem? (i := 10) rfl)) (by decide) (by decide)) (g := (mkF m 228 #[.val (.int x0), .val (.long x1), .second, .val (.int x2), .val (.int x3), .val (.int x4), .val (.ref b2), .val (.int fr), .val (.int ln), .val (.int (3 : Int32)), .unset] [(.int ln), (.int fr), (.ref b2)])) rfl (by rw [hml]; rfl) (argsL := [(.ref b2), (.int fr), (.int ln)]) (rest := []) (lenOf pd_3 rfl) rfl (by show 2 * 0 + _ ≤ _; exact Nat.le_of_eq rfl) (hb hby at_228) (fun _ _ => ⟨rfl, hh59, (by decide : 1 + 0 ≤ _), (by decide : 6 + 0 ≤ _)⟩)
      dsimp only [Pt.U, Pt.locs, Pt.cells, Pt.slots] at X99 l99 y99 z99 sr99 hQ99
      subst l99 y99 z99
      obtain ⟨rfl, N99q, hh99⟩ := hQ99
      have N99 := Fr.app N59 N99q
      have st100 : Steps p.tables e below (s₁.setTop (entryFrame m #[(.int x0), (.long x1), (.int x2), (.int x3), (.int x4)] maxLocals)) (T99.setTop (mkF m 231 #[.val (.int x0), .val (.long x1), .second, .val (.int x2), .val (.int x3), .val (.int x4), .val (.ref b2), .val (.int fr), .val (.int ln), .val (.int (3 : Int32)), .unset] [(.int (own_end 6 ([(v0).toInt8.toInt32, (v1).toInt8.toInt32, (v2).toInt8.toInt32, (v3).toInt8.toInt32, (v4).toInt8.toInt32, (v5).toInt8.toInt32] : List Int32) (F4 fr (1 : Int32)) ln))])) := st98.trans (sr99 _ (Steps.refl _))
      have st101 : Steps p.tables e below (s₁.setTop (entryFrame m #[(.int x0), (.long x1), (.int x2), (.int x3), (.int x4)] maxLocals)) (T99.setTop (mkF m 237 #[.val (.int x0), .val (.long x1), .second, .val (.int x2), .val (.int x3), .val (.int x4), .val (.ref b2), .val (.int fr), .val (.int ln), .val (.int (3 : Int32)), .val (.int (own_end 6 ([(v0).toInt8.toInt32, (v1).toInt8.toInt32, (v2).toInt8.toInt32, (v3).toInt8.toInt32, (v4).toInt8.toInt32, (v5).toInt8.toInt32] : List Int32) (F4 fr (1 : Int32)) ln))] [(.int (3 : Int32)), (.int (own_end 6 ([(v0).toInt8.toInt32, (v1).toInt8.toInt32, (v2).toInt8.toInt32, (v3).toInt8.toInt32, (v4).toInt8.toInt32, (v5).toInt8.toInt32] : List Int32) (F4 fr (1 : Int32)) ln))])) := st100.trans (by
          show Steps p.tables e below (T99.setTop (mkF m 231 #[.val (.int x0), .val (.long x1), .second, .val (.int x2), .val (.int x3), .val (.int x4), .val (.ref b2), .val (.int fr), .val (.int ln), .val (.int (3 : Int32)), .unset] [(.int (own_end 6 ([(v0).toInt8.toInt32, (v1).toInt8.toInt32, (v2).toInt8.toInt32, (v3).toInt8.toInt32, (v4).toInt8.toInt32, (v5).toInt8.toInt32] : List Int32) (F4 fr (1 : Int32)) ln))])) _
          refine XS.istore X99.here hx rfl (hb hby at_231) rfl (l' := #[.val (.int x0), .val (.long x1), .second, .val (.int x2), .val (.int x3), .val (.int x4), .val (.ref b2), .val (.int fr), .val (.int ln), .val (.int (3 : Int32)), .val (.int (own_end 6 ([(v0).toInt8.toInt32, (v1).toInt8.toInt32, (v2).toInt8.toInt32, (v3).toInt8.toInt32, (v4).toInt8.toInt32, (v5).toInt8.toInt32] : List Int32) (F4 fr (1 : Int32)) ln))]) rfl ?_
          show Steps p.tables e below (T99.setTop (mkF m 233 #[.val (.int x0), .val (.long x1), .second, .val (.int x2), .val (.int x3), .val (.int x4), .val (.ref b2), .val (.int fr), .val (.int ln), .val (.int (3 : Int32)), .val (.int (own_end 6 ([(v0).toInt8.toInt32, (v1).toInt8.toInt32, (v2).toInt8.toInt32, (v3).toInt8.toInt32, (v4).toInt8.toInt32, (v5).toInt8.toInt32] : List Int32) (F4 fr (1 : Int32)) ln))] [])) _
          refine XS.iload X99.here hx rfl (hb hby at_233) rfl ?_
          show Steps p.tables e below (T99.setTop (mkF m 235 #[.val (.int x0), .val (.long x1), .second, .val (.int x2), .val (.int x3), .val (.int x4), .val (.ref b2), .val (.int fr), .val (.int ln), .val (.int (3 : Int32)), .val (.int (own_end 6 ([(v0).toInt8.toInt32, (v1).toInt8.toInt32, (v2).toInt8.toInt32, (v3).toInt8.toInt32, (v4).toInt8.toInt32, (v5).toInt8.toInt32] : List Int32) (F4 fr (1 : Int32)) ln))] [(.int (own_end 6 ([(v0).toInt8.toInt32, (v1).toInt8.toInt32, (v2).toInt8.toInt32, (v3).toInt8.toInt32, (v4).toInt8.toInt32, (v5).toInt8.toInt32] : List Int32) (F4 fr (1 : Int32)) ln))])) _
          refine XS.iload X99.here hx rfl (hb hby at_235) rfl ?_
          exact Steps.refl _)
      have hf102 : (own_end 6 ([(v0).toInt8.toInt32, (v1).toInt8.toInt32, (v2).toInt8.toInt32, (v3).toInt8.toInt32, (v4).toInt8.toInt32, (v5).toInt8.toInt32] : List Int32) (F4 fr (1 : Int32)) ln) = (3 : Int32) := by rw [own_main fr ln _ h6, if_pos hc57, if_neg hc61]
      have st103 : Steps p.tables e below (s₁.setTop (entryFrame m #[(.int x0), (.long x1), (.int x2), (.int x3), (.int x4)] maxLocals)) (T99.setTop (mkF m 245 #[.val (.int x0), .val (.long x1), .second, .val (.int x2), .val (.int x3), .val (.int x4), .val (.ref b2), .val (.int fr), .val (.int ln), .val (.int (3 : Int32)), .val (.int (own_end 6 ([(v0).toInt8.toInt32, (v1).toInt8.toInt32, (v2).toInt8.toInt32, (v3).toInt8.toInt32, (v4).toInt8.toInt32, (v5).toInt8.toInt32] : List Int32) (F4 fr (1 : Int32)) ln))] [(.int (1 : Int32))])) := st101.trans (by
          show Steps p.tables e below (T99.setTop (mkF m 237 #[.val (.int x0), .val (.long x1), .second, .val (.int x2), .val (.int x3), .val (.int x4), .val (.ref b2), .val (.int fr), .val (.int ln), .val (.int (3 : Int32)), .val (.int (own_end 6 ([(v0).toInt8.toInt32, (v1).toInt8.toInt32, (v2).toInt8.toInt32, (v3).toInt8.toInt32, (v4).toInt8.toInt32, (v5).toInt8.toInt32] : List Int32) (F4 fr (1 : Int32)) ln))] [(.int (3 : Int32)), (.int (own_end 6 ([(v0).toInt8.toInt32, (v1).toInt8.toInt32, (v2).toInt8.toInt32, (v3).toInt8.toInt32, (v4).toInt8.toInt32, (v5).toInt8.toInt32] : List Int32) (F4 fr (1 : Int32)) ln))])) _
          refine XS.icmpNo X99.here hx rfl (hb hby at_237) rfl (teq hf102).2 ?_
          show Steps p.tables e below (T99.setTop (mkF m 240 #[.val (.int x0), .val (.long x1), .second, .val (.int x2), .val (.int x3), .val (.int x4), .val (.ref b2), .val (.int fr), .val (.int ln), .val (.int (3 : Int32)), .val (.int (own_end 6 ([(v0).toInt8.toInt32, (v1).toInt8.toInt32, (v2).toInt8.toInt32, (v3).toInt8.toInt32, (v4).toInt8.toInt32, (v5).toInt8.toInt32] : List Int32) (F4 fr (1 : Int32)) ln))] [])) _
          refine XS.iconst X99.here hx rfl (hb hby at_240) ?_
          show Steps p.tables e below (T99.setTop (mkF m 241 #[.val (.int x0), .val (.long x1), .second, .val (.int x2), .val (.int x3), .val (.int x4), .val (.ref b2), .val (.int fr), .val (.int ln), .val (.int (3 : Int32)), .val (.int (own_end 6 ([(v0).toInt8.toInt32, (v1).toInt8.toInt32, (v2).toInt8.toInt32, (v3).toInt8.toInt32, (v4).toInt8.toInt32, (v5).toInt8.toInt32] : List Int32) (F4 fr (1 : Int32)) ln))] [(.int (1 : Int32))])) _
          refine XS.goto X99.here hx rfl (pc0 := 241) (pc' := 245) rfl (hb hby at_241) (by decide) (by decide) ?_
          exact Steps.refl _)
      obtain ⟨fs, hr, hrun, hended, hW, hsame⟩ := X99.leave (v := some (.int (1 : Int32))) (fun h => by rw [Bd.returns] at h; cases h)
      refine ⟨_, _, st103.trans ?_, hrun, hended, _, _, rfl, ?_, ⟨_, rfl⟩, hW, hsame.mono (by decide) (by decide)⟩
      · exact retN X99 hx (t := .boolean) Bd.returns (by simp) (hb hby at_245) hr
      · show Q0 Z x0 x1 x2 x3 x4 h0 n0 _ T99.heap _
        rw [hh99]
        exact ⟨rfl, N99⟩
  · have st104 : Steps p.tables e below (s₁.setTop (entryFrame m #[(.int x0), (.long x1), (.int x2), (.int x3), (.int x4)] maxLocals)) (T55.setTop (mkF m 228 #[.val (.int x0), .val (.long x1), .second, .val (.int x2), .val (.int x3), .val (.int x4), .val (.ref b2), .val (.int fr), .val (.int ln), .val (.int (2 : Int32)), .unset] [(.int ln), (.int fr), (.ref b2)])) := st56.trans (by
        show Steps p.tables e below (T55.setTop (mkF m 132 #[.val (.int x0), .val (.long x1), .second, .val (.int x2), .val (.int x3), .val (.int x4), .val (.ref b2), .val (.int fr), .val (.int ln), .unset, .unset] [(.int (F2 (2 : Int32) fr ln ([(v0).toInt8.toInt32, (v1).toInt8.toInt32, (v2).toInt8.toInt32, (v3).toInt8.toInt32, (v4).toInt8.toInt32, (v5).toInt8.toInt32] : List Int32)))])) _
        refine XS.ifNo X55.here hx rfl (hb hby at_132) rfl ((if0 _ _).trans (feq hc57).1) ?_
        show Steps p.tables e below (T55.setTop (mkF m 135 #[.val (.int x0), .val (.long x1), .second, .val (.int x2), .val (.int x3), .val (.int x4), .val (.ref b2), .val (.int fr), .val (.int ln), .unset, .unset] [])) _
        refine XS.iconst X55.here hx rfl (hb hby at_135) ?_
        show Steps p.tables e below (T55.setTop (mkF m 136 #[.val (.int x0), .val (.long x1), .second, .val (.int x2), .val (.int x3), .val (.int x4), .val (.ref b2), .val (.int fr), .val (.int ln), .unset, .unset] [(.int (2 : Int32))])) _
        refine XS.istore X55.here hx rfl (hb hby at_136) rfl (l' := #[.val (.int x0), .val (.long x1), .second, .val (.int x2), .val (.int x3), .val (.int x4), .val (.ref b2), .val (.int fr), .val (.int ln), .val (.int (2 : Int32)), .unset]) rfl ?_
        show Steps p.tables e below (T55.setTop (mkF m 138 #[.val (.int x0), .val (.long x1), .second, .val (.int x2), .val (.int x3), .val (.int x4), .val (.ref b2), .val (.int fr), .val (.int ln), .val (.int (2 : Int32)), .unset] [])) _
        refine XS.goto X55.here hx rfl (pc0 := 138) (pc' := 222) rfl (hb hby at_138) (by decide) (by decide) ?_
        show Steps p.tables e below (T55.setTop (mkF m 222 #[.val (.int x0), .val (.long x1), .second, .val (.int x2), .val (.int x3), .val (.int x4), .val (.ref b2), .val (.int fr), .val (.int ln), .val (.int (2 : Int32)), .unset] [])) _
        refine XS.aload X55.here hx rfl (hb hby at_222) rfl rfl ?_
        show Steps p.tables e below (T55.setTop (mkF m 224 #[.val (.int x0), .val (.long x1), .second, .val (.int x2), .val (.int x3), .val (.int x4), .val (.ref b2), .val (.int fr), .val (.int ln), .val (.int (2 : Int32)), .unset] [(.ref b2)])) _
        refine XS.iload X55.here hx rfl (hb hby at_224) rfl ?_
        show Steps p.tables e below (T55.setTop (mkF m 226 #[.val (.int x0), .val (.long x1), .second, .val (.int x2), .val (.int x3), .val (.int x4), .val (.ref b2), .val (.int fr), .val (.int ln), .val (.int (2 : Int32)), .unset] [(.int fr), (.ref b2)])) _
        refine XS.iload X55.here hx rfl (hb hby at_226) rfl ?_
        exact Steps.refl _)
    obtain ⟨_, _, ⟨T105, L105, k105, n105⟩, -, X105, ⟨Lc105, hQ105, l105, y105, z105⟩, sr105⟩ := Jvm.LawKit.callS X55 hx (y := (⟨"com/example/persephone/persephone/executor/RequestHead", "end", "([BII)I"⟩ : MethodName)) hown (mvT hZ (hw _ (List.mem_of_getElem? (i := 8) rfl))) (mvT hZ (hw _ (List.mem_of_getElem? (i := 9) rfl))) (mvT hZ (hw _ (List.mem_of_getElem? (i := 10) rfl))) (mvT hZ (hw _ (List.mem_of_getElem? (i := 11) rfl))) (by decide) (backOf (W := 0) (rm3 l Z a0 hw [] b2 fr ln k2 ([(v0).toInt8.toInt32, (v1).toInt8.toInt32, (v2).toInt8.toInt32, (v3).toInt8.toInt32, (v4).toInt8.toInt32, (v5).toInt8.toInt32] : List Int32) h44 n0 Z44 f45 h6) hZ (hw _ (List.mem_of_getElem? (i := 11) rfl)) (hw _ (List.mem_of_getElem? (i := 10) rfl)) (by decide) (by decide)) (g := (mkF m 228 #[.val (.int x0), .val (.long x1), .second, .val (.int x2), .val (.int x3), .val (.int x4), .val (.ref b2), .val (.int fr), .val (.int ln), .val (.int (2 : Int32)), .unset] [(.int ln), (.int fr), (.ref b2)])) rfl (by rw [hml]; rfl) (argsL := [(.ref b2), (.int fr), (.int ln)]) (rest := []) (lenOf pd_3 rfl) rfl (by show 2 * 0 + _ ≤ _; exact Nat.le_of_eq rfl) (hb hby at_228) (fun _ _ => ⟨rfl, hh55, (by decide : 1 + 0 ≤ _), (by decide : 6 + 0 ≤ _)⟩)
    dsimp only [Pt.U, Pt.locs, Pt.cells, Pt.slots] at X105 l105 y105 z105 sr105 hQ105
    subst l105 y105 z105
    obtain ⟨rfl, N105q, hh105⟩ := hQ105
    have N105 := Fr.app N55 N105q
    have st106 : Steps p.tables e below (s₁.setTop (entryFrame m #[(.int x0), (.long x1), (.int x2), (.int x3), (.int x4)] maxLocals)) (T105.setTop (mkF m 231 #[.val (.int x0), .val (.long x1), .second, .val (.int x2), .val (.int x3), .val (.int x4), .val (.ref b2), .val (.int fr), .val (.int ln), .val (.int (2 : Int32)), .unset] [(.int (own_end 6 ([(v0).toInt8.toInt32, (v1).toInt8.toInt32, (v2).toInt8.toInt32, (v3).toInt8.toInt32, (v4).toInt8.toInt32, (v5).toInt8.toInt32] : List Int32) (F4 fr (1 : Int32)) ln))])) := st104.trans (sr105 _ (Steps.refl _))
    have st107 : Steps p.tables e below (s₁.setTop (entryFrame m #[(.int x0), (.long x1), (.int x2), (.int x3), (.int x4)] maxLocals)) (T105.setTop (mkF m 237 #[.val (.int x0), .val (.long x1), .second, .val (.int x2), .val (.int x3), .val (.int x4), .val (.ref b2), .val (.int fr), .val (.int ln), .val (.int (2 : Int32)), .val (.int (own_end 6 ([(v0).toInt8.toInt32, (v1).toInt8.toInt32, (v2).toInt8.toInt32, (v3).toInt8.toInt32, (v4).toInt8.toInt32, (v5).toInt8.toInt32] : List Int32) (F4 fr (1 : Int32)) ln))] [(.int (2 : Int32)), (.int (own_end 6 ([(v0).toInt8.toInt32, (v1).toInt8.toInt32, (v2).toInt8.toInt32, (v3).toInt8.toInt32, (v4).toInt8.toInt32, (v5).toInt8.toInt32] : List Int32) (F4 fr (1 : Int32)) ln))])) := st106.trans (by
        show Steps p.tables e below (T105.setTop (mkF m 231 #[.val (.int x0), .val (.long x1), .second, .val (.int x2), .val (.int x3), .val (.int x4), .val (.ref b2), .val (.int fr), .val (.int ln), .val (.int (2 : Int32)), .unset] [(.int (own_end 6 ([(v0).toInt8.toInt32, (v1).toInt8.toInt32, (v2).toInt8.toInt32, (v3).toInt8.toInt32, (v4).toInt8.toInt32, (v5).toInt8.toInt32] : List Int32) (F4 fr (1 : Int32)) ln))])) _
        refine XS.istore X105.here hx rfl (hb hby at_231) rfl (l' := #[.val (.int x0), .val (.long x1), .second, .val (.int x2), .val (.int x3), .val (.int x4), .val (.ref b2), .val (.int fr), .val (.int ln), .val (.int (2 : Int32)), .val (.int (own_end 6 ([(v0).toInt8.toInt32, (v1).toInt8.toInt32, (v2).toInt8.toInt32, (v3).toInt8.toInt32, (v4).toInt8.toInt32, (v5).toInt8.toInt32] : List Int32) (F4 fr (1 : Int32)) ln))]) rfl ?_
        show Steps p.tables e below (T105.setTop (mkF m 233 #[.val (.int x0), .val (.long x1), .second, .val (.int x2), .val (.int x3), .val (.int x4), .val (.ref b2), .val (.int fr), .val (.int ln), .val (.int (2 : Int32)), .val (.int (own_end 6 ([(v0).toInt8.toInt32, (v1).toInt8.toInt32, (v2).toInt8.toInt32, (v3).toInt8.toInt32, (v4).toInt8.toInt32, (v5).toInt8.toInt32] : List Int32) (F4 fr (1 : Int32)) ln))] [])) _
        refine XS.iload X105.here hx rfl (hb hby at_233) rfl ?_
        show Steps p.tables e below (T105.setTop (mkF m 235 #[.val (.int x0), .val (.long x1), .second, .val (.int x2), .val (.int x3), .val (.int x4), .val (.ref b2), .val (.int fr), .val (.int ln), .val (.int (2 : Int32)), .val (.int (own_end 6 ([(v0).toInt8.toInt32, (v1).toInt8.toInt32, (v2).toInt8.toInt32, (v3).toInt8.toInt32, (v4).toInt8.toInt32, (v5).toInt8.toInt32] : List Int32) (F4 fr (1 : Int32)) ln))] [(.int (own_end 6 ([(v0).toInt8.toInt32, (v1).toInt8.toInt32, (v2).toInt8.toInt32, (v3).toInt8.toInt32, (v4).toInt8.toInt32, (v5).toInt8.toInt32] : List Int32) (F4 fr (1 : Int32)) ln))])) _
        refine XS.iload X105.here hx rfl (hb hby at_235) rfl ?_
        exact Steps.refl _)
    have hf108 : (own_end 6 ([(v0).toInt8.toInt32, (v1).toInt8.toInt32, (v2).toInt8.toInt32, (v3).toInt8.toInt32, (v4).toInt8.toInt32, (v5).toInt8.toInt32] : List Int32) (F4 fr (1 : Int32)) ln) = (2 : Int32) := by rw [own_main fr ln _ h6, if_neg hc57]
    have st109 : Steps p.tables e below (s₁.setTop (entryFrame m #[(.int x0), (.long x1), (.int x2), (.int x3), (.int x4)] maxLocals)) (T105.setTop (mkF m 245 #[.val (.int x0), .val (.long x1), .second, .val (.int x2), .val (.int x3), .val (.int x4), .val (.ref b2), .val (.int fr), .val (.int ln), .val (.int (2 : Int32)), .val (.int (own_end 6 ([(v0).toInt8.toInt32, (v1).toInt8.toInt32, (v2).toInt8.toInt32, (v3).toInt8.toInt32, (v4).toInt8.toInt32, (v5).toInt8.toInt32] : List Int32) (F4 fr (1 : Int32)) ln))] [(.int (1 : Int32))])) := st107.trans (by
        show Steps p.tables e below (T105.setTop (mkF m 237 #[.val (.int x0), .val (.long x1), .second, .val (.int x2), .val (.int x3), .val (.int x4), .val (.ref b2), .val (.int fr), .val (.int ln), .val (.int (2 : Int32)), .val (.int (own_end 6 ([(v0).toInt8.toInt32, (v1).toInt8.toInt32, (v2).toInt8.toInt32, (v3).toInt8.toInt32, (v4).toInt8.toInt32, (v5).toInt8.toInt32] : List Int32) (F4 fr (1 : Int32)) ln))] [(.int (2 : Int32)), (.int (own_end 6 ([(v0).toInt8.toInt32, (v1).toInt8.toInt32, (v2).toInt8.toInt32, (v3).toInt8.toInt32, (v4).toInt8.toInt32, (v5).toInt8.toInt32] : List Int32) (F4 fr (1 : Int32)) ln))])) _
        refine XS.icmpNo X105.here hx rfl (hb hby at_237) rfl (teq hf108).2 ?_
        show Steps p.tables e below (T105.setTop (mkF m 240 #[.val (.int x0), .val (.long x1), .second, .val (.int x2), .val (.int x3), .val (.int x4), .val (.ref b2), .val (.int fr), .val (.int ln), .val (.int (2 : Int32)), .val (.int (own_end 6 ([(v0).toInt8.toInt32, (v1).toInt8.toInt32, (v2).toInt8.toInt32, (v3).toInt8.toInt32, (v4).toInt8.toInt32, (v5).toInt8.toInt32] : List Int32) (F4 fr (1 : Int32)) ln))] [])) _
        refine XS.iconst X105.here hx rfl (hb hby at_240) ?_
        show Steps p.tables e below (T105.setTop (mkF m 241 #[.val (.int x0), .val (.long x1), .second, .val (.int x2), .val (.int x3), .val (.int x4), .val (.ref b2), .val (.int fr), .val (.int ln), .val (.int (2 : Int32)), .val (.int (own_end 6 ([(v0).toInt8.toInt32, (v1).toInt8.toInt32, (v2).toInt8.toInt32, (v3).toInt8.toInt32, (v4).toInt8.toInt32, (v5).toInt8.toInt32] : List Int32) (F4 fr (1 : Int32)) ln))] [(.int (1 : Int32))])) _
        refine XS.goto X105.here hx rfl (pc0 := 241) (pc' := 245) rfl (hb hby at_241) (by decide) (by decide) ?_
        exact Steps.refl _)
    obtain ⟨fs, hr, hrun, hended, hW, hsame⟩ := X105.leave (v := some (.int (1 : Int32))) (fun h => by rw [Bd.returns] at h; cases h)
    refine ⟨_, _, st109.trans ?_, hrun, hended, _, _, rfl, ?_, ⟨_, rfl⟩, hW, hsame.mono (by decide) (by decide)⟩
    · exact retN X105 hx (t := .boolean) Bd.returns (by simp) (hb hby at_245) hr
    · show Q0 Z x0 x1 x2 x3 x4 h0 n0 _ T105.heap _
      rw [hh105]
      exact ⟨rfl, N105⟩
set_option maxRecDepth 65536 in
set_option maxHeartbeats 40000000 in
theorem comes_1 {Post : Tables → Env → Array Value → State → Outcome → State → Prop} (hpost : ∀ tb e args s v u, (limb_1_1.after args s (.returned v) u = true ∧ limb_1_2.after args s (.returned v) u = true ∧ True) → FrameEnd s (.returned v) u (Jvm.fieldLocs frame_1_writes args s ++ Jvm.arrayLocs frame_1_arrays args s ++ Jvm.staticLocs frame_1_statics s) 16 128 → Post tb e args s (.returned v) u) :
    ArmFor flags0 classFile x code maxLocals ret World_1 tables_1 room_1 Calls_1 rest_1 Pre_1 Post := by
  intro l hfl _ _ p e ha hc hk s m args below hf hA hF happ hP
  obtain ⟨hcalls, hrest, hpre⟩ := hP
  obtain ⟨-, -, -, hnamed, -, -, -, hat⟩ := (Spec.applies_iff hf).mp happ
  obtain ⟨hg, hn⟩ := and_e (Cond.before_iff.mp (show (Jvm.Cond.and given_1 narrow_1).before args s = true from hpre))
  obtain ⟨g1, g2⟩ := and_e hg
  obtain ⟨g3, g4⟩ := and_e g2
  obtain ⟨g5, g6⟩ := and_e g4
  obtain ⟨g7, g8⟩ := and_e g6
  obtain ⟨g9, g10⟩ := and_e g8
  obtain ⟨w0, w1, w2, w3, w4, rfl⟩ : ∃ w0 w1 w2 w3 w4 : Value, args = #[w0, w1, w2, w3, w4] := by
    have hs : args.size = 5 := by simpa [Cond.value, given_1] using g1
    obtain ⟨L⟩ := args
    match L, hs with
    | [w0, w1, w2, w3, w4], _ => exact ⟨w0, w1, w2, w3, w4, rfl⟩
  have hw := fun d (hd : d ∈ tables_1) => atoms_spec (ws := Jvm.Cond.code x code maxLocals ret :: tables_1) hat d (List.mem_cons_of_mem _ hd)
  have hfit : Fit s := fun {y c} hc i hi => by
    obtain ⟨ha, rfl⟩ := Array.getElem?_eq_some_iff.mp hc
    have q := List.all_eq_true.mp ((Array.all_eq_true_iff_forall_mem.mp hF) _ (Array.getElem_mem ha)) i (List.mem_range.mpr hi)
    simpa [Array.getElem?_eq_getElem hi] using q
  obtain ⟨i0, ei0⟩ := is_v g3
  obtain rfl : w0 = (.int i0) := Option.some.inj ei0
  obtain ⟨i1, ei1⟩ := isL_v g5
  obtain rfl : w1 = (.long i1) := Option.some.inj ei1
  obtain ⟨i2, ei2⟩ := is_v g7
  obtain rfl : w2 = (.int i2) := Option.some.inj ei2
  obtain ⟨i3, ei3⟩ := is_v g9
  obtain rfl : w3 = (.int i3) := Option.some.inj ei3
  obtain ⟨i4, ei4⟩ := is_v g10
  obtain rfl : w4 = (.int i4) := Option.some.inj ei4
  obtain ⟨n, o, h1, h2, h3, _, L, rfl, ⟨hv, N⟩, hq⟩ := rm0 l s _ hw tables_1 i0 i1 i2 i3 i4  s.heap s.heap.size (Nat.le_refl _)  p e ha hc hk s m _ below hf ((Spec.applies_iff_loose hf).mp happ).1 ⟨rfl, State.Warmed39.refl s, rfl⟩ trivial
  subst hv
  refine ⟨n, _, h1, h2, h3, hpost _ _ _ _ _ _ ⟨Cond.after_iff.mpr rfl, Cond.after_iff.mpr (eq_i res_at (Term.int_eval (1)) rfl), trivial⟩ ⟨hq.1, hq.2.1, (hq.2.2.sift fun y hy => Or.inr (N y hy)).mono (by decide) (by decide)⟩⟩
theorem main_1_1 : Claimed_1_1 := comes_1 fun _ _ _ _ _ _ h hF => ⟨h.1, hF⟩
theorem main_1_2 : Claimed_1_2 := comes_1 fun _ _ _ _ _ _ h hF => ⟨h.2.1, hF⟩
end Jvm.Pilot.@@N@@
namespace Jvm.Pilot.@@N@@
open Jvm Jvm.ClassFile Sem Op Lib Jvm.Free Jvm.Stand Jvm.Pilot.@@N@@.Jvm.D
/-! MADE BY PROGRAM (witnessworld.py) out of the Statement's table words and the real class files: 11 classes; the members and pool entries that the words name. The judged class is class 1, her method 3. -/
namespace start1
open Jvm.ClassFile
def u (s : String) : CpInfo := .utf8 (stringToUtf16 s)
/-- a pool by its gaps: so many unusable entries, then the entry; so many at the end -/
def gap : Nat → List CpInfo → List CpInfo
  | 0, r => r
  | n + 1, r => .unusable :: gap n r
def poolList (es : List (Nat × CpInfo)) (last : Nat) : List CpInfo := es.foldr (fun e r => gap e.1 (e.2 :: r)) (gap last [])
def pool (es : List (Nat × CpInfo)) (last : Nat) : Array CpInfo := ⟨poolList es last⟩
def fileOf (pool : Array CpInfo) (this : Nat) (attrs : Array Attribute := #[]) (ms : Array MethodInfo := #[]) (fl : Nat := 33) (sup : Nat := 0) (ifs : Array Nat := #[]) (fds : Array FieldInfo := #[]) : ClassFile where
  minorVersion := 0
  majorVersion := 65
  constantPool := pool
  accessFlags := fl
  thisClass := this
  superClass := sup
  interfaces := ifs
  fields := fds
  methods := ms
  attributes := attrs
def plain (name : String) (sup : Option ClassId) : Class where
  name := name
  kind := .ordinary
  loader := none
  accessFlags := 33
  super := sup
  interfaces := #[]
  cf := none
  fields := #[]
  methods := #[]
  instanceTypes := #[]
  staticTypes := #[]
  resolved := #[]
  callSites := []
  init := .initialized
  statics := none
  mirror := none

def pool0 : Array CpInfo := pool [(5, u "<init>"), (0, u "()V"), (1, .class_ 10), (1, u "java/lang/Object")] 113

def k0m0 : Method := { name := "<init>", desc := "()V", sig := { parameters := [], returnType := none }, accessFlags := 1, code := none }
/-- java/lang/Object -/
def k0 : Class := { plain "java/lang/Object" none with
  accessFlags := 33
  interfaces := #[]
  cf := some (fileOf pool0 8 #[] #[{ accessFlags := 1, nameIndex := 5, descriptorIndex := 6, attributes := #[] }] 33 0 #[] #[])
  fields := #[]
  methods := #[k0m0]
  instanceTypes := #[]
  staticTypes := #[]
  resolved := Array.replicate 124 none
  statics := none }

def pool1 : Array CpInfo := pool [(2, .class_ 4), (1, u "java/lang/Object"), (0, u "<init>"), (0, u "()V"), (0, .methodref 8 9), (0, .class_ 10), (0, .nameAndType 11 12), (0, u "com/example/persephone/persephone/executor/RequestHeadEndPinLaw"), (0, u "pick"), (0, u "(IJI)B"), (0, .integer 2147483647), (0, .methodref 8 15), (0, .nameAndType 16 17), (0, u "endsAt"), (0, u "([BIII)Z"), (0, .methodref 19 20), (0, .class_ 21), (0, .nameAndType 22 23), (0, u "com/example/persephone/persephone/executor/RequestHead"), (0, u "end"), (0, u "([BII)I"), (3, u "law"), (0, u "(IJIII)Z")] 4

def k1m0 : Method := { name := "<init>", desc := "()V", sig := { parameters := [], returnType := none }, accessFlags := 1, code := none }
def k1c1 : Code := { maxStack := 4, maxLocals := 5, code := method_2_code, exceptionTable := #[], attributes := #[] }
def k1m1 : Method := { name := "pick", desc := "(IJI)B", sig := { parameters := [.int, .long, .int], returnType := some .byte }, accessFlags := 10, code := some k1c1 }
def k1c2 : Code := { maxStack := 3, maxLocals := 6, code := method_3_code, exceptionTable := #[], attributes := #[] }
def k1m2 : Method := { name := "endsAt", desc := "([BIII)Z", sig := { parameters := [(.array .byte), .int, .int, .int], returnType := some .boolean }, accessFlags := 10, code := some k1c2 }
def k1c3 : Code := { maxStack := 6, maxLocals := 11, code := code, exceptionTable := #[], attributes := #[] }
def k1m3 : Method := { name := "law", desc := "(IJIII)Z", sig := { parameters := [.int, .long, .int, .int, .int], returnType := some .boolean }, accessFlags := 9, code := some k1c3 }
/-- com/example/persephone/persephone/executor/RequestHeadEndPinLaw -/
def k1 : Class := { plain "com/example/persephone/persephone/executor/RequestHeadEndPinLaw" (some 0) with
  accessFlags := 49
  interfaces := #[]
  cf := some (fileOf pool1 8 #[] #[{ accessFlags := 1, nameIndex := 5, descriptorIndex := 6, attributes := #[] }, { accessFlags := 10, nameIndex := 11, descriptorIndex := 12, attributes := #[] }, { accessFlags := 10, nameIndex := 16, descriptorIndex := 17, attributes := #[] }, { accessFlags := 9, nameIndex := 27, descriptorIndex := 28, attributes := #[] }] 49 2 #[] #[])
  fields := #[]
  methods := #[k1m0, k1m1, k1m2, k1m3]
  instanceTypes := #[]
  staticTypes := #[]
  resolved := Array.replicate 33 none
  statics := none }

def pool2 : Array CpInfo := pool [(2, .class_ 4), (1, u "java/lang/Object"), (0, u "<init>"), (0, u "()V"), (0, .class_ 8), (0, u "java/lang/Record")] 13

def k2m0 : Method := { name := "<init>", desc := "()V", sig := { parameters := [], returnType := none }, accessFlags := 4, code := none }
/-- java/lang/Record -/
def k2 : Class := { plain "java/lang/Record" (some 0) with
  accessFlags := 1057
  interfaces := #[]
  cf := some (fileOf pool2 7 #[] #[{ accessFlags := 4, nameIndex := 5, descriptorIndex := 6, attributes := #[] }] 1057 2 #[] #[])
  fields := #[]
  methods := #[k2m0]
  instanceTypes := #[]
  staticTypes := #[]
  resolved := Array.replicate 22 none
  statics := none }

def pool3 : Array CpInfo := pool [(2, .class_ 4), (1, u "java/lang/Record"), (3, .class_ 10), (1, u "com/example/persephone/persephone/executor/RequestHead"), (0, u "method"), (0, u "Ljava/lang/String;"), (2, u "path"), (2, u "version"), (2, u "fields"), (0, u "Ljava/util/Map;"), (0, .methodref 24 25), (0, .class_ 26), (0, .nameAndType 27 28), (0, u "java/lang/Math"), (0, u "max"), (0, u "(II)I"), (192, u "end"), (0, u "([BII)I")] 69

def k3c0 : Code := { maxStack := 3, maxLocals := 5, code := prog_15_method_2_code, exceptionTable := #[], attributes := #[] }
def k3m0 : Method := { name := "end", desc := "([BII)I", sig := { parameters := [(.array .byte), .int, .int], returnType := some .int }, accessFlags := 8, code := some k3c0 }
/-- com/example/persephone/persephone/executor/RequestHead -/
def k3 : Class := { plain "com/example/persephone/persephone/executor/RequestHead" (some 2) with
  accessFlags := 48
  interfaces := #[]
  cf := some (fileOf pool3 8 #[] #[{ accessFlags := 8, nameIndex := 221, descriptorIndex := 222, attributes := #[] }] 48 2 #[] #[{ accessFlags := 18, nameIndex := 11, descriptorIndex := 12, attributes := #[] }, { accessFlags := 18, nameIndex := 15, descriptorIndex := 12, attributes := #[] }, { accessFlags := 18, nameIndex := 18, descriptorIndex := 12, attributes := #[] }, { accessFlags := 18, nameIndex := 21, descriptorIndex := 22, attributes := #[] }])
  fields := #[{ name := "method", type := (.object "java/lang/String"), accessFlags := 18, slot := 0, constantValue := 0 }, { name := "path", type := (.object "java/lang/String"), accessFlags := 18, slot := 1, constantValue := 0 }, { name := "version", type := (.object "java/lang/String"), accessFlags := 18, slot := 2, constantValue := 0 }, { name := "fields", type := (.object "java/util/Map"), accessFlags := 18, slot := 3, constantValue := 0 }]
  methods := #[k3m0]
  instanceTypes := #[(.object "java/lang/String"), (.object "java/lang/String"), (.object "java/lang/String"), (.object "java/util/Map")]
  staticTypes := #[]
  resolved := Array.replicate 292 none
  statics := none }

def pool4 : Array CpInfo := pool [(1, .class_ 2), (0, u "java/lang/Math"), (1, .class_ 6), (1, u "java/lang/Object"), (0, u "<init>"), (0, u "()V"), (89, .class_ 100), (1, u "java/lang/Math$RandomNumberGeneratorHolder"), (71, u "negativeZeroFloatBits"), (0, u "J"), (2, u "negativeZeroDoubleBits"), (21, u "max"), (46, u "$assertionsDisabled"), (0, u "Z"), (88, u "(II)I"), (2, u "twoToTheDoubleScaleDown"), (0, u "D"), (4, u "twoToTheDoubleScaleUp"), (9, u "E"), (3, u "PI"), (2, u "TAU"), (2, u "DEGREES_TO_RADIANS"), (0, u "RADIANS_TO_DEGREES")] 94

def k4m0 : Method := { name := "<init>", desc := "()V", sig := { parameters := [], returnType := none }, accessFlags := 2, code := none }
def k4c1 : Code := { maxStack := 2, maxLocals := 2, code := jdk_29_method_65_code, exceptionTable := #[], attributes := #[] }
def k4m1 : Method := { name := "max", desc := "(II)I", sig := { parameters := [.int, .int], returnType := some .int }, accessFlags := 9, code := some k4c1 }
/-- java/lang/Math -/
def k4 : Class := { plain "java/lang/Math" (some 0) with
  accessFlags := 49
  interfaces := #[]
  cf := some (fileOf pool4 1 #[.nestMembers #[98]] #[{ accessFlags := 2, nameIndex := 7, descriptorIndex := 8, attributes := #[] }, { accessFlags := 9, nameIndex := 198, descriptorIndex := 335, attributes := #[] }] 49 4 #[] #[{ accessFlags := 25, nameIndex := 354, descriptorIndex := 339, attributes := #[] }, { accessFlags := 25, nameIndex := 358, descriptorIndex := 339, attributes := #[] }, { accessFlags := 25, nameIndex := 361, descriptorIndex := 339, attributes := #[] }, { accessFlags := 26, nameIndex := 364, descriptorIndex := 339, attributes := #[] }, { accessFlags := 26, nameIndex := 365, descriptorIndex := 339, attributes := #[] }, { accessFlags := 26, nameIndex := 172, descriptorIndex := 173, attributes := #[] }, { accessFlags := 26, nameIndex := 176, descriptorIndex := 173, attributes := #[] }, { accessFlags := 8, nameIndex := 344, descriptorIndex := 339, attributes := #[] }, { accessFlags := 8, nameIndex := 338, descriptorIndex := 339, attributes := #[] }, { accessFlags := 4120, nameIndex := 245, descriptorIndex := 246, attributes := #[] }])
  fields := #[{ name := "E", type := .double, accessFlags := 25, slot := 0, constantValue := 0 }, { name := "PI", type := .double, accessFlags := 25, slot := 1, constantValue := 0 }, { name := "TAU", type := .double, accessFlags := 25, slot := 2, constantValue := 0 }, { name := "DEGREES_TO_RADIANS", type := .double, accessFlags := 26, slot := 3, constantValue := 0 }, { name := "RADIANS_TO_DEGREES", type := .double, accessFlags := 26, slot := 4, constantValue := 0 }, { name := "negativeZeroFloatBits", type := .long, accessFlags := 26, slot := 5, constantValue := 0 }, { name := "negativeZeroDoubleBits", type := .long, accessFlags := 26, slot := 6, constantValue := 0 }, { name := "twoToTheDoubleScaleUp", type := .double, accessFlags := 8, slot := 7, constantValue := 0 }, { name := "twoToTheDoubleScaleDown", type := .double, accessFlags := 8, slot := 8, constantValue := 0 }, { name := "$assertionsDisabled", type := .boolean, accessFlags := 4120, slot := 9, constantValue := 0 }]
  methods := #[k4m0, k4m1]
  instanceTypes := #[]
  staticTypes := #[.double, .double, .double, .double, .double, .long, .long, .double, .double, .boolean]
  resolved := Array.replicate 460 none
  statics := none }

def pool5 : Array CpInfo := pool [(1, u "java/lang/Cloneable"), (0, .class_ 1), (0, u "java/lang/Object"), (0, .class_ 3)] 3

/-- java/lang/Cloneable -/
def k5 : Class := { plain "java/lang/Cloneable" (some 0) with
  accessFlags := 1537
  interfaces := #[]
  cf := some (fileOf pool5 2 #[] #[] 1537 4 #[] #[])
  fields := #[]
  methods := #[]
  instanceTypes := #[]
  staticTypes := #[]
  resolved := Array.replicate 8 none
  statics := none }

def pool6 : Array CpInfo := pool [(1, u "java/io/Serializable"), (0, .class_ 1), (0, u "java/lang/Object"), (0, .class_ 3)] 3

/-- java/io/Serializable -/
def k6 : Class := { plain "java/io/Serializable" (some 0) with
  accessFlags := 1537
  interfaces := #[]
  cf := some (fileOf pool6 2 #[] #[] 1537 4 #[] #[])
  fields := #[]
  methods := #[]
  instanceTypes := #[]
  staticTypes := #[]
  resolved := Array.replicate 8 none
  statics := none }

/-- the primitive byte -/
def k7 : Class := { plain "byte" none with kind := .primitive 'B', accessFlags := 0x411 }
/-- [B -/
def k8 : Class := { plain "[B" (some 0) with kind := .array 7 .byte, interfaces := #[5, 6], accessFlags := 1041 }

/-- the primitive int -/
def k9 : Class := { plain "int" none with kind := .primitive 'I', accessFlags := 0x411 }
/-- [I -/
def k10 : Class := { plain "[I" (some 0) with kind := .array 9 .int, interfaces := #[5, 6], accessFlags := 1041 }

def heap : Heap := #[]
def classes : Array Class := #[k0, k1, k2, k3, k4, k5, k6, k7, k8, k9, k10]
def interned : List (Array UInt16 × Addr) := []
def slotsUsed : Nat := 0
def theMethod : MethodId := ⟨1, 3⟩
def args0 : Array Value := #[.int 5, .long 7, .int 1, .int 5, .int 3]
def aboutOver (below : List Frame) : State where
  vm := { classes := classes, interned := interned.toArray }
  heap := heap
  slotsUsed := slotsUsed
  threads := #[{ frames := .invoking theMethod args0 :: below }]
def below0 : List Frame := [.native { method := ⟨0, 0⟩, args := #[] }]
def about1 : State := aboutOver below0
def p0 : Program := .bare "" "" ""
def e0 : Env := launch0.env 0 0 0
theorem w_frames : about1.frames = Frame.invoking theMethod args0 :: below0 := rfl
set_option maxRecDepth 65536 in
theorem w_args : argsFit about1.vm theMethod args0 = true := by decide +kernel
set_option maxRecDepth 65536 in
theorem w_heap : heapFits about1 = true := by decide +kernel
set_option maxRecDepth 65536 in
theorem w_runnable : about1.curStatus? = some .runnable := by decide +kernel
set_option maxRecDepth 65536 in
theorem w_alone : about1.alone = true := by decide +kernel
set_option maxRecDepth 65536 in
theorem w_named : about1.methodNamed? x = some theMethod := by decide +kernel
set_option maxRecDepth 65536 in
theorem w_hears : about1.hears theMethod below0 = true := by decide +kernel
set_option maxRecDepth 65536 in
theorem w_ripe : about1.ripe theMethod args0 below0 = true := by decide +kernel
theorem w_running : about1.status = .running := rfl
set_option maxRecDepth 65536 in
theorem w_room : about1.hasRoom e0.platform room_1 = true :=
  launch0.hasRoom_least _ room_1 (by decide +kernel) (by decide +kernel) (by decide +kernel) (by decide +kernel) (by decide +kernel) (by decide +kernel)
theorem allAtoms_all (ts : List Jvm.Cond) (a : Array Jvm.Value) (st : Jvm.State) : (allAtoms ts).before a st = ts.all (fun c => c.before a st) := by
  induction ts with
  | nil => rfl
  | cons c t ih =>
    show (Jvm.Cond.and c (allAtoms t)).before a st = _
    rw [Jvm.Cond.before_and, ih, List.all_cons]
def words1 : List Jvm.Cond := Jvm.Cond.code x code maxLocals ret :: tables_1
/-- a 'code' word, met by the world's own term for the bytes: nothing is compared byte by byte -/
theorem code_word {y : MethodName} {bytes : ByteArray} {mx : Nat} {rt : Option FieldType} {a : Array Value} {s : State} {m : MethodId} {meth : Method} {c : Code} (h1 : s.methodNamed? y = some m) (h2 : s.vm.method? m = some meth) (h3 : meth.code = some c) (h4 : c.code = bytes)
    (h5 : (c.maxLocals == mx && c.exceptionTable.isEmpty && decide (c.maxStack ≤ mostOperands) && decide (meth.sig.returnType = rt) && !meth.locks && decide (parseMethodDescriptor y.desc = some meth.sig)) = true) : (Jvm.Cond.code y bytes mx rt).before a s = true := by
  simp only [Bool.and_eq_true, beq_iff_eq, Bool.not_eq_true', decide_eq_true_eq] at h5
  obtain ⟨⟨⟨⟨⟨g1, g2⟩, g3⟩, g4⟩, g5⟩, g6⟩ := h5
  simp [Cond.before, Cond.holds, Cond.value, h1, h2, h3, h4, g1, g2, g3, g4, g5, g6]
def isCode : Jvm.Cond → Bool
  | .code _ _ _ _ => true
  | _ => false
theorem all_split {L : List Jvm.Cond} {P : Jvm.Cond → Bool} (h1 : L.all (fun c => isCode c || P c) = true) (h2 : ∀ c ∈ L.filter isCode, P c = true) : L.all P = true := by
  refine List.all_eq_true.mpr fun c hc => ?_
  have h := List.all_eq_true.mp h1 c hc
  rcases Bool.eq_false_or_eq_true (isCode c) with hi | hi
  · exact h2 c (List.mem_filter.mpr ⟨hc, hi⟩)
  · simpa [hi] using h
set_option maxRecDepth 65536 in
theorem w_c0 : (Jvm.Cond.code x code maxLocals ret).before args0 about1 = true := code_word (m := ⟨1, 3⟩) (meth := k1m3) (c := k1c3) (by decide +kernel) rfl rfl rfl (by decide +kernel)
set_option maxRecDepth 65536 in
theorem w_c1 : (Jvm.Cond.code ({ cls := "com/example/persephone/persephone/executor/RequestHeadEndPinLaw", name := "pick", desc := "(IJI)B" } : Jvm.MethodName) method_2_code (5 : Nat) (Option.some Jvm.ClassFile.FieldType.byte)).before args0 about1 = true := code_word (m := ⟨1, 1⟩) (meth := k1m1) (c := k1c1) (by decide +kernel) rfl rfl rfl (by decide +kernel)
set_option maxRecDepth 65536 in
theorem w_c2 : (Jvm.Cond.code ({ cls := "com/example/persephone/persephone/executor/RequestHeadEndPinLaw", name := "endsAt", desc := "([BIII)Z" } : Jvm.MethodName) method_3_code (6 : Nat) (Option.some Jvm.ClassFile.FieldType.boolean)).before args0 about1 = true := code_word (m := ⟨1, 2⟩) (meth := k1m2) (c := k1c2) (by decide +kernel) rfl rfl rfl (by decide +kernel)
set_option maxRecDepth 65536 in
theorem w_c3 : (Jvm.Cond.code ({ cls := "com/example/persephone/persephone/executor/RequestHead", name := "end", desc := "([BII)I" } : Jvm.MethodName) prog_15_method_2_code (5 : Nat) (Option.some Jvm.ClassFile.FieldType.int)).before args0 about1 = true := code_word (m := ⟨3, 0⟩) (meth := k3m0) (c := k3c0) (by decide +kernel) rfl rfl rfl (by decide +kernel)
set_option maxRecDepth 65536 in
theorem w_c4 : (Jvm.Cond.code ({ cls := "java/lang/Math", name := "max", desc := "(II)I" } : Jvm.MethodName) jdk_29_method_65_code (2 : Nat) (Option.some Jvm.ClassFile.FieldType.int)).before args0 about1 = true := code_word (m := ⟨4, 1⟩) (meth := k4m1) (c := k4c1) (by decide +kernel) rfl rfl rfl (by decide +kernel)
def codes1 : List Jvm.Cond := [Jvm.Cond.code x code maxLocals ret, Jvm.Cond.code ({ cls := "com/example/persephone/persephone/executor/RequestHeadEndPinLaw", name := "pick", desc := "(IJI)B" } : Jvm.MethodName) method_2_code (5 : Nat) (Option.some Jvm.ClassFile.FieldType.byte), Jvm.Cond.code ({ cls := "com/example/persephone/persephone/executor/RequestHeadEndPinLaw", name := "endsAt", desc := "([BIII)Z" } : Jvm.MethodName) method_3_code (6 : Nat) (Option.some Jvm.ClassFile.FieldType.boolean), Jvm.Cond.code ({ cls := "com/example/persephone/persephone/executor/RequestHead", name := "end", desc := "([BII)I" } : Jvm.MethodName) prog_15_method_2_code (5 : Nat) (Option.some Jvm.ClassFile.FieldType.int), Jvm.Cond.code ({ cls := "java/lang/Math", name := "max", desc := "(II)I" } : Jvm.MethodName) jdk_29_method_65_code (2 : Nat) (Option.some Jvm.ClassFile.FieldType.int)]
set_option maxRecDepth 65536 in
theorem codes_eq : words1.filter isCode = codes1 := rfl
theorem w_codes : ∀ c ∈ words1.filter isCode, c.before args0 about1 = true := by
  rw [codes_eq]
  intro c hc
  simp only [codes1, List.mem_cons, List.not_mem_nil, or_false] at hc
  rcases hc with rfl | rfl | rfl | rfl | rfl
  · exact w_c0
  · exact w_c1
  · exact w_c2
  · exact w_c3
  · exact w_c4
set_option maxRecDepth 65536 in
theorem w_t1 : words1.all (fun c => isCode c || c.before args0 about1) = true := by decide +kernel
theorem w_tables : (allAtoms (Jvm.Cond.code x code maxLocals ret :: tables_1)).before args0 about1 = true := by
  rw [allAtoms_all]
  show words1.all (fun c => c.before args0 about1) = true
  refine all_split ?_ w_codes
  rw [w_t1]
set_option maxRecDepth 65536 in
theorem w_case : (Jvm.Cond.and given_1 narrow_1).before args0 about1 = true := by decide +kernel
theorem w_applies : (headSpec (Jvm.Cond.code x code maxLocals ret :: tables_1) room_1).applies x e0.platform about1 = true :=
  (Spec.applies_iff w_frames).mpr ⟨w_running, w_runnable, w_alone, w_named, w_hears, w_ripe, w_room, w_tables⟩
theorem atStart : AtStart classFile x code maxLocals ret World_1 tables_1 room_1 Calls_1 rest_1 Pre_1 launch0 p0 e0 about1 theMethod args0 below0 :=
  ⟨lists_1, trivial, launch0.admits_env _ _ _, launch0.least_env, fairChoices_fair.cas, fairChoices_fair.clock, w_frames, w_args, w_heap, w_applies, trivial, trivial, w_case⟩
end start1
theorem witness_1 : WitnessClaimed_1 := ⟨start1.p0, start1.e0, start1.about1, start1.theMethod, start1.args0, start1.below0, start1.atStart⟩
end Jvm.Pilot.@@N@@
