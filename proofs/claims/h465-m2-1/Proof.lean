import JvmDerived
import JvmDerived.Pilot.@@N@@Statement
import JvmDerived.Pilot.@@N@@Code
set_option linter.unusedVariables false
set_option linter.unusedSimpArgs false
namespace Jvm.RoadKit
open Sem ClassFile Op Lib Jvm.Stand Jvm.Free Jvm.LawKit
section New
variable {p : Program} {l : Launch} {e : Env} {R : Room} {s : State} {m : MethodId} {args : Array Value} {below : List Frame} {meth : Method} {c : Code} {T : State} {locs : List Loc} {cells slots : Nat}
theorem retI (X : Stand p l e R s m args below meth c T locs cells slots) (hx : p.tables.exec = Jvm.exec) {pc : Nat} {Ls : Array Slot} {z : Int32} {rest : List Value} (hret : meth.sig.returnType = some .int) (hd : decode c.code pc = .ok (.ireturn, 1)) {fs : List Frame}
    (hl : ∀ (f : JFrame) (acts : List Action), f.method = m → f.locked = none → f.entered = [] → (doReturn e (T.setTop f) acts (some (.int z))).1 = T.setFrames fs) : Steps p.tables e below (T.setTop (mkF m pc Ls (.int z :: rest))) (T.setFrames fs) := by
  have hm' : T.vm.method? m = some meth := X.method'
  have hn : narrow .int (.int z) = .int z := rfl
  show Steps p.tables e below (T.setTop { method := m, pc := pc, locals := Ls, stack := _ :: rest, locked := none }) _
  jvm_step X.here [X.here.top, hx, hd, hm', hret, hn]
  first | (intro acts; rw [hl _ acts rfl rfl rfl]) | rw [hl _ _ rfl rfl rfl]
  exact Steps.refl _
end New
end Jvm.RoadKit
namespace Jvm.Pilot.@@N@@
open Jvm Jvm.ClassFile Sem Op Lib Jvm.Free Jvm.Stand Jvm.LawKit Jvm.RoadKit Bundle Jvm.Pilot.@@N@@.Jvm.D
theorem own_bt {P : Prop} [Decidable P] (h : P) : ifCond.holds .eq (if P then (1 : Int32) else (0 : Int32)) = false ∧ ifCond.holds .ne (if P then (1 : Int32) else (0 : Int32)) = true := by rw [if_pos h]; exact ⟨rfl, rfl⟩
theorem own_bf {P : Prop} [Decidable P] (h : ¬ P) : ifCond.holds .eq (if P then (1 : Int32) else (0 : Int32)) = true ∧ ifCond.holds .ne (if P then (1 : Int32) else (0 : Int32)) = false := by rw [if_neg h]; exact ⟨rfl, rfl⟩
theorem own_getI (L : List Int32) (i : Nat) : (List.map Value.int L).getD i (.int (0 : Int32)) = .int (L.getD i 0) := by
  simp only [List.getD_eq_getElem?_getD, List.getElem?_map]; cases L[i]? <;> rfl
theorem own_getJ (L : List Int64) (i : Nat) : (List.map Value.long L).getD i (.long (0 : Int64)) = .long (L.getD i 0) := by
  simp only [List.getD_eq_getElem?_getD, List.getElem?_map]; cases L[i]? <;> rfl
theorem own_setI (L : List Int32) (i : Nat) (x : Int32) : (List.map Value.int L).set i (.int x) = List.map Value.int (L.set i x) := (List.map_set).symm
theorem own_setJ (L : List Int64) (i : Nat) (x : Int64) : (List.map Value.long L).set i (.long x) = List.map Value.long (L.set i x) := (List.map_set).symm
theorem own_ns {Z : State} {h : Heap} {o : Addr} {C : String} (E : Exa Z h o C) : ∃ c : Cell, h[o]? = some c ∧ c.vm.isStatics = false := by
  obtain ⟨c, k, h1, -, -, h4, -⟩ := E; exact ⟨c, h1, h4⟩
theorem own_sta_keep {Z : State} {h h' : Heap} {ws : List Addr} {C n d : String} {v : Value} (S : Sta Z h C n d v) (K : Keep h h' ws) (q : ∀ w ∈ ws, ∃ c : Cell, h[w]? = some c ∧ c.vm.isStatics = false) : Sta Z h' C n d v := by
  obtain ⟨cf, i, k, f, st, cell, h1, h2, h3, h4, h5, h6, h7⟩ := S
  refine ⟨cf, i, k, f, st, cell, h1, h2, h3, h4, K.2.1 _ _ h5 (fun z => ?_), h6, h7⟩
  obtain ⟨c, e1, e2⟩ := q _ z
  cases h5.symm.trans e1; rw [e2] at h6; cases h6
theorem own_selp {s : State} {args args' : Array Value} {y z : MethodName} (hcls : z.cls = y.cls) (hnf : NotFace s z) (hz : (Cond.instanceMethod z).before args' s = true) (hpriv : s.PrivateAt y) (hinst : (Cond.instanceMethod y).before args s = true) (hy : y.cls ≠ "java/lang/invoke/MethodHandle" ∧ y.cls ≠ "java/lang/invoke/VarHandle") : (Cond.selects y.cls y y).before args s = true := by
  obtain ⟨mz, _, hnz, _⟩ := Cond.instanceMethod_spec hz
  obtain ⟨k, hk, hni⟩ := hnf mz hnz
  exact selects_self_of_private (by rw [← hcls]; exact findClass_of_methodNamed hnz) hk hni hpriv hinst hy
theorem own_swne {x k : Int32} {n : Int} (h : ¬ x = k) (e : k.toInt = n) : n ≠ x.toInt := fun q => h (Int32.toInt_inj.mp (by rw [e, q]))
theorem d6_0 : decode jdk_29_method_69_code 0 = .ok (.iload_n 0, 1) := by decide +kernel
theorem d6_1 : decode jdk_29_method_69_code 1 = .ok (.iload_n 1, 1) := by decide +kernel
theorem d6_2 : decode jdk_29_method_69_code 2 = .ok (.if_icmp .gt 7, 3) := by decide +kernel
theorem d6_5 : decode jdk_29_method_69_code 5 = .ok (.iload_n 0, 1) := by decide +kernel
theorem d6_6 : decode jdk_29_method_69_code 6 = .ok (.goto 4, 3) := by decide +kernel
theorem d6_9 : decode jdk_29_method_69_code 9 = .ok (.iload_n 1, 1) := by decide +kernel
theorem d6_10 : decode jdk_29_method_69_code 10 = .ok (.ireturn, 1) := by decide +kernel
theorem ef_6 (m : MethodId) (x0 : Int32) (x1 : Int32)  : entryFrame m #[(.int x0), (.int x1)] 2 = mkF m 0 #[.val (.int x0), .val (.int x1)] [] := by first | (simp [entryFrame, mkF, argsToLocals, Value.category]; done) | rfl
def F6 (x0 : Int32) (x1 : Int32) : Int32 := if x1 < x0 then x1 else x0
def Q6 (Z : State) (x0 : Int32) (x1 : Int32) (h0 : Heap) (n0 : Nat) (vE : Option Value) (hE : Heap) (LE : List Loc) : Prop := vE = some (.int (F6 x0 x1)) ∧ Fr n0 LE ∧ hE = h0
set_option maxRecDepth 65536 in
set_option maxHeartbeats 40000000 in
theorem rm6 (l : Launch) (Z : State) (a0 : Array Value) (hw : ∀ d ∈ tables_1, d.before a0 Z = true) (ws : List Jvm.Cond) (x0 : Int32) (x1 : Int32) (h0 : Heap) (n0 : Nat) (Z0 : n0 ≤ h0.size) :
    MetFree l (⟨"java/lang/Math", "min", "(II)I"⟩ : MethodName) (head1 (Jvm.Cond.code (⟨"java/lang/Math", "min", "(II)I"⟩ : MethodName) jdk_29_method_69_code 2 (some .int) :: ws) ({ frames := 0, cells := 0, slots := 0, locals := 0 } : Room)) (fun a U => a = #[(.int x0), (.int x1)] ∧ Z.Warmed39 U.vm ∧ U.heap = h0) (fun _ _ _ _ _ => True) (fun _ U o U' => ∃ vE LE, o = .returned vE ∧ Q6 Z x0 x1 h0 n0 vE U'.heap LE ∧ FrameEnd U o U' LE ({ frames := 0, cells := 0, slots := 0, locals := 0 } : Room).cells ({ frames := 0, cells := 0, slots := 0, locals := 0 } : Room).slots) := by
  refine MetFree.of_bodySF (Jvm.Free.JP.mathPlain rfl (by decide +kernel)) hisR ?_
  intro p e s m args below meth c s₁ Bd hml0 hP hK
  obtain ⟨rfl, hZ, hh⟩ := hP
  have hx := Bd.exec
  have hby := Bd.bytes
  have hml : c.maxLocals = 2 := hml0
  have hown : s.vm.findClass "java/lang/Math" = some m.cls := findClass_of_methodNamed Bd.named
  have hnm := (name_of_methodNamed Bd.named Bd.method).1
  have X0 : Stand p l e ({ frames := 0, cells := 0, slots := 0, locals := 0 } : Room) s m #[(.int x0), (.int x1)] below meth c s₁ [] 0 0 := Stand.of_body Bd
  have e0 : s₁.heap = h0 := by rw [← hh, Bd.state]; rfl
  have N0 := Fr.nil n0
  have st0 : Steps p.tables e below (s₁.setTop (entryFrame m #[(.int x0), (.int x1)] 2)) (s₁.setTop (mkF m 0 #[.val (.int x0), .val (.int x1)] [])) := castTop (ef_6 m x0 x1) (Steps.refl _)
  have st1 : Steps p.tables e below (s₁.setTop (entryFrame m #[(.int x0), (.int x1)] 2)) (s₁.setTop (mkF m 2 #[.val (.int x0), .val (.int x1)] [(.int x1), (.int x0)])) := st0.trans (by
      show Steps p.tables e below (s₁.setTop (mkF m 0 #[.val (.int x0), .val (.int x1)] [])) _
      refine XS.iloadN X0.here hx rfl (hb hby d6_0) rfl ?_
      show Steps p.tables e below (s₁.setTop (mkF m 1 #[.val (.int x0), .val (.int x1)] [(.int x0)])) _
      refine XS.iloadN X0.here hx rfl (hb hby d6_1) rfl ?_
      exact Steps.refl _)
  by_cases hc2 : x1 < x0
  · have st3 : Steps p.tables e below (s₁.setTop (entryFrame m #[(.int x0), (.int x1)] 2)) (s₁.setTop (mkF m 10 #[.val (.int x0), .val (.int x1)] [(.int x1)])) := st1.trans (by
        show Steps p.tables e below (s₁.setTop (mkF m 2 #[.val (.int x0), .val (.int x1)] [(.int x1), (.int x0)])) _
        refine XS.icmpYes X0.here hx rfl (pc0 := 2) (pc' := 9) rfl (hb hby d6_2) rfl (tlt hc2).2.2.1 (by decide) (by decide) ?_
        show Steps p.tables e below (s₁.setTop (mkF m 9 #[.val (.int x0), .val (.int x1)] [])) _
        refine XS.iloadN X0.here hx rfl (hb hby d6_9) rfl ?_
        exact Steps.refl _)
    obtain ⟨fs, hr, hrun, hended, hW, hsame⟩ := X0.leave (v := some (.int x1)) (fun h => by rw [Bd.returns] at h; cases h)
    refine ⟨_, _, st3.trans ?_, hrun, hended, _, _, rfl, ?_, ⟨_, rfl⟩, hW, hsame.mono (by decide) (by decide)⟩
    · exact retI X0 hx Bd.returns (hb hby d6_10) hr
    · show Q6 Z x0 x1 h0 n0 _ s₁.heap _
      rw [e0]
      exact ⟨by rw [F6, if_pos hc2], N0, rfl⟩
  · have st4 : Steps p.tables e below (s₁.setTop (entryFrame m #[(.int x0), (.int x1)] 2)) (s₁.setTop (mkF m 10 #[.val (.int x0), .val (.int x1)] [(.int x0)])) := st1.trans (by
        show Steps p.tables e below (s₁.setTop (mkF m 2 #[.val (.int x0), .val (.int x1)] [(.int x1), (.int x0)])) _
        refine XS.icmpNo X0.here hx rfl (hb hby d6_2) rfl (flt hc2).2.2.1 ?_
        show Steps p.tables e below (s₁.setTop (mkF m 5 #[.val (.int x0), .val (.int x1)] [])) _
        refine XS.iloadN X0.here hx rfl (hb hby d6_5) rfl ?_
        show Steps p.tables e below (s₁.setTop (mkF m 6 #[.val (.int x0), .val (.int x1)] [(.int x0)])) _
        refine XS.goto X0.here hx rfl (pc0 := 6) (pc' := 10) rfl (hb hby d6_6) (by decide) (by decide) ?_
        exact Steps.refl _)
    obtain ⟨fs, hr, hrun, hended, hW, hsame⟩ := X0.leave (v := some (.int x0)) (fun h => by rw [Bd.returns] at h; cases h)
    refine ⟨_, _, st4.trans ?_, hrun, hended, _, _, rfl, ?_, ⟨_, rfl⟩, hW, hsame.mono (by decide) (by decide)⟩
    · exact retI X0 hx Bd.returns (hb hby d6_10) hr
    · show Q6 Z x0 x1 h0 n0 _ s₁.heap _
      rw [e0]
      exact ⟨by rw [F6, if_neg hc2], N0, rfl⟩
theorem d1_0 : decode prog_1_method_1_code 0 = .ok (.aload_n 0, 1) := by decide +kernel
theorem d1_1 : decode prog_1_method_1_code 1 = .ok (.invokespecial 1, 3) := by decide +kernel
theorem d1_4 : decode prog_1_method_1_code 4 = .ok (.return_, 1) := by decide +kernel
theorem pn_0 : plainName "com/example/tideloop/tideloop/CatchUp" = true := by first | (simp [plainName, overriddenIn]; done) | decide +kernel
theorem ef_1 (m : MethodId) (x0 : Addr)  : entryFrame m #[(.ref x0)] 1 = mkF m 0 #[.val (.ref x0)] [] := by first | (simp [entryFrame, mkF, argsToLocals, Value.category]; done) | rfl
def Q1 (Z : State) (x0 : Addr) (h0 : Heap) (n0 : Nat) (vE : Option Value) (hE : Heap) (LE : List Loc) : Prop := vE = none ∧ Fr n0 LE ∧ Keep h0 hE [x0] ∧ Exa Z hE x0 "com/example/tideloop/tideloop/CatchUp" ∧ Fld Z hE x0 "com/example/tideloop/tideloop/CatchUp" "vain" "I" (.int (0 : Int32)) ∧ Fld Z hE x0 "com/example/tideloop/tideloop/CatchUp" "skipped" "I" (.int (0 : Int32))
set_option maxRecDepth 65536 in
set_option maxHeartbeats 40000000 in
theorem rm1 (l : Launch) (Z : State) (a0 : Array Value) (hw : ∀ d ∈ tables_1, d.before a0 Z = true) (ws : List Jvm.Cond) (x0 : Addr) (h0 : Heap) (n0 : Nat) (Z0 : n0 ≤ h0.size) (E_x : Exa Z h0 x0 "com/example/tideloop/tideloop/CatchUp") (F_v : Fld Z h0 x0 "com/example/tideloop/tideloop/CatchUp" "vain" "I" (.int (0 : Int32))) (F_s : Fld Z h0 x0 "com/example/tideloop/tideloop/CatchUp" "skipped" "I" (.int (0 : Int32))) (g_x : n0 ≤ x0) :
    MetFree l (⟨"com/example/tideloop/tideloop/CatchUp", "<init>", "()V"⟩ : MethodName) (head1 (Jvm.Cond.code (⟨"com/example/tideloop/tideloop/CatchUp", "<init>", "()V"⟩ : MethodName) prog_1_method_1_code 1 none :: ws) ({ frames := 1, cells := 0, slots := 0, locals := 12 } : Room)) (fun a U => a = #[(.ref x0)] ∧ Z.Warmed39 U.vm ∧ U.heap = h0) (fun _ _ _ _ _ => True) (fun _ U o U' => ∃ vE LE, o = .returned vE ∧ Q1 Z x0 h0 n0 vE U'.heap LE ∧ FrameEnd U o U' LE ({ frames := 1, cells := 0, slots := 0, locals := 12 } : Room).cells ({ frames := 1, cells := 0, slots := 0, locals := 12 } : Room).slots) := by
  refine MetFree.of_bodySF (plainFor_of_name pn_0) hisR ?_
  intro p e s m args below meth c s₁ Bd hml0 hP hK
  obtain ⟨rfl, hZ, hh⟩ := hP
  have hx := Bd.exec
  have hby := Bd.bytes
  have hml : c.maxLocals = 1 := hml0
  have hown : s.vm.findClass "com/example/tideloop/tideloop/CatchUp" = some m.cls := findClass_of_methodNamed Bd.named
  have hnm := (name_of_methodNamed Bd.named Bd.method).1
  have X0 : Stand p l e ({ frames := 1, cells := 0, slots := 0, locals := 12 } : Room) s m #[(.ref x0)] below meth c s₁ [] 0 0 := Stand.of_body Bd
  have e0 : s₁.heap = h0 := by rw [← hh, Bd.state]; rfl
  have N0 := Fr.nil n0
  have st0 : Steps p.tables e below (s₁.setTop (entryFrame m #[(.ref x0)] 1)) (s₁.setTop (mkF m 0 #[.val (.ref x0)] [])) := castTop (ef_1 m x0) (Steps.refl _)
  have K0 : Keep h0 h0 [x0] := Keep.refl _ _
  have st1 : Steps p.tables e below (s₁.setTop (entryFrame m #[(.ref x0)] 1)) (s₁.setTop (mkF m 1 #[.val (.ref x0)] [(.ref x0)])) := st0.trans (by
      show Steps p.tables e below (s₁.setTop (mkF m 0 #[.val (.ref x0)] [])) _
      refine XS.aloadN X0.here hx rfl (hb hby d1_0) rfl rfl ?_
      exact Steps.refl _)
  obtain ⟨T2, X2, e2, sr2⟩ := initO X0 hx hZ hown (hw _ (List.mem_of_getElem? (i := 7) rfl)) (hw _ (List.mem_of_getElem? (i := 8) rfl)) (hw _ (List.mem_of_getElem? (i := 9) rfl)) e0 (g := (mkF m 1 #[.val (.ref x0)] [(.ref x0)])) rfl (by rw [hml]; rfl) rfl (hb hby d1_1) (by decide) (W := 0) (by show 2 * 0 + _ ≤ _; exact Nat.le_of_eq rfl) (by decide)
  have st3 : Steps p.tables e below (s₁.setTop (entryFrame m #[(.ref x0)] 1)) (T2.setTop (mkF m 4 #[.val (.ref x0)] [])) := st1.trans (sr2 _ (Steps.refl _))
  obtain ⟨fs, hr, hrun, hended, hW, hsame⟩ := X2.leave (v := none) (fun _ => rfl)
  refine ⟨_, _, st3.trans ?_, hrun, hended, _, _, rfl, ?_, ⟨_, rfl⟩, hW, hsame.mono (by decide) (by decide)⟩
  · exact X2.returnOut hx Bd.returns (hb hby d1_4) hr
  · show Q1 Z x0 h0 n0 _ T2.heap _
    rw [e2]
    exact ⟨rfl, N0, K0, E_x, F_v, F_s⟩
theorem d5_0 : decode prog_1_method_2_code 0 = .ok (.aload_n 0, 1) := by decide +kernel
theorem d5_1 : decode prog_1_method_2_code 1 = .ok (.getfield 7, 3) := by decide +kernel
theorem d5_4 : decode prog_1_method_2_code 4 = .ok (.iconst 4, 1) := by decide +kernel
theorem d5_5 : decode prog_1_method_2_code 5 = .ok (.if_icmp .lt 13, 3) := by decide +kernel
theorem d5_8 : decode prog_1_method_2_code 8 = .ok (.aload_n 0, 1) := by decide +kernel
theorem d5_9 : decode prog_1_method_2_code 9 = .ok (.getfield 13, 3) := by decide +kernel
theorem d5_12 : decode prog_1_method_2_code 12 = .ok (.sipush 1023, 3) := by decide +kernel
theorem d5_15 : decode prog_1_method_2_code 15 = .ok (.if_icmp .ne 9, 3) := by decide +kernel
theorem d5_18 : decode prog_1_method_2_code 18 = .ok (.bipush 16, 2) := by decide +kernel
theorem d5_20 : decode prog_1_method_2_code 20 = .ok (.istore_n 1, 1) := by decide +kernel
theorem d5_21 : decode prog_1_method_2_code 21 = .ok (.goto 22, 3) := by decide +kernel
theorem d5_24 : decode prog_1_method_2_code 24 = .ok (.aload_n 0, 1) := by decide +kernel
theorem d5_25 : decode prog_1_method_2_code 25 = .ok (.getfield 13, 3) := by decide +kernel
theorem d5_28 : decode prog_1_method_2_code 28 = .ok (.bipush 32, 2) := by decide +kernel
theorem d5_30 : decode prog_1_method_2_code 30 = .ok (.irem, 1) := by decide +kernel
theorem d5_31 : decode prog_1_method_2_code 31 = .ok (.bipush 31, 2) := by decide +kernel
theorem d5_33 : decode prog_1_method_2_code 33 = .ok (.if_icmp .ne 8, 3) := by decide +kernel
theorem d5_36 : decode prog_1_method_2_code 36 = .ok (.iconst 2, 1) := by decide +kernel
theorem d5_37 : decode prog_1_method_2_code 37 = .ok (.istore_n 1, 1) := by decide +kernel
theorem d5_38 : decode prog_1_method_2_code 38 = .ok (.goto 5, 3) := by decide +kernel
theorem d5_41 : decode prog_1_method_2_code 41 = .ok (.iconst 0, 1) := by decide +kernel
theorem d5_42 : decode prog_1_method_2_code 42 = .ok (.istore_n 1, 1) := by decide +kernel
theorem d5_43 : decode prog_1_method_2_code 43 = .ok (.iload_n 1, 1) := by decide +kernel
theorem d5_44 : decode prog_1_method_2_code 44 = .ok (.ireturn, 1) := by decide +kernel
theorem ef_5 (m : MethodId) (x0 : Addr)  : entryFrame m #[(.ref x0)] 2 = mkF m 0 #[.val (.ref x0), .unset] [] := by first | (simp [entryFrame, mkF, argsToLocals, Value.category]; done) | rfl
def F5 (v : Int32) (k : Int32) : Int32 := if v < (4 : Int32) then (16 : Int32) else (if k = (1023 : Int32) then (16 : Int32) else (if (k % (32 : Int32)) = (31 : Int32) then (2 : Int32) else (0 : Int32)))
def Q5 (Z : State) (x0 : Addr) (v : Int32) (k : Int32) (h0 : Heap) (n0 : Nat) (vE : Option Value) (hE : Heap) (LE : List Loc) : Prop := vE = some (.int (F5 v k)) ∧ Fr n0 LE ∧ hE = h0
set_option maxRecDepth 65536 in
set_option maxHeartbeats 40000000 in
theorem rm5 (l : Launch) (Z : State) (a0 : Array Value) (hw : ∀ d ∈ tables_1, d.before a0 Z = true) (ws : List Jvm.Cond) (x0 : Addr) (v : Int32) (k : Int32) (h0 : Heap) (n0 : Nat) (Z0 : n0 ≤ h0.size) (E_x : Exa Z h0 x0 "com/example/tideloop/tideloop/CatchUp") (F_v : Fld Z h0 x0 "com/example/tideloop/tideloop/CatchUp" "vain" "I" (.int v)) (F_s : Fld Z h0 x0 "com/example/tideloop/tideloop/CatchUp" "skipped" "I" (.int k)) (g_x : n0 ≤ x0) :
    MetFree l (⟨"com/example/tideloop/tideloop/CatchUp", "rounds", "()I"⟩ : MethodName) (head1 (Jvm.Cond.code (⟨"com/example/tideloop/tideloop/CatchUp", "rounds", "()I"⟩ : MethodName) prog_1_method_2_code 2 (some .int) :: ws) ({ frames := 0, cells := 0, slots := 0, locals := 0 } : Room)) (fun a U => a = #[(.ref x0)] ∧ Z.Warmed39 U.vm ∧ U.heap = h0) (fun _ _ _ _ _ => True) (fun _ U o U' => ∃ vE LE, o = .returned vE ∧ Q5 Z x0 v k h0 n0 vE U'.heap LE ∧ FrameEnd U o U' LE ({ frames := 0, cells := 0, slots := 0, locals := 0 } : Room).cells ({ frames := 0, cells := 0, slots := 0, locals := 0 } : Room).slots) := by
  refine MetFree.of_bodySF (plainFor_of_name pn_0) hisR ?_
  intro p e s m args below meth c s₁ Bd hml0 hP hK
  obtain ⟨rfl, hZ, hh⟩ := hP
  have hx := Bd.exec
  have hby := Bd.bytes
  have hml : c.maxLocals = 2 := hml0
  have hown : s.vm.findClass "com/example/tideloop/tideloop/CatchUp" = some m.cls := findClass_of_methodNamed Bd.named
  have hnm := (name_of_methodNamed Bd.named Bd.method).1
  have X0 : Stand p l e ({ frames := 0, cells := 0, slots := 0, locals := 0 } : Room) s m #[(.ref x0)] below meth c s₁ [] 0 0 := Stand.of_body Bd
  have e0 : s₁.heap = h0 := by rw [← hh, Bd.state]; rfl
  have N0 := Fr.nil n0
  have st0 : Steps p.tables e below (s₁.setTop (entryFrame m #[(.ref x0)] 2)) (s₁.setTop (mkF m 0 #[.val (.ref x0), .unset] [])) := castTop (ef_5 m x0) (Steps.refl _)
  have st1 : Steps p.tables e below (s₁.setTop (entryFrame m #[(.ref x0)] 2)) (s₁.setTop (mkF m 1 #[.val (.ref x0), .unset] [(.ref x0)])) := st0.trans (by
      show Steps p.tables e below (s₁.setTop (mkF m 0 #[.val (.ref x0), .unset] [])) _
      refine XS.aloadN X0.here hx rfl (hb hby d5_0) rfl rfl ?_
      exact Steps.refl _)
  obtain ⟨T2, X2, e2, sr2⟩ := getF X0 hx hZ hown (host := "") (Or.inl (hw _ (List.mem_of_getElem? (i := 24) rfl))) Via.refl e0 F_v (g := (mkF m 1 #[.val (.ref x0), .unset] [(.ref x0)])) rfl rfl (hb hby d5_1)
  have st3 : Steps p.tables e below (s₁.setTop (entryFrame m #[(.ref x0)] 2)) (T2.setTop (mkF m 4 #[.val (.ref x0), .unset] [(.int v)])) := st1.trans (sr2 _ (Steps.refl _))
  have st4 : Steps p.tables e below (s₁.setTop (entryFrame m #[(.ref x0)] 2)) (T2.setTop (mkF m 5 #[.val (.ref x0), .unset] [(.int (4 : Int32)), (.int v)])) := st3.trans (by
      show Steps p.tables e below (T2.setTop (mkF m 4 #[.val (.ref x0), .unset] [(.int v)])) _
      refine XS.iconst X2.here hx rfl (hb hby d5_4) ?_
      exact Steps.refl _)
  by_cases hc5 : v < (4 : Int32)
  · have st6 : Steps p.tables e below (s₁.setTop (entryFrame m #[(.ref x0)] 2)) (T2.setTop (mkF m 44 #[.val (.ref x0), .val (.int (16 : Int32))] [(.int (16 : Int32))])) := st4.trans (by
        show Steps p.tables e below (T2.setTop (mkF m 5 #[.val (.ref x0), .unset] [(.int (4 : Int32)), (.int v)])) _
        refine XS.icmpYes X2.here hx rfl (pc0 := 5) (pc' := 18) rfl (hb hby d5_5) rfl (tlt hc5).1 (by decide) (by decide) ?_
        show Steps p.tables e below (T2.setTop (mkF m 18 #[.val (.ref x0), .unset] [])) _
        refine XS.bipush X2.here hx rfl (hb hby d5_18) ?_
        show Steps p.tables e below (T2.setTop (mkF m 20 #[.val (.ref x0), .unset] [(.int (16 : Int32))])) _
        refine XS.istoreN X2.here hx rfl (hb hby d5_20) rfl (l' := #[.val (.ref x0), .val (.int (16 : Int32))]) rfl ?_
        show Steps p.tables e below (T2.setTop (mkF m 21 #[.val (.ref x0), .val (.int (16 : Int32))] [])) _
        refine XS.goto X2.here hx rfl (pc0 := 21) (pc' := 43) rfl (hb hby d5_21) (by decide) (by decide) ?_
        show Steps p.tables e below (T2.setTop (mkF m 43 #[.val (.ref x0), .val (.int (16 : Int32))] [])) _
        refine XS.iloadN X2.here hx rfl (hb hby d5_43) rfl ?_
        exact Steps.refl _)
    obtain ⟨fs, hr, hrun, hended, hW, hsame⟩ := X2.leave (v := some (.int (16 : Int32))) (fun h => by rw [Bd.returns] at h; cases h)
    refine ⟨_, _, st6.trans ?_, hrun, hended, _, _, rfl, ?_, ⟨_, rfl⟩, hW, hsame.mono (by decide) (by decide)⟩
    · exact retI X2 hx Bd.returns (hb hby d5_44) hr
    · show Q5 Z x0 v k h0 n0 _ T2.heap _
      rw [e2]
      exact ⟨by rw [F5, if_pos hc5], N0, rfl⟩
  · have st7 : Steps p.tables e below (s₁.setTop (entryFrame m #[(.ref x0)] 2)) (T2.setTop (mkF m 9 #[.val (.ref x0), .unset] [(.ref x0)])) := st4.trans (by
        show Steps p.tables e below (T2.setTop (mkF m 5 #[.val (.ref x0), .unset] [(.int (4 : Int32)), (.int v)])) _
        refine XS.icmpNo X2.here hx rfl (hb hby d5_5) rfl (flt hc5).1 ?_
        show Steps p.tables e below (T2.setTop (mkF m 8 #[.val (.ref x0), .unset] [])) _
        refine XS.aloadN X2.here hx rfl (hb hby d5_8) rfl rfl ?_
        exact Steps.refl _)
    obtain ⟨T8, X8, e8, sr8⟩ := getF X2 hx hZ hown (host := "") (Or.inl (hw _ (List.mem_of_getElem? (i := 30) rfl))) Via.refl e2 F_s (g := (mkF m 9 #[.val (.ref x0), .unset] [(.ref x0)])) rfl rfl (hb hby d5_9)
    have st9 : Steps p.tables e below (s₁.setTop (entryFrame m #[(.ref x0)] 2)) (T8.setTop (mkF m 12 #[.val (.ref x0), .unset] [(.int k)])) := st7.trans (sr8 _ (Steps.refl _))
    have st10 : Steps p.tables e below (s₁.setTop (entryFrame m #[(.ref x0)] 2)) (T8.setTop (mkF m 15 #[.val (.ref x0), .unset] [(.int (1023 : Int32)), (.int k)])) := st9.trans (by
        show Steps p.tables e below (T8.setTop (mkF m 12 #[.val (.ref x0), .unset] [(.int k)])) _
        refine XS.sipush X8.here hx rfl (hb hby d5_12) ?_
        exact Steps.refl _)
    by_cases hc11 : k = (1023 : Int32)
    · have st12 : Steps p.tables e below (s₁.setTop (entryFrame m #[(.ref x0)] 2)) (T8.setTop (mkF m 44 #[.val (.ref x0), .val (.int (16 : Int32))] [(.int (16 : Int32))])) := st10.trans (by
          show Steps p.tables e below (T8.setTop (mkF m 15 #[.val (.ref x0), .unset] [(.int (1023 : Int32)), (.int k)])) _
          refine XS.icmpNo X8.here hx rfl (hb hby d5_15) rfl (teq hc11).2 ?_
          show Steps p.tables e below (T8.setTop (mkF m 18 #[.val (.ref x0), .unset] [])) _
          refine XS.bipush X8.here hx rfl (hb hby d5_18) ?_
          show Steps p.tables e below (T8.setTop (mkF m 20 #[.val (.ref x0), .unset] [(.int (16 : Int32))])) _
          refine XS.istoreN X8.here hx rfl (hb hby d5_20) rfl (l' := #[.val (.ref x0), .val (.int (16 : Int32))]) rfl ?_
          show Steps p.tables e below (T8.setTop (mkF m 21 #[.val (.ref x0), .val (.int (16 : Int32))] [])) _
          refine XS.goto X8.here hx rfl (pc0 := 21) (pc' := 43) rfl (hb hby d5_21) (by decide) (by decide) ?_
          show Steps p.tables e below (T8.setTop (mkF m 43 #[.val (.ref x0), .val (.int (16 : Int32))] [])) _
          refine XS.iloadN X8.here hx rfl (hb hby d5_43) rfl ?_
          exact Steps.refl _)
      obtain ⟨fs, hr, hrun, hended, hW, hsame⟩ := X8.leave (v := some (.int (16 : Int32))) (fun h => by rw [Bd.returns] at h; cases h)
      refine ⟨_, _, st12.trans ?_, hrun, hended, _, _, rfl, ?_, ⟨_, rfl⟩, hW, hsame.mono (by decide) (by decide)⟩
      · exact retI X8 hx Bd.returns (hb hby d5_44) hr
      · show Q5 Z x0 v k h0 n0 _ T8.heap _
        rw [e8]
        exact ⟨by rw [F5, if_neg hc5, if_pos hc11], N0, rfl⟩
    · have st13 : Steps p.tables e below (s₁.setTop (entryFrame m #[(.ref x0)] 2)) (T8.setTop (mkF m 25 #[.val (.ref x0), .unset] [(.ref x0)])) := st10.trans (by
          show Steps p.tables e below (T8.setTop (mkF m 15 #[.val (.ref x0), .unset] [(.int (1023 : Int32)), (.int k)])) _
          refine XS.icmpYes X8.here hx rfl (pc0 := 15) (pc' := 24) rfl (hb hby d5_15) rfl (feq hc11).2 (by decide) (by decide) ?_
          show Steps p.tables e below (T8.setTop (mkF m 24 #[.val (.ref x0), .unset] [])) _
          refine XS.aloadN X8.here hx rfl (hb hby d5_24) rfl rfl ?_
          exact Steps.refl _)
      obtain ⟨T14, X14, e14, sr14⟩ := getF X8 hx hZ hown (host := "") (Or.inl (hw _ (List.mem_of_getElem? (i := 30) rfl))) Via.refl e8 F_s (g := (mkF m 25 #[.val (.ref x0), .unset] [(.ref x0)])) rfl rfl (hb hby d5_25)
      have st15 : Steps p.tables e below (s₁.setTop (entryFrame m #[(.ref x0)] 2)) (T14.setTop (mkF m 28 #[.val (.ref x0), .unset] [(.int k)])) := st13.trans (sr14 _ (Steps.refl _))
      have st16 : Steps p.tables e below (s₁.setTop (entryFrame m #[(.ref x0)] 2)) (T14.setTop (mkF m 33 #[.val (.ref x0), .unset] [(.int (31 : Int32)), (.int (k % (32 : Int32)))])) := st15.trans (by
          show Steps p.tables e below (T14.setTop (mkF m 28 #[.val (.ref x0), .unset] [(.int k)])) _
          refine XS.bipush X14.here hx rfl (hb hby d5_28) ?_
          show Steps p.tables e below (T14.setTop (mkF m 30 #[.val (.ref x0), .unset] [(.int (32 : Int32)), (.int k)])) _
          refine iremM X14 hx rfl (hb hby d5_30) rfl (by decide) ?_
          show Steps p.tables e below (T14.setTop (mkF m 31 #[.val (.ref x0), .unset] [(.int (k % (32 : Int32)))])) _
          refine XS.bipush X14.here hx rfl (hb hby d5_31) ?_
          exact Steps.refl _)
      by_cases hc17 : (k % (32 : Int32)) = (31 : Int32)
      · have st18 : Steps p.tables e below (s₁.setTop (entryFrame m #[(.ref x0)] 2)) (T14.setTop (mkF m 44 #[.val (.ref x0), .val (.int (2 : Int32))] [(.int (2 : Int32))])) := st16.trans (by
            show Steps p.tables e below (T14.setTop (mkF m 33 #[.val (.ref x0), .unset] [(.int (31 : Int32)), (.int (k % (32 : Int32)))])) _
            refine XS.icmpNo X14.here hx rfl (hb hby d5_33) rfl (teq hc17).2 ?_
            show Steps p.tables e below (T14.setTop (mkF m 36 #[.val (.ref x0), .unset] [])) _
            refine XS.iconst X14.here hx rfl (hb hby d5_36) ?_
            show Steps p.tables e below (T14.setTop (mkF m 37 #[.val (.ref x0), .unset] [(.int (2 : Int32))])) _
            refine XS.istoreN X14.here hx rfl (hb hby d5_37) rfl (l' := #[.val (.ref x0), .val (.int (2 : Int32))]) rfl ?_
            show Steps p.tables e below (T14.setTop (mkF m 38 #[.val (.ref x0), .val (.int (2 : Int32))] [])) _
            refine XS.goto X14.here hx rfl (pc0 := 38) (pc' := 43) rfl (hb hby d5_38) (by decide) (by decide) ?_
            show Steps p.tables e below (T14.setTop (mkF m 43 #[.val (.ref x0), .val (.int (2 : Int32))] [])) _
            refine XS.iloadN X14.here hx rfl (hb hby d5_43) rfl ?_
            exact Steps.refl _)
        obtain ⟨fs, hr, hrun, hended, hW, hsame⟩ := X14.leave (v := some (.int (2 : Int32))) (fun h => by rw [Bd.returns] at h; cases h)
        refine ⟨_, _, st18.trans ?_, hrun, hended, _, _, rfl, ?_, ⟨_, rfl⟩, hW, hsame.mono (by decide) (by decide)⟩
        · exact retI X14 hx Bd.returns (hb hby d5_44) hr
        · show Q5 Z x0 v k h0 n0 _ T14.heap _
          rw [e14]
          exact ⟨by rw [F5, if_neg hc5, if_neg hc11, if_pos hc17], N0, rfl⟩
      · have st19 : Steps p.tables e below (s₁.setTop (entryFrame m #[(.ref x0)] 2)) (T14.setTop (mkF m 44 #[.val (.ref x0), .val (.int (0 : Int32))] [(.int (0 : Int32))])) := st16.trans (by
            show Steps p.tables e below (T14.setTop (mkF m 33 #[.val (.ref x0), .unset] [(.int (31 : Int32)), (.int (k % (32 : Int32)))])) _
            refine XS.icmpYes X14.here hx rfl (pc0 := 33) (pc' := 41) rfl (hb hby d5_33) rfl (feq hc17).2 (by decide) (by decide) ?_
            show Steps p.tables e below (T14.setTop (mkF m 41 #[.val (.ref x0), .unset] [])) _
            refine XS.iconst X14.here hx rfl (hb hby d5_41) ?_
            show Steps p.tables e below (T14.setTop (mkF m 42 #[.val (.ref x0), .unset] [(.int (0 : Int32))])) _
            refine XS.istoreN X14.here hx rfl (hb hby d5_42) rfl (l' := #[.val (.ref x0), .val (.int (0 : Int32))]) rfl ?_
            show Steps p.tables e below (T14.setTop (mkF m 43 #[.val (.ref x0), .val (.int (0 : Int32))] [])) _
            refine XS.iloadN X14.here hx rfl (hb hby d5_43) rfl ?_
            exact Steps.refl _)
        obtain ⟨fs, hr, hrun, hended, hW, hsame⟩ := X14.leave (v := some (.int (0 : Int32))) (fun h => by rw [Bd.returns] at h; cases h)
        refine ⟨_, _, st19.trans ?_, hrun, hended, _, _, rfl, ?_, ⟨_, rfl⟩, hW, hsame.mono (by decide) (by decide)⟩
        · exact retI X14 hx Bd.returns (hb hby d5_44) hr
        · show Q5 Z x0 v k h0 n0 _ T14.heap _
          rw [e14]
          exact ⟨by rw [F5, if_neg hc5, if_neg hc11, if_neg hc17], N0, rfl⟩
theorem d7_0 : decode prog_1_method_3_code 0 = .ok (.aload_n 0, 1) := by decide +kernel
theorem d7_1 : decode prog_1_method_3_code 1 = .ok (.iconst 0, 1) := by decide +kernel
theorem d7_2 : decode prog_1_method_3_code 2 = .ok (.putfield 7, 3) := by decide +kernel
theorem d7_5 : decode prog_1_method_3_code 5 = .ok (.return_, 1) := by decide +kernel
theorem ef_7 (m : MethodId) (x0 : Addr)  : entryFrame m #[(.ref x0)] 1 = mkF m 0 #[.val (.ref x0)] [] := by first | (simp [entryFrame, mkF, argsToLocals, Value.category]; done) | rfl
def Q7 (Z : State) (x0 : Addr) (v : Int32) (k : Int32) (h0 : Heap) (n0 : Nat) (vE : Option Value) (hE : Heap) (LE : List Loc) : Prop := vE = none ∧ Fr n0 LE ∧ Keep h0 hE [x0] ∧ Exa Z hE x0 "com/example/tideloop/tideloop/CatchUp" ∧ Fld Z hE x0 "com/example/tideloop/tideloop/CatchUp" "vain" "I" (.int (0 : Int32)) ∧ Fld Z hE x0 "com/example/tideloop/tideloop/CatchUp" "skipped" "I" (.int k)
set_option maxRecDepth 65536 in
set_option maxHeartbeats 40000000 in
theorem rm7 (l : Launch) (Z : State) (a0 : Array Value) (hw : ∀ d ∈ tables_1, d.before a0 Z = true) (ws : List Jvm.Cond) (x0 : Addr) (v : Int32) (k : Int32) (h0 : Heap) (n0 : Nat) (Z0 : n0 ≤ h0.size) (E_x : Exa Z h0 x0 "com/example/tideloop/tideloop/CatchUp") (F_v : Fld Z h0 x0 "com/example/tideloop/tideloop/CatchUp" "vain" "I" (.int v)) (F_s : Fld Z h0 x0 "com/example/tideloop/tideloop/CatchUp" "skipped" "I" (.int k)) (g_x : n0 ≤ x0) :
    MetFree l (⟨"com/example/tideloop/tideloop/CatchUp", "found", "()V"⟩ : MethodName) (head1 (Jvm.Cond.code (⟨"com/example/tideloop/tideloop/CatchUp", "found", "()V"⟩ : MethodName) prog_1_method_3_code 1 none :: ws) ({ frames := 0, cells := 0, slots := 0, locals := 0 } : Room)) (fun a U => a = #[(.ref x0)] ∧ Z.Warmed39 U.vm ∧ U.heap = h0) (fun _ _ _ _ _ => True) (fun _ U o U' => ∃ vE LE, o = .returned vE ∧ Q7 Z x0 v k h0 n0 vE U'.heap LE ∧ FrameEnd U o U' LE ({ frames := 0, cells := 0, slots := 0, locals := 0 } : Room).cells ({ frames := 0, cells := 0, slots := 0, locals := 0 } : Room).slots) := by
  refine MetFree.of_bodySF (plainFor_of_name pn_0) hisR ?_
  intro p e s m args below meth c s₁ Bd hml0 hP hK
  obtain ⟨rfl, hZ, hh⟩ := hP
  have hx := Bd.exec
  have hby := Bd.bytes
  have hml : c.maxLocals = 1 := hml0
  have hown : s.vm.findClass "com/example/tideloop/tideloop/CatchUp" = some m.cls := findClass_of_methodNamed Bd.named
  have hnm := (name_of_methodNamed Bd.named Bd.method).1
  have X0 : Stand p l e ({ frames := 0, cells := 0, slots := 0, locals := 0 } : Room) s m #[(.ref x0)] below meth c s₁ [] 0 0 := Stand.of_body Bd
  have e0 : s₁.heap = h0 := by rw [← hh, Bd.state]; rfl
  have N0 := Fr.nil n0
  have st0 : Steps p.tables e below (s₁.setTop (entryFrame m #[(.ref x0)] 1)) (s₁.setTop (mkF m 0 #[.val (.ref x0)] [])) := castTop (ef_7 m x0) (Steps.refl _)
  have K0 : Keep h0 h0 [x0] := Keep.refl _ _
  have st1 : Steps p.tables e below (s₁.setTop (entryFrame m #[(.ref x0)] 1)) (s₁.setTop (mkF m 2 #[.val (.ref x0)] [(.int (0 : Int32)), (.ref x0)])) := st0.trans (by
      show Steps p.tables e below (s₁.setTop (mkF m 0 #[.val (.ref x0)] [])) _
      refine XS.aloadN X0.here hx rfl (hb hby d7_0) rfl rfl ?_
      show Steps p.tables e below (s₁.setTop (mkF m 1 #[.val (.ref x0)] [(.ref x0)])) _
      refine XS.iconst X0.here hx rfl (hb hby d7_1) ?_
      exact Steps.refl _)
  obtain ⟨T2, h2, X2, e2, W2, sr2⟩ := putF X0 hx hZ hown (host := "") (Or.inl (hw _ (List.mem_of_getElem? (i := 24) rfl))) Via.refl e0 F_v E_x (Or.inl (hw _ (List.mem_of_getElem? (i := 25) rfl))) (hw _ (List.mem_of_getElem? (i := 2) rfl)) (ty := .int) (by decide) rfl rfl (g := (mkF m 2 #[.val (.ref x0)] [(.int (0 : Int32)), (.ref x0)])) rfl rfl (hb hby d7_2)
  have f3 : Exa Z h2 x0 "com/example/tideloop/tideloop/CatchUp" := E_x.wr W2
  have f4 : Fld Z h2 x0 "com/example/tideloop/tideloop/CatchUp" "skipped" "I" (.int k) := F_s.other W2 (Or.inr (slot_ne (Or.inl (hw _ (List.mem_of_getElem? (i := 31) rfl))) (Or.inl (hw _ (List.mem_of_getElem? (i := 25) rfl))) (by decide) (t := .int) (t' := .int) (by decide) (by decide)))
  have f5 : Fld Z h2 x0 "com/example/tideloop/tideloop/CatchUp" "vain" "I" (.int (0 : Int32)) := F_v.same W2
  have K6 : Keep h0 h2 [x0] := K0.wr W2 (Or.inl (List.mem_of_getElem? (i := 0) rfl))
  have Z2 : n0 ≤ h2.size := Nat.le_trans Z0 (Keep.of_wr W2).1
  have N2 := Fr.snoc X2 N0 g_x
  have st7 : Steps p.tables e below (s₁.setTop (entryFrame m #[(.ref x0)] 1)) (T2.setTop (mkF m 5 #[.val (.ref x0)] [])) := st1.trans (sr2 _ (Steps.refl _))
  obtain ⟨fs, hr, hrun, hended, hW, hsame⟩ := X2.leave (v := none) (fun _ => rfl)
  refine ⟨_, _, st7.trans ?_, hrun, hended, _, _, rfl, ?_, ⟨_, rfl⟩, hW, hsame.mono (by decide) (by decide)⟩
  · exact X2.returnOut hx Bd.returns (hb hby d7_5) hr
  · show Q7 Z x0 v k h0 n0 _ T2.heap _
    rw [e2]
    exact ⟨rfl, N2, K6, f3, f5, f4⟩
theorem pd_0 : parseMethodDescriptor "()I" = some ⟨[], some .int⟩ := by decide +kernel
theorem pd_1 : parseMethodDescriptor "(II)I" = some ⟨[.int, .int], some .int⟩ := by decide +kernel
theorem d4_0 : decode prog_1_method_4_code 0 = .ok (.aload_n 0, 1) := by decide +kernel
theorem d4_1 : decode prog_1_method_4_code 1 = .ok (.invokevirtual 16, 3) := by decide +kernel
theorem d4_4 : decode prog_1_method_4_code 4 = .ok (.bipush 16, 2) := by decide +kernel
theorem d4_6 : decode prog_1_method_4_code 6 = .ok (.if_icmp .ne 25, 3) := by decide +kernel
theorem d4_9 : decode prog_1_method_4_code 9 = .ok (.aload_n 0, 1) := by decide +kernel
theorem d4_10 : decode prog_1_method_4_code 10 = .ok (.aload_n 0, 1) := by decide +kernel
theorem d4_11 : decode prog_1_method_4_code 11 = .ok (.getfield 7, 3) := by decide +kernel
theorem d4_14 : decode prog_1_method_4_code 14 = .ok (.iconst 1, 1) := by decide +kernel
theorem d4_15 : decode prog_1_method_4_code 15 = .ok (.iadd, 1) := by decide +kernel
theorem d4_16 : decode prog_1_method_4_code 16 = .ok (.iconst 4, 1) := by decide +kernel
theorem d4_17 : decode prog_1_method_4_code 17 = .ok (.invokestatic 20, 3) := by decide +kernel
theorem d4_20 : decode prog_1_method_4_code 20 = .ok (.putfield 7, 3) := by decide +kernel
theorem d4_23 : decode prog_1_method_4_code 23 = .ok (.aload_n 0, 1) := by decide +kernel
theorem d4_24 : decode prog_1_method_4_code 24 = .ok (.iconst 0, 1) := by decide +kernel
theorem d4_25 : decode prog_1_method_4_code 25 = .ok (.putfield 13, 3) := by decide +kernel
theorem d4_28 : decode prog_1_method_4_code 28 = .ok (.goto 13, 3) := by decide +kernel
theorem d4_31 : decode prog_1_method_4_code 31 = .ok (.aload_n 0, 1) := by decide +kernel
theorem d4_32 : decode prog_1_method_4_code 32 = .ok (.dup, 1) := by decide +kernel
theorem d4_33 : decode prog_1_method_4_code 33 = .ok (.getfield 13, 3) := by decide +kernel
theorem d4_36 : decode prog_1_method_4_code 36 = .ok (.iconst 1, 1) := by decide +kernel
theorem d4_37 : decode prog_1_method_4_code 37 = .ok (.iadd, 1) := by decide +kernel
theorem d4_38 : decode prog_1_method_4_code 38 = .ok (.putfield 13, 3) := by decide +kernel
theorem d4_41 : decode prog_1_method_4_code 41 = .ok (.return_, 1) := by decide +kernel
theorem ef_4 (m : MethodId) (x0 : Addr)  : entryFrame m #[(.ref x0)] 1 = mkF m 0 #[.val (.ref x0)] [] := by first | (simp [entryFrame, mkF, argsToLocals, Value.category]; done) | rfl
def Q4 (Z : State) (x0 : Addr) (v : Int32) (k : Int32) (h0 : Heap) (n0 : Nat) (vE : Option Value) (hE : Heap) (LE : List Loc) : Prop := vE = none ∧ Fr n0 LE ∧ Keep h0 hE [x0] ∧ Exa Z hE x0 "com/example/tideloop/tideloop/CatchUp" ∧ Fld Z hE x0 "com/example/tideloop/tideloop/CatchUp" "vain" "I" (.int (if (F5 v k) = (16 : Int32) then (F6 (v + (1 : Int32)) (4 : Int32)) else v)) ∧ Fld Z hE x0 "com/example/tideloop/tideloop/CatchUp" "skipped" "I" (.int (if (F5 v k) = (16 : Int32) then (0 : Int32) else (k + (1 : Int32))))
set_option maxRecDepth 65536 in
set_option maxHeartbeats 40000000 in
theorem rm4 (l : Launch) (Z : State) (a0 : Array Value) (hw : ∀ d ∈ tables_1, d.before a0 Z = true) (ws : List Jvm.Cond) (x0 : Addr) (v : Int32) (k : Int32) (h0 : Heap) (n0 : Nat) (Z0 : n0 ≤ h0.size) (E_x : Exa Z h0 x0 "com/example/tideloop/tideloop/CatchUp") (F_v : Fld Z h0 x0 "com/example/tideloop/tideloop/CatchUp" "vain" "I" (.int v)) (F_s : Fld Z h0 x0 "com/example/tideloop/tideloop/CatchUp" "skipped" "I" (.int k)) (g_x : n0 ≤ x0) :
    MetFree l (⟨"com/example/tideloop/tideloop/CatchUp", "foundNothing", "()V"⟩ : MethodName) (head1 (Jvm.Cond.code (⟨"com/example/tideloop/tideloop/CatchUp", "foundNothing", "()V"⟩ : MethodName) prog_1_method_4_code 1 none :: ws) ({ frames := 1, cells := 0, slots := 0, locals := 14 } : Room)) (fun a U => a = #[(.ref x0)] ∧ Z.Warmed39 U.vm ∧ U.heap = h0) (fun _ _ _ _ _ => True) (fun _ U o U' => ∃ vE LE, o = .returned vE ∧ Q4 Z x0 v k h0 n0 vE U'.heap LE ∧ FrameEnd U o U' LE ({ frames := 1, cells := 0, slots := 0, locals := 14 } : Room).cells ({ frames := 1, cells := 0, slots := 0, locals := 14 } : Room).slots) := by
  refine MetFree.of_bodySF (plainFor_of_name pn_0) hisR ?_
  intro p e s m args below meth c s₁ Bd hml0 hP hK
  obtain ⟨rfl, hZ, hh⟩ := hP
  have hx := Bd.exec
  have hby := Bd.bytes
  have hml : c.maxLocals = 1 := hml0
  have hown : s.vm.findClass "com/example/tideloop/tideloop/CatchUp" = some m.cls := findClass_of_methodNamed Bd.named
  have hnm := (name_of_methodNamed Bd.named Bd.method).1
  have X0 : Stand p l e ({ frames := 1, cells := 0, slots := 0, locals := 14 } : Room) s m #[(.ref x0)] below meth c s₁ [] 0 0 := Stand.of_body Bd
  have e0 : s₁.heap = h0 := by rw [← hh, Bd.state]; rfl
  have N0 := Fr.nil n0
  have st0 : Steps p.tables e below (s₁.setTop (entryFrame m #[(.ref x0)] 1)) (s₁.setTop (mkF m 0 #[.val (.ref x0)] [])) := castTop (ef_4 m x0) (Steps.refl _)
  have K0 : Keep h0 h0 [x0] := Keep.refl _ _
  have st1 : Steps p.tables e below (s₁.setTop (entryFrame m #[(.ref x0)] 1)) (s₁.setTop (mkF m 1 #[.val (.ref x0)] [(.ref x0)])) := st0.trans (by
      show Steps p.tables e below (s₁.setTop (mkF m 0 #[.val (.ref x0)] [])) _
      refine XS.aloadN X0.here hx rfl (hb hby d4_0) rfl rfl ?_
      exact Steps.refl _)
  obtain ⟨cq2, kq2, q2a, q2b, q2c⟩ := isOf hZ e0 E_x
  obtain ⟨_, _, ⟨T2, L2, k2, n2⟩, -, X2, ⟨Lc2, hQ2, l2, y2, z2⟩, sr2⟩ := X0.virtualBack hx (y := (⟨"com/example/tideloop/tideloop/CatchUp", "rounds", "()I"⟩ : MethodName)) (z := (⟨"com/example/tideloop/tideloop/CatchUp", "rounds", "()I"⟩ : MethodName)) hown (mvT hZ (hw _ (List.mem_of_getElem? (i := 19) rfl))) (mvT hZ (hw _ (List.mem_of_getElem? (i := 20) rfl))) (notFace_of_selects (args := #[]) (mvT hZ (hw _ (List.mem_of_getElem? (i := 22) rfl)))) (mvT hZ (hw _ (List.mem_of_getElem? (i := 22) rfl))) (mvT hZ (hw _ (List.mem_of_getElem? (i := 21) rfl))) (by decide) (backOf (W := 0) (rm5 l Z a0 hw [] x0 v k h0 n0 Z0 E_x F_v F_s g_x) hZ (hw _ (List.mem_of_getElem? (i := 23) rfl)) (hw _ (List.mem_of_getElem? (i := 3) rfl)) (by decide) (by decide)) q2a q2c (g := (mkF m 1 #[.val (.ref x0)] [(.ref x0)])) rfl (by rw [hml]; rfl) (Steps.refl _) (argsL := []) (rest := []) (lenOf pd_0 rfl) rfl (by show 2 * 0 + _ ≤ _; exact Nat.le_of_eq rfl) (hb hby d4_1) (fun _ _ => ⟨rfl, e0, (by decide : 0 + 0 ≤ _), (by decide : 0 + 0 ≤ _)⟩)
  dsimp only [Pt.U, Pt.locs, Pt.cells, Pt.slots] at X2 l2 y2 z2 sr2 hQ2
  subst l2 y2 z2
  obtain ⟨rfl, N2q, hh2⟩ := hQ2
  have N2 := Fr.app N0 N2q
  have st3 : Steps p.tables e below (s₁.setTop (entryFrame m #[(.ref x0)] 1)) (T2.setTop (mkF m 4 #[.val (.ref x0)] [(.int (F5 v k))])) := st1.trans (sr2)
  have st4 : Steps p.tables e below (s₁.setTop (entryFrame m #[(.ref x0)] 1)) (T2.setTop (mkF m 6 #[.val (.ref x0)] [(.int (16 : Int32)), (.int (F5 v k))])) := st3.trans (by
      show Steps p.tables e below (T2.setTop (mkF m 4 #[.val (.ref x0)] [(.int (F5 v k))])) _
      refine XS.bipush X2.here hx rfl (hb hby d4_4) ?_
      exact Steps.refl _)
  by_cases hc5 : (F5 v k) = (16 : Int32)
  · have st6 : Steps p.tables e below (s₁.setTop (entryFrame m #[(.ref x0)] 1)) (T2.setTop (mkF m 11 #[.val (.ref x0)] [(.ref x0), (.ref x0)])) := st4.trans (by
        show Steps p.tables e below (T2.setTop (mkF m 6 #[.val (.ref x0)] [(.int (16 : Int32)), (.int (F5 v k))])) _
        refine XS.icmpNo X2.here hx rfl (hb hby d4_6) rfl (teq hc5).2 ?_
        show Steps p.tables e below (T2.setTop (mkF m 9 #[.val (.ref x0)] [])) _
        refine XS.aloadN X2.here hx rfl (hb hby d4_9) rfl rfl ?_
        show Steps p.tables e below (T2.setTop (mkF m 10 #[.val (.ref x0)] [(.ref x0)])) _
        refine XS.aloadN X2.here hx rfl (hb hby d4_10) rfl rfl ?_
        exact Steps.refl _)
    obtain ⟨T7, X7, e7, sr7⟩ := getF X2 hx hZ hown (host := "") (Or.inl (hw _ (List.mem_of_getElem? (i := 24) rfl))) Via.refl hh2 F_v (g := (mkF m 11 #[.val (.ref x0)] [(.ref x0), (.ref x0)])) rfl rfl (hb hby d4_11)
    have st8 : Steps p.tables e below (s₁.setTop (entryFrame m #[(.ref x0)] 1)) (T7.setTop (mkF m 14 #[.val (.ref x0)] [(.int v), (.ref x0)])) := st6.trans (sr7 _ (Steps.refl _))
    have st9 : Steps p.tables e below (s₁.setTop (entryFrame m #[(.ref x0)] 1)) (T7.setTop (mkF m 17 #[.val (.ref x0)] [(.int (4 : Int32)), (.int (v + (1 : Int32))), (.ref x0)])) := st8.trans (by
        show Steps p.tables e below (T7.setTop (mkF m 14 #[.val (.ref x0)] [(.int v), (.ref x0)])) _
        refine XS.iconst X7.here hx rfl (hb hby d4_14) ?_
        show Steps p.tables e below (T7.setTop (mkF m 15 #[.val (.ref x0)] [(.int (1 : Int32)), (.int v), (.ref x0)])) _
        refine XS.iadd X7.here hx rfl (hb hby d4_15) rfl ?_
        show Steps p.tables e below (T7.setTop (mkF m 16 #[.val (.ref x0)] [(.int (v + (1 : Int32))), (.ref x0)])) _
        refine XS.iconst X7.here hx rfl (hb hby d4_16) ?_
        exact Steps.refl _)
    obtain ⟨_, _, ⟨T10, L10, k10, n10⟩, -, X10, ⟨Lc10, hQ10, l10, y10, z10⟩, sr10⟩ := Jvm.LawKit.callS X7 hx (y := (⟨"java/lang/Math", "min", "(II)I"⟩ : MethodName)) hown (mvT hZ (hw _ (List.mem_of_getElem? (i := 26) rfl))) (mvT hZ (hw _ (List.mem_of_getElem? (i := 27) rfl))) (mvT hZ (hw _ (List.mem_of_getElem? (i := 28) rfl))) (mvT hZ (hw _ (List.mem_of_getElem? (i := 29) rfl))) (by decide) (backOf (W := 1) (rm6 l Z a0 hw [] (v + (1 : Int32)) (4 : Int32)  h0 n0 Z0 ) hZ (hw _ (List.mem_of_getElem? (i := 29) rfl)) (hw _ (List.mem_of_getElem? (i := 28) rfl)) (by decide) (by decide)) (g := (mkF m 17 #[.val (.ref x0)] [(.int (4 : Int32)), (.int (v + (1 : Int32))), (.ref x0)])) rfl (by rw [hml]; rfl) (argsL := [(.int (v + (1 : Int32))), (.int (4 : Int32))]) (rest := [(.ref x0)]) (lenOf pd_1 rfl) rfl (by show 2 * 0 + _ ≤ _; exact Nat.le_of_eq rfl) (hb hby d4_17) (fun _ _ => ⟨rfl, e7, (by decide : 0 + 0 ≤ _), (by decide : 0 + 0 ≤ _)⟩)
    dsimp only [Pt.U, Pt.locs, Pt.cells, Pt.slots] at X10 l10 y10 z10 sr10 hQ10
    subst l10 y10 z10
    obtain ⟨rfl, N10q, hh10⟩ := hQ10
    have N10 := Fr.app N2 N10q
    have st11 : Steps p.tables e below (s₁.setTop (entryFrame m #[(.ref x0)] 1)) (T10.setTop (mkF m 20 #[.val (.ref x0)] [(.int (F6 (v + (1 : Int32)) (4 : Int32))), (.ref x0)])) := st9.trans (sr10 _ (Steps.refl _))
    obtain ⟨T12, h12, X12, e12, W12, sr12⟩ := putF X10 hx hZ hown (host := "") (Or.inl (hw _ (List.mem_of_getElem? (i := 24) rfl))) Via.refl hh10 F_v E_x (Or.inl (hw _ (List.mem_of_getElem? (i := 25) rfl))) (hw _ (List.mem_of_getElem? (i := 2) rfl)) (ty := .int) (by decide) rfl rfl (g := (mkF m 20 #[.val (.ref x0)] [(.int (F6 (v + (1 : Int32)) (4 : Int32))), (.ref x0)])) rfl rfl (hb hby d4_20)
    have f13 : Exa Z h12 x0 "com/example/tideloop/tideloop/CatchUp" := E_x.wr W12
    have f14 : Fld Z h12 x0 "com/example/tideloop/tideloop/CatchUp" "skipped" "I" (.int k) := F_s.other W12 (Or.inr (slot_ne (Or.inl (hw _ (List.mem_of_getElem? (i := 31) rfl))) (Or.inl (hw _ (List.mem_of_getElem? (i := 25) rfl))) (by decide) (t := .int) (t' := .int) (by decide) (by decide)))
    have f15 : Fld Z h12 x0 "com/example/tideloop/tideloop/CatchUp" "vain" "I" (.int (F6 (v + (1 : Int32)) (4 : Int32))) := F_v.same W12
    have K16 : Keep h0 h12 [x0] := K0.wr W12 (Or.inl (List.mem_of_getElem? (i := 0) rfl))
    have Z12 : n0 ≤ h12.size := Nat.le_trans Z0 (Keep.of_wr W12).1
    have N12 := Fr.snoc X12 N10 g_x
    have st17 : Steps p.tables e below (s₁.setTop (entryFrame m #[(.ref x0)] 1)) (T12.setTop (mkF m 23 #[.val (.ref x0)] [])) := st11.trans (sr12 _ (Steps.refl _))
    have st18 : Steps p.tables e below (s₁.setTop (entryFrame m #[(.ref x0)] 1)) (T12.setTop (mkF m 25 #[.val (.ref x0)] [(.int (0 : Int32)), (.ref x0)])) := st17.trans (by
        show Steps p.tables e below (T12.setTop (mkF m 23 #[.val (.ref x0)] [])) _
        refine XS.aloadN X12.here hx rfl (hb hby d4_23) rfl rfl ?_
        show Steps p.tables e below (T12.setTop (mkF m 24 #[.val (.ref x0)] [(.ref x0)])) _
        refine XS.iconst X12.here hx rfl (hb hby d4_24) ?_
        exact Steps.refl _)
    obtain ⟨T19, h19, X19, e19, W19, sr19⟩ := putF X12 hx hZ hown (host := "") (Or.inl (hw _ (List.mem_of_getElem? (i := 30) rfl))) Via.refl e12 f14 f13 (Or.inl (hw _ (List.mem_of_getElem? (i := 31) rfl))) (hw _ (List.mem_of_getElem? (i := 2) rfl)) (ty := .int) (by decide) rfl rfl (g := (mkF m 25 #[.val (.ref x0)] [(.int (0 : Int32)), (.ref x0)])) rfl rfl (hb hby d4_25)
    have f20 : Exa Z h19 x0 "com/example/tideloop/tideloop/CatchUp" := f13.wr W19
    have f21 : Fld Z h19 x0 "com/example/tideloop/tideloop/CatchUp" "vain" "I" (.int (F6 (v + (1 : Int32)) (4 : Int32))) := f15.other W19 (Or.inr (slot_ne (Or.inl (hw _ (List.mem_of_getElem? (i := 25) rfl))) (Or.inl (hw _ (List.mem_of_getElem? (i := 31) rfl))) (by decide) (t := .int) (t' := .int) (by decide) (by decide)))
    have f22 : Fld Z h19 x0 "com/example/tideloop/tideloop/CatchUp" "skipped" "I" (.int (0 : Int32)) := f14.same W19
    have K23 : Keep h0 h19 [x0] := K16.wr W19 (Or.inl (List.mem_of_getElem? (i := 0) rfl))
    have Z19 : n0 ≤ h19.size := Nat.le_trans Z12 (Keep.of_wr W19).1
    have N19 := Fr.snoc X19 N12 g_x
    have st24 : Steps p.tables e below (s₁.setTop (entryFrame m #[(.ref x0)] 1)) (T19.setTop (mkF m 28 #[.val (.ref x0)] [])) := st18.trans (sr19 _ (Steps.refl _))
    have st25 : Steps p.tables e below (s₁.setTop (entryFrame m #[(.ref x0)] 1)) (T19.setTop (mkF m 41 #[.val (.ref x0)] [])) := st24.trans (by
        show Steps p.tables e below (T19.setTop (mkF m 28 #[.val (.ref x0)] [])) _
        refine XS.goto X19.here hx rfl (pc0 := 28) (pc' := 41) rfl (hb hby d4_28) (by decide) (by decide) ?_
        exact Steps.refl _)
    obtain ⟨fs, hr, hrun, hended, hW, hsame⟩ := X19.leave (v := none) (fun _ => rfl)
    refine ⟨_, _, st25.trans ?_, hrun, hended, _, _, rfl, ?_, ⟨_, rfl⟩, hW, hsame.mono (by decide) (by decide)⟩
    · exact X19.returnOut hx Bd.returns (hb hby d4_41) hr
    · show Q4 Z x0 v k h0 n0 _ T19.heap _
      rw [e19]
      exact ⟨rfl, N19, K23, f20, (by simp only [if_pos hc5]; exact f21), (by simp only [if_pos hc5]; exact f22)⟩
  · have st26 : Steps p.tables e below (s₁.setTop (entryFrame m #[(.ref x0)] 1)) (T2.setTop (mkF m 33 #[.val (.ref x0)] [(.ref x0), (.ref x0)])) := st4.trans (by
        show Steps p.tables e below (T2.setTop (mkF m 6 #[.val (.ref x0)] [(.int (16 : Int32)), (.int (F5 v k))])) _
        refine XS.icmpYes X2.here hx rfl (pc0 := 6) (pc' := 31) rfl (hb hby d4_6) rfl (feq hc5).2 (by decide) (by decide) ?_
        show Steps p.tables e below (T2.setTop (mkF m 31 #[.val (.ref x0)] [])) _
        refine XS.aloadN X2.here hx rfl (hb hby d4_31) rfl rfl ?_
        show Steps p.tables e below (T2.setTop (mkF m 32 #[.val (.ref x0)] [(.ref x0)])) _
        refine XS.dup X2.here hx rfl (hb hby d4_32) rfl rfl ?_
        exact Steps.refl _)
    obtain ⟨T27, X27, e27, sr27⟩ := getF X2 hx hZ hown (host := "") (Or.inl (hw _ (List.mem_of_getElem? (i := 30) rfl))) Via.refl hh2 F_s (g := (mkF m 33 #[.val (.ref x0)] [(.ref x0), (.ref x0)])) rfl rfl (hb hby d4_33)
    have st28 : Steps p.tables e below (s₁.setTop (entryFrame m #[(.ref x0)] 1)) (T27.setTop (mkF m 36 #[.val (.ref x0)] [(.int k), (.ref x0)])) := st26.trans (sr27 _ (Steps.refl _))
    have st29 : Steps p.tables e below (s₁.setTop (entryFrame m #[(.ref x0)] 1)) (T27.setTop (mkF m 38 #[.val (.ref x0)] [(.int (k + (1 : Int32))), (.ref x0)])) := st28.trans (by
        show Steps p.tables e below (T27.setTop (mkF m 36 #[.val (.ref x0)] [(.int k), (.ref x0)])) _
        refine XS.iconst X27.here hx rfl (hb hby d4_36) ?_
        show Steps p.tables e below (T27.setTop (mkF m 37 #[.val (.ref x0)] [(.int (1 : Int32)), (.int k), (.ref x0)])) _
        refine XS.iadd X27.here hx rfl (hb hby d4_37) rfl ?_
        exact Steps.refl _)
    obtain ⟨T30, h30, X30, e30, W30, sr30⟩ := putF X27 hx hZ hown (host := "") (Or.inl (hw _ (List.mem_of_getElem? (i := 30) rfl))) Via.refl e27 F_s E_x (Or.inl (hw _ (List.mem_of_getElem? (i := 31) rfl))) (hw _ (List.mem_of_getElem? (i := 2) rfl)) (ty := .int) (by decide) rfl rfl (g := (mkF m 38 #[.val (.ref x0)] [(.int (k + (1 : Int32))), (.ref x0)])) rfl rfl (hb hby d4_38)
    have f31 : Exa Z h30 x0 "com/example/tideloop/tideloop/CatchUp" := E_x.wr W30
    have f32 : Fld Z h30 x0 "com/example/tideloop/tideloop/CatchUp" "vain" "I" (.int v) := F_v.other W30 (Or.inr (slot_ne (Or.inl (hw _ (List.mem_of_getElem? (i := 25) rfl))) (Or.inl (hw _ (List.mem_of_getElem? (i := 31) rfl))) (by decide) (t := .int) (t' := .int) (by decide) (by decide)))
    have f33 : Fld Z h30 x0 "com/example/tideloop/tideloop/CatchUp" "skipped" "I" (.int (k + (1 : Int32))) := F_s.same W30
    have K34 : Keep h0 h30 [x0] := K0.wr W30 (Or.inl (List.mem_of_getElem? (i := 0) rfl))
    have Z30 : n0 ≤ h30.size := Nat.le_trans Z0 (Keep.of_wr W30).1
    have N30 := Fr.snoc X30 N2 g_x
    have st35 : Steps p.tables e below (s₁.setTop (entryFrame m #[(.ref x0)] 1)) (T30.setTop (mkF m 41 #[.val (.ref x0)] [])) := st29.trans (sr30 _ (Steps.refl _))
    obtain ⟨fs, hr, hrun, hended, hW, hsame⟩ := X30.leave (v := none) (fun _ => rfl)
    refine ⟨_, _, st35.trans ?_, hrun, hended, _, _, rfl, ?_, ⟨_, rfl⟩, hW, hsame.mono (by decide) (by decide)⟩
    · exact X30.returnOut hx Bd.returns (hb hby d4_41) hr
    · show Q4 Z x0 v k h0 n0 _ T30.heap _
      rw [e30]
      exact ⟨rfl, N30, K34, f31, (by simp only [if_neg hc5]; exact f32), (by simp only [if_neg hc5]; exact f33)⟩
theorem own_rd (v k : Int32) (hv : 0 ≤ v.toInt ∧ v.toInt ≤ 4) (hk : 0 ≤ k.toInt ∧ k.toInt < 31) : F5 v k = (if v < (4 : Int32) then (16 : Int32) else (0 : Int32)) := by
  unfold F5
  by_cases h1 : v < 4
  · rw [if_pos h1, if_pos h1]
  · rw [if_neg h1, if_neg h1]
    have h2 : ¬ k = 1023 := fun q => by subst q; have : (1023 : Int32).toInt = 1023 := by decide
                                        omega
    have e := c_irem k 32 32 (by decide)
    have h3 : ¬ k % 32 = 31 := fun q => by
      have k31 : (31 : Int32).toInt = 31 := by decide
      rw [q, k31] at e; omega
    rw [if_neg h2, if_neg h3]
theorem own_fn (v k : Int32) (hv : 0 ≤ v.toInt ∧ v.toInt ≤ 4) (hk : 0 ≤ k.toInt ∧ k.toInt < 31) : (if F5 v k = 16 then F6 (v + 1) 4 else v) = F6 (v + 1) 4 := by
  rw [own_rd v k hv hk]
  have k4 : (4 : Int32).toInt = 4 := by decide
  have k1 : (1 : Int32).toInt = 1 := by decide
  by_cases h1 : v < 4
  · rw [if_pos h1, if_pos rfl]
  · rw [if_neg h1, if_neg (by decide)]
    have e := c_iadd v 1
    have r := rng32 (v + 1)
    rw [k1] at e
    rw [Int32.lt_iff_toInt_lt] at h1
    have h2 : (4 : Int32) < v + 1 := by rw [Int32.lt_iff_toInt_lt]; omega
    unfold F6
    rw [if_pos h2]
    apply Int32.toInt_inj.mp; omega
theorem own_mn (v : Int32) (hv : 0 ≤ v.toInt ∧ v.toInt ≤ 4) : 0 ≤ (F6 (v + 1) 4).toInt ∧ (F6 (v + 1) 4).toInt ≤ 4 := by
  have k4 : (4 : Int32).toInt = 4 := by decide
  have k1 : (1 : Int32).toInt = 1 := by decide
  have e := c_iadd v 1
  have r := rng32 (v + 1)
  rw [k1] at e
  unfold F6
  split
  · decide
  · rename_i h; rw [Int32.lt_iff_toInt_lt] at h; omega
theorem pd_2 : parseMethodDescriptor "()V" = some ⟨[], none⟩ := by decide +kernel
theorem d3_0 : decode method_2_code 0 = .ok (.iload_n 2, 1) := by decide +kernel
theorem d3_1 : decode method_2_code 1 = .ok (.iload_n 3, 1) := by decide +kernel
theorem d3_2 : decode method_2_code 2 = .ok (.if_icmp .lt 6, 3) := by decide +kernel
theorem d3_5 : decode method_2_code 5 = .ok (.iload 4, 2) := by decide +kernel
theorem d3_7 : decode method_2_code 7 = .ok (.ireturn, 1) := by decide +kernel
theorem d3_8 : decode method_2_code 8 = .ok (.iload_n 1, 1) := by decide +kernel
theorem d3_9 : decode method_2_code 9 = .ok (.iload_n 2, 1) := by decide +kernel
theorem d3_10 : decode method_2_code 10 = .ok (.iushr, 1) := by decide +kernel
theorem d3_11 : decode method_2_code 11 = .ok (.iconst 1, 1) := by decide +kernel
theorem d3_12 : decode method_2_code 12 = .ok (.iand, 1) := by decide +kernel
theorem d3_13 : decode method_2_code 13 = .ok (.ifCond .eq 9, 3) := by decide +kernel
theorem d3_16 : decode method_2_code 16 = .ok (.aload_n 0, 1) := by decide +kernel
theorem d3_17 : decode method_2_code 17 = .ok (.invokevirtual 7, 3) := by decide +kernel
theorem d3_20 : decode method_2_code 20 = .ok (.iconst 0, 1) := by decide +kernel
theorem d3_21 : decode method_2_code 21 = .ok (.ireturn, 1) := by decide +kernel
theorem d3_22 : decode method_2_code 22 = .ok (.aload_n 0, 1) := by decide +kernel
theorem d3_23 : decode method_2_code 23 = .ok (.invokevirtual 12, 3) := by decide +kernel
theorem d3_26 : decode method_2_code 26 = .ok (.iload 4, 2) := by decide +kernel
theorem d3_28 : decode method_2_code 28 = .ok (.iconst 1, 1) := by decide +kernel
theorem d3_29 : decode method_2_code 29 = .ok (.iadd, 1) := by decide +kernel
theorem d3_30 : decode method_2_code 30 = .ok (.iconst 4, 1) := by decide +kernel
theorem d3_31 : decode method_2_code 31 = .ok (.invokestatic 15, 3) := by decide +kernel
theorem d3_34 : decode method_2_code 34 = .ok (.ireturn, 1) := by decide +kernel
theorem pn_1 : plainName "com/example/tideloop/tideloop/CatchUpRoundsPinLaw" = true := by first | (simp [plainName, overriddenIn]; done) | decide +kernel
theorem ef_3 (m : MethodId) (x0 : Addr) (x1 : Int32) (x2 : Int32) (x3 : Int32) (x4 : Int32)  : entryFrame m #[(.ref x0), (.int x1), (.int x2), (.int x3), (.int x4)] 5 = mkF m 0 #[.val (.ref x0), .val (.int x1), .val (.int x2), .val (.int x3), .val (.int x4)] [] := by first | (simp [entryFrame, mkF, argsToLocals, Value.category]; done) | rfl
def F3 (x1 : Int32) (x2 : Int32) (x3 : Int32) (x4 : Int32) : Int32 := if x2 < x3 then (if (((x1.toUInt32 >>> (x2 &&& 31).toUInt32).toInt32) &&& (1 : Int32)) = (0 : Int32) then (F6 (x4 + (1 : Int32)) (4 : Int32)) else (0 : Int32)) else x4
def Q3 (Z : State) (x0 : Addr) (x1 : Int32) (x2 : Int32) (x3 : Int32) (x4 : Int32) (k : Int32) (h0 : Heap) (n0 : Nat) (vE : Option Value) (hE : Heap) (LE : List Loc) : Prop := vE = some (.int (F3 x1 x2 x3 x4)) ∧ Fr n0 LE ∧ Keep h0 hE [x0] ∧ Exa Z hE x0 "com/example/tideloop/tideloop/CatchUp" ∧ Fld Z hE x0 "com/example/tideloop/tideloop/CatchUp" "vain" "I" (.int (F3 x1 x2 x3 x4)) ∧ Fld Z hE x0 "com/example/tideloop/tideloop/CatchUp" "skipped" "I" (.int (if x2 < x3 then (if (((x1.toUInt32 >>> (x2 &&& 31).toUInt32).toInt32) &&& (1 : Int32)) = (0 : Int32) then (if (F5 x4 k) = (16 : Int32) then (0 : Int32) else (k + (1 : Int32))) else k) else k))
set_option maxRecDepth 65536 in
set_option maxHeartbeats 40000000 in
theorem rm3 (l : Launch) (Z : State) (a0 : Array Value) (hw : ∀ d ∈ tables_1, d.before a0 Z = true) (ws : List Jvm.Cond) (x0 : Addr) (x1 : Int32) (x2 : Int32) (x3 : Int32) (x4 : Int32) (k : Int32) (h0 : Heap) (n0 : Nat) (Z0 : n0 ≤ h0.size) (E_x : Exa Z h0 x0 "com/example/tideloop/tideloop/CatchUp") (F_v : Fld Z h0 x0 "com/example/tideloop/tideloop/CatchUp" "vain" "I" (.int x4)) (F_s : Fld Z h0 x0 "com/example/tideloop/tideloop/CatchUp" "skipped" "I" (.int k)) (g_x : n0 ≤ x0) (hv : 0 ≤ x4.toInt ∧ x4.toInt ≤ 4) (hk : 0 ≤ k.toInt ∧ k.toInt < 31) :
    MetFree l (⟨"com/example/tideloop/tideloop/CatchUpRoundsPinLaw", "step", "(Lcom/example/tideloop/tideloop/CatchUp;IIII)I"⟩ : MethodName) (head1 (Jvm.Cond.code (⟨"com/example/tideloop/tideloop/CatchUpRoundsPinLaw", "step", "(Lcom/example/tideloop/tideloop/CatchUp;IIII)I"⟩ : MethodName) method_2_code 5 (some .int) :: ws) ({ frames := 2, cells := 0, slots := 0, locals := 26 } : Room)) (fun a U => a = #[(.ref x0), (.int x1), (.int x2), (.int x3), (.int x4)] ∧ Z.Warmed39 U.vm ∧ U.heap = h0) (fun _ _ _ _ _ => True) (fun _ U o U' => ∃ vE LE, o = .returned vE ∧ Q3 Z x0 x1 x2 x3 x4 k h0 n0 vE U'.heap LE ∧ FrameEnd U o U' LE ({ frames := 2, cells := 0, slots := 0, locals := 26 } : Room).cells ({ frames := 2, cells := 0, slots := 0, locals := 26 } : Room).slots) := by
  refine MetFree.of_bodySF (plainFor_of_name pn_1) hisR ?_
  intro p e s m args below meth c s₁ Bd hml0 hP hK
  obtain ⟨rfl, hZ, hh⟩ := hP
  have hx := Bd.exec
  have hby := Bd.bytes
  have hml : c.maxLocals = 5 := hml0
  have hown : s.vm.findClass "com/example/tideloop/tideloop/CatchUpRoundsPinLaw" = some m.cls := findClass_of_methodNamed Bd.named
  have hnm := (name_of_methodNamed Bd.named Bd.method).1
  have X0 : Stand p l e ({ frames := 2, cells := 0, slots := 0, locals := 26 } : Room) s m #[(.ref x0), (.int x1), (.int x2), (.int x3), (.int x4)] below meth c s₁ [] 0 0 := Stand.of_body Bd
  have e0 : s₁.heap = h0 := by rw [← hh, Bd.state]; rfl
  have N0 := Fr.nil n0
  have st0 : Steps p.tables e below (s₁.setTop (entryFrame m #[(.ref x0), (.int x1), (.int x2), (.int x3), (.int x4)] 5)) (s₁.setTop (mkF m 0 #[.val (.ref x0), .val (.int x1), .val (.int x2), .val (.int x3), .val (.int x4)] [])) := castTop (ef_3 m x0 x1 x2 x3 x4) (Steps.refl _)
  have K0 : Keep h0 h0 [x0] := Keep.refl _ _
  have st1 : Steps p.tables e below (s₁.setTop (entryFrame m #[(.ref x0), (.int x1), (.int x2), (.int x3), (.int x4)] 5)) (s₁.setTop (mkF m 2 #[.val (.ref x0), .val (.int x1), .val (.int x2), .val (.int x3), .val (.int x4)] [(.int x3), (.int x2)])) := st0.trans (by
      show Steps p.tables e below (s₁.setTop (mkF m 0 #[.val (.ref x0), .val (.int x1), .val (.int x2), .val (.int x3), .val (.int x4)] [])) _
      refine XS.iloadN X0.here hx rfl (hb hby d3_0) rfl ?_
      show Steps p.tables e below (s₁.setTop (mkF m 1 #[.val (.ref x0), .val (.int x1), .val (.int x2), .val (.int x3), .val (.int x4)] [(.int x2)])) _
      refine XS.iloadN X0.here hx rfl (hb hby d3_1) rfl ?_
      exact Steps.refl _)
  by_cases hc2 : x2 < x3
  · have st3 : Steps p.tables e below (s₁.setTop (entryFrame m #[(.ref x0), (.int x1), (.int x2), (.int x3), (.int x4)] 5)) (s₁.setTop (mkF m 13 #[.val (.ref x0), .val (.int x1), .val (.int x2), .val (.int x3), .val (.int x4)] [(.int (((x1.toUInt32 >>> (x2 &&& 31).toUInt32).toInt32) &&& (1 : Int32)))])) := st1.trans (by
        show Steps p.tables e below (s₁.setTop (mkF m 2 #[.val (.ref x0), .val (.int x1), .val (.int x2), .val (.int x3), .val (.int x4)] [(.int x3), (.int x2)])) _
        refine XS.icmpYes X0.here hx rfl (pc0 := 2) (pc' := 8) rfl (hb hby d3_2) rfl (tlt hc2).1 (by decide) (by decide) ?_
        show Steps p.tables e below (s₁.setTop (mkF m 8 #[.val (.ref x0), .val (.int x1), .val (.int x2), .val (.int x3), .val (.int x4)] [])) _
        refine XS.iloadN X0.here hx rfl (hb hby d3_8) rfl ?_
        show Steps p.tables e below (s₁.setTop (mkF m 9 #[.val (.ref x0), .val (.int x1), .val (.int x2), .val (.int x3), .val (.int x4)] [(.int x1)])) _
        refine XS.iloadN X0.here hx rfl (hb hby d3_9) rfl ?_
        show Steps p.tables e below (s₁.setTop (mkF m 10 #[.val (.ref x0), .val (.int x1), .val (.int x2), .val (.int x3), .val (.int x4)] [(.int x2), (.int x1)])) _
        refine XS.iushr X0.here hx rfl (hb hby d3_10) rfl ?_
        show Steps p.tables e below (s₁.setTop (mkF m 11 #[.val (.ref x0), .val (.int x1), .val (.int x2), .val (.int x3), .val (.int x4)] [(.int ((x1.toUInt32 >>> (x2 &&& 31).toUInt32).toInt32))])) _
        refine XS.iconst X0.here hx rfl (hb hby d3_11) ?_
        show Steps p.tables e below (s₁.setTop (mkF m 12 #[.val (.ref x0), .val (.int x1), .val (.int x2), .val (.int x3), .val (.int x4)] [(.int (1 : Int32)), (.int ((x1.toUInt32 >>> (x2 &&& 31).toUInt32).toInt32))])) _
        refine XS.iand X0.here hx rfl (hb hby d3_12) rfl ?_
        exact Steps.refl _)
    by_cases hc4 : (((x1.toUInt32 >>> (x2 &&& 31).toUInt32).toInt32) &&& (1 : Int32)) = (0 : Int32)
    · have st5 : Steps p.tables e below (s₁.setTop (entryFrame m #[(.ref x0), (.int x1), (.int x2), (.int x3), (.int x4)] 5)) (s₁.setTop (mkF m 23 #[.val (.ref x0), .val (.int x1), .val (.int x2), .val (.int x3), .val (.int x4)] [(.ref x0)])) := st3.trans (by
          show Steps p.tables e below (s₁.setTop (mkF m 13 #[.val (.ref x0), .val (.int x1), .val (.int x2), .val (.int x3), .val (.int x4)] [(.int (((x1.toUInt32 >>> (x2 &&& 31).toUInt32).toInt32) &&& (1 : Int32)))])) _
          refine XS.ifYes X0.here hx rfl (pc0 := 13) (pc' := 22) rfl (hb hby d3_13) rfl ((if0 _ _).trans (teq hc4).1) (by decide) (by decide) ?_
          show Steps p.tables e below (s₁.setTop (mkF m 22 #[.val (.ref x0), .val (.int x1), .val (.int x2), .val (.int x3), .val (.int x4)] [])) _
          refine XS.aloadN X0.here hx rfl (hb hby d3_22) rfl rfl ?_
          exact Steps.refl _)
      obtain ⟨cq6, kq6, q6a, q6b, q6c⟩ := isOf hZ e0 E_x
      obtain ⟨_, _, ⟨T6, L6, k6, n6⟩, -, X6, ⟨Lc6, hQ6, l6, y6, z6⟩, sr6⟩ := X0.virtualBack hx (y := (⟨"com/example/tideloop/tideloop/CatchUp", "foundNothing", "()V"⟩ : MethodName)) (z := (⟨"com/example/tideloop/tideloop/CatchUp", "foundNothing", "()V"⟩ : MethodName)) hown (mvT hZ (hw _ (List.mem_of_getElem? (i := 14) rfl))) (mvT hZ (hw _ (List.mem_of_getElem? (i := 15) rfl))) (notFace_of_selects (args := #[]) (mvT hZ (hw _ (List.mem_of_getElem? (i := 17) rfl)))) (mvT hZ (hw _ (List.mem_of_getElem? (i := 17) rfl))) (mvT hZ (hw _ (List.mem_of_getElem? (i := 16) rfl))) (by decide) (backOf (W := 0) (rm4 l Z a0 hw [] x0 x4 k h0 n0 Z0 E_x F_v F_s g_x) hZ (hw _ (List.mem_of_getElem? (i := 18) rfl)) (hw _ (List.mem_of_getElem? (i := 3) rfl)) (by decide) (by decide)) q6a q6c (g := (mkF m 23 #[.val (.ref x0), .val (.int x1), .val (.int x2), .val (.int x3), .val (.int x4)] [(.ref x0)])) rfl (by rw [hml]; rfl) (Steps.refl _) (argsL := []) (rest := []) (lenOf pd_2 rfl) rfl (by show 2 * 0 + _ ≤ _; exact Nat.le_of_eq rfl) (hb hby d3_23) (fun _ _ => ⟨rfl, e0, (by decide : 0 + 0 ≤ _), (by decide : 0 + 0 ≤ _)⟩)
      dsimp only [Pt.U, Pt.locs, Pt.cells, Pt.slots] at X6 l6 y6 z6 sr6 hQ6
      subst l6 y6 z6
      obtain ⟨rfl, N6q, K6c, f6_0, f6_1, f6_2⟩ := hQ6
      have N6 := Fr.app N0 N6q
      have f7 : Exa Z T6.heap x0 "com/example/tideloop/tideloop/CatchUp" := E_x.keep K6c
      have K8 : Keep h0 T6.heap [x0] := K0.trans K6c (allS (Or.inl (List.mem_of_getElem? (i := 0) rfl)) all0)
      have Z9 : n0 ≤ T6.heap.size := Nat.le_trans Z0 K6c.1
      have st10 : Steps p.tables e below (s₁.setTop (entryFrame m #[(.ref x0), (.int x1), (.int x2), (.int x3), (.int x4)] 5)) (T6.setTop (mkF m 26 #[.val (.ref x0), .val (.int x1), .val (.int x2), .val (.int x3), .val (.int x4)] [])) := st5.trans (sr6)
      have st11 : Steps p.tables e below (s₁.setTop (entryFrame m #[(.ref x0), (.int x1), (.int x2), (.int x3), (.int x4)] 5)) (T6.setTop (mkF m 31 #[.val (.ref x0), .val (.int x1), .val (.int x2), .val (.int x3), .val (.int x4)] [(.int (4 : Int32)), (.int (x4 + (1 : Int32)))])) := st10.trans (by
          show Steps p.tables e below (T6.setTop (mkF m 26 #[.val (.ref x0), .val (.int x1), .val (.int x2), .val (.int x3), .val (.int x4)] [])) _
          refine XS.iload X6.here hx rfl (hb hby d3_26) rfl ?_
          show Steps p.tables e below (T6.setTop (mkF m 28 #[.val (.ref x0), .val (.int x1), .val (.int x2), .val (.int x3), .val (.int x4)] [(.int x4)])) _
          refine XS.iconst X6.here hx rfl (hb hby d3_28) ?_
          show Steps p.tables e below (T6.setTop (mkF m 29 #[.val (.ref x0), .val (.int x1), .val (.int x2), .val (.int x3), .val (.int x4)] [(.int (1 : Int32)), (.int x4)])) _
          refine XS.iadd X6.here hx rfl (hb hby d3_29) rfl ?_
          show Steps p.tables e below (T6.setTop (mkF m 30 #[.val (.ref x0), .val (.int x1), .val (.int x2), .val (.int x3), .val (.int x4)] [(.int (x4 + (1 : Int32)))])) _
          refine XS.iconst X6.here hx rfl (hb hby d3_30) ?_
          exact Steps.refl _)
      obtain ⟨_, _, ⟨T12, L12, k12, n12⟩, -, X12, ⟨Lc12, hQ12, l12, y12, z12⟩, sr12⟩ := Jvm.LawKit.callS X6 hx (y := (⟨"java/lang/Math", "min", "(II)I"⟩ : MethodName)) hown (mvT hZ (hw _ (List.mem_of_getElem? (i := 32) rfl))) (mvT hZ (hw _ (List.mem_of_getElem? (i := 27) rfl))) (mvT hZ (hw _ (List.mem_of_getElem? (i := 28) rfl))) (mvT hZ (hw _ (List.mem_of_getElem? (i := 29) rfl))) (by decide) (backOf (W := 0) (rm6 l Z a0 hw [] (x4 + (1 : Int32)) (4 : Int32)  T6.heap n0 Z9 ) hZ (hw _ (List.mem_of_getElem? (i := 29) rfl)) (hw _ (List.mem_of_getElem? (i := 28) rfl)) (by decide) (by decide)) (g := (mkF m 31 #[.val (.ref x0), .val (.int x1), .val (.int x2), .val (.int x3), .val (.int x4)] [(.int (4 : Int32)), (.int (x4 + (1 : Int32)))])) rfl (by rw [hml]; rfl) (argsL := [(.int (x4 + (1 : Int32))), (.int (4 : Int32))]) (rest := []) (lenOf pd_1 rfl) rfl (by show 2 * 0 + _ ≤ _; exact Nat.le_of_eq rfl) (hb hby d3_31) (fun _ _ => ⟨rfl, rfl, (by decide : 0 + 0 ≤ _), (by decide : 0 + 0 ≤ _)⟩)
      dsimp only [Pt.U, Pt.locs, Pt.cells, Pt.slots] at X12 l12 y12 z12 sr12 hQ12
      subst l12 y12 z12
      obtain ⟨rfl, N12q, hh12⟩ := hQ12
      have N12 := Fr.app N6 N12q
      have st13 : Steps p.tables e below (s₁.setTop (entryFrame m #[(.ref x0), (.int x1), (.int x2), (.int x3), (.int x4)] 5)) (T12.setTop (mkF m 34 #[.val (.ref x0), .val (.int x1), .val (.int x2), .val (.int x3), .val (.int x4)] [(.int (F6 (x4 + (1 : Int32)) (4 : Int32)))])) := st11.trans (sr12 _ (Steps.refl _))
      obtain ⟨fs, hr, hrun, hended, hW, hsame⟩ := X12.leave (v := some (.int (F6 (x4 + (1 : Int32)) (4 : Int32)))) (fun h => by rw [Bd.returns] at h; cases h)
      refine ⟨_, _, st13.trans ?_, hrun, hended, _, _, rfl, ?_, ⟨_, rfl⟩, hW, hsame.mono (by decide) (by decide)⟩
      · exact retI X12 hx Bd.returns (hb hby d3_34) hr
      · show Q3 Z x0 x1 x2 x3 x4 k h0 n0 _ T12.heap _
        rw [hh12]
        exact ⟨by rw [F3, if_pos hc2, if_pos hc4], N12, K8, f6_0, (by rw [F3, if_pos hc2, if_pos hc4]; rw [own_fn x4 k hv hk] at f6_1; exact f6_1), (by rw [if_pos hc2, if_pos hc4]; exact f6_2)⟩
    · have st14 : Steps p.tables e below (s₁.setTop (entryFrame m #[(.ref x0), (.int x1), (.int x2), (.int x3), (.int x4)] 5)) (s₁.setTop (mkF m 17 #[.val (.ref x0), .val (.int x1), .val (.int x2), .val (.int x3), .val (.int x4)] [(.ref x0)])) := st3.trans (by
          show Steps p.tables e below (s₁.setTop (mkF m 13 #[.val (.ref x0), .val (.int x1), .val (.int x2), .val (.int x3), .val (.int x4)] [(.int (((x1.toUInt32 >>> (x2 &&& 31).toUInt32).toInt32) &&& (1 : Int32)))])) _
          refine XS.ifNo X0.here hx rfl (hb hby d3_13) rfl ((if0 _ _).trans (feq hc4).1) ?_
          show Steps p.tables e below (s₁.setTop (mkF m 16 #[.val (.ref x0), .val (.int x1), .val (.int x2), .val (.int x3), .val (.int x4)] [])) _
          refine XS.aloadN X0.here hx rfl (hb hby d3_16) rfl rfl ?_
          exact Steps.refl _)
      obtain ⟨cq15, kq15, q15a, q15b, q15c⟩ := isOf hZ e0 E_x
      obtain ⟨_, _, ⟨T15, L15, k15, n15⟩, -, X15, ⟨Lc15, hQ15, l15, y15, z15⟩, sr15⟩ := X0.virtualBack hx (y := (⟨"com/example/tideloop/tideloop/CatchUp", "found", "()V"⟩ : MethodName)) (z := (⟨"com/example/tideloop/tideloop/CatchUp", "found", "()V"⟩ : MethodName)) hown (mvT hZ (hw _ (List.mem_of_getElem? (i := 34) rfl))) (mvT hZ (hw _ (List.mem_of_getElem? (i := 35) rfl))) (notFace_of_selects (args := #[]) (mvT hZ (hw _ (List.mem_of_getElem? (i := 37) rfl)))) (mvT hZ (hw _ (List.mem_of_getElem? (i := 37) rfl))) (mvT hZ (hw _ (List.mem_of_getElem? (i := 36) rfl))) (by decide) (backOf (W := 0) (rm7 l Z a0 hw [] x0 x4 k h0 n0 Z0 E_x F_v F_s g_x) hZ (hw _ (List.mem_of_getElem? (i := 38) rfl)) (hw _ (List.mem_of_getElem? (i := 3) rfl)) (by decide) (by decide)) q15a q15c (g := (mkF m 17 #[.val (.ref x0), .val (.int x1), .val (.int x2), .val (.int x3), .val (.int x4)] [(.ref x0)])) rfl (by rw [hml]; rfl) (Steps.refl _) (argsL := []) (rest := []) (lenOf pd_2 rfl) rfl (by show 2 * 0 + _ ≤ _; exact Nat.le_of_eq rfl) (hb hby d3_17) (fun _ _ => ⟨rfl, e0, (by decide : 0 + 0 ≤ _), (by decide : 0 + 0 ≤ _)⟩)
      dsimp only [Pt.U, Pt.locs, Pt.cells, Pt.slots] at X15 l15 y15 z15 sr15 hQ15
      subst l15 y15 z15
      obtain ⟨rfl, N15q, K15c, f15_0, f15_1, f15_2⟩ := hQ15
      have N15 := Fr.app N0 N15q
      have f16 : Exa Z T15.heap x0 "com/example/tideloop/tideloop/CatchUp" := E_x.keep K15c
      have K17 : Keep h0 T15.heap [x0] := K0.trans K15c (allS (Or.inl (List.mem_of_getElem? (i := 0) rfl)) all0)
      have Z18 : n0 ≤ T15.heap.size := Nat.le_trans Z0 K15c.1
      have st19 : Steps p.tables e below (s₁.setTop (entryFrame m #[(.ref x0), (.int x1), (.int x2), (.int x3), (.int x4)] 5)) (T15.setTop (mkF m 20 #[.val (.ref x0), .val (.int x1), .val (.int x2), .val (.int x3), .val (.int x4)] [])) := st14.trans (sr15)
      have st20 : Steps p.tables e below (s₁.setTop (entryFrame m #[(.ref x0), (.int x1), (.int x2), (.int x3), (.int x4)] 5)) (T15.setTop (mkF m 21 #[.val (.ref x0), .val (.int x1), .val (.int x2), .val (.int x3), .val (.int x4)] [(.int (0 : Int32))])) := st19.trans (by
          show Steps p.tables e below (T15.setTop (mkF m 20 #[.val (.ref x0), .val (.int x1), .val (.int x2), .val (.int x3), .val (.int x4)] [])) _
          refine XS.iconst X15.here hx rfl (hb hby d3_20) ?_
          exact Steps.refl _)
      obtain ⟨fs, hr, hrun, hended, hW, hsame⟩ := X15.leave (v := some (.int (0 : Int32))) (fun h => by rw [Bd.returns] at h; cases h)
      refine ⟨_, _, st20.trans ?_, hrun, hended, _, _, rfl, ?_, ⟨_, rfl⟩, hW, hsame.mono (by decide) (by decide)⟩
      · exact retI X15 hx Bd.returns (hb hby d3_21) hr
      · show Q3 Z x0 x1 x2 x3 x4 k h0 n0 _ T15.heap _
        exact ⟨by rw [F3, if_pos hc2, if_neg hc4], N15, K17, f15_0, (by rw [F3, if_pos hc2, if_neg hc4]; exact f15_1), (by rw [if_pos hc2, if_neg hc4]; exact f15_2)⟩
  · have st21 : Steps p.tables e below (s₁.setTop (entryFrame m #[(.ref x0), (.int x1), (.int x2), (.int x3), (.int x4)] 5)) (s₁.setTop (mkF m 7 #[.val (.ref x0), .val (.int x1), .val (.int x2), .val (.int x3), .val (.int x4)] [(.int x4)])) := st1.trans (by
        show Steps p.tables e below (s₁.setTop (mkF m 2 #[.val (.ref x0), .val (.int x1), .val (.int x2), .val (.int x3), .val (.int x4)] [(.int x3), (.int x2)])) _
        refine XS.icmpNo X0.here hx rfl (hb hby d3_2) rfl (flt hc2).1 ?_
        show Steps p.tables e below (s₁.setTop (mkF m 5 #[.val (.ref x0), .val (.int x1), .val (.int x2), .val (.int x3), .val (.int x4)] [])) _
        refine XS.iload X0.here hx rfl (hb hby d3_5) rfl ?_
        exact Steps.refl _)
    obtain ⟨fs, hr, hrun, hended, hW, hsame⟩ := X0.leave (v := some (.int x4)) (fun h => by rw [Bd.returns] at h; cases h)
    refine ⟨_, _, st21.trans ?_, hrun, hended, _, _, rfl, ?_, ⟨_, rfl⟩, hW, hsame.mono (by decide) (by decide)⟩
    · exact retI X0 hx Bd.returns (hb hby d3_7) hr
    · show Q3 Z x0 x1 x2 x3 x4 k h0 n0 _ s₁.heap _
      rw [e0]
      exact ⟨by rw [F3, if_neg hc2], N0, K0, E_x, (by rw [F3, if_neg hc2]; exact F_v), (by rw [if_neg hc2]; exact F_s)⟩
theorem own_sv (x1 x2 x3 x4 : Int32) (hv : 0 ≤ x4.toInt ∧ x4.toInt ≤ 4) : 0 ≤ (F3 x1 x2 x3 x4).toInt ∧ (F3 x1 x2 x3 x4).toInt ≤ 4 := by
  unfold F3
  split
  · split
    · exact own_mn x4 hv
    · decide
  · exact hv
theorem own_sk (x1 x2 x3 x4 k : Int32) (j : Int) (hj : j < 30) (hk : 0 ≤ k.toInt ∧ k.toInt ≤ j) : 0 ≤ (if x2 < x3 then (if (((x1.toUInt32 >>> (x2 &&& 31).toUInt32).toInt32) &&& (1 : Int32)) = (0 : Int32) then (if (F5 x4 k) = (16 : Int32) then (0 : Int32) else (k + (1 : Int32))) else k) else k).toInt ∧ (if x2 < x3 then (if (((x1.toUInt32 >>> (x2 &&& 31).toUInt32).toInt32) &&& (1 : Int32)) = (0 : Int32) then (if (F5 x4 k) = (16 : Int32) then (0 : Int32) else (k + (1 : Int32))) else k) else k).toInt ≤ j + 1 := by
  have k1 : (1 : Int32).toInt = 1 := by decide
  have k0 : (0 : Int32).toInt = 0 := by decide
  have e := c_iadd k 1
  have r := rng32 (k + 1)
  rw [k1] at e
  split
  · split
    · split
      · omega
      · omega
    · omega
  · omega
theorem pd_3 : parseMethodDescriptor "(Lcom/example/tideloop/tideloop/CatchUp;IIII)I" = some ⟨[(.object "com/example/tideloop/tideloop/CatchUp"), .int, .int, .int, .int], some .int⟩ := by decide +kernel
theorem ef_0 (m : MethodId) (x0 : Int32) (x1 : Int32)  : entryFrame m #[(.int x0), (.int x1)] maxLocals = mkF m 0 #[.val (.int x0), .val (.int x1), .unset, .unset, .unset, .unset] [] := by first | (simp [entryFrame, mkF, argsToLocals, Value.category, maxLocals]; done) | rfl
def Q0 (Z : State) (x0 : Int32) (x1 : Int32) (h0 : Heap) (n0 : Nat) (vE : Option Value) (hE : Heap) (LE : List Loc) : Prop := vE = some (.int (1 : Int32)) ∧ Fr n0 LE
set_option maxRecDepth 65536 in
set_option maxHeartbeats 40000000 in
theorem rm0 (l : Launch) (Z : State) (a0 : Array Value) (hw : ∀ d ∈ tables_1, d.before a0 Z = true) (ws : List Jvm.Cond) (x0 : Int32) (x1 : Int32) (h0 : Heap) (n0 : Nat) (Z0 : n0 ≤ h0.size) :
    MetFree l x (head1 (Jvm.Cond.code x code maxLocals ret :: ws) room_1) (fun a U => a = #[(.int x0), (.int x1)] ∧ Z.Warmed39 U.vm ∧ U.heap = h0) (fun _ _ _ _ _ => True) (fun _ U o U' => ∃ vE LE, o = .returned vE ∧ Q0 Z x0 x1 h0 n0 vE U'.heap LE ∧ FrameEnd U o U' LE room_1.cells room_1.slots) := by
  refine MetFree.of_bodySF (plainFor_of_name pn_1) hisR ?_
  intro p e s m args below meth c s₁ Bd hml0 hP hK
  obtain ⟨rfl, hZ, hh⟩ := hP
  have hx := Bd.exec
  have hby := Bd.bytes
  have hml : c.maxLocals = 6 := hml0
  have hown : s.vm.findClass "com/example/tideloop/tideloop/CatchUpRoundsPinLaw" = some m.cls := findClass_of_methodNamed Bd.named
  have hnm := (name_of_methodNamed Bd.named Bd.method).1
  have X0 : Stand p l e room_1 s m #[(.int x0), (.int x1)] below meth c s₁ [] 0 0 := Stand.of_body Bd
  have e0 : s₁.heap = h0 := by rw [← hh, Bd.state]; rfl
  have N0 := Fr.nil n0
  have st0 : Steps p.tables e below (s₁.setTop (entryFrame m #[(.int x0), (.int x1)] maxLocals)) (s₁.setTop (mkF m 0 #[.val (.int x0), .val (.int x1), .unset, .unset, .unset, .unset] [])) := castTop (ef_0 m x0 x1) (Steps.refl _)
  have hv0 : 0 ≤ (0 : Int32).toInt ∧ (0 : Int32).toInt ≤ 4 := by decide
  have hk0 : 0 ≤ (0 : Int32).toInt ∧ (0 : Int32).toInt ≤ 0 := by decide
  have st1 : Steps p.tables e below (s₁.setTop (entryFrame m #[(.int x0), (.int x1)] maxLocals)) (s₁.setTop (mkF m 8 #[.val (.int x0), .val (.int x1), .val (.int ((x1 &&& (2147483647 : Int32)) % (9 : Int32))), .unset, .unset, .unset] [])) := st0.trans (by
      show Steps p.tables e below (s₁.setTop (mkF m 0 #[.val (.int x0), .val (.int x1), .unset, .unset, .unset, .unset] [])) _
      refine XS.iloadN X0.here hx rfl (hb hby at_0) rfl ?_
      show Steps p.tables e below (s₁.setTop (mkF m 1 #[.val (.int x0), .val (.int x1), .unset, .unset, .unset, .unset] [(.int x1)])) _
      refine X0.ldcInt hx hown (mvT hZ (hw _ (List.mem_of_getElem? (i := 0) rfl))) (g := (mkF m 1 #[.val (.int x0), .val (.int x1), .unset, .unset, .unset, .unset] [(.int x1)])) rfl (hb hby at_1) _ ?_
      show Steps p.tables e below (s₁.setTop (mkF m 3 #[.val (.int x0), .val (.int x1), .unset, .unset, .unset, .unset] [(.int (2147483647 : Int32)), (.int x1)])) _
      refine XS.iand X0.here hx rfl (hb hby at_3) rfl ?_
      show Steps p.tables e below (s₁.setTop (mkF m 4 #[.val (.int x0), .val (.int x1), .unset, .unset, .unset, .unset] [(.int (x1 &&& (2147483647 : Int32)))])) _
      refine XS.bipush X0.here hx rfl (hb hby at_4) ?_
      show Steps p.tables e below (s₁.setTop (mkF m 6 #[.val (.int x0), .val (.int x1), .unset, .unset, .unset, .unset] [(.int (9 : Int32)), (.int (x1 &&& (2147483647 : Int32)))])) _
      refine iremM X0 hx rfl (hb hby at_6) rfl (by decide) ?_
      show Steps p.tables e below (s₁.setTop (mkF m 7 #[.val (.int x0), .val (.int x1), .unset, .unset, .unset, .unset] [(.int ((x1 &&& (2147483647 : Int32)) % (9 : Int32)))])) _
      refine XS.istoreN X0.here hx rfl (hb hby at_7) rfl (l' := #[.val (.int x0), .val (.int x1), .val (.int ((x1 &&& (2147483647 : Int32)) % (9 : Int32))), .unset, .unset, .unset]) rfl ?_
      exact Steps.refl _)
  obtain ⟨T2, h2, X2, e2, E2, A2, D2, -, sr2⟩ := newO X0 hx hZ hown (hw _ (List.mem_of_getElem? (i := 1) rfl)) (hw _ (List.mem_of_getElem? (i := 2) rfl)) (hw _ (List.mem_of_getElem? (i := 3) rfl)) e0 (g := (mkF m 8 #[.val (.int x0), .val (.int x1), .val (.int ((x1 &&& (2147483647 : Int32)) % (9 : Int32))), .unset, .unset, .unset] [])) rfl (hb hby at_8) (by decide) (by decide)
  obtain ⟨b2, g2⟩ : ∃ z, z = h0.size := ⟨_, rfl⟩
  rw [← g2] at A2 D2 sr2
  have g_b2 : n0 ≤ b2 := Nat.le_trans Z0 (Nat.le_of_eq g2.symm)
  have f3 : Fld Z h2 b2 "com/example/tideloop/tideloop/CatchUp" "vain" "I" (.int (0 : Int32)) := D2 (Or.inl (hw _ (List.mem_of_getElem? (i := 25) rfl))) (ty := .int) (by decide)
  have f4 : Fld Z h2 b2 "com/example/tideloop/tideloop/CatchUp" "skipped" "I" (.int (0 : Int32)) := D2 (Or.inl (hw _ (List.mem_of_getElem? (i := 31) rfl))) (ty := .int) (by decide)
  have Z2 : n0 ≤ h2.size := Nat.le_trans Z0 E2.1
  have st5 : Steps p.tables e below (s₁.setTop (entryFrame m #[(.int x0), (.int x1)] maxLocals)) (T2.setTop (mkF m 11 #[.val (.int x0), .val (.int x1), .val (.int ((x1 &&& (2147483647 : Int32)) % (9 : Int32))), .unset, .unset, .unset] [(.ref b2)])) := st1.trans (sr2 _ (Steps.refl _))
  have st6 : Steps p.tables e below (s₁.setTop (entryFrame m #[(.int x0), (.int x1)] maxLocals)) (T2.setTop (mkF m 12 #[.val (.int x0), .val (.int x1), .val (.int ((x1 &&& (2147483647 : Int32)) % (9 : Int32))), .unset, .unset, .unset] [(.ref b2), (.ref b2)])) := st5.trans (by
      show Steps p.tables e below (T2.setTop (mkF m 11 #[.val (.int x0), .val (.int x1), .val (.int ((x1 &&& (2147483647 : Int32)) % (9 : Int32))), .unset, .unset, .unset] [(.ref b2)])) _
      refine XS.dup X2.here hx rfl (hb hby at_11) rfl rfl ?_
      exact Steps.refl _)
  obtain ⟨_, _, ⟨T7, L7, k7, n7⟩, -, X7, ⟨Lc7, hQ7, l7, y7, z7⟩, sr7⟩ := X2.specialBack hx (y := (⟨"com/example/tideloop/tideloop/CatchUp", "<init>", "()V"⟩ : MethodName)) rfl hown (mvT hZ (hw _ (List.mem_of_getElem? (i := 4) rfl))) (mvT hZ (hw _ (List.mem_of_getElem? (i := 5) rfl))) (mvT hZ (hw _ (List.mem_of_getElem? (i := 6) rfl))) (by decide) (backOf (W := 1) (rm1 l Z a0 hw [] b2  h2 n0 Z2 A2 f3 f4 g_b2) hZ (hw _ (List.mem_of_getElem? (i := 6) rfl)) (hw _ (List.mem_of_getElem? (i := 3) rfl)) (by decide) (by decide)) (g := (mkF m 12 #[.val (.int x0), .val (.int x1), .val (.int ((x1 &&& (2147483647 : Int32)) % (9 : Int32))), .unset, .unset, .unset] [(.ref b2), (.ref b2)])) rfl (by rw [hml]; rfl) (Steps.refl _) (a := b2) (argsL := []) (rest := [(.ref b2)]) (lenOf pd_2 rfl) rfl (by show 2 * 0 + _ ≤ _; exact Nat.le_of_eq rfl) (hb hby at_12) (fun _ _ => ⟨rfl, e2, (by decide : 1 + 0 ≤ _), (by decide : 2 + 0 ≤ _)⟩)
  dsimp only [Pt.U, Pt.locs, Pt.cells, Pt.slots] at X7 l7 y7 z7 sr7 hQ7
  subst l7 y7 z7
  obtain ⟨rfl, N7q, K7c, f7_0, f7_1, f7_2⟩ := hQ7
  have N7 := Fr.app N0 N7q
  have f8 : Exa Z T7.heap b2 "com/example/tideloop/tideloop/CatchUp" := A2.keep K7c
  have Z9 : n0 ≤ T7.heap.size := Nat.le_trans Z2 K7c.1
  have st10 : Steps p.tables e below (s₁.setTop (entryFrame m #[(.int x0), (.int x1)] maxLocals)) (T7.setTop (mkF m 15 #[.val (.int x0), .val (.int x1), .val (.int ((x1 &&& (2147483647 : Int32)) % (9 : Int32))), .unset, .unset, .unset] [(.ref b2)])) := st6.trans (sr7)
  have st11 : Steps p.tables e below (s₁.setTop (entryFrame m #[(.int x0), (.int x1)] maxLocals)) (T7.setTop (mkF m 25 #[.val (.int x0), .val (.int x1), .val (.int ((x1 &&& (2147483647 : Int32)) % (9 : Int32))), .val (.ref b2), .val (.int (0 : Int32)), .unset] [(.int (0 : Int32)), (.int ((x1 &&& (2147483647 : Int32)) % (9 : Int32))), (.int (0 : Int32)), (.int x0), (.ref b2)])) := st10.trans (by
      show Steps p.tables e below (T7.setTop (mkF m 15 #[.val (.int x0), .val (.int x1), .val (.int ((x1 &&& (2147483647 : Int32)) % (9 : Int32))), .unset, .unset, .unset] [(.ref b2)])) _
      refine XS.astoreN X7.here hx rfl (hb hby at_15) rfl rfl (l' := #[.val (.int x0), .val (.int x1), .val (.int ((x1 &&& (2147483647 : Int32)) % (9 : Int32))), .val (.ref b2), .unset, .unset]) rfl ?_
      show Steps p.tables e below (T7.setTop (mkF m 16 #[.val (.int x0), .val (.int x1), .val (.int ((x1 &&& (2147483647 : Int32)) % (9 : Int32))), .val (.ref b2), .unset, .unset] [])) _
      refine XS.iconst X7.here hx rfl (hb hby at_16) ?_
      show Steps p.tables e below (T7.setTop (mkF m 17 #[.val (.int x0), .val (.int x1), .val (.int ((x1 &&& (2147483647 : Int32)) % (9 : Int32))), .val (.ref b2), .unset, .unset] [(.int (0 : Int32))])) _
      refine XS.istore X7.here hx rfl (hb hby at_17) rfl (l' := #[.val (.int x0), .val (.int x1), .val (.int ((x1 &&& (2147483647 : Int32)) % (9 : Int32))), .val (.ref b2), .val (.int (0 : Int32)), .unset]) rfl ?_
      show Steps p.tables e below (T7.setTop (mkF m 19 #[.val (.int x0), .val (.int x1), .val (.int ((x1 &&& (2147483647 : Int32)) % (9 : Int32))), .val (.ref b2), .val (.int (0 : Int32)), .unset] [])) _
      refine XS.aloadN X7.here hx rfl (hb hby at_19) rfl rfl ?_
      show Steps p.tables e below (T7.setTop (mkF m 20 #[.val (.int x0), .val (.int x1), .val (.int ((x1 &&& (2147483647 : Int32)) % (9 : Int32))), .val (.ref b2), .val (.int (0 : Int32)), .unset] [(.ref b2)])) _
      refine XS.iloadN X7.here hx rfl (hb hby at_20) rfl ?_
      show Steps p.tables e below (T7.setTop (mkF m 21 #[.val (.int x0), .val (.int x1), .val (.int ((x1 &&& (2147483647 : Int32)) % (9 : Int32))), .val (.ref b2), .val (.int (0 : Int32)), .unset] [(.int x0), (.ref b2)])) _
      refine XS.iconst X7.here hx rfl (hb hby at_21) ?_
      show Steps p.tables e below (T7.setTop (mkF m 22 #[.val (.int x0), .val (.int x1), .val (.int ((x1 &&& (2147483647 : Int32)) % (9 : Int32))), .val (.ref b2), .val (.int (0 : Int32)), .unset] [(.int (0 : Int32)), (.int x0), (.ref b2)])) _
      refine XS.iloadN X7.here hx rfl (hb hby at_22) rfl ?_
      show Steps p.tables e below (T7.setTop (mkF m 23 #[.val (.int x0), .val (.int x1), .val (.int ((x1 &&& (2147483647 : Int32)) % (9 : Int32))), .val (.ref b2), .val (.int (0 : Int32)), .unset] [(.int ((x1 &&& (2147483647 : Int32)) % (9 : Int32))), (.int (0 : Int32)), (.int x0), (.ref b2)])) _
      refine XS.iload X7.here hx rfl (hb hby at_23) rfl ?_
      exact Steps.refl _)
  obtain ⟨_, _, ⟨T12, L12, k12, n12⟩, -, X12, ⟨Lc12, hQ12, l12, y12, z12⟩, sr12⟩ := Jvm.LawKit.callS X7 hx (y := (⟨"com/example/tideloop/tideloop/CatchUpRoundsPinLaw", "step", "(Lcom/example/tideloop/tideloop/CatchUp;IIII)I"⟩ : MethodName)) hown (mvT hZ (hw _ (List.mem_of_getElem? (i := 10) rfl))) (mvT hZ (hw _ (List.mem_of_getElem? (i := 11) rfl))) (mvT hZ (hw _ (List.mem_of_getElem? (i := 12) rfl))) (mvT hZ (hw _ (List.mem_of_getElem? (i := 13) rfl))) (by decide) (backOf (W := 0) (rm3 l Z a0 hw [] b2 x0 (0 : Int32) ((x1 &&& (2147483647 : Int32)) % (9 : Int32)) (0 : Int32) (0 : Int32) T7.heap n0 Z9 f7_0 f7_1 f7_2 g_b2 hv0 ⟨hk0.1, by omega⟩) hZ (hw _ (List.mem_of_getElem? (i := 13) rfl)) (hw _ (List.mem_of_getElem? (i := 12) rfl)) (by decide) (by decide)) (g := (mkF m 25 #[.val (.int x0), .val (.int x1), .val (.int ((x1 &&& (2147483647 : Int32)) % (9 : Int32))), .val (.ref b2), .val (.int (0 : Int32)), .unset] [(.int (0 : Int32)), (.int ((x1 &&& (2147483647 : Int32)) % (9 : Int32))), (.int (0 : Int32)), (.int x0), (.ref b2)])) rfl (by rw [hml]; rfl) (argsL := [(.ref b2), (.int x0), (.int (0 : Int32)), (.int ((x1 &&& (2147483647 : Int32)) % (9 : Int32))), (.int (0 : Int32))]) (rest := []) (lenOf pd_3 rfl) rfl (by show 2 * 0 + _ ≤ _; exact Nat.le_of_eq rfl) (hb hby at_25) (fun _ _ => ⟨rfl, rfl, (by decide : 1 + 0 ≤ _), (by decide : 2 + 0 ≤ _)⟩)
  dsimp only [Pt.U, Pt.locs, Pt.cells, Pt.slots] at X12 l12 y12 z12 sr12 hQ12
  subst l12 y12 z12
  obtain ⟨rfl, N12q, K12c, f12_0, f12_1, f12_2⟩ := hQ12
  have N12 := Fr.app N7 N12q
  have f13 : Exa Z T12.heap b2 "com/example/tideloop/tideloop/CatchUp" := f7_0.keep K12c
  have Z14 : n0 ≤ T12.heap.size := Nat.le_trans Z9 K12c.1
  have hv1 := own_sv x0 (0 : Int32) ((x1 &&& (2147483647 : Int32)) % (9 : Int32)) (0 : Int32) hv0
  have hk1 := own_sk x0 (0 : Int32) ((x1 &&& (2147483647 : Int32)) % (9 : Int32)) (0 : Int32) (0 : Int32) 0 (by decide) hk0
  obtain ⟨v1, ev1⟩ : ∃ z, z = (F3 x0 (0 : Int32) ((x1 &&& (2147483647 : Int32)) % (9 : Int32)) (0 : Int32)) := ⟨_, rfl⟩
  obtain ⟨k1, ek1⟩ : ∃ z, z = (if (0 : Int32) < ((x1 &&& (2147483647 : Int32)) % (9 : Int32)) then (if (((x0.toUInt32 >>> ((0 : Int32) &&& 31).toUInt32).toInt32) &&& (1 : Int32)) = (0 : Int32) then (if (F5 (0 : Int32) (0 : Int32)) = (16 : Int32) then (0 : Int32) else ((0 : Int32) + (1 : Int32))) else (0 : Int32)) else (0 : Int32)) := ⟨_, rfl⟩
  rw [← ev1] at hv1 f12_1 sr12
  rw [← ek1] at hk1 f12_2
  have st15 : Steps p.tables e below (s₁.setTop (entryFrame m #[(.int x0), (.int x1)] maxLocals)) (T12.setTop (mkF m 28 #[.val (.int x0), .val (.int x1), .val (.int ((x1 &&& (2147483647 : Int32)) % (9 : Int32))), .val (.ref b2), .val (.int (0 : Int32)), .unset] [(.int v1)])) := st11.trans (sr12 _ (Steps.refl _))
  have st16 : Steps p.tables e below (s₁.setTop (entryFrame m #[(.int x0), (.int x1)] maxLocals)) (T12.setTop (mkF m 36 #[.val (.int x0), .val (.int x1), .val (.int ((x1 &&& (2147483647 : Int32)) % (9 : Int32))), .val (.ref b2), .val (.int v1), .unset] [(.int v1), (.int ((x1 &&& (2147483647 : Int32)) % (9 : Int32))), (.int (1 : Int32)), (.int x0), (.ref b2)])) := st15.trans (by
      show Steps p.tables e below (T12.setTop (mkF m 28 #[.val (.int x0), .val (.int x1), .val (.int ((x1 &&& (2147483647 : Int32)) % (9 : Int32))), .val (.ref b2), .val (.int (0 : Int32)), .unset] [(.int v1)])) _
      refine XS.istore X12.here hx rfl (hb hby at_28) rfl (l' := #[.val (.int x0), .val (.int x1), .val (.int ((x1 &&& (2147483647 : Int32)) % (9 : Int32))), .val (.ref b2), .val (.int v1), .unset]) rfl ?_
      show Steps p.tables e below (T12.setTop (mkF m 30 #[.val (.int x0), .val (.int x1), .val (.int ((x1 &&& (2147483647 : Int32)) % (9 : Int32))), .val (.ref b2), .val (.int v1), .unset] [])) _
      refine XS.aloadN X12.here hx rfl (hb hby at_30) rfl rfl ?_
      show Steps p.tables e below (T12.setTop (mkF m 31 #[.val (.int x0), .val (.int x1), .val (.int ((x1 &&& (2147483647 : Int32)) % (9 : Int32))), .val (.ref b2), .val (.int v1), .unset] [(.ref b2)])) _
      refine XS.iloadN X12.here hx rfl (hb hby at_31) rfl ?_
      show Steps p.tables e below (T12.setTop (mkF m 32 #[.val (.int x0), .val (.int x1), .val (.int ((x1 &&& (2147483647 : Int32)) % (9 : Int32))), .val (.ref b2), .val (.int v1), .unset] [(.int x0), (.ref b2)])) _
      refine XS.iconst X12.here hx rfl (hb hby at_32) ?_
      show Steps p.tables e below (T12.setTop (mkF m 33 #[.val (.int x0), .val (.int x1), .val (.int ((x1 &&& (2147483647 : Int32)) % (9 : Int32))), .val (.ref b2), .val (.int v1), .unset] [(.int (1 : Int32)), (.int x0), (.ref b2)])) _
      refine XS.iloadN X12.here hx rfl (hb hby at_33) rfl ?_
      show Steps p.tables e below (T12.setTop (mkF m 34 #[.val (.int x0), .val (.int x1), .val (.int ((x1 &&& (2147483647 : Int32)) % (9 : Int32))), .val (.ref b2), .val (.int v1), .unset] [(.int ((x1 &&& (2147483647 : Int32)) % (9 : Int32))), (.int (1 : Int32)), (.int x0), (.ref b2)])) _
      refine XS.iload X12.here hx rfl (hb hby at_34) rfl ?_
      exact Steps.refl _)
  obtain ⟨_, _, ⟨T17, L17, k17, n17⟩, -, X17, ⟨Lc17, hQ17, l17, y17, z17⟩, sr17⟩ := Jvm.LawKit.callS X12 hx (y := (⟨"com/example/tideloop/tideloop/CatchUpRoundsPinLaw", "step", "(Lcom/example/tideloop/tideloop/CatchUp;IIII)I"⟩ : MethodName)) hown (mvT hZ (hw _ (List.mem_of_getElem? (i := 10) rfl))) (mvT hZ (hw _ (List.mem_of_getElem? (i := 11) rfl))) (mvT hZ (hw _ (List.mem_of_getElem? (i := 12) rfl))) (mvT hZ (hw _ (List.mem_of_getElem? (i := 13) rfl))) (by decide) (backOf (W := 0) (rm3 l Z a0 hw [] b2 x0 (1 : Int32) ((x1 &&& (2147483647 : Int32)) % (9 : Int32)) v1 k1 T12.heap n0 Z14 f12_0 f12_1 f12_2 g_b2 hv1 ⟨hk1.1, by omega⟩) hZ (hw _ (List.mem_of_getElem? (i := 13) rfl)) (hw _ (List.mem_of_getElem? (i := 12) rfl)) (by decide) (by decide)) (g := (mkF m 36 #[.val (.int x0), .val (.int x1), .val (.int ((x1 &&& (2147483647 : Int32)) % (9 : Int32))), .val (.ref b2), .val (.int v1), .unset] [(.int v1), (.int ((x1 &&& (2147483647 : Int32)) % (9 : Int32))), (.int (1 : Int32)), (.int x0), (.ref b2)])) rfl (by rw [hml]; rfl) (argsL := [(.ref b2), (.int x0), (.int (1 : Int32)), (.int ((x1 &&& (2147483647 : Int32)) % (9 : Int32))), (.int v1)]) (rest := []) (lenOf pd_3 rfl) rfl (by show 2 * 0 + _ ≤ _; exact Nat.le_of_eq rfl) (hb hby at_36) (fun _ _ => ⟨rfl, rfl, (by decide : 1 + 0 ≤ _), (by decide : 2 + 0 ≤ _)⟩)
  dsimp only [Pt.U, Pt.locs, Pt.cells, Pt.slots] at X17 l17 y17 z17 sr17 hQ17
  subst l17 y17 z17
  obtain ⟨rfl, N17q, K17c, f17_0, f17_1, f17_2⟩ := hQ17
  have N17 := Fr.app N12 N17q
  have f18 : Exa Z T17.heap b2 "com/example/tideloop/tideloop/CatchUp" := f12_0.keep K17c
  have Z19 : n0 ≤ T17.heap.size := Nat.le_trans Z14 K17c.1
  have hv2 := own_sv x0 (1 : Int32) ((x1 &&& (2147483647 : Int32)) % (9 : Int32)) v1 hv1
  have hk2 := own_sk x0 (1 : Int32) ((x1 &&& (2147483647 : Int32)) % (9 : Int32)) v1 k1 1 (by decide) hk1
  obtain ⟨v2, ev2⟩ : ∃ z, z = (F3 x0 (1 : Int32) ((x1 &&& (2147483647 : Int32)) % (9 : Int32)) v1) := ⟨_, rfl⟩
  obtain ⟨k2, ek2⟩ : ∃ z, z = (if (1 : Int32) < ((x1 &&& (2147483647 : Int32)) % (9 : Int32)) then (if (((x0.toUInt32 >>> ((1 : Int32) &&& 31).toUInt32).toInt32) &&& (1 : Int32)) = (0 : Int32) then (if (F5 v1 k1) = (16 : Int32) then (0 : Int32) else (k1 + (1 : Int32))) else k1) else k1) := ⟨_, rfl⟩
  rw [← ev2] at hv2 f17_1 sr17
  rw [← ek2] at hk2 f17_2
  have st20 : Steps p.tables e below (s₁.setTop (entryFrame m #[(.int x0), (.int x1)] maxLocals)) (T17.setTop (mkF m 39 #[.val (.int x0), .val (.int x1), .val (.int ((x1 &&& (2147483647 : Int32)) % (9 : Int32))), .val (.ref b2), .val (.int v1), .unset] [(.int v2)])) := st16.trans (sr17 _ (Steps.refl _))
  have st21 : Steps p.tables e below (s₁.setTop (entryFrame m #[(.int x0), (.int x1)] maxLocals)) (T17.setTop (mkF m 47 #[.val (.int x0), .val (.int x1), .val (.int ((x1 &&& (2147483647 : Int32)) % (9 : Int32))), .val (.ref b2), .val (.int v2), .unset] [(.int v2), (.int ((x1 &&& (2147483647 : Int32)) % (9 : Int32))), (.int (2 : Int32)), (.int x0), (.ref b2)])) := st20.trans (by
      show Steps p.tables e below (T17.setTop (mkF m 39 #[.val (.int x0), .val (.int x1), .val (.int ((x1 &&& (2147483647 : Int32)) % (9 : Int32))), .val (.ref b2), .val (.int v1), .unset] [(.int v2)])) _
      refine XS.istore X17.here hx rfl (hb hby at_39) rfl (l' := #[.val (.int x0), .val (.int x1), .val (.int ((x1 &&& (2147483647 : Int32)) % (9 : Int32))), .val (.ref b2), .val (.int v2), .unset]) rfl ?_
      show Steps p.tables e below (T17.setTop (mkF m 41 #[.val (.int x0), .val (.int x1), .val (.int ((x1 &&& (2147483647 : Int32)) % (9 : Int32))), .val (.ref b2), .val (.int v2), .unset] [])) _
      refine XS.aloadN X17.here hx rfl (hb hby at_41) rfl rfl ?_
      show Steps p.tables e below (T17.setTop (mkF m 42 #[.val (.int x0), .val (.int x1), .val (.int ((x1 &&& (2147483647 : Int32)) % (9 : Int32))), .val (.ref b2), .val (.int v2), .unset] [(.ref b2)])) _
      refine XS.iloadN X17.here hx rfl (hb hby at_42) rfl ?_
      show Steps p.tables e below (T17.setTop (mkF m 43 #[.val (.int x0), .val (.int x1), .val (.int ((x1 &&& (2147483647 : Int32)) % (9 : Int32))), .val (.ref b2), .val (.int v2), .unset] [(.int x0), (.ref b2)])) _
      refine XS.iconst X17.here hx rfl (hb hby at_43) ?_
      show Steps p.tables e below (T17.setTop (mkF m 44 #[.val (.int x0), .val (.int x1), .val (.int ((x1 &&& (2147483647 : Int32)) % (9 : Int32))), .val (.ref b2), .val (.int v2), .unset] [(.int (2 : Int32)), (.int x0), (.ref b2)])) _
      refine XS.iloadN X17.here hx rfl (hb hby at_44) rfl ?_
      show Steps p.tables e below (T17.setTop (mkF m 45 #[.val (.int x0), .val (.int x1), .val (.int ((x1 &&& (2147483647 : Int32)) % (9 : Int32))), .val (.ref b2), .val (.int v2), .unset] [(.int ((x1 &&& (2147483647 : Int32)) % (9 : Int32))), (.int (2 : Int32)), (.int x0), (.ref b2)])) _
      refine XS.iload X17.here hx rfl (hb hby at_45) rfl ?_
      exact Steps.refl _)
  obtain ⟨_, _, ⟨T22, L22, k22, n22⟩, -, X22, ⟨Lc22, hQ22, l22, y22, z22⟩, sr22⟩ := Jvm.LawKit.callS X17 hx (y := (⟨"com/example/tideloop/tideloop/CatchUpRoundsPinLaw", "step", "(Lcom/example/tideloop/tideloop/CatchUp;IIII)I"⟩ : MethodName)) hown (mvT hZ (hw _ (List.mem_of_getElem? (i := 10) rfl))) (mvT hZ (hw _ (List.mem_of_getElem? (i := 11) rfl))) (mvT hZ (hw _ (List.mem_of_getElem? (i := 12) rfl))) (mvT hZ (hw _ (List.mem_of_getElem? (i := 13) rfl))) (by decide) (backOf (W := 0) (rm3 l Z a0 hw [] b2 x0 (2 : Int32) ((x1 &&& (2147483647 : Int32)) % (9 : Int32)) v2 k2 T17.heap n0 Z19 f17_0 f17_1 f17_2 g_b2 hv2 ⟨hk2.1, by omega⟩) hZ (hw _ (List.mem_of_getElem? (i := 13) rfl)) (hw _ (List.mem_of_getElem? (i := 12) rfl)) (by decide) (by decide)) (g := (mkF m 47 #[.val (.int x0), .val (.int x1), .val (.int ((x1 &&& (2147483647 : Int32)) % (9 : Int32))), .val (.ref b2), .val (.int v2), .unset] [(.int v2), (.int ((x1 &&& (2147483647 : Int32)) % (9 : Int32))), (.int (2 : Int32)), (.int x0), (.ref b2)])) rfl (by rw [hml]; rfl) (argsL := [(.ref b2), (.int x0), (.int (2 : Int32)), (.int ((x1 &&& (2147483647 : Int32)) % (9 : Int32))), (.int v2)]) (rest := []) (lenOf pd_3 rfl) rfl (by show 2 * 0 + _ ≤ _; exact Nat.le_of_eq rfl) (hb hby at_47) (fun _ _ => ⟨rfl, rfl, (by decide : 1 + 0 ≤ _), (by decide : 2 + 0 ≤ _)⟩)
  dsimp only [Pt.U, Pt.locs, Pt.cells, Pt.slots] at X22 l22 y22 z22 sr22 hQ22
  subst l22 y22 z22
  obtain ⟨rfl, N22q, K22c, f22_0, f22_1, f22_2⟩ := hQ22
  have N22 := Fr.app N17 N22q
  have f23 : Exa Z T22.heap b2 "com/example/tideloop/tideloop/CatchUp" := f17_0.keep K22c
  have Z24 : n0 ≤ T22.heap.size := Nat.le_trans Z19 K22c.1
  have hv3 := own_sv x0 (2 : Int32) ((x1 &&& (2147483647 : Int32)) % (9 : Int32)) v2 hv2
  have hk3 := own_sk x0 (2 : Int32) ((x1 &&& (2147483647 : Int32)) % (9 : Int32)) v2 k2 2 (by decide) hk2
  obtain ⟨v3, ev3⟩ : ∃ z, z = (F3 x0 (2 : Int32) ((x1 &&& (2147483647 : Int32)) % (9 : Int32)) v2) := ⟨_, rfl⟩
  obtain ⟨k3, ek3⟩ : ∃ z, z = (if (2 : Int32) < ((x1 &&& (2147483647 : Int32)) % (9 : Int32)) then (if (((x0.toUInt32 >>> ((2 : Int32) &&& 31).toUInt32).toInt32) &&& (1 : Int32)) = (0 : Int32) then (if (F5 v2 k2) = (16 : Int32) then (0 : Int32) else (k2 + (1 : Int32))) else k2) else k2) := ⟨_, rfl⟩
  rw [← ev3] at hv3 f22_1 sr22
  rw [← ek3] at hk3 f22_2
  have st25 : Steps p.tables e below (s₁.setTop (entryFrame m #[(.int x0), (.int x1)] maxLocals)) (T22.setTop (mkF m 50 #[.val (.int x0), .val (.int x1), .val (.int ((x1 &&& (2147483647 : Int32)) % (9 : Int32))), .val (.ref b2), .val (.int v2), .unset] [(.int v3)])) := st21.trans (sr22 _ (Steps.refl _))
  have st26 : Steps p.tables e below (s₁.setTop (entryFrame m #[(.int x0), (.int x1)] maxLocals)) (T22.setTop (mkF m 58 #[.val (.int x0), .val (.int x1), .val (.int ((x1 &&& (2147483647 : Int32)) % (9 : Int32))), .val (.ref b2), .val (.int v3), .unset] [(.int v3), (.int ((x1 &&& (2147483647 : Int32)) % (9 : Int32))), (.int (3 : Int32)), (.int x0), (.ref b2)])) := st25.trans (by
      show Steps p.tables e below (T22.setTop (mkF m 50 #[.val (.int x0), .val (.int x1), .val (.int ((x1 &&& (2147483647 : Int32)) % (9 : Int32))), .val (.ref b2), .val (.int v2), .unset] [(.int v3)])) _
      refine XS.istore X22.here hx rfl (hb hby at_50) rfl (l' := #[.val (.int x0), .val (.int x1), .val (.int ((x1 &&& (2147483647 : Int32)) % (9 : Int32))), .val (.ref b2), .val (.int v3), .unset]) rfl ?_
      show Steps p.tables e below (T22.setTop (mkF m 52 #[.val (.int x0), .val (.int x1), .val (.int ((x1 &&& (2147483647 : Int32)) % (9 : Int32))), .val (.ref b2), .val (.int v3), .unset] [])) _
      refine XS.aloadN X22.here hx rfl (hb hby at_52) rfl rfl ?_
      show Steps p.tables e below (T22.setTop (mkF m 53 #[.val (.int x0), .val (.int x1), .val (.int ((x1 &&& (2147483647 : Int32)) % (9 : Int32))), .val (.ref b2), .val (.int v3), .unset] [(.ref b2)])) _
      refine XS.iloadN X22.here hx rfl (hb hby at_53) rfl ?_
      show Steps p.tables e below (T22.setTop (mkF m 54 #[.val (.int x0), .val (.int x1), .val (.int ((x1 &&& (2147483647 : Int32)) % (9 : Int32))), .val (.ref b2), .val (.int v3), .unset] [(.int x0), (.ref b2)])) _
      refine XS.iconst X22.here hx rfl (hb hby at_54) ?_
      show Steps p.tables e below (T22.setTop (mkF m 55 #[.val (.int x0), .val (.int x1), .val (.int ((x1 &&& (2147483647 : Int32)) % (9 : Int32))), .val (.ref b2), .val (.int v3), .unset] [(.int (3 : Int32)), (.int x0), (.ref b2)])) _
      refine XS.iloadN X22.here hx rfl (hb hby at_55) rfl ?_
      show Steps p.tables e below (T22.setTop (mkF m 56 #[.val (.int x0), .val (.int x1), .val (.int ((x1 &&& (2147483647 : Int32)) % (9 : Int32))), .val (.ref b2), .val (.int v3), .unset] [(.int ((x1 &&& (2147483647 : Int32)) % (9 : Int32))), (.int (3 : Int32)), (.int x0), (.ref b2)])) _
      refine XS.iload X22.here hx rfl (hb hby at_56) rfl ?_
      exact Steps.refl _)
  obtain ⟨_, _, ⟨T27, L27, k27, n27⟩, -, X27, ⟨Lc27, hQ27, l27, y27, z27⟩, sr27⟩ := Jvm.LawKit.callS X22 hx (y := (⟨"com/example/tideloop/tideloop/CatchUpRoundsPinLaw", "step", "(Lcom/example/tideloop/tideloop/CatchUp;IIII)I"⟩ : MethodName)) hown (mvT hZ (hw _ (List.mem_of_getElem? (i := 10) rfl))) (mvT hZ (hw _ (List.mem_of_getElem? (i := 11) rfl))) (mvT hZ (hw _ (List.mem_of_getElem? (i := 12) rfl))) (mvT hZ (hw _ (List.mem_of_getElem? (i := 13) rfl))) (by decide) (backOf (W := 0) (rm3 l Z a0 hw [] b2 x0 (3 : Int32) ((x1 &&& (2147483647 : Int32)) % (9 : Int32)) v3 k3 T22.heap n0 Z24 f22_0 f22_1 f22_2 g_b2 hv3 ⟨hk3.1, by omega⟩) hZ (hw _ (List.mem_of_getElem? (i := 13) rfl)) (hw _ (List.mem_of_getElem? (i := 12) rfl)) (by decide) (by decide)) (g := (mkF m 58 #[.val (.int x0), .val (.int x1), .val (.int ((x1 &&& (2147483647 : Int32)) % (9 : Int32))), .val (.ref b2), .val (.int v3), .unset] [(.int v3), (.int ((x1 &&& (2147483647 : Int32)) % (9 : Int32))), (.int (3 : Int32)), (.int x0), (.ref b2)])) rfl (by rw [hml]; rfl) (argsL := [(.ref b2), (.int x0), (.int (3 : Int32)), (.int ((x1 &&& (2147483647 : Int32)) % (9 : Int32))), (.int v3)]) (rest := []) (lenOf pd_3 rfl) rfl (by show 2 * 0 + _ ≤ _; exact Nat.le_of_eq rfl) (hb hby at_58) (fun _ _ => ⟨rfl, rfl, (by decide : 1 + 0 ≤ _), (by decide : 2 + 0 ≤ _)⟩)
  dsimp only [Pt.U, Pt.locs, Pt.cells, Pt.slots] at X27 l27 y27 z27 sr27 hQ27
  subst l27 y27 z27
  obtain ⟨rfl, N27q, K27c, f27_0, f27_1, f27_2⟩ := hQ27
  have N27 := Fr.app N22 N27q
  have f28 : Exa Z T27.heap b2 "com/example/tideloop/tideloop/CatchUp" := f22_0.keep K27c
  have Z29 : n0 ≤ T27.heap.size := Nat.le_trans Z24 K27c.1
  have hv4 := own_sv x0 (3 : Int32) ((x1 &&& (2147483647 : Int32)) % (9 : Int32)) v3 hv3
  have hk4 := own_sk x0 (3 : Int32) ((x1 &&& (2147483647 : Int32)) % (9 : Int32)) v3 k3 3 (by decide) hk3
  obtain ⟨v4, ev4⟩ : ∃ z, z = (F3 x0 (3 : Int32) ((x1 &&& (2147483647 : Int32)) % (9 : Int32)) v3) := ⟨_, rfl⟩
  obtain ⟨k4, ek4⟩ : ∃ z, z = (if (3 : Int32) < ((x1 &&& (2147483647 : Int32)) % (9 : Int32)) then (if (((x0.toUInt32 >>> ((3 : Int32) &&& 31).toUInt32).toInt32) &&& (1 : Int32)) = (0 : Int32) then (if (F5 v3 k3) = (16 : Int32) then (0 : Int32) else (k3 + (1 : Int32))) else k3) else k3) := ⟨_, rfl⟩
  rw [← ev4] at hv4 f27_1 sr27
  rw [← ek4] at hk4 f27_2
  have st30 : Steps p.tables e below (s₁.setTop (entryFrame m #[(.int x0), (.int x1)] maxLocals)) (T27.setTop (mkF m 61 #[.val (.int x0), .val (.int x1), .val (.int ((x1 &&& (2147483647 : Int32)) % (9 : Int32))), .val (.ref b2), .val (.int v3), .unset] [(.int v4)])) := st26.trans (sr27 _ (Steps.refl _))
  have st31 : Steps p.tables e below (s₁.setTop (entryFrame m #[(.int x0), (.int x1)] maxLocals)) (T27.setTop (mkF m 69 #[.val (.int x0), .val (.int x1), .val (.int ((x1 &&& (2147483647 : Int32)) % (9 : Int32))), .val (.ref b2), .val (.int v4), .unset] [(.int v4), (.int ((x1 &&& (2147483647 : Int32)) % (9 : Int32))), (.int (4 : Int32)), (.int x0), (.ref b2)])) := st30.trans (by
      show Steps p.tables e below (T27.setTop (mkF m 61 #[.val (.int x0), .val (.int x1), .val (.int ((x1 &&& (2147483647 : Int32)) % (9 : Int32))), .val (.ref b2), .val (.int v3), .unset] [(.int v4)])) _
      refine XS.istore X27.here hx rfl (hb hby at_61) rfl (l' := #[.val (.int x0), .val (.int x1), .val (.int ((x1 &&& (2147483647 : Int32)) % (9 : Int32))), .val (.ref b2), .val (.int v4), .unset]) rfl ?_
      show Steps p.tables e below (T27.setTop (mkF m 63 #[.val (.int x0), .val (.int x1), .val (.int ((x1 &&& (2147483647 : Int32)) % (9 : Int32))), .val (.ref b2), .val (.int v4), .unset] [])) _
      refine XS.aloadN X27.here hx rfl (hb hby at_63) rfl rfl ?_
      show Steps p.tables e below (T27.setTop (mkF m 64 #[.val (.int x0), .val (.int x1), .val (.int ((x1 &&& (2147483647 : Int32)) % (9 : Int32))), .val (.ref b2), .val (.int v4), .unset] [(.ref b2)])) _
      refine XS.iloadN X27.here hx rfl (hb hby at_64) rfl ?_
      show Steps p.tables e below (T27.setTop (mkF m 65 #[.val (.int x0), .val (.int x1), .val (.int ((x1 &&& (2147483647 : Int32)) % (9 : Int32))), .val (.ref b2), .val (.int v4), .unset] [(.int x0), (.ref b2)])) _
      refine XS.iconst X27.here hx rfl (hb hby at_65) ?_
      show Steps p.tables e below (T27.setTop (mkF m 66 #[.val (.int x0), .val (.int x1), .val (.int ((x1 &&& (2147483647 : Int32)) % (9 : Int32))), .val (.ref b2), .val (.int v4), .unset] [(.int (4 : Int32)), (.int x0), (.ref b2)])) _
      refine XS.iloadN X27.here hx rfl (hb hby at_66) rfl ?_
      show Steps p.tables e below (T27.setTop (mkF m 67 #[.val (.int x0), .val (.int x1), .val (.int ((x1 &&& (2147483647 : Int32)) % (9 : Int32))), .val (.ref b2), .val (.int v4), .unset] [(.int ((x1 &&& (2147483647 : Int32)) % (9 : Int32))), (.int (4 : Int32)), (.int x0), (.ref b2)])) _
      refine XS.iload X27.here hx rfl (hb hby at_67) rfl ?_
      exact Steps.refl _)
  obtain ⟨_, _, ⟨T32, L32, k32, n32⟩, -, X32, ⟨Lc32, hQ32, l32, y32, z32⟩, sr32⟩ := Jvm.LawKit.callS X27 hx (y := (⟨"com/example/tideloop/tideloop/CatchUpRoundsPinLaw", "step", "(Lcom/example/tideloop/tideloop/CatchUp;IIII)I"⟩ : MethodName)) hown (mvT hZ (hw _ (List.mem_of_getElem? (i := 10) rfl))) (mvT hZ (hw _ (List.mem_of_getElem? (i := 11) rfl))) (mvT hZ (hw _ (List.mem_of_getElem? (i := 12) rfl))) (mvT hZ (hw _ (List.mem_of_getElem? (i := 13) rfl))) (by decide) (backOf (W := 0) (rm3 l Z a0 hw [] b2 x0 (4 : Int32) ((x1 &&& (2147483647 : Int32)) % (9 : Int32)) v4 k4 T27.heap n0 Z29 f27_0 f27_1 f27_2 g_b2 hv4 ⟨hk4.1, by omega⟩) hZ (hw _ (List.mem_of_getElem? (i := 13) rfl)) (hw _ (List.mem_of_getElem? (i := 12) rfl)) (by decide) (by decide)) (g := (mkF m 69 #[.val (.int x0), .val (.int x1), .val (.int ((x1 &&& (2147483647 : Int32)) % (9 : Int32))), .val (.ref b2), .val (.int v4), .unset] [(.int v4), (.int ((x1 &&& (2147483647 : Int32)) % (9 : Int32))), (.int (4 : Int32)), (.int x0), (.ref b2)])) rfl (by rw [hml]; rfl) (argsL := [(.ref b2), (.int x0), (.int (4 : Int32)), (.int ((x1 &&& (2147483647 : Int32)) % (9 : Int32))), (.int v4)]) (rest := []) (lenOf pd_3 rfl) rfl (by show 2 * 0 + _ ≤ _; exact Nat.le_of_eq rfl) (hb hby at_69) (fun _ _ => ⟨rfl, rfl, (by decide : 1 + 0 ≤ _), (by decide : 2 + 0 ≤ _)⟩)
  dsimp only [Pt.U, Pt.locs, Pt.cells, Pt.slots] at X32 l32 y32 z32 sr32 hQ32
  subst l32 y32 z32
  obtain ⟨rfl, N32q, K32c, f32_0, f32_1, f32_2⟩ := hQ32
  have N32 := Fr.app N27 N32q
  have f33 : Exa Z T32.heap b2 "com/example/tideloop/tideloop/CatchUp" := f27_0.keep K32c
  have Z34 : n0 ≤ T32.heap.size := Nat.le_trans Z29 K32c.1
  have hv5 := own_sv x0 (4 : Int32) ((x1 &&& (2147483647 : Int32)) % (9 : Int32)) v4 hv4
  have hk5 := own_sk x0 (4 : Int32) ((x1 &&& (2147483647 : Int32)) % (9 : Int32)) v4 k4 4 (by decide) hk4
  obtain ⟨v5, ev5⟩ : ∃ z, z = (F3 x0 (4 : Int32) ((x1 &&& (2147483647 : Int32)) % (9 : Int32)) v4) := ⟨_, rfl⟩
  obtain ⟨k5, ek5⟩ : ∃ z, z = (if (4 : Int32) < ((x1 &&& (2147483647 : Int32)) % (9 : Int32)) then (if (((x0.toUInt32 >>> ((4 : Int32) &&& 31).toUInt32).toInt32) &&& (1 : Int32)) = (0 : Int32) then (if (F5 v4 k4) = (16 : Int32) then (0 : Int32) else (k4 + (1 : Int32))) else k4) else k4) := ⟨_, rfl⟩
  rw [← ev5] at hv5 f32_1 sr32
  rw [← ek5] at hk5 f32_2
  have st35 : Steps p.tables e below (s₁.setTop (entryFrame m #[(.int x0), (.int x1)] maxLocals)) (T32.setTop (mkF m 72 #[.val (.int x0), .val (.int x1), .val (.int ((x1 &&& (2147483647 : Int32)) % (9 : Int32))), .val (.ref b2), .val (.int v4), .unset] [(.int v5)])) := st31.trans (sr32 _ (Steps.refl _))
  have st36 : Steps p.tables e below (s₁.setTop (entryFrame m #[(.int x0), (.int x1)] maxLocals)) (T32.setTop (mkF m 80 #[.val (.int x0), .val (.int x1), .val (.int ((x1 &&& (2147483647 : Int32)) % (9 : Int32))), .val (.ref b2), .val (.int v5), .unset] [(.int v5), (.int ((x1 &&& (2147483647 : Int32)) % (9 : Int32))), (.int (5 : Int32)), (.int x0), (.ref b2)])) := st35.trans (by
      show Steps p.tables e below (T32.setTop (mkF m 72 #[.val (.int x0), .val (.int x1), .val (.int ((x1 &&& (2147483647 : Int32)) % (9 : Int32))), .val (.ref b2), .val (.int v4), .unset] [(.int v5)])) _
      refine XS.istore X32.here hx rfl (hb hby at_72) rfl (l' := #[.val (.int x0), .val (.int x1), .val (.int ((x1 &&& (2147483647 : Int32)) % (9 : Int32))), .val (.ref b2), .val (.int v5), .unset]) rfl ?_
      show Steps p.tables e below (T32.setTop (mkF m 74 #[.val (.int x0), .val (.int x1), .val (.int ((x1 &&& (2147483647 : Int32)) % (9 : Int32))), .val (.ref b2), .val (.int v5), .unset] [])) _
      refine XS.aloadN X32.here hx rfl (hb hby at_74) rfl rfl ?_
      show Steps p.tables e below (T32.setTop (mkF m 75 #[.val (.int x0), .val (.int x1), .val (.int ((x1 &&& (2147483647 : Int32)) % (9 : Int32))), .val (.ref b2), .val (.int v5), .unset] [(.ref b2)])) _
      refine XS.iloadN X32.here hx rfl (hb hby at_75) rfl ?_
      show Steps p.tables e below (T32.setTop (mkF m 76 #[.val (.int x0), .val (.int x1), .val (.int ((x1 &&& (2147483647 : Int32)) % (9 : Int32))), .val (.ref b2), .val (.int v5), .unset] [(.int x0), (.ref b2)])) _
      refine XS.iconst X32.here hx rfl (hb hby at_76) ?_
      show Steps p.tables e below (T32.setTop (mkF m 77 #[.val (.int x0), .val (.int x1), .val (.int ((x1 &&& (2147483647 : Int32)) % (9 : Int32))), .val (.ref b2), .val (.int v5), .unset] [(.int (5 : Int32)), (.int x0), (.ref b2)])) _
      refine XS.iloadN X32.here hx rfl (hb hby at_77) rfl ?_
      show Steps p.tables e below (T32.setTop (mkF m 78 #[.val (.int x0), .val (.int x1), .val (.int ((x1 &&& (2147483647 : Int32)) % (9 : Int32))), .val (.ref b2), .val (.int v5), .unset] [(.int ((x1 &&& (2147483647 : Int32)) % (9 : Int32))), (.int (5 : Int32)), (.int x0), (.ref b2)])) _
      refine XS.iload X32.here hx rfl (hb hby at_78) rfl ?_
      exact Steps.refl _)
  obtain ⟨_, _, ⟨T37, L37, k37, n37⟩, -, X37, ⟨Lc37, hQ37, l37, y37, z37⟩, sr37⟩ := Jvm.LawKit.callS X32 hx (y := (⟨"com/example/tideloop/tideloop/CatchUpRoundsPinLaw", "step", "(Lcom/example/tideloop/tideloop/CatchUp;IIII)I"⟩ : MethodName)) hown (mvT hZ (hw _ (List.mem_of_getElem? (i := 10) rfl))) (mvT hZ (hw _ (List.mem_of_getElem? (i := 11) rfl))) (mvT hZ (hw _ (List.mem_of_getElem? (i := 12) rfl))) (mvT hZ (hw _ (List.mem_of_getElem? (i := 13) rfl))) (by decide) (backOf (W := 0) (rm3 l Z a0 hw [] b2 x0 (5 : Int32) ((x1 &&& (2147483647 : Int32)) % (9 : Int32)) v5 k5 T32.heap n0 Z34 f32_0 f32_1 f32_2 g_b2 hv5 ⟨hk5.1, by omega⟩) hZ (hw _ (List.mem_of_getElem? (i := 13) rfl)) (hw _ (List.mem_of_getElem? (i := 12) rfl)) (by decide) (by decide)) (g := (mkF m 80 #[.val (.int x0), .val (.int x1), .val (.int ((x1 &&& (2147483647 : Int32)) % (9 : Int32))), .val (.ref b2), .val (.int v5), .unset] [(.int v5), (.int ((x1 &&& (2147483647 : Int32)) % (9 : Int32))), (.int (5 : Int32)), (.int x0), (.ref b2)])) rfl (by rw [hml]; rfl) (argsL := [(.ref b2), (.int x0), (.int (5 : Int32)), (.int ((x1 &&& (2147483647 : Int32)) % (9 : Int32))), (.int v5)]) (rest := []) (lenOf pd_3 rfl) rfl (by show 2 * 0 + _ ≤ _; exact Nat.le_of_eq rfl) (hb hby at_80) (fun _ _ => ⟨rfl, rfl, (by decide : 1 + 0 ≤ _), (by decide : 2 + 0 ≤ _)⟩)
  dsimp only [Pt.U, Pt.locs, Pt.cells, Pt.slots] at X37 l37 y37 z37 sr37 hQ37
  subst l37 y37 z37
  obtain ⟨rfl, N37q, K37c, f37_0, f37_1, f37_2⟩ := hQ37
  have N37 := Fr.app N32 N37q
  have f38 : Exa Z T37.heap b2 "com/example/tideloop/tideloop/CatchUp" := f32_0.keep K37c
  have Z39 : n0 ≤ T37.heap.size := Nat.le_trans Z34 K37c.1
  have hv6 := own_sv x0 (5 : Int32) ((x1 &&& (2147483647 : Int32)) % (9 : Int32)) v5 hv5
  have hk6 := own_sk x0 (5 : Int32) ((x1 &&& (2147483647 : Int32)) % (9 : Int32)) v5 k5 5 (by decide) hk5
  obtain ⟨v6, ev6⟩ : ∃ z, z = (F3 x0 (5 : Int32) ((x1 &&& (2147483647 : Int32)) % (9 : Int32)) v5) := ⟨_, rfl⟩
  obtain ⟨k6, ek6⟩ : ∃ z, z = (if (5 : Int32) < ((x1 &&& (2147483647 : Int32)) % (9 : Int32)) then (if (((x0.toUInt32 >>> ((5 : Int32) &&& 31).toUInt32).toInt32) &&& (1 : Int32)) = (0 : Int32) then (if (F5 v5 k5) = (16 : Int32) then (0 : Int32) else (k5 + (1 : Int32))) else k5) else k5) := ⟨_, rfl⟩
  rw [← ev6] at hv6 f37_1 sr37
  rw [← ek6] at hk6 f37_2
  have st40 : Steps p.tables e below (s₁.setTop (entryFrame m #[(.int x0), (.int x1)] maxLocals)) (T37.setTop (mkF m 83 #[.val (.int x0), .val (.int x1), .val (.int ((x1 &&& (2147483647 : Int32)) % (9 : Int32))), .val (.ref b2), .val (.int v5), .unset] [(.int v6)])) := st36.trans (sr37 _ (Steps.refl _))
  have st41 : Steps p.tables e below (s₁.setTop (entryFrame m #[(.int x0), (.int x1)] maxLocals)) (T37.setTop (mkF m 92 #[.val (.int x0), .val (.int x1), .val (.int ((x1 &&& (2147483647 : Int32)) % (9 : Int32))), .val (.ref b2), .val (.int v6), .unset] [(.int v6), (.int ((x1 &&& (2147483647 : Int32)) % (9 : Int32))), (.int (6 : Int32)), (.int x0), (.ref b2)])) := st40.trans (by
      show Steps p.tables e below (T37.setTop (mkF m 83 #[.val (.int x0), .val (.int x1), .val (.int ((x1 &&& (2147483647 : Int32)) % (9 : Int32))), .val (.ref b2), .val (.int v5), .unset] [(.int v6)])) _
      refine XS.istore X37.here hx rfl (hb hby at_83) rfl (l' := #[.val (.int x0), .val (.int x1), .val (.int ((x1 &&& (2147483647 : Int32)) % (9 : Int32))), .val (.ref b2), .val (.int v6), .unset]) rfl ?_
      show Steps p.tables e below (T37.setTop (mkF m 85 #[.val (.int x0), .val (.int x1), .val (.int ((x1 &&& (2147483647 : Int32)) % (9 : Int32))), .val (.ref b2), .val (.int v6), .unset] [])) _
      refine XS.aloadN X37.here hx rfl (hb hby at_85) rfl rfl ?_
      show Steps p.tables e below (T37.setTop (mkF m 86 #[.val (.int x0), .val (.int x1), .val (.int ((x1 &&& (2147483647 : Int32)) % (9 : Int32))), .val (.ref b2), .val (.int v6), .unset] [(.ref b2)])) _
      refine XS.iloadN X37.here hx rfl (hb hby at_86) rfl ?_
      show Steps p.tables e below (T37.setTop (mkF m 87 #[.val (.int x0), .val (.int x1), .val (.int ((x1 &&& (2147483647 : Int32)) % (9 : Int32))), .val (.ref b2), .val (.int v6), .unset] [(.int x0), (.ref b2)])) _
      refine XS.bipush X37.here hx rfl (hb hby at_87) ?_
      show Steps p.tables e below (T37.setTop (mkF m 89 #[.val (.int x0), .val (.int x1), .val (.int ((x1 &&& (2147483647 : Int32)) % (9 : Int32))), .val (.ref b2), .val (.int v6), .unset] [(.int (6 : Int32)), (.int x0), (.ref b2)])) _
      refine XS.iloadN X37.here hx rfl (hb hby at_89) rfl ?_
      show Steps p.tables e below (T37.setTop (mkF m 90 #[.val (.int x0), .val (.int x1), .val (.int ((x1 &&& (2147483647 : Int32)) % (9 : Int32))), .val (.ref b2), .val (.int v6), .unset] [(.int ((x1 &&& (2147483647 : Int32)) % (9 : Int32))), (.int (6 : Int32)), (.int x0), (.ref b2)])) _
      refine XS.iload X37.here hx rfl (hb hby at_90) rfl ?_
      exact Steps.refl _)
  obtain ⟨_, _, ⟨T42, L42, k42, n42⟩, -, X42, ⟨Lc42, hQ42, l42, y42, z42⟩, sr42⟩ := Jvm.LawKit.callS X37 hx (y := (⟨"com/example/tideloop/tideloop/CatchUpRoundsPinLaw", "step", "(Lcom/example/tideloop/tideloop/CatchUp;IIII)I"⟩ : MethodName)) hown (mvT hZ (hw _ (List.mem_of_getElem? (i := 10) rfl))) (mvT hZ (hw _ (List.mem_of_getElem? (i := 11) rfl))) (mvT hZ (hw _ (List.mem_of_getElem? (i := 12) rfl))) (mvT hZ (hw _ (List.mem_of_getElem? (i := 13) rfl))) (by decide) (backOf (W := 0) (rm3 l Z a0 hw [] b2 x0 (6 : Int32) ((x1 &&& (2147483647 : Int32)) % (9 : Int32)) v6 k6 T37.heap n0 Z39 f37_0 f37_1 f37_2 g_b2 hv6 ⟨hk6.1, by omega⟩) hZ (hw _ (List.mem_of_getElem? (i := 13) rfl)) (hw _ (List.mem_of_getElem? (i := 12) rfl)) (by decide) (by decide)) (g := (mkF m 92 #[.val (.int x0), .val (.int x1), .val (.int ((x1 &&& (2147483647 : Int32)) % (9 : Int32))), .val (.ref b2), .val (.int v6), .unset] [(.int v6), (.int ((x1 &&& (2147483647 : Int32)) % (9 : Int32))), (.int (6 : Int32)), (.int x0), (.ref b2)])) rfl (by rw [hml]; rfl) (argsL := [(.ref b2), (.int x0), (.int (6 : Int32)), (.int ((x1 &&& (2147483647 : Int32)) % (9 : Int32))), (.int v6)]) (rest := []) (lenOf pd_3 rfl) rfl (by show 2 * 0 + _ ≤ _; exact Nat.le_of_eq rfl) (hb hby at_92) (fun _ _ => ⟨rfl, rfl, (by decide : 1 + 0 ≤ _), (by decide : 2 + 0 ≤ _)⟩)
  dsimp only [Pt.U, Pt.locs, Pt.cells, Pt.slots] at X42 l42 y42 z42 sr42 hQ42
  subst l42 y42 z42
  obtain ⟨rfl, N42q, K42c, f42_0, f42_1, f42_2⟩ := hQ42
  have N42 := Fr.app N37 N42q
  have f43 : Exa Z T42.heap b2 "com/example/tideloop/tideloop/CatchUp" := f37_0.keep K42c
  have Z44 : n0 ≤ T42.heap.size := Nat.le_trans Z39 K42c.1
  have hv7 := own_sv x0 (6 : Int32) ((x1 &&& (2147483647 : Int32)) % (9 : Int32)) v6 hv6
  have hk7 := own_sk x0 (6 : Int32) ((x1 &&& (2147483647 : Int32)) % (9 : Int32)) v6 k6 6 (by decide) hk6
  obtain ⟨v7, ev7⟩ : ∃ z, z = (F3 x0 (6 : Int32) ((x1 &&& (2147483647 : Int32)) % (9 : Int32)) v6) := ⟨_, rfl⟩
  obtain ⟨k7, ek7⟩ : ∃ z, z = (if (6 : Int32) < ((x1 &&& (2147483647 : Int32)) % (9 : Int32)) then (if (((x0.toUInt32 >>> ((6 : Int32) &&& 31).toUInt32).toInt32) &&& (1 : Int32)) = (0 : Int32) then (if (F5 v6 k6) = (16 : Int32) then (0 : Int32) else (k6 + (1 : Int32))) else k6) else k6) := ⟨_, rfl⟩
  rw [← ev7] at hv7 f42_1 sr42
  rw [← ek7] at hk7 f42_2
  have st45 : Steps p.tables e below (s₁.setTop (entryFrame m #[(.int x0), (.int x1)] maxLocals)) (T42.setTop (mkF m 95 #[.val (.int x0), .val (.int x1), .val (.int ((x1 &&& (2147483647 : Int32)) % (9 : Int32))), .val (.ref b2), .val (.int v6), .unset] [(.int v7)])) := st41.trans (sr42 _ (Steps.refl _))
  have st46 : Steps p.tables e below (s₁.setTop (entryFrame m #[(.int x0), (.int x1)] maxLocals)) (T42.setTop (mkF m 104 #[.val (.int x0), .val (.int x1), .val (.int ((x1 &&& (2147483647 : Int32)) % (9 : Int32))), .val (.ref b2), .val (.int v7), .unset] [(.int v7), (.int ((x1 &&& (2147483647 : Int32)) % (9 : Int32))), (.int (7 : Int32)), (.int x0), (.ref b2)])) := st45.trans (by
      show Steps p.tables e below (T42.setTop (mkF m 95 #[.val (.int x0), .val (.int x1), .val (.int ((x1 &&& (2147483647 : Int32)) % (9 : Int32))), .val (.ref b2), .val (.int v6), .unset] [(.int v7)])) _
      refine XS.istore X42.here hx rfl (hb hby at_95) rfl (l' := #[.val (.int x0), .val (.int x1), .val (.int ((x1 &&& (2147483647 : Int32)) % (9 : Int32))), .val (.ref b2), .val (.int v7), .unset]) rfl ?_
      show Steps p.tables e below (T42.setTop (mkF m 97 #[.val (.int x0), .val (.int x1), .val (.int ((x1 &&& (2147483647 : Int32)) % (9 : Int32))), .val (.ref b2), .val (.int v7), .unset] [])) _
      refine XS.aloadN X42.here hx rfl (hb hby at_97) rfl rfl ?_
      show Steps p.tables e below (T42.setTop (mkF m 98 #[.val (.int x0), .val (.int x1), .val (.int ((x1 &&& (2147483647 : Int32)) % (9 : Int32))), .val (.ref b2), .val (.int v7), .unset] [(.ref b2)])) _
      refine XS.iloadN X42.here hx rfl (hb hby at_98) rfl ?_
      show Steps p.tables e below (T42.setTop (mkF m 99 #[.val (.int x0), .val (.int x1), .val (.int ((x1 &&& (2147483647 : Int32)) % (9 : Int32))), .val (.ref b2), .val (.int v7), .unset] [(.int x0), (.ref b2)])) _
      refine XS.bipush X42.here hx rfl (hb hby at_99) ?_
      show Steps p.tables e below (T42.setTop (mkF m 101 #[.val (.int x0), .val (.int x1), .val (.int ((x1 &&& (2147483647 : Int32)) % (9 : Int32))), .val (.ref b2), .val (.int v7), .unset] [(.int (7 : Int32)), (.int x0), (.ref b2)])) _
      refine XS.iloadN X42.here hx rfl (hb hby at_101) rfl ?_
      show Steps p.tables e below (T42.setTop (mkF m 102 #[.val (.int x0), .val (.int x1), .val (.int ((x1 &&& (2147483647 : Int32)) % (9 : Int32))), .val (.ref b2), .val (.int v7), .unset] [(.int ((x1 &&& (2147483647 : Int32)) % (9 : Int32))), (.int (7 : Int32)), (.int x0), (.ref b2)])) _
      refine XS.iload X42.here hx rfl (hb hby at_102) rfl ?_
      exact Steps.refl _)
  obtain ⟨_, _, ⟨T47, L47, k47, n47⟩, -, X47, ⟨Lc47, hQ47, l47, y47, z47⟩, sr47⟩ := Jvm.LawKit.callS X42 hx (y := (⟨"com/example/tideloop/tideloop/CatchUpRoundsPinLaw", "step", "(Lcom/example/tideloop/tideloop/CatchUp;IIII)I"⟩ : MethodName)) hown (mvT hZ (hw _ (List.mem_of_getElem? (i := 10) rfl))) (mvT hZ (hw _ (List.mem_of_getElem? (i := 11) rfl))) (mvT hZ (hw _ (List.mem_of_getElem? (i := 12) rfl))) (mvT hZ (hw _ (List.mem_of_getElem? (i := 13) rfl))) (by decide) (backOf (W := 0) (rm3 l Z a0 hw [] b2 x0 (7 : Int32) ((x1 &&& (2147483647 : Int32)) % (9 : Int32)) v7 k7 T42.heap n0 Z44 f42_0 f42_1 f42_2 g_b2 hv7 ⟨hk7.1, by omega⟩) hZ (hw _ (List.mem_of_getElem? (i := 13) rfl)) (hw _ (List.mem_of_getElem? (i := 12) rfl)) (by decide) (by decide)) (g := (mkF m 104 #[.val (.int x0), .val (.int x1), .val (.int ((x1 &&& (2147483647 : Int32)) % (9 : Int32))), .val (.ref b2), .val (.int v7), .unset] [(.int v7), (.int ((x1 &&& (2147483647 : Int32)) % (9 : Int32))), (.int (7 : Int32)), (.int x0), (.ref b2)])) rfl (by rw [hml]; rfl) (argsL := [(.ref b2), (.int x0), (.int (7 : Int32)), (.int ((x1 &&& (2147483647 : Int32)) % (9 : Int32))), (.int v7)]) (rest := []) (lenOf pd_3 rfl) rfl (by show 2 * 0 + _ ≤ _; exact Nat.le_of_eq rfl) (hb hby at_104) (fun _ _ => ⟨rfl, rfl, (by decide : 1 + 0 ≤ _), (by decide : 2 + 0 ≤ _)⟩)
  dsimp only [Pt.U, Pt.locs, Pt.cells, Pt.slots] at X47 l47 y47 z47 sr47 hQ47
  subst l47 y47 z47
  obtain ⟨rfl, N47q, K47c, f47_0, f47_1, f47_2⟩ := hQ47
  have N47 := Fr.app N42 N47q
  have f48 : Exa Z T47.heap b2 "com/example/tideloop/tideloop/CatchUp" := f42_0.keep K47c
  have Z49 : n0 ≤ T47.heap.size := Nat.le_trans Z44 K47c.1
  have hv8 := own_sv x0 (7 : Int32) ((x1 &&& (2147483647 : Int32)) % (9 : Int32)) v7 hv7
  have hk8 := own_sk x0 (7 : Int32) ((x1 &&& (2147483647 : Int32)) % (9 : Int32)) v7 k7 7 (by decide) hk7
  obtain ⟨v8, ev8⟩ : ∃ z, z = (F3 x0 (7 : Int32) ((x1 &&& (2147483647 : Int32)) % (9 : Int32)) v7) := ⟨_, rfl⟩
  obtain ⟨k8, ek8⟩ : ∃ z, z = (if (7 : Int32) < ((x1 &&& (2147483647 : Int32)) % (9 : Int32)) then (if (((x0.toUInt32 >>> ((7 : Int32) &&& 31).toUInt32).toInt32) &&& (1 : Int32)) = (0 : Int32) then (if (F5 v7 k7) = (16 : Int32) then (0 : Int32) else (k7 + (1 : Int32))) else k7) else k7) := ⟨_, rfl⟩
  rw [← ev8] at hv8 f47_1 sr47
  rw [← ek8] at hk8 f47_2
  have st50 : Steps p.tables e below (s₁.setTop (entryFrame m #[(.int x0), (.int x1)] maxLocals)) (T47.setTop (mkF m 107 #[.val (.int x0), .val (.int x1), .val (.int ((x1 &&& (2147483647 : Int32)) % (9 : Int32))), .val (.ref b2), .val (.int v7), .unset] [(.int v8)])) := st46.trans (sr47 _ (Steps.refl _))
  have st51 : Steps p.tables e below (s₁.setTop (entryFrame m #[(.int x0), (.int x1)] maxLocals)) (T47.setTop (mkF m 112 #[.val (.int x0), .val (.int x1), .val (.int ((x1 &&& (2147483647 : Int32)) % (9 : Int32))), .val (.ref b2), .val (.int v8), .unset] [(.int (4 : Int32)), (.int v8)])) := st50.trans (by
      show Steps p.tables e below (T47.setTop (mkF m 107 #[.val (.int x0), .val (.int x1), .val (.int ((x1 &&& (2147483647 : Int32)) % (9 : Int32))), .val (.ref b2), .val (.int v7), .unset] [(.int v8)])) _
      refine XS.istore X47.here hx rfl (hb hby at_107) rfl (l' := #[.val (.int x0), .val (.int x1), .val (.int ((x1 &&& (2147483647 : Int32)) % (9 : Int32))), .val (.ref b2), .val (.int v8), .unset]) rfl ?_
      show Steps p.tables e below (T47.setTop (mkF m 109 #[.val (.int x0), .val (.int x1), .val (.int ((x1 &&& (2147483647 : Int32)) % (9 : Int32))), .val (.ref b2), .val (.int v8), .unset] [])) _
      refine XS.iload X47.here hx rfl (hb hby at_109) rfl ?_
      show Steps p.tables e below (T47.setTop (mkF m 111 #[.val (.int x0), .val (.int x1), .val (.int ((x1 &&& (2147483647 : Int32)) % (9 : Int32))), .val (.ref b2), .val (.int v8), .unset] [(.int v8)])) _
      refine XS.iconst X47.here hx rfl (hb hby at_111) ?_
      exact Steps.refl _)
  have st53 : Steps p.tables e below (s₁.setTop (entryFrame m #[(.int x0), (.int x1)] maxLocals)) (T47.setTop (mkF m 121 #[.val (.int x0), .val (.int x1), .val (.int ((x1 &&& (2147483647 : Int32)) % (9 : Int32))), .val (.ref b2), .val (.int v8), .unset] [(.int (if v8 < (4 : Int32) then (16 : Int32) else (0 : Int32)))])) := st51.trans (by
      show Steps p.tables e below (T47.setTop (mkF m 112 #[.val (.int x0), .val (.int x1), .val (.int ((x1 &&& (2147483647 : Int32)) % (9 : Int32))), .val (.ref b2), .val (.int v8), .unset] [(.int (4 : Int32)), (.int v8)])) _
      by_cases hc52 : v8 < (4 : Int32)
      · show Steps p.tables e below (T47.setTop (mkF m 112 #[.val (.int x0), .val (.int x1), .val (.int ((x1 &&& (2147483647 : Int32)) % (9 : Int32))), .val (.ref b2), .val (.int v8), .unset] [(.int (4 : Int32)), (.int v8)])) _
        refine XS.icmpNo X47.here hx rfl (hb hby at_112) rfl (tlt hc52).2.1 ?_
        show Steps p.tables e below (T47.setTop (mkF m 115 #[.val (.int x0), .val (.int x1), .val (.int ((x1 &&& (2147483647 : Int32)) % (9 : Int32))), .val (.ref b2), .val (.int v8), .unset] [])) _
        refine XS.bipush X47.here hx rfl (hb hby at_115) ?_
        show Steps p.tables e below (T47.setTop (mkF m 117 #[.val (.int x0), .val (.int x1), .val (.int ((x1 &&& (2147483647 : Int32)) % (9 : Int32))), .val (.ref b2), .val (.int v8), .unset] [(.int (16 : Int32))])) _
        refine XS.goto X47.here hx rfl (pc0 := 117) (pc' := 121) rfl (hb hby at_117) (by decide) (by decide) ?_
        simp only [if_pos hc52]
        exact Steps.refl _
      · show Steps p.tables e below (T47.setTop (mkF m 112 #[.val (.int x0), .val (.int x1), .val (.int ((x1 &&& (2147483647 : Int32)) % (9 : Int32))), .val (.ref b2), .val (.int v8), .unset] [(.int (4 : Int32)), (.int v8)])) _
        refine XS.icmpYes X47.here hx rfl (pc0 := 112) (pc' := 120) rfl (hb hby at_112) rfl (flt hc52).2.1 (by decide) (by decide) ?_
        show Steps p.tables e below (T47.setTop (mkF m 120 #[.val (.int x0), .val (.int x1), .val (.int ((x1 &&& (2147483647 : Int32)) % (9 : Int32))), .val (.ref b2), .val (.int v8), .unset] [])) _
        refine XS.iconst X47.here hx rfl (hb hby at_120) ?_
        simp only [if_neg hc52]
        exact Steps.refl _
      )
  have st54 : Steps p.tables e below (s₁.setTop (entryFrame m #[(.int x0), (.int x1)] maxLocals)) (T47.setTop (mkF m 124 #[.val (.int x0), .val (.int x1), .val (.int ((x1 &&& (2147483647 : Int32)) % (9 : Int32))), .val (.ref b2), .val (.int v8), .val (.int (if v8 < (4 : Int32) then (16 : Int32) else (0 : Int32)))] [(.ref b2)])) := st53.trans (by
      show Steps p.tables e below (T47.setTop (mkF m 121 #[.val (.int x0), .val (.int x1), .val (.int ((x1 &&& (2147483647 : Int32)) % (9 : Int32))), .val (.ref b2), .val (.int v8), .unset] [(.int (if v8 < (4 : Int32) then (16 : Int32) else (0 : Int32)))])) _
      refine XS.istore X47.here hx rfl (hb hby at_121) rfl (l' := #[.val (.int x0), .val (.int x1), .val (.int ((x1 &&& (2147483647 : Int32)) % (9 : Int32))), .val (.ref b2), .val (.int v8), .val (.int (if v8 < (4 : Int32) then (16 : Int32) else (0 : Int32)))]) rfl ?_
      show Steps p.tables e below (T47.setTop (mkF m 123 #[.val (.int x0), .val (.int x1), .val (.int ((x1 &&& (2147483647 : Int32)) % (9 : Int32))), .val (.ref b2), .val (.int v8), .val (.int (if v8 < (4 : Int32) then (16 : Int32) else (0 : Int32)))] [])) _
      refine XS.aloadN X47.here hx rfl (hb hby at_123) rfl rfl ?_
      exact Steps.refl _)
  obtain ⟨cq55, kq55, q55a, q55b, q55c⟩ := isOf hZ rfl f47_0
  obtain ⟨_, _, ⟨T55, L55, k55, n55⟩, -, X55, ⟨Lc55, hQ55, l55, y55, z55⟩, sr55⟩ := X47.virtualBack hx (y := (⟨"com/example/tideloop/tideloop/CatchUp", "rounds", "()I"⟩ : MethodName)) (z := (⟨"com/example/tideloop/tideloop/CatchUp", "rounds", "()I"⟩ : MethodName)) hown (mvT hZ (hw _ (List.mem_of_getElem? (i := 33) rfl))) (mvT hZ (hw _ (List.mem_of_getElem? (i := 20) rfl))) (notFace_of_selects (args := #[]) (mvT hZ (hw _ (List.mem_of_getElem? (i := 22) rfl)))) (mvT hZ (hw _ (List.mem_of_getElem? (i := 22) rfl))) (mvT hZ (hw _ (List.mem_of_getElem? (i := 21) rfl))) (by decide) (backOf (W := 0) (rm5 l Z a0 hw [] b2 v8 k8 T47.heap n0 Z49 f47_0 f47_1 f47_2 g_b2) hZ (hw _ (List.mem_of_getElem? (i := 23) rfl)) (hw _ (List.mem_of_getElem? (i := 3) rfl)) (by decide) (by decide)) q55a q55c (g := (mkF m 124 #[.val (.int x0), .val (.int x1), .val (.int ((x1 &&& (2147483647 : Int32)) % (9 : Int32))), .val (.ref b2), .val (.int v8), .val (.int (if v8 < (4 : Int32) then (16 : Int32) else (0 : Int32)))] [(.ref b2)])) rfl (by rw [hml]; rfl) (Steps.refl _) (argsL := []) (rest := []) (lenOf pd_0 rfl) rfl (by show 2 * 0 + _ ≤ _; exact Nat.le_of_eq rfl) (hb hby at_124) (fun _ _ => ⟨rfl, rfl, (by decide : 1 + 0 ≤ _), (by decide : 2 + 0 ≤ _)⟩)
  dsimp only [Pt.U, Pt.locs, Pt.cells, Pt.slots] at X55 l55 y55 z55 sr55 hQ55
  subst l55 y55 z55
  obtain ⟨rfl, N55q, hh55⟩ := hQ55
  have N55 := Fr.app N47 N55q
  have st56 : Steps p.tables e below (s₁.setTop (entryFrame m #[(.int x0), (.int x1)] maxLocals)) (T55.setTop (mkF m 127 #[.val (.int x0), .val (.int x1), .val (.int ((x1 &&& (2147483647 : Int32)) % (9 : Int32))), .val (.ref b2), .val (.int v8), .val (.int (if v8 < (4 : Int32) then (16 : Int32) else (0 : Int32)))] [(.int (F5 v8 k8))])) := st54.trans (sr55)
  have st57 : Steps p.tables e below (s₁.setTop (entryFrame m #[(.int x0), (.int x1)] maxLocals)) (T55.setTop (mkF m 129 #[.val (.int x0), .val (.int x1), .val (.int ((x1 &&& (2147483647 : Int32)) % (9 : Int32))), .val (.ref b2), .val (.int v8), .val (.int (if v8 < (4 : Int32) then (16 : Int32) else (0 : Int32)))] [(.int (if v8 < (4 : Int32) then (16 : Int32) else (0 : Int32))), (.int (F5 v8 k8))])) := st56.trans (by
      show Steps p.tables e below (T55.setTop (mkF m 127 #[.val (.int x0), .val (.int x1), .val (.int ((x1 &&& (2147483647 : Int32)) % (9 : Int32))), .val (.ref b2), .val (.int v8), .val (.int (if v8 < (4 : Int32) then (16 : Int32) else (0 : Int32)))] [(.int (F5 v8 k8))])) _
      refine XS.iload X55.here hx rfl (hb hby at_127) rfl ?_
      exact Steps.refl _)
  have hf58 : (F5 v8 k8) = (if v8 < (4 : Int32) then (16 : Int32) else (0 : Int32)) := own_rd v8 k8 hv8 ⟨hk8.1, by omega⟩
  have st59 : Steps p.tables e below (s₁.setTop (entryFrame m #[(.int x0), (.int x1)] maxLocals)) (T55.setTop (mkF m 137 #[.val (.int x0), .val (.int x1), .val (.int ((x1 &&& (2147483647 : Int32)) % (9 : Int32))), .val (.ref b2), .val (.int v8), .val (.int (if v8 < (4 : Int32) then (16 : Int32) else (0 : Int32)))] [(.int (1 : Int32))])) := st57.trans (by
      show Steps p.tables e below (T55.setTop (mkF m 129 #[.val (.int x0), .val (.int x1), .val (.int ((x1 &&& (2147483647 : Int32)) % (9 : Int32))), .val (.ref b2), .val (.int v8), .val (.int (if v8 < (4 : Int32) then (16 : Int32) else (0 : Int32)))] [(.int (if v8 < (4 : Int32) then (16 : Int32) else (0 : Int32))), (.int (F5 v8 k8))])) _
      refine XS.icmpNo X55.here hx rfl (hb hby at_129) rfl (teq hf58).2 ?_
      show Steps p.tables e below (T55.setTop (mkF m 132 #[.val (.int x0), .val (.int x1), .val (.int ((x1 &&& (2147483647 : Int32)) % (9 : Int32))), .val (.ref b2), .val (.int v8), .val (.int (if v8 < (4 : Int32) then (16 : Int32) else (0 : Int32)))] [])) _
      refine XS.iconst X55.here hx rfl (hb hby at_132) ?_
      show Steps p.tables e below (T55.setTop (mkF m 133 #[.val (.int x0), .val (.int x1), .val (.int ((x1 &&& (2147483647 : Int32)) % (9 : Int32))), .val (.ref b2), .val (.int v8), .val (.int (if v8 < (4 : Int32) then (16 : Int32) else (0 : Int32)))] [(.int (1 : Int32))])) _
      refine XS.goto X55.here hx rfl (pc0 := 133) (pc' := 137) rfl (hb hby at_133) (by decide) (by decide) ?_
      exact Steps.refl _)
  obtain ⟨fs, hr, hrun, hended, hW, hsame⟩ := X55.leave (v := some (.int (1 : Int32))) (fun h => by rw [Bd.returns] at h; cases h)
  refine ⟨_, _, st59.trans ?_, hrun, hended, _, _, rfl, ?_, ⟨_, rfl⟩, hW, hsame.mono (by decide) (by decide)⟩
  · exact retN X55 hx (t := .boolean) Bd.returns (by simp) (hb hby at_137) hr
  · show Q0 Z x0 x1 h0 n0 _ T55.heap _
    rw [hh55]
    exact ⟨rfl, N55⟩
set_option maxRecDepth 65536 in
set_option maxHeartbeats 40000000 in
theorem comes_1 {Post : Tables → Env → Array Value → State → Outcome → State → Prop} (hpost : ∀ tb e args s v u, (limb_1_1.after args s (.returned v) u = true ∧ limb_1_2.after args s (.returned v) u = true ∧ True) → FrameEnd s (.returned v) u (Jvm.fieldLocs frame_1_writes args s ++ Jvm.arrayLocs frame_1_arrays args s ++ Jvm.staticLocs frame_1_statics s) 16 128 → Post tb e args s (.returned v) u) :
    ArmFor flags0 classFile x code maxLocals ret World_1 tables_1 room_1 Calls_1 rest_1 Pre_1 Post := by
  intro l hfl _ _ p e ha hc hk s m args below hf hA hF happ hP
  obtain ⟨hcalls, hrest, hpre⟩ := hP
  obtain ⟨-, -, -, hnamed, -, -, -, hat⟩ := (Spec.applies_iff hf).mp happ
  obtain ⟨hg, hn⟩ := and_e (Cond.before_iff.mp (show (Jvm.Cond.and given_1 narrow_1).before args s = true from hpre))
  obtain ⟨g1, g2⟩ := and_e hg
  obtain ⟨g3, g4⟩ := and_e g2
  obtain ⟨w0, w1, rfl⟩ : ∃ w0 w1 : Value, args = #[w0, w1] := by
    have hs : args.size = 2 := by simpa [Cond.value, given_1] using g1
    obtain ⟨L⟩ := args
    match L, hs with
    | [w0, w1], _ => exact ⟨w0, w1, rfl⟩
  have hw := fun d (hd : d ∈ tables_1) => atoms_spec (ws := Jvm.Cond.code x code maxLocals ret :: tables_1) hat d (List.mem_cons_of_mem _ hd)
  have hfit : Fit s := fun {y c} hc i hi => by
    obtain ⟨ha, rfl⟩ := Array.getElem?_eq_some_iff.mp hc
    have q := List.all_eq_true.mp ((Array.all_eq_true_iff_forall_mem.mp hF) _ (Array.getElem_mem ha)) i (List.mem_range.mpr hi)
    simpa [Array.getElem?_eq_getElem hi] using q
  obtain ⟨i0, ei0⟩ := is_v g3
  obtain rfl : w0 = (.int i0) := Option.some.inj ei0
  obtain ⟨i1, ei1⟩ := is_v g4
  obtain rfl : w1 = (.int i1) := Option.some.inj ei1
  obtain ⟨n, o, h1, h2, h3, _, L, rfl, ⟨hv, N⟩, hq⟩ := rm0 l s _ hw tables_1 i0 i1  s.heap s.heap.size (Nat.le_refl _)  p e ha hc hk s m _ below hf ((Spec.applies_iff_loose hf).mp happ).1 ⟨rfl, State.Warmed39.refl s, rfl⟩ trivial
  subst hv
  refine ⟨n, _, h1, h2, h3, hpost _ _ _ _ _ _ ⟨Cond.after_iff.mpr rfl, Cond.after_iff.mpr (eq_i res_at (Term.int_eval (1)) rfl), trivial⟩ ⟨hq.1, hq.2.1, (hq.2.2.sift fun y hy => Or.inr (N y hy)).mono (by decide) (by decide)⟩⟩
theorem main_1_1 : Claimed_1_1 := comes_1 fun _ _ _ _ _ _ h hF => ⟨h.1, hF⟩
theorem main_1_2 : Claimed_1_2 := comes_1 fun _ _ _ _ _ _ h hF => ⟨h.2.1, hF⟩
end Jvm.Pilot.@@N@@
namespace Jvm.Pilot.@@N@@
open Jvm Jvm.ClassFile Sem Op Lib Jvm.Free Jvm.Stand Jvm.Pilot.@@N@@.Jvm.D
/-! MADE BY PROGRAM (witnessworld.py) out of the Statement's table words and the real class files: 10 classes; the members and pool entries that the words name. The judged class is class 1, her method 2. -/
namespace start1
open Jvm.ClassFile
def u (s : String) : CpInfo := .utf8 (stringToUtf16 s)
/-- a pool by its gaps: so many unusable entries, then the entry; so many at the end -/
def gap : Nat → List CpInfo → List CpInfo
  | 0, r => r
  | n + 1, r => .unusable :: gap n r
def poolList (es : List (Nat × CpInfo)) (last : Nat) : List CpInfo := es.foldr (fun e r => gap e.1 (e.2 :: r)) (gap last [])
def pool (es : List (Nat × CpInfo)) (last : Nat) : Array CpInfo := ⟨poolList es last⟩
def fileOf (pool : Array CpInfo) (this : Nat) (attrs : Array Attribute := #[]) (ms : Array MethodInfo := #[]) (fl : Nat := 33) (sup : Nat := 0) (ifs : Array Nat := #[]) (fds : Array FieldInfo := #[]) : ClassFile where
  minorVersion := 0
  majorVersion := 65
  constantPool := pool
  accessFlags := fl
  thisClass := this
  superClass := sup
  interfaces := ifs
  fields := fds
  methods := ms
  attributes := attrs
def plain (name : String) (sup : Option ClassId) : Class where
  name := name
  kind := .ordinary
  loader := none
  accessFlags := 33
  super := sup
  interfaces := #[]
  cf := none
  fields := #[]
  methods := #[]
  instanceTypes := #[]
  staticTypes := #[]
  resolved := #[]
  callSites := []
  init := .initialized
  statics := none
  mirror := none

def pool0 : Array CpInfo := pool [(5, u "<init>"), (0, u "()V"), (1, .class_ 10), (1, u "java/lang/Object")] 113

def k0c0 : Code := { maxStack := 0, maxLocals := 1, code := object_method_1_code, exceptionTable := #[], attributes := #[] }
def k0m0 : Method := { name := "<init>", desc := "()V", sig := { parameters := [], returnType := none }, accessFlags := 1, code := some k0c0 }
/-- java/lang/Object -/
def k0 : Class := { plain "java/lang/Object" none with
  accessFlags := 33
  interfaces := #[]
  cf := some (fileOf pool0 8 #[] #[{ accessFlags := 1, nameIndex := 5, descriptorIndex := 6, attributes := #[] }] 33 0 #[] #[])
  fields := #[]
  methods := #[k0m0]
  instanceTypes := #[]
  staticTypes := #[]
  resolved := Array.replicate 124 none
  statics := none }

def pool1 : Array CpInfo := pool [(2, .class_ 4), (0, .nameAndType 5 6), (0, u "java/lang/Object"), (0, u "<init>"), (0, u "()V"), (0, .methodref 8 9), (0, .class_ 10), (0, .nameAndType 11 6), (0, u "com/example/tideloop/tideloop/CatchUp"), (0, u "found"), (0, .methodref 8 13), (0, .nameAndType 14 6), (0, u "foundNothing"), (0, .methodref 16 17), (0, .class_ 18), (0, .nameAndType 19 20), (0, u "java/lang/Math"), (0, u "min"), (0, u "(II)I"), (0, .integer 2147483647), (0, .methodref 8 3), (0, .methodref 24 25), (0, .class_ 26), (0, .nameAndType 27 28), (0, u "com/example/tideloop/tideloop/CatchUpRoundsPinLaw"), (0, u "step"), (0, u "(Lcom/example/tideloop/tideloop/CatchUp;IIII)I"), (0, .methodref 8 30), (0, .nameAndType 31 32), (0, u "rounds"), (0, u "()I"), (3, u "law"), (0, u "(II)Z")] 2

def k1m0 : Method := { name := "<init>", desc := "()V", sig := { parameters := [], returnType := none }, accessFlags := 1, code := none }
def k1c1 : Code := { maxStack := 2, maxLocals := 5, code := method_2_code, exceptionTable := #[], attributes := #[] }
def k1m1 : Method := { name := "step", desc := "(Lcom/example/tideloop/tideloop/CatchUp;IIII)I", sig := { parameters := [(.object "com/example/tideloop/tideloop/CatchUp"), .int, .int, .int, .int], returnType := some .int }, accessFlags := 10, code := some k1c1 }
def k1c2 : Code := { maxStack := 5, maxLocals := 6, code := code, exceptionTable := #[], attributes := #[] }
def k1m2 : Method := { name := "law", desc := "(II)Z", sig := { parameters := [.int, .int], returnType := some .boolean }, accessFlags := 9, code := some k1c2 }
/-- com/example/tideloop/tideloop/CatchUpRoundsPinLaw -/
def k1 : Class := { plain "com/example/tideloop/tideloop/CatchUpRoundsPinLaw" (some 0) with
  accessFlags := 49
  interfaces := #[]
  cf := some (fileOf pool1 24 #[] #[{ accessFlags := 1, nameIndex := 5, descriptorIndex := 6, attributes := #[] }, { accessFlags := 10, nameIndex := 27, descriptorIndex := 28, attributes := #[] }, { accessFlags := 9, nameIndex := 36, descriptorIndex := 37, attributes := #[] }] 49 2 #[] #[])
  fields := #[]
  methods := #[k1m0, k1m1, k1m2]
  instanceTypes := #[]
  staticTypes := #[]
  resolved := Array.replicate 40 none
  statics := none }

def pool2 : Array CpInfo := pool [(1, .methodref 2 3), (0, .class_ 4), (0, .nameAndType 5 6), (0, u "java/lang/Object"), (0, u "<init>"), (0, u "()V"), (0, .fieldref 8 9), (0, .class_ 10), (0, .nameAndType 11 12), (0, u "com/example/tideloop/tideloop/CatchUp"), (0, u "vain"), (0, u "I"), (0, .fieldref 8 14), (0, .nameAndType 15 12), (0, u "skipped"), (0, .methodref 8 17), (0, .nameAndType 18 19), (0, u "rounds"), (0, u "()I"), (0, .methodref 21 22), (0, .class_ 23), (0, .nameAndType 24 25), (0, u "java/lang/Math"), (0, u "min"), (0, u "(II)I"), (0, u "ROUNDS"), (2, u "PROBE_ROUNDS"), (1, u "GIVE_UP_AFTER"), (1, u "PROBE_EVERY"), (1, u "WHOLE_EVERY"), (4, u "found"), (0, u "foundNothing")] 2

def k2c0 : Code := { maxStack := 1, maxLocals := 1, code := prog_1_method_1_code, exceptionTable := #[], attributes := #[] }
def k2m0 : Method := { name := "<init>", desc := "()V", sig := { parameters := [], returnType := none }, accessFlags := 0, code := some k2c0 }
def k2c1 : Code := { maxStack := 2, maxLocals := 2, code := prog_1_method_2_code, exceptionTable := #[], attributes := #[] }
def k2m1 : Method := { name := "rounds", desc := "()I", sig := { parameters := [], returnType := some .int }, accessFlags := 0, code := some k2c1 }
def k2c2 : Code := { maxStack := 2, maxLocals := 1, code := prog_1_method_3_code, exceptionTable := #[], attributes := #[] }
def k2m2 : Method := { name := "found", desc := "()V", sig := { parameters := [], returnType := none }, accessFlags := 0, code := some k2c2 }
def k2c3 : Code := { maxStack := 3, maxLocals := 1, code := prog_1_method_4_code, exceptionTable := #[], attributes := #[] }
def k2m3 : Method := { name := "foundNothing", desc := "()V", sig := { parameters := [], returnType := none }, accessFlags := 0, code := some k2c3 }
/-- com/example/tideloop/tideloop/CatchUp -/
def k2 : Class := { plain "com/example/tideloop/tideloop/CatchUp" (some 0) with
  accessFlags := 32
  interfaces := #[]
  cf := some (fileOf pool2 8 #[] #[{ accessFlags := 0, nameIndex := 5, descriptorIndex := 6, attributes := #[] }, { accessFlags := 0, nameIndex := 18, descriptorIndex := 19, attributes := #[] }, { accessFlags := 0, nameIndex := 40, descriptorIndex := 6, attributes := #[] }, { accessFlags := 0, nameIndex := 41, descriptorIndex := 6, attributes := #[] }] 32 2 #[] #[{ accessFlags := 24, nameIndex := 26, descriptorIndex := 12, attributes := #[] }, { accessFlags := 24, nameIndex := 29, descriptorIndex := 12, attributes := #[] }, { accessFlags := 26, nameIndex := 31, descriptorIndex := 12, attributes := #[] }, { accessFlags := 26, nameIndex := 33, descriptorIndex := 12, attributes := #[] }, { accessFlags := 26, nameIndex := 35, descriptorIndex := 12, attributes := #[] }, { accessFlags := 2, nameIndex := 11, descriptorIndex := 12, attributes := #[] }, { accessFlags := 2, nameIndex := 15, descriptorIndex := 12, attributes := #[] }])
  fields := #[{ name := "ROUNDS", type := .int, accessFlags := 24, slot := 0, constantValue := 0 }, { name := "PROBE_ROUNDS", type := .int, accessFlags := 24, slot := 1, constantValue := 0 }, { name := "GIVE_UP_AFTER", type := .int, accessFlags := 26, slot := 2, constantValue := 0 }, { name := "PROBE_EVERY", type := .int, accessFlags := 26, slot := 3, constantValue := 0 }, { name := "WHOLE_EVERY", type := .int, accessFlags := 26, slot := 4, constantValue := 0 }, { name := "vain", type := .int, accessFlags := 2, slot := 0, constantValue := 0 }, { name := "skipped", type := .int, accessFlags := 2, slot := 1, constantValue := 0 }]
  methods := #[k2m0, k2m1, k2m2, k2m3]
  instanceTypes := #[.int, .int]
  staticTypes := #[.int, .int, .int, .int, .int]
  resolved := Array.replicate 44 none
  statics := none }

def pool3 : Array CpInfo := pool [(1, .class_ 2), (0, u "java/lang/Math"), (1, .class_ 6), (1, u "java/lang/Object"), (0, u "<init>"), (0, u "()V"), (89, .class_ 100), (1, u "java/lang/Math$RandomNumberGeneratorHolder"), (71, u "negativeZeroFloatBits"), (0, u "J"), (2, u "negativeZeroDoubleBits"), (24, u "min"), (43, u "$assertionsDisabled"), (0, u "Z"), (88, u "(II)I"), (2, u "twoToTheDoubleScaleDown"), (0, u "D"), (4, u "twoToTheDoubleScaleUp"), (9, u "E"), (3, u "PI"), (2, u "TAU"), (2, u "DEGREES_TO_RADIANS"), (0, u "RADIANS_TO_DEGREES")] 94

def k3m0 : Method := { name := "<init>", desc := "()V", sig := { parameters := [], returnType := none }, accessFlags := 2, code := none }
def k3c1 : Code := { maxStack := 2, maxLocals := 2, code := jdk_29_method_69_code, exceptionTable := #[], attributes := #[] }
def k3m1 : Method := { name := "min", desc := "(II)I", sig := { parameters := [.int, .int], returnType := some .int }, accessFlags := 9, code := some k3c1 }
/-- java/lang/Math -/
def k3 : Class := { plain "java/lang/Math" (some 0) with
  accessFlags := 49
  interfaces := #[]
  cf := some (fileOf pool3 1 #[.nestMembers #[98]] #[{ accessFlags := 2, nameIndex := 7, descriptorIndex := 8, attributes := #[] }, { accessFlags := 9, nameIndex := 201, descriptorIndex := 335, attributes := #[] }] 49 4 #[] #[{ accessFlags := 25, nameIndex := 354, descriptorIndex := 339, attributes := #[] }, { accessFlags := 25, nameIndex := 358, descriptorIndex := 339, attributes := #[] }, { accessFlags := 25, nameIndex := 361, descriptorIndex := 339, attributes := #[] }, { accessFlags := 26, nameIndex := 364, descriptorIndex := 339, attributes := #[] }, { accessFlags := 26, nameIndex := 365, descriptorIndex := 339, attributes := #[] }, { accessFlags := 26, nameIndex := 172, descriptorIndex := 173, attributes := #[] }, { accessFlags := 26, nameIndex := 176, descriptorIndex := 173, attributes := #[] }, { accessFlags := 8, nameIndex := 344, descriptorIndex := 339, attributes := #[] }, { accessFlags := 8, nameIndex := 338, descriptorIndex := 339, attributes := #[] }, { accessFlags := 4120, nameIndex := 245, descriptorIndex := 246, attributes := #[] }])
  fields := #[{ name := "E", type := .double, accessFlags := 25, slot := 0, constantValue := 0 }, { name := "PI", type := .double, accessFlags := 25, slot := 1, constantValue := 0 }, { name := "TAU", type := .double, accessFlags := 25, slot := 2, constantValue := 0 }, { name := "DEGREES_TO_RADIANS", type := .double, accessFlags := 26, slot := 3, constantValue := 0 }, { name := "RADIANS_TO_DEGREES", type := .double, accessFlags := 26, slot := 4, constantValue := 0 }, { name := "negativeZeroFloatBits", type := .long, accessFlags := 26, slot := 5, constantValue := 0 }, { name := "negativeZeroDoubleBits", type := .long, accessFlags := 26, slot := 6, constantValue := 0 }, { name := "twoToTheDoubleScaleUp", type := .double, accessFlags := 8, slot := 7, constantValue := 0 }, { name := "twoToTheDoubleScaleDown", type := .double, accessFlags := 8, slot := 8, constantValue := 0 }, { name := "$assertionsDisabled", type := .boolean, accessFlags := 4120, slot := 9, constantValue := 0 }]
  methods := #[k3m0, k3m1]
  instanceTypes := #[]
  staticTypes := #[.double, .double, .double, .double, .double, .long, .long, .double, .double, .boolean]
  resolved := Array.replicate 460 none
  statics := none }

def pool4 : Array CpInfo := pool [(1, u "java/lang/Cloneable"), (0, .class_ 1), (0, u "java/lang/Object"), (0, .class_ 3)] 3

/-- java/lang/Cloneable -/
def k4 : Class := { plain "java/lang/Cloneable" (some 0) with
  accessFlags := 1537
  interfaces := #[]
  cf := some (fileOf pool4 2 #[] #[] 1537 4 #[] #[])
  fields := #[]
  methods := #[]
  instanceTypes := #[]
  staticTypes := #[]
  resolved := Array.replicate 8 none
  statics := none }

def pool5 : Array CpInfo := pool [(1, u "java/io/Serializable"), (0, .class_ 1), (0, u "java/lang/Object"), (0, .class_ 3)] 3

/-- java/io/Serializable -/
def k5 : Class := { plain "java/io/Serializable" (some 0) with
  accessFlags := 1537
  interfaces := #[]
  cf := some (fileOf pool5 2 #[] #[] 1537 4 #[] #[])
  fields := #[]
  methods := #[]
  instanceTypes := #[]
  staticTypes := #[]
  resolved := Array.replicate 8 none
  statics := none }

/-- the primitive byte -/
def k6 : Class := { plain "byte" none with kind := .primitive 'B', accessFlags := 0x411 }
/-- [B -/
def k7 : Class := { plain "[B" (some 0) with kind := .array 6 .byte, interfaces := #[4, 5], accessFlags := 1041 }

/-- the primitive int -/
def k8 : Class := { plain "int" none with kind := .primitive 'I', accessFlags := 0x411 }
/-- [I -/
def k9 : Class := { plain "[I" (some 0) with kind := .array 8 .int, interfaces := #[4, 5], accessFlags := 1041 }

def heap : Heap := #[]
def classes : Array Class := #[k0, k1, k2, k3, k4, k5, k6, k7, k8, k9]
def interned : List (Array UInt16 × Addr) := []
def slotsUsed : Nat := 0
def theMethod : MethodId := ⟨1, 2⟩
def args0 : Array Value := #[.int 5, .int 7]
def aboutOver (below : List Frame) : State where
  vm := { classes := classes, interned := interned.toArray }
  heap := heap
  slotsUsed := slotsUsed
  threads := #[{ frames := .invoking theMethod args0 :: below }]
def below0 : List Frame := [.native { method := ⟨0, 0⟩, args := #[] }]
def about1 : State := aboutOver below0
def p0 : Program := .bare "" "" ""
def e0 : Env := launch0.env 0 0 0
theorem w_frames : about1.frames = Frame.invoking theMethod args0 :: below0 := rfl
set_option maxRecDepth 65536 in
theorem w_args : argsFit about1.vm theMethod args0 = true := by decide +kernel
set_option maxRecDepth 65536 in
theorem w_heap : heapFits about1 = true := by decide +kernel
set_option maxRecDepth 65536 in
theorem w_runnable : about1.curStatus? = some .runnable := by decide +kernel
set_option maxRecDepth 65536 in
theorem w_alone : about1.alone = true := by decide +kernel
set_option maxRecDepth 65536 in
theorem w_named : about1.methodNamed? x = some theMethod := by decide +kernel
set_option maxRecDepth 65536 in
theorem w_hears : about1.hears theMethod below0 = true := by decide +kernel
set_option maxRecDepth 65536 in
theorem w_ripe : about1.ripe theMethod args0 below0 = true := by decide +kernel
theorem w_running : about1.status = .running := rfl
set_option maxRecDepth 65536 in
theorem w_room : about1.hasRoom e0.platform room_1 = true :=
  launch0.hasRoom_least _ room_1 (by decide +kernel) (by decide +kernel) (by decide +kernel) (by decide +kernel) (by decide +kernel) (by decide +kernel)
theorem allAtoms_all (ts : List Jvm.Cond) (a : Array Jvm.Value) (st : Jvm.State) : (allAtoms ts).before a st = ts.all (fun c => c.before a st) := by
  induction ts with
  | nil => rfl
  | cons c t ih =>
    show (Jvm.Cond.and c (allAtoms t)).before a st = _
    rw [Jvm.Cond.before_and, ih, List.all_cons]
def words1 : List Jvm.Cond := Jvm.Cond.code x code maxLocals ret :: tables_1
/-- a 'code' word, met by the world's own term for the bytes: nothing is compared byte by byte -/
theorem code_word {y : MethodName} {bytes : ByteArray} {mx : Nat} {rt : Option FieldType} {a : Array Value} {s : State} {m : MethodId} {meth : Method} {c : Code} (h1 : s.methodNamed? y = some m) (h2 : s.vm.method? m = some meth) (h3 : meth.code = some c) (h4 : c.code = bytes)
    (h5 : (c.maxLocals == mx && c.exceptionTable.isEmpty && decide (c.maxStack ≤ mostOperands) && decide (meth.sig.returnType = rt) && !meth.locks && decide (parseMethodDescriptor y.desc = some meth.sig)) = true) : (Jvm.Cond.code y bytes mx rt).before a s = true := by
  simp only [Bool.and_eq_true, beq_iff_eq, Bool.not_eq_true', decide_eq_true_eq] at h5
  obtain ⟨⟨⟨⟨⟨g1, g2⟩, g3⟩, g4⟩, g5⟩, g6⟩ := h5
  simp [Cond.before, Cond.holds, Cond.value, h1, h2, h3, h4, g1, g2, g3, g4, g5, g6]
def isCode : Jvm.Cond → Bool
  | .code _ _ _ _ => true
  | _ => false
theorem all_split {L : List Jvm.Cond} {P : Jvm.Cond → Bool} (h1 : L.all (fun c => isCode c || P c) = true) (h2 : ∀ c ∈ L.filter isCode, P c = true) : L.all P = true := by
  refine List.all_eq_true.mpr fun c hc => ?_
  have h := List.all_eq_true.mp h1 c hc
  rcases Bool.eq_false_or_eq_true (isCode c) with hi | hi
  · exact h2 c (List.mem_filter.mpr ⟨hc, hi⟩)
  · simpa [hi] using h
set_option maxRecDepth 65536 in
theorem w_c0 : (Jvm.Cond.code x code maxLocals ret).before args0 about1 = true := code_word (m := ⟨1, 2⟩) (meth := k1m2) (c := k1c2) (by decide +kernel) rfl rfl rfl (by decide +kernel)
set_option maxRecDepth 65536 in
theorem w_c1 : (Jvm.Cond.code ({ cls := "com/example/tideloop/tideloop/CatchUp", name := "<init>", desc := "()V" } : Jvm.MethodName) prog_1_method_1_code (1 : Nat) (Option.none : Option Jvm.ClassFile.FieldType)).before args0 about1 = true := code_word (m := ⟨2, 0⟩) (meth := k2m0) (c := k2c0) (by decide +kernel) rfl rfl rfl (by decide +kernel)
set_option maxRecDepth 65536 in
theorem w_c2 : (Jvm.Cond.code ({ cls := "java/lang/Object", name := "<init>", desc := "()V" } : Jvm.MethodName) object_method_1_code (1 : Nat) (Option.none : Option Jvm.ClassFile.FieldType)).before args0 about1 = true := code_word (m := ⟨0, 0⟩) (meth := k0m0) (c := k0c0) (by decide +kernel) rfl rfl rfl (by decide +kernel)
set_option maxRecDepth 65536 in
theorem w_c3 : (Jvm.Cond.code ({ cls := "com/example/tideloop/tideloop/CatchUpRoundsPinLaw", name := "step", desc := "(Lcom/example/tideloop/tideloop/CatchUp;IIII)I" } : Jvm.MethodName) method_2_code (5 : Nat) (Option.some Jvm.ClassFile.FieldType.int)).before args0 about1 = true := code_word (m := ⟨1, 1⟩) (meth := k1m1) (c := k1c1) (by decide +kernel) rfl rfl rfl (by decide +kernel)
set_option maxRecDepth 65536 in
theorem w_c4 : (Jvm.Cond.code ({ cls := "com/example/tideloop/tideloop/CatchUp", name := "foundNothing", desc := "()V" } : Jvm.MethodName) prog_1_method_4_code (1 : Nat) (Option.none : Option Jvm.ClassFile.FieldType)).before args0 about1 = true := code_word (m := ⟨2, 3⟩) (meth := k2m3) (c := k2c3) (by decide +kernel) rfl rfl rfl (by decide +kernel)
set_option maxRecDepth 65536 in
theorem w_c5 : (Jvm.Cond.code ({ cls := "com/example/tideloop/tideloop/CatchUp", name := "rounds", desc := "()I" } : Jvm.MethodName) prog_1_method_2_code (2 : Nat) (Option.some Jvm.ClassFile.FieldType.int)).before args0 about1 = true := code_word (m := ⟨2, 1⟩) (meth := k2m1) (c := k2c1) (by decide +kernel) rfl rfl rfl (by decide +kernel)
set_option maxRecDepth 65536 in
theorem w_c6 : (Jvm.Cond.code ({ cls := "java/lang/Math", name := "min", desc := "(II)I" } : Jvm.MethodName) jdk_29_method_69_code (2 : Nat) (Option.some Jvm.ClassFile.FieldType.int)).before args0 about1 = true := code_word (m := ⟨3, 1⟩) (meth := k3m1) (c := k3c1) (by decide +kernel) rfl rfl rfl (by decide +kernel)
set_option maxRecDepth 65536 in
theorem w_c7 : (Jvm.Cond.code ({ cls := "com/example/tideloop/tideloop/CatchUp", name := "found", desc := "()V" } : Jvm.MethodName) prog_1_method_3_code (1 : Nat) (Option.none : Option Jvm.ClassFile.FieldType)).before args0 about1 = true := code_word (m := ⟨2, 2⟩) (meth := k2m2) (c := k2c2) (by decide +kernel) rfl rfl rfl (by decide +kernel)
def codes1 : List Jvm.Cond := [Jvm.Cond.code x code maxLocals ret, Jvm.Cond.code ({ cls := "com/example/tideloop/tideloop/CatchUp", name := "<init>", desc := "()V" } : Jvm.MethodName) prog_1_method_1_code (1 : Nat) (Option.none : Option Jvm.ClassFile.FieldType), Jvm.Cond.code ({ cls := "java/lang/Object", name := "<init>", desc := "()V" } : Jvm.MethodName) object_method_1_code (1 : Nat) (Option.none : Option Jvm.ClassFile.FieldType), Jvm.Cond.code ({ cls := "com/example/tideloop/tideloop/CatchUpRoundsPinLaw", name := "step", desc := "(Lcom/example/tideloop/tideloop/CatchUp;IIII)I" } : Jvm.MethodName) method_2_code (5 : Nat) (Option.some Jvm.ClassFile.FieldType.int), Jvm.Cond.code ({ cls := "com/example/tideloop/tideloop/CatchUp", name := "foundNothing", desc := "()V" } : Jvm.MethodName) prog_1_method_4_code (1 : Nat) (Option.none : Option Jvm.ClassFile.FieldType), Jvm.Cond.code ({ cls := "com/example/tideloop/tideloop/CatchUp", name := "rounds", desc := "()I" } : Jvm.MethodName) prog_1_method_2_code (2 : Nat) (Option.some Jvm.ClassFile.FieldType.int), Jvm.Cond.code ({ cls := "java/lang/Math", name := "min", desc := "(II)I" } : Jvm.MethodName) jdk_29_method_69_code (2 : Nat) (Option.some Jvm.ClassFile.FieldType.int), Jvm.Cond.code ({ cls := "com/example/tideloop/tideloop/CatchUp", name := "found", desc := "()V" } : Jvm.MethodName) prog_1_method_3_code (1 : Nat) (Option.none : Option Jvm.ClassFile.FieldType)]
set_option maxRecDepth 65536 in
theorem codes_eq : words1.filter isCode = codes1 := rfl
theorem w_codes : ∀ c ∈ words1.filter isCode, c.before args0 about1 = true := by
  rw [codes_eq]
  intro c hc
  simp only [codes1, List.mem_cons, List.not_mem_nil, or_false] at hc
  rcases hc with rfl | rfl | rfl | rfl | rfl | rfl | rfl | rfl
  · exact w_c0
  · exact w_c1
  · exact w_c2
  · exact w_c3
  · exact w_c4
  · exact w_c5
  · exact w_c6
  · exact w_c7
set_option maxRecDepth 65536 in
theorem w_t1 : (words1.take 24).all (fun c => isCode c || c.before args0 about1) = true := by decide +kernel
set_option maxRecDepth 65536 in
theorem w_t2 : (words1.drop 24).all (fun c => isCode c || c.before args0 about1) = true := by decide +kernel
theorem w_tables : (allAtoms (Jvm.Cond.code x code maxLocals ret :: tables_1)).before args0 about1 = true := by
  rw [allAtoms_all]
  show words1.all (fun c => c.before args0 about1) = true
  refine all_split ?_ w_codes
  rw [← List.take_append_drop 24 words1, List.all_append, w_t1, w_t2]
  rfl
set_option maxRecDepth 65536 in
theorem w_case : (Jvm.Cond.and given_1 narrow_1).before args0 about1 = true := by decide +kernel
theorem w_applies : (headSpec (Jvm.Cond.code x code maxLocals ret :: tables_1) room_1).applies x e0.platform about1 = true :=
  (Spec.applies_iff w_frames).mpr ⟨w_running, w_runnable, w_alone, w_named, w_hears, w_ripe, w_room, w_tables⟩
theorem atStart : AtStart classFile x code maxLocals ret World_1 tables_1 room_1 Calls_1 rest_1 Pre_1 launch0 p0 e0 about1 theMethod args0 below0 :=
  ⟨lists_1, trivial, launch0.admits_env _ _ _, launch0.least_env, fairChoices_fair.cas, fairChoices_fair.clock, w_frames, w_args, w_heap, w_applies, trivial, trivial, w_case⟩
end start1
theorem witness_1 : WitnessClaimed_1 := ⟨start1.p0, start1.e0, start1.about1, start1.theMethod, start1.args0, start1.below0, start1.atStart⟩
end Jvm.Pilot.@@N@@
