import JvmDerived
import JvmDerived.Pilot.@@N@@Statement
import JvmDerived.Pilot.@@N@@Code
set_option linter.unusedVariables false
set_option linter.unusedSimpArgs false
namespace Jvm.RoadKit
open Sem ClassFile Op Lib Jvm.Stand Jvm.Free Jvm.LawKit
section New
variable {p : Program} {l : Launch} {e : Env} {R : Room} {s : State} {m : MethodId} {args : Array Value} {below : List Frame} {meth : Method} {c : Code} {T : State} {locs : List Loc} {cells slots : Nat}
theorem retI (X : Stand p l e R s m args below meth c T locs cells slots) (hx : p.tables.exec = Jvm.exec) {pc : Nat} {Ls : Array Slot} {z : Int32} {rest : List Value} (hret : meth.sig.returnType = some .int) (hd : decode c.code pc = .ok (.ireturn, 1)) {fs : List Frame}
    (hl : ∀ (f : JFrame) (acts : List Action), f.method = m → f.locked = none → f.entered = [] → (doReturn e (T.setTop f) acts (some (.int z))).1 = T.setFrames fs) : Steps p.tables e below (T.setTop (mkF m pc Ls (.int z :: rest))) (T.setFrames fs) := by
  have hm' : T.vm.method? m = some meth := X.method'
  have hn : narrow .int (.int z) = .int z := rfl
  show Steps p.tables e below (T.setTop { method := m, pc := pc, locals := Ls, stack := _ :: rest, locked := none }) _
  jvm_step X.here [X.here.top, hx, hd, hm', hret, hn]
  first | (intro acts; rw [hl _ acts rfl rfl rfl]) | rw [hl _ _ rfl rfl rfl]
  exact Steps.refl _
end New
end Jvm.RoadKit
namespace Jvm.Pilot.@@N@@
open Jvm Jvm.ClassFile Sem Op Lib Jvm.Free Jvm.Stand Jvm.LawKit Jvm.RoadKit Bundle Jvm.Pilot.@@N@@.Jvm.D
theorem own_bt {P : Prop} [Decidable P] (h : P) : ifCond.holds .eq (if P then (1 : Int32) else (0 : Int32)) = false ∧ ifCond.holds .ne (if P then (1 : Int32) else (0 : Int32)) = true := by rw [if_pos h]; exact ⟨rfl, rfl⟩
theorem own_bf {P : Prop} [Decidable P] (h : ¬ P) : ifCond.holds .eq (if P then (1 : Int32) else (0 : Int32)) = true ∧ ifCond.holds .ne (if P then (1 : Int32) else (0 : Int32)) = false := by rw [if_neg h]; exact ⟨rfl, rfl⟩
theorem own_getI (L : List Int32) (i : Nat) : (List.map Value.int L).getD i (.int (0 : Int32)) = .int (L.getD i 0) := by
  simp only [List.getD_eq_getElem?_getD, List.getElem?_map]; cases L[i]? <;> rfl
theorem own_getJ (L : List Int64) (i : Nat) : (List.map Value.long L).getD i (.long (0 : Int64)) = .long (L.getD i 0) := by
  simp only [List.getD_eq_getElem?_getD, List.getElem?_map]; cases L[i]? <;> rfl
theorem own_setI (L : List Int32) (i : Nat) (x : Int32) : (List.map Value.int L).set i (.int x) = List.map Value.int (L.set i x) := (List.map_set).symm
theorem own_setJ (L : List Int64) (i : Nat) (x : Int64) : (List.map Value.long L).set i (.long x) = List.map Value.long (L.set i x) := (List.map_set).symm
theorem own_ns {Z : State} {h : Heap} {o : Addr} {C : String} (E : Exa Z h o C) : ∃ c : Cell, h[o]? = some c ∧ c.vm.isStatics = false := by
  obtain ⟨c, k, h1, -, -, h4, -⟩ := E; exact ⟨c, h1, h4⟩
theorem own_sta_keep {Z : State} {h h' : Heap} {ws : List Addr} {C n d : String} {v : Value} (S : Sta Z h C n d v) (K : Keep h h' ws) (q : ∀ w ∈ ws, ∃ c : Cell, h[w]? = some c ∧ c.vm.isStatics = false) : Sta Z h' C n d v := by
  obtain ⟨cf, i, k, f, st, cell, h1, h2, h3, h4, h5, h6, h7⟩ := S
  refine ⟨cf, i, k, f, st, cell, h1, h2, h3, h4, K.2.1 _ _ h5 (fun z => ?_), h6, h7⟩
  obtain ⟨c, e1, e2⟩ := q _ z
  cases h5.symm.trans e1; rw [e2] at h6; cases h6
theorem own_selp {s : State} {args args' : Array Value} {y z : MethodName} (hcls : z.cls = y.cls) (hnf : NotFace s z) (hz : (Cond.instanceMethod z).before args' s = true) (hpriv : s.PrivateAt y) (hinst : (Cond.instanceMethod y).before args s = true) (hy : y.cls ≠ "java/lang/invoke/MethodHandle" ∧ y.cls ≠ "java/lang/invoke/VarHandle") : (Cond.selects y.cls y y).before args s = true := by
  obtain ⟨mz, _, hnz, _⟩ := Cond.instanceMethod_spec hz
  obtain ⟨k, hk, hni⟩ := hnf mz hnz
  exact selects_self_of_private (by rw [← hcls]; exact findClass_of_methodNamed hnz) hk hni hpriv hinst hy
theorem own_hide {p : Program} {l : Launch} {e : Env} {R : Room} {s : State} {m : MethodId} {args : Array Value} {below : List Frame} {meth : Method} {c : Code} {T : State} {locs : List Loc} {cells slots n0 : Nat} (X : Stand p l e R s m args below meth c T locs cells slots) (N : Fr n0 locs) : ∃ LL, Stand p l e R s m args below meth c T LL cells slots ∧ Fr n0 LL := ⟨_, X, N⟩
theorem own_swne {x k : Int32} {n : Int} (h : ¬ x = k) (e : k.toInt = n) : n ≠ x.toInt := fun q => h (Int32.toInt_inj.mp (by rw [e, q]))
theorem d1_0 : decode method_2_code 0 = .ok (.iload_n 0, 1) := by decide +kernel
theorem d1_1 : decode method_2_code 1 = .ok (.ldc 7, 2) := by decide +kernel
theorem d1_3 : decode method_2_code 3 = .ok (.iand, 1) := by decide +kernel
theorem d1_4 : decode method_2_code 4 = .ok (.bipush 10, 2) := by decide +kernel
theorem d1_6 : decode method_2_code 6 = .ok (.irem, 1) := by decide +kernel
theorem d1_7 : decode method_2_code 7 = .ok (.ireturn, 1) := by decide +kernel
theorem pn_0 : plainName "com/example/escritural/escritural/boleto/DigitsModulo10PinLaw" = true := by first | (simp [plainName, overriddenIn]; done) | decide +kernel
theorem ef_1 (m : MethodId) (x0 : Int32)  : entryFrame m #[(.int x0)] 1 = mkF m 0 #[.val (.int x0)] [] := by first | (simp [entryFrame, mkF, argsToLocals, Value.category]; done) | rfl
def F1 (x0 : Int32) : Int32 := ((x0 &&& (2147483647 : Int32)) % (10 : Int32))
def Q1 (Z : State) (x0 : Int32) (h0 : Heap) (n0 : Nat) (vE : Option Value) (hE : Heap) (LE : List Loc) : Prop := vE = some (.int (F1 x0)) ∧ Fr n0 LE ∧ hE = h0
set_option maxRecDepth 65536 in
set_option maxHeartbeats 40000000 in
theorem rm1 (l : Launch) (Z : State) (a0 : Array Value) (hw : ∀ d ∈ tables_1, d.before a0 Z = true) (ws : List Jvm.Cond) (x0 : Int32) (h0 : Heap) (n0 : Nat) (Z0 : n0 ≤ h0.size) :
    MetFree l (⟨"com/example/escritural/escritural/boleto/DigitsModulo10PinLaw", "lo", "(I)I"⟩ : MethodName) (head1 (Jvm.Cond.code (⟨"com/example/escritural/escritural/boleto/DigitsModulo10PinLaw", "lo", "(I)I"⟩ : MethodName) method_2_code 1 (some .int) :: ws) ({ frames := 0, cells := 0, slots := 0, locals := 0 } : Room)) (fun a U => a = #[(.int x0)] ∧ Z.Warmed39 U.vm ∧ U.heap = h0) (fun _ _ _ _ _ => True) (fun _ U o U' => ∃ vE LE, o = .returned vE ∧ Q1 Z x0 h0 n0 vE U'.heap LE ∧ FrameEnd U o U' LE ({ frames := 0, cells := 0, slots := 0, locals := 0 } : Room).cells ({ frames := 0, cells := 0, slots := 0, locals := 0 } : Room).slots) := by
  refine MetFree.of_bodySF (plainFor_of_name pn_0) hisR ?_
  intro p e s m args below meth c s₁ Bd hml0 hP hK
  obtain ⟨rfl, hZ, hh⟩ := hP
  have hx := Bd.exec
  have hby := Bd.bytes
  have hml : c.maxLocals = 1 := hml0
  have hown : s.vm.findClass "com/example/escritural/escritural/boleto/DigitsModulo10PinLaw" = some m.cls := findClass_of_methodNamed Bd.named
  have hnm := (name_of_methodNamed Bd.named Bd.method).1
  have X0 : Stand p l e ({ frames := 0, cells := 0, slots := 0, locals := 0 } : Room) s m #[(.int x0)] below meth c s₁ [] 0 0 := Stand.of_body Bd
  have e0 : s₁.heap = h0 := by rw [← hh, Bd.state]; rfl
  have N0 := Fr.nil n0
  have st0 : Steps p.tables e below (s₁.setTop (entryFrame m #[(.int x0)] 1)) (s₁.setTop (mkF m 0 #[.val (.int x0)] [])) := castTop (ef_1 m x0) (Steps.refl _)
  have st1 : Steps p.tables e below (s₁.setTop (entryFrame m #[(.int x0)] 1)) (s₁.setTop (mkF m 7 #[.val (.int x0)] [(.int ((x0 &&& (2147483647 : Int32)) % (10 : Int32)))])) := st0.trans (by
      show Steps p.tables e below (s₁.setTop (mkF m 0 #[.val (.int x0)] [])) _
      refine XS.iloadN X0.here hx rfl (hb hby d1_0) rfl ?_
      show Steps p.tables e below (s₁.setTop (mkF m 1 #[.val (.int x0)] [(.int x0)])) _
      refine X0.ldcInt hx hown (mvT hZ (hw _ (List.mem_of_getElem? (i := 5) rfl))) (g := (mkF m 1 #[.val (.int x0)] [(.int x0)])) rfl (hb hby d1_1) _ ?_
      show Steps p.tables e below (s₁.setTop (mkF m 3 #[.val (.int x0)] [(.int (2147483647 : Int32)), (.int x0)])) _
      refine XS.iand X0.here hx rfl (hb hby d1_3) rfl ?_
      show Steps p.tables e below (s₁.setTop (mkF m 4 #[.val (.int x0)] [(.int (x0 &&& (2147483647 : Int32)))])) _
      refine XS.bipush X0.here hx rfl (hb hby d1_4) ?_
      show Steps p.tables e below (s₁.setTop (mkF m 6 #[.val (.int x0)] [(.int (10 : Int32)), (.int (x0 &&& (2147483647 : Int32)))])) _
      refine iremM X0 hx rfl (hb hby d1_6) rfl (by decide) ?_
      exact Steps.refl _)
  obtain ⟨fs, hr, hrun, hended, hW, hsame⟩ := X0.leave (v := some (.int ((x0 &&& (2147483647 : Int32)) % (10 : Int32)))) (fun h => by rw [Bd.returns] at h; cases h)
  refine ⟨_, _, st1.trans ?_, hrun, hended, _, _, rfl, ?_, ⟨_, rfl⟩, hW, hsame.mono (by decide) (by decide)⟩
  · exact retI X0 hx Bd.returns (hb hby d1_7) hr
  · show Q1 Z x0 h0 n0 _ s₁.heap _
    rw [e0]
    exact ⟨by rw [F1], N0, rfl⟩
theorem d2_0 : decode method_3_code 0 = .ok (.iload_n 0, 1) := by decide +kernel
theorem d2_1 : decode method_3_code 1 = .ok (.ldc 7, 2) := by decide +kernel
theorem d2_3 : decode method_3_code 3 = .ok (.iand, 1) := by decide +kernel
theorem d2_4 : decode method_3_code 4 = .ok (.bipush 10, 2) := by decide +kernel
theorem d2_6 : decode method_3_code 6 = .ok (.idiv, 1) := by decide +kernel
theorem d2_7 : decode method_3_code 7 = .ok (.bipush 10, 2) := by decide +kernel
theorem d2_9 : decode method_3_code 9 = .ok (.irem, 1) := by decide +kernel
theorem d2_10 : decode method_3_code 10 = .ok (.ireturn, 1) := by decide +kernel
theorem ef_2 (m : MethodId) (x0 : Int32)  : entryFrame m #[(.int x0)] 1 = mkF m 0 #[.val (.int x0)] [] := by first | (simp [entryFrame, mkF, argsToLocals, Value.category]; done) | rfl
def F2 (x0 : Int32) : Int32 := (((x0 &&& (2147483647 : Int32)) / (10 : Int32)) % (10 : Int32))
def Q2 (Z : State) (x0 : Int32) (h0 : Heap) (n0 : Nat) (vE : Option Value) (hE : Heap) (LE : List Loc) : Prop := vE = some (.int (F2 x0)) ∧ Fr n0 LE ∧ hE = h0
set_option maxRecDepth 65536 in
set_option maxHeartbeats 40000000 in
theorem rm2 (l : Launch) (Z : State) (a0 : Array Value) (hw : ∀ d ∈ tables_1, d.before a0 Z = true) (ws : List Jvm.Cond) (x0 : Int32) (h0 : Heap) (n0 : Nat) (Z0 : n0 ≤ h0.size) :
    MetFree l (⟨"com/example/escritural/escritural/boleto/DigitsModulo10PinLaw", "hi", "(I)I"⟩ : MethodName) (head1 (Jvm.Cond.code (⟨"com/example/escritural/escritural/boleto/DigitsModulo10PinLaw", "hi", "(I)I"⟩ : MethodName) method_3_code 1 (some .int) :: ws) ({ frames := 0, cells := 0, slots := 0, locals := 0 } : Room)) (fun a U => a = #[(.int x0)] ∧ Z.Warmed39 U.vm ∧ U.heap = h0) (fun _ _ _ _ _ => True) (fun _ U o U' => ∃ vE LE, o = .returned vE ∧ Q2 Z x0 h0 n0 vE U'.heap LE ∧ FrameEnd U o U' LE ({ frames := 0, cells := 0, slots := 0, locals := 0 } : Room).cells ({ frames := 0, cells := 0, slots := 0, locals := 0 } : Room).slots) := by
  refine MetFree.of_bodySF (plainFor_of_name pn_0) hisR ?_
  intro p e s m args below meth c s₁ Bd hml0 hP hK
  obtain ⟨rfl, hZ, hh⟩ := hP
  have hx := Bd.exec
  have hby := Bd.bytes
  have hml : c.maxLocals = 1 := hml0
  have hown : s.vm.findClass "com/example/escritural/escritural/boleto/DigitsModulo10PinLaw" = some m.cls := findClass_of_methodNamed Bd.named
  have hnm := (name_of_methodNamed Bd.named Bd.method).1
  have X0 : Stand p l e ({ frames := 0, cells := 0, slots := 0, locals := 0 } : Room) s m #[(.int x0)] below meth c s₁ [] 0 0 := Stand.of_body Bd
  have e0 : s₁.heap = h0 := by rw [← hh, Bd.state]; rfl
  have N0 := Fr.nil n0
  have st0 : Steps p.tables e below (s₁.setTop (entryFrame m #[(.int x0)] 1)) (s₁.setTop (mkF m 0 #[.val (.int x0)] [])) := castTop (ef_2 m x0) (Steps.refl _)
  have st1 : Steps p.tables e below (s₁.setTop (entryFrame m #[(.int x0)] 1)) (s₁.setTop (mkF m 10 #[.val (.int x0)] [(.int (((x0 &&& (2147483647 : Int32)) / (10 : Int32)) % (10 : Int32)))])) := st0.trans (by
      show Steps p.tables e below (s₁.setTop (mkF m 0 #[.val (.int x0)] [])) _
      refine XS.iloadN X0.here hx rfl (hb hby d2_0) rfl ?_
      show Steps p.tables e below (s₁.setTop (mkF m 1 #[.val (.int x0)] [(.int x0)])) _
      refine X0.ldcInt hx hown (mvT hZ (hw _ (List.mem_of_getElem? (i := 5) rfl))) (g := (mkF m 1 #[.val (.int x0)] [(.int x0)])) rfl (hb hby d2_1) _ ?_
      show Steps p.tables e below (s₁.setTop (mkF m 3 #[.val (.int x0)] [(.int (2147483647 : Int32)), (.int x0)])) _
      refine XS.iand X0.here hx rfl (hb hby d2_3) rfl ?_
      show Steps p.tables e below (s₁.setTop (mkF m 4 #[.val (.int x0)] [(.int (x0 &&& (2147483647 : Int32)))])) _
      refine XS.bipush X0.here hx rfl (hb hby d2_4) ?_
      show Steps p.tables e below (s₁.setTop (mkF m 6 #[.val (.int x0)] [(.int (10 : Int32)), (.int (x0 &&& (2147483647 : Int32)))])) _
      refine XS.idiv X0.here hx rfl (hb hby d2_6) rfl (by decide) ?_
      show Steps p.tables e below (s₁.setTop (mkF m 7 #[.val (.int x0)] [(.int ((x0 &&& (2147483647 : Int32)) / (10 : Int32)))])) _
      refine XS.bipush X0.here hx rfl (hb hby d2_7) ?_
      show Steps p.tables e below (s₁.setTop (mkF m 9 #[.val (.int x0)] [(.int (10 : Int32)), (.int ((x0 &&& (2147483647 : Int32)) / (10 : Int32)))])) _
      refine iremM X0 hx rfl (hb hby d2_9) rfl (by decide) ?_
      exact Steps.refl _)
  obtain ⟨fs, hr, hrun, hended, hW, hsame⟩ := X0.leave (v := some (.int (((x0 &&& (2147483647 : Int32)) / (10 : Int32)) % (10 : Int32)))) (fun h => by rw [Bd.returns] at h; cases h)
  refine ⟨_, _, st1.trans ?_, hrun, hended, _, _, rfl, ?_, ⟨_, rfl⟩, hW, hsame.mono (by decide) (by decide)⟩
  · exact retI X0 hx Bd.returns (hb hby d2_10) hr
  · show Q2 Z x0 h0 n0 _ s₁.heap _
    rw [e0]
    exact ⟨by rw [F2], N0, rfl⟩
theorem d3_0 : decode method_4_code 0 = .ok (.iload_n 1, 1) := by decide +kernel
theorem d3_1 : decode method_4_code 1 = .ok (.iload_n 2, 1) := by decide +kernel
theorem d3_2 : decode method_4_code 2 = .ok (.if_icmp .lt 8, 3) := by decide +kernel
theorem d3_5 : decode method_4_code 5 = .ok (.iload_n 1, 1) := by decide +kernel
theorem d3_6 : decode method_4_code 6 = .ok (.iload_n 3, 1) := by decide +kernel
theorem d3_7 : decode method_4_code 7 = .ok (.if_icmp .lt 5, 3) := by decide +kernel
theorem d3_10 : decode method_4_code 10 = .ok (.iconst 0, 1) := by decide +kernel
theorem d3_11 : decode method_4_code 11 = .ok (.ireturn, 1) := by decide +kernel
theorem d3_12 : decode method_4_code 12 = .ok (.aload_n 0, 1) := by decide +kernel
theorem d3_13 : decode method_4_code 13 = .ok (.iload_n 1, 1) := by decide +kernel
theorem d3_14 : decode method_4_code 14 = .ok (.iaload, 1) := by decide +kernel
theorem d3_15 : decode method_4_code 15 = .ok (.istore 4, 2) := by decide +kernel
theorem d3_17 : decode method_4_code 17 = .ok (.iload_n 3, 1) := by decide +kernel
theorem d3_18 : decode method_4_code 18 = .ok (.iconst 1, 1) := by decide +kernel
theorem d3_19 : decode method_4_code 19 = .ok (.isub, 1) := by decide +kernel
theorem d3_20 : decode method_4_code 20 = .ok (.iload_n 1, 1) := by decide +kernel
theorem d3_21 : decode method_4_code 21 = .ok (.isub, 1) := by decide +kernel
theorem d3_22 : decode method_4_code 22 = .ok (.iconst 1, 1) := by decide +kernel
theorem d3_23 : decode method_4_code 23 = .ok (.iand, 1) := by decide +kernel
theorem d3_24 : decode method_4_code 24 = .ok (.ifCond .eq 6, 3) := by decide +kernel
theorem d3_27 : decode method_4_code 27 = .ok (.iload 4, 2) := by decide +kernel
theorem d3_29 : decode method_4_code 29 = .ok (.ireturn, 1) := by decide +kernel
theorem d3_30 : decode method_4_code 30 = .ok (.iload 4, 2) := by decide +kernel
theorem d3_32 : decode method_4_code 32 = .ok (.iconst 5, 1) := by decide +kernel
theorem d3_33 : decode method_4_code 33 = .ok (.if_icmp .ge 10, 3) := by decide +kernel
theorem d3_36 : decode method_4_code 36 = .ok (.iconst 2, 1) := by decide +kernel
theorem d3_37 : decode method_4_code 37 = .ok (.iload 4, 2) := by decide +kernel
theorem d3_39 : decode method_4_code 39 = .ok (.imul, 1) := by decide +kernel
theorem d3_40 : decode method_4_code 40 = .ok (.goto 10, 3) := by decide +kernel
theorem d3_43 : decode method_4_code 43 = .ok (.iconst 2, 1) := by decide +kernel
theorem d3_44 : decode method_4_code 44 = .ok (.iload 4, 2) := by decide +kernel
theorem d3_46 : decode method_4_code 46 = .ok (.imul, 1) := by decide +kernel
theorem d3_47 : decode method_4_code 47 = .ok (.bipush 9, 2) := by decide +kernel
theorem d3_49 : decode method_4_code 49 = .ok (.isub, 1) := by decide +kernel
theorem d3_50 : decode method_4_code 50 = .ok (.ireturn, 1) := by decide +kernel
theorem ef_3 (m : MethodId) (x0 : Addr) (x1 : Int32) (x2 : Int32) (x3 : Int32)  : entryFrame m #[(.ref x0), (.int x1), (.int x2), (.int x3)] 5 = mkF m 0 #[.val (.ref x0), .val (.int x1), .val (.int x2), .val (.int x3), .unset] [] := by first | (simp [entryFrame, mkF, argsToLocals, Value.category]; done) | rfl
def F3 (x1 : Int32) (x2 : Int32) (x3 : Int32) (L : List Int32) : Int32 := if x1 < x2 then (0 : Int32) else (if x1 < x3 then (if (((x3 - (1 : Int32)) - x1) &&& (1 : Int32)) = (0 : Int32) then (if (L.getD (x1).toNatClampNeg 0) < (5 : Int32) then ((2 : Int32) * (L.getD (x1).toNatClampNeg 0)) else (((2 : Int32) * (L.getD (x1).toNatClampNeg 0)) - (9 : Int32))) else (L.getD (x1).toNatClampNeg 0)) else (0 : Int32))
def Q3 (Z : State) (x0 : Addr) (x1 : Int32) (x2 : Int32) (x3 : Int32) (ka : ClassId) (L : List Int32) (h0 : Heap) (n0 : Nat) (vE : Option Value) (hE : Heap) (LE : List Loc) : Prop := vE = some (.int (F3 x1 x2 x3 L)) ∧ Fr n0 LE ∧ hE = h0
set_option maxRecDepth 65536 in
set_option maxHeartbeats 40000000 in
theorem rm3 (l : Launch) (Z : State) (a0 : Array Value) (hw : ∀ d ∈ tables_1, d.before a0 Z = true) (ws : List Jvm.Cond) (x0 : Addr) (x1 : Int32) (x2 : Int32) (x3 : Int32) (ka : ClassId) (L : List Int32) (h0 : Heap) (n0 : Nat) (Z0 : n0 ≤ h0.size) (A_x : Arv Z h0 x0 ka .int (8 : Int32) (List.map Value.int L) (.int (0 : Int32))) (hi : ¬ x1 < 0 ∧ x1 < (8 : Int32)) :
    MetFree l (⟨"com/example/escritural/escritural/boleto/DigitsModulo10PinLaw", "term", "([IIII)I"⟩ : MethodName) (head1 (Jvm.Cond.code (⟨"com/example/escritural/escritural/boleto/DigitsModulo10PinLaw", "term", "([IIII)I"⟩ : MethodName) method_4_code 5 (some .int) :: ws) ({ frames := 0, cells := 0, slots := 0, locals := 0 } : Room)) (fun a U => a = #[(.ref x0), (.int x1), (.int x2), (.int x3)] ∧ Z.Warmed39 U.vm ∧ U.heap = h0) (fun _ _ _ _ _ => True) (fun _ U o U' => ∃ vE LE, o = .returned vE ∧ Q3 Z x0 x1 x2 x3 ka L h0 n0 vE U'.heap LE ∧ FrameEnd U o U' LE ({ frames := 0, cells := 0, slots := 0, locals := 0 } : Room).cells ({ frames := 0, cells := 0, slots := 0, locals := 0 } : Room).slots) := by
  refine MetFree.of_bodySF (plainFor_of_name pn_0) hisR ?_
  intro p e s m args below meth c s₁ Bd hml0 hP hK
  obtain ⟨rfl, hZ, hh⟩ := hP
  have hx := Bd.exec
  have hby := Bd.bytes
  have hml : c.maxLocals = 5 := hml0
  have hown : s.vm.findClass "com/example/escritural/escritural/boleto/DigitsModulo10PinLaw" = some m.cls := findClass_of_methodNamed Bd.named
  have hnm := (name_of_methodNamed Bd.named Bd.method).1
  have X0 : Stand p l e ({ frames := 0, cells := 0, slots := 0, locals := 0 } : Room) s m #[(.ref x0), (.int x1), (.int x2), (.int x3)] below meth c s₁ [] 0 0 := Stand.of_body Bd
  have e0 : s₁.heap = h0 := by rw [← hh, Bd.state]; rfl
  have N0 := Fr.nil n0
  have st0 : Steps p.tables e below (s₁.setTop (entryFrame m #[(.ref x0), (.int x1), (.int x2), (.int x3)] 5)) (s₁.setTop (mkF m 0 #[.val (.ref x0), .val (.int x1), .val (.int x2), .val (.int x3), .unset] [])) := castTop (ef_3 m x0 x1 x2 x3) (Steps.refl _)
  have st1 : Steps p.tables e below (s₁.setTop (entryFrame m #[(.ref x0), (.int x1), (.int x2), (.int x3)] 5)) (s₁.setTop (mkF m 2 #[.val (.ref x0), .val (.int x1), .val (.int x2), .val (.int x3), .unset] [(.int x2), (.int x1)])) := st0.trans (by
      show Steps p.tables e below (s₁.setTop (mkF m 0 #[.val (.ref x0), .val (.int x1), .val (.int x2), .val (.int x3), .unset] [])) _
      refine XS.iloadN X0.here hx rfl (hb hby d3_0) rfl ?_
      show Steps p.tables e below (s₁.setTop (mkF m 1 #[.val (.ref x0), .val (.int x1), .val (.int x2), .val (.int x3), .unset] [(.int x1)])) _
      refine XS.iloadN X0.here hx rfl (hb hby d3_1) rfl ?_
      exact Steps.refl _)
  by_cases hc2 : x1 < x2
  · have st3 : Steps p.tables e below (s₁.setTop (entryFrame m #[(.ref x0), (.int x1), (.int x2), (.int x3)] 5)) (s₁.setTop (mkF m 11 #[.val (.ref x0), .val (.int x1), .val (.int x2), .val (.int x3), .unset] [(.int (0 : Int32))])) := st1.trans (by
        show Steps p.tables e below (s₁.setTop (mkF m 2 #[.val (.ref x0), .val (.int x1), .val (.int x2), .val (.int x3), .unset] [(.int x2), (.int x1)])) _
        refine XS.icmpYes X0.here hx rfl (pc0 := 2) (pc' := 10) rfl (hb hby d3_2) rfl (tlt hc2).1 (by decide) (by decide) ?_
        show Steps p.tables e below (s₁.setTop (mkF m 10 #[.val (.ref x0), .val (.int x1), .val (.int x2), .val (.int x3), .unset] [])) _
        refine XS.iconst X0.here hx rfl (hb hby d3_10) ?_
        exact Steps.refl _)
    obtain ⟨fs, hr, hrun, hended, hW, hsame⟩ := X0.leave (v := some (.int (0 : Int32))) (fun h => by rw [Bd.returns] at h; cases h)
    refine ⟨_, _, st3.trans ?_, hrun, hended, _, _, rfl, ?_, ⟨_, rfl⟩, hW, hsame.mono (by decide) (by decide)⟩
    · exact retI X0 hx Bd.returns (hb hby d3_11) hr
    · show Q3 Z x0 x1 x2 x3 ka L h0 n0 _ s₁.heap _
      rw [e0]
      exact ⟨by rw [F3, if_pos hc2], N0, rfl⟩
  · have st4 : Steps p.tables e below (s₁.setTop (entryFrame m #[(.ref x0), (.int x1), (.int x2), (.int x3)] 5)) (s₁.setTop (mkF m 7 #[.val (.ref x0), .val (.int x1), .val (.int x2), .val (.int x3), .unset] [(.int x3), (.int x1)])) := st1.trans (by
        show Steps p.tables e below (s₁.setTop (mkF m 2 #[.val (.ref x0), .val (.int x1), .val (.int x2), .val (.int x3), .unset] [(.int x2), (.int x1)])) _
        refine XS.icmpNo X0.here hx rfl (hb hby d3_2) rfl (flt hc2).1 ?_
        show Steps p.tables e below (s₁.setTop (mkF m 5 #[.val (.ref x0), .val (.int x1), .val (.int x2), .val (.int x3), .unset] [])) _
        refine XS.iloadN X0.here hx rfl (hb hby d3_5) rfl ?_
        show Steps p.tables e below (s₁.setTop (mkF m 6 #[.val (.ref x0), .val (.int x1), .val (.int x2), .val (.int x3), .unset] [(.int x1)])) _
        refine XS.iloadN X0.here hx rfl (hb hby d3_6) rfl ?_
        exact Steps.refl _)
    by_cases hc5 : x1 < x3
    · obtain ⟨cl6, Ar6, q6, S6, N6, H6, G6⟩ := id A_x
      have hin6 : ¬ (x1 < 0 ∨ cl6.slots.size ≤ (x1).toNatClampNeg) := inb_of S6 hi
      have hat6 : cl6.slots[(x1).toNatClampNeg]? = some (.int (L.getD (x1).toNatClampNeg 0)) := H6.at hin6 (own_getI L _)
      have st7 : Steps p.tables e below (s₁.setTop (entryFrame m #[(.ref x0), (.int x1), (.int x2), (.int x3)] 5)) (s₁.setTop (mkF m 24 #[.val (.ref x0), .val (.int x1), .val (.int x2), .val (.int x3), .val (.int (L.getD (x1).toNatClampNeg 0))] [(.int (((x3 - (1 : Int32)) - x1) &&& (1 : Int32)))])) := st4.trans (by
          show Steps p.tables e below (s₁.setTop (mkF m 7 #[.val (.ref x0), .val (.int x1), .val (.int x2), .val (.int x3), .unset] [(.int x3), (.int x1)])) _
          refine XS.icmpYes X0.here hx rfl (pc0 := 7) (pc' := 12) rfl (hb hby d3_7) rfl (tlt hc5).1 (by decide) (by decide) ?_
          show Steps p.tables e below (s₁.setTop (mkF m 12 #[.val (.ref x0), .val (.int x1), .val (.int x2), .val (.int x3), .unset] [])) _
          refine XS.aloadN X0.here hx rfl (hb hby d3_12) rfl rfl ?_
          show Steps p.tables e below (s₁.setTop (mkF m 13 #[.val (.ref x0), .val (.int x1), .val (.int x2), .val (.int x3), .unset] [(.ref x0)])) _
          refine XS.iloadN X0.here hx rfl (hb hby d3_13) rfl ?_
          show Steps p.tables e below (s₁.setTop (mkF m 14 #[.val (.ref x0), .val (.int x1), .val (.int x2), .val (.int x3), .unset] [(.int x1), (.ref x0)])) _
          refine X0.iaload hx (j := x1) (v := (.int (L.getD (x1).toNatClampNeg 0))) (by rw [e0]; exact Ar6.1) (State.isArrayOf_alike hZ.alike Ar6.2.1) Ar6.2.2 hin6 hat6 (g := (mkF m 14 #[.val (.ref x0), .val (.int x1), .val (.int x2), .val (.int x3), .unset] [(.int x1), (.ref x0)])) rfl rfl (hb hby d3_14) _ ?_
          show Steps p.tables e below (s₁.setTop (mkF m 15 #[.val (.ref x0), .val (.int x1), .val (.int x2), .val (.int x3), .unset] [(.int (L.getD (x1).toNatClampNeg 0))])) _
          refine XS.istore X0.here hx rfl (hb hby d3_15) rfl (l' := #[.val (.ref x0), .val (.int x1), .val (.int x2), .val (.int x3), .val (.int (L.getD (x1).toNatClampNeg 0))]) rfl ?_
          show Steps p.tables e below (s₁.setTop (mkF m 17 #[.val (.ref x0), .val (.int x1), .val (.int x2), .val (.int x3), .val (.int (L.getD (x1).toNatClampNeg 0))] [])) _
          refine XS.iloadN X0.here hx rfl (hb hby d3_17) rfl ?_
          show Steps p.tables e below (s₁.setTop (mkF m 18 #[.val (.ref x0), .val (.int x1), .val (.int x2), .val (.int x3), .val (.int (L.getD (x1).toNatClampNeg 0))] [(.int x3)])) _
          refine XS.iconst X0.here hx rfl (hb hby d3_18) ?_
          show Steps p.tables e below (s₁.setTop (mkF m 19 #[.val (.ref x0), .val (.int x1), .val (.int x2), .val (.int x3), .val (.int (L.getD (x1).toNatClampNeg 0))] [(.int (1 : Int32)), (.int x3)])) _
          refine XS.isub X0.here hx rfl (hb hby d3_19) rfl ?_
          show Steps p.tables e below (s₁.setTop (mkF m 20 #[.val (.ref x0), .val (.int x1), .val (.int x2), .val (.int x3), .val (.int (L.getD (x1).toNatClampNeg 0))] [(.int (x3 - (1 : Int32)))])) _
          refine XS.iloadN X0.here hx rfl (hb hby d3_20) rfl ?_
          show Steps p.tables e below (s₁.setTop (mkF m 21 #[.val (.ref x0), .val (.int x1), .val (.int x2), .val (.int x3), .val (.int (L.getD (x1).toNatClampNeg 0))] [(.int x1), (.int (x3 - (1 : Int32)))])) _
          refine XS.isub X0.here hx rfl (hb hby d3_21) rfl ?_
          show Steps p.tables e below (s₁.setTop (mkF m 22 #[.val (.ref x0), .val (.int x1), .val (.int x2), .val (.int x3), .val (.int (L.getD (x1).toNatClampNeg 0))] [(.int ((x3 - (1 : Int32)) - x1))])) _
          refine XS.iconst X0.here hx rfl (hb hby d3_22) ?_
          show Steps p.tables e below (s₁.setTop (mkF m 23 #[.val (.ref x0), .val (.int x1), .val (.int x2), .val (.int x3), .val (.int (L.getD (x1).toNatClampNeg 0))] [(.int (1 : Int32)), (.int ((x3 - (1 : Int32)) - x1))])) _
          refine XS.iand X0.here hx rfl (hb hby d3_23) rfl ?_
          exact Steps.refl _)
      by_cases hc8 : (((x3 - (1 : Int32)) - x1) &&& (1 : Int32)) = (0 : Int32)
      · have st9 : Steps p.tables e below (s₁.setTop (entryFrame m #[(.ref x0), (.int x1), (.int x2), (.int x3)] 5)) (s₁.setTop (mkF m 33 #[.val (.ref x0), .val (.int x1), .val (.int x2), .val (.int x3), .val (.int (L.getD (x1).toNatClampNeg 0))] [(.int (5 : Int32)), (.int (L.getD (x1).toNatClampNeg 0))])) := st7.trans (by
            show Steps p.tables e below (s₁.setTop (mkF m 24 #[.val (.ref x0), .val (.int x1), .val (.int x2), .val (.int x3), .val (.int (L.getD (x1).toNatClampNeg 0))] [(.int (((x3 - (1 : Int32)) - x1) &&& (1 : Int32)))])) _
            refine XS.ifYes X0.here hx rfl (pc0 := 24) (pc' := 30) rfl (hb hby d3_24) rfl ((if0 _ _).trans (teq hc8).1) (by decide) (by decide) ?_
            show Steps p.tables e below (s₁.setTop (mkF m 30 #[.val (.ref x0), .val (.int x1), .val (.int x2), .val (.int x3), .val (.int (L.getD (x1).toNatClampNeg 0))] [])) _
            refine XS.iload X0.here hx rfl (hb hby d3_30) rfl ?_
            show Steps p.tables e below (s₁.setTop (mkF m 32 #[.val (.ref x0), .val (.int x1), .val (.int x2), .val (.int x3), .val (.int (L.getD (x1).toNatClampNeg 0))] [(.int (L.getD (x1).toNatClampNeg 0))])) _
            refine XS.iconst X0.here hx rfl (hb hby d3_32) ?_
            exact Steps.refl _)
        by_cases hc10 : (L.getD (x1).toNatClampNeg 0) < (5 : Int32)
        · have st11 : Steps p.tables e below (s₁.setTop (entryFrame m #[(.ref x0), (.int x1), (.int x2), (.int x3)] 5)) (s₁.setTop (mkF m 50 #[.val (.ref x0), .val (.int x1), .val (.int x2), .val (.int x3), .val (.int (L.getD (x1).toNatClampNeg 0))] [(.int ((2 : Int32) * (L.getD (x1).toNatClampNeg 0)))])) := st9.trans (by
              show Steps p.tables e below (s₁.setTop (mkF m 33 #[.val (.ref x0), .val (.int x1), .val (.int x2), .val (.int x3), .val (.int (L.getD (x1).toNatClampNeg 0))] [(.int (5 : Int32)), (.int (L.getD (x1).toNatClampNeg 0))])) _
              refine XS.icmpNo X0.here hx rfl (hb hby d3_33) rfl (tlt hc10).2.1 ?_
              show Steps p.tables e below (s₁.setTop (mkF m 36 #[.val (.ref x0), .val (.int x1), .val (.int x2), .val (.int x3), .val (.int (L.getD (x1).toNatClampNeg 0))] [])) _
              refine XS.iconst X0.here hx rfl (hb hby d3_36) ?_
              show Steps p.tables e below (s₁.setTop (mkF m 37 #[.val (.ref x0), .val (.int x1), .val (.int x2), .val (.int x3), .val (.int (L.getD (x1).toNatClampNeg 0))] [(.int (2 : Int32))])) _
              refine XS.iload X0.here hx rfl (hb hby d3_37) rfl ?_
              show Steps p.tables e below (s₁.setTop (mkF m 39 #[.val (.ref x0), .val (.int x1), .val (.int x2), .val (.int x3), .val (.int (L.getD (x1).toNatClampNeg 0))] [(.int (L.getD (x1).toNatClampNeg 0)), (.int (2 : Int32))])) _
              refine XS.imul X0.here hx rfl (hb hby d3_39) rfl ?_
              show Steps p.tables e below (s₁.setTop (mkF m 40 #[.val (.ref x0), .val (.int x1), .val (.int x2), .val (.int x3), .val (.int (L.getD (x1).toNatClampNeg 0))] [(.int ((2 : Int32) * (L.getD (x1).toNatClampNeg 0)))])) _
              refine XS.goto X0.here hx rfl (pc0 := 40) (pc' := 50) rfl (hb hby d3_40) (by decide) (by decide) ?_
              exact Steps.refl _)
          obtain ⟨fs, hr, hrun, hended, hW, hsame⟩ := X0.leave (v := some (.int ((2 : Int32) * (L.getD (x1).toNatClampNeg 0)))) (fun h => by rw [Bd.returns] at h; cases h)
          refine ⟨_, _, st11.trans ?_, hrun, hended, _, _, rfl, ?_, ⟨_, rfl⟩, hW, hsame.mono (by decide) (by decide)⟩
          · exact retI X0 hx Bd.returns (hb hby d3_50) hr
          · show Q3 Z x0 x1 x2 x3 ka L h0 n0 _ s₁.heap _
            rw [e0]
            exact ⟨by rw [F3, if_neg hc2, if_pos hc5, if_pos hc8, if_pos hc10], N0, rfl⟩
        · have st12 : Steps p.tables e below (s₁.setTop (entryFrame m #[(.ref x0), (.int x1), (.int x2), (.int x3)] 5)) (s₁.setTop (mkF m 50 #[.val (.ref x0), .val (.int x1), .val (.int x2), .val (.int x3), .val (.int (L.getD (x1).toNatClampNeg 0))] [(.int (((2 : Int32) * (L.getD (x1).toNatClampNeg 0)) - (9 : Int32)))])) := st9.trans (by
              show Steps p.tables e below (s₁.setTop (mkF m 33 #[.val (.ref x0), .val (.int x1), .val (.int x2), .val (.int x3), .val (.int (L.getD (x1).toNatClampNeg 0))] [(.int (5 : Int32)), (.int (L.getD (x1).toNatClampNeg 0))])) _
              refine XS.icmpYes X0.here hx rfl (pc0 := 33) (pc' := 43) rfl (hb hby d3_33) rfl (flt hc10).2.1 (by decide) (by decide) ?_
              show Steps p.tables e below (s₁.setTop (mkF m 43 #[.val (.ref x0), .val (.int x1), .val (.int x2), .val (.int x3), .val (.int (L.getD (x1).toNatClampNeg 0))] [])) _
              refine XS.iconst X0.here hx rfl (hb hby d3_43) ?_
              show Steps p.tables e below (s₁.setTop (mkF m 44 #[.val (.ref x0), .val (.int x1), .val (.int x2), .val (.int x3), .val (.int (L.getD (x1).toNatClampNeg 0))] [(.int (2 : Int32))])) _
              refine XS.iload X0.here hx rfl (hb hby d3_44) rfl ?_
              show Steps p.tables e below (s₁.setTop (mkF m 46 #[.val (.ref x0), .val (.int x1), .val (.int x2), .val (.int x3), .val (.int (L.getD (x1).toNatClampNeg 0))] [(.int (L.getD (x1).toNatClampNeg 0)), (.int (2 : Int32))])) _
              refine XS.imul X0.here hx rfl (hb hby d3_46) rfl ?_
              show Steps p.tables e below (s₁.setTop (mkF m 47 #[.val (.ref x0), .val (.int x1), .val (.int x2), .val (.int x3), .val (.int (L.getD (x1).toNatClampNeg 0))] [(.int ((2 : Int32) * (L.getD (x1).toNatClampNeg 0)))])) _
              refine XS.bipush X0.here hx rfl (hb hby d3_47) ?_
              show Steps p.tables e below (s₁.setTop (mkF m 49 #[.val (.ref x0), .val (.int x1), .val (.int x2), .val (.int x3), .val (.int (L.getD (x1).toNatClampNeg 0))] [(.int (9 : Int32)), (.int ((2 : Int32) * (L.getD (x1).toNatClampNeg 0)))])) _
              refine XS.isub X0.here hx rfl (hb hby d3_49) rfl ?_
              exact Steps.refl _)
          obtain ⟨fs, hr, hrun, hended, hW, hsame⟩ := X0.leave (v := some (.int (((2 : Int32) * (L.getD (x1).toNatClampNeg 0)) - (9 : Int32)))) (fun h => by rw [Bd.returns] at h; cases h)
          refine ⟨_, _, st12.trans ?_, hrun, hended, _, _, rfl, ?_, ⟨_, rfl⟩, hW, hsame.mono (by decide) (by decide)⟩
          · exact retI X0 hx Bd.returns (hb hby d3_50) hr
          · show Q3 Z x0 x1 x2 x3 ka L h0 n0 _ s₁.heap _
            rw [e0]
            exact ⟨by rw [F3, if_neg hc2, if_pos hc5, if_pos hc8, if_neg hc10], N0, rfl⟩
      · have st13 : Steps p.tables e below (s₁.setTop (entryFrame m #[(.ref x0), (.int x1), (.int x2), (.int x3)] 5)) (s₁.setTop (mkF m 29 #[.val (.ref x0), .val (.int x1), .val (.int x2), .val (.int x3), .val (.int (L.getD (x1).toNatClampNeg 0))] [(.int (L.getD (x1).toNatClampNeg 0))])) := st7.trans (by
            show Steps p.tables e below (s₁.setTop (mkF m 24 #[.val (.ref x0), .val (.int x1), .val (.int x2), .val (.int x3), .val (.int (L.getD (x1).toNatClampNeg 0))] [(.int (((x3 - (1 : Int32)) - x1) &&& (1 : Int32)))])) _
            refine XS.ifNo X0.here hx rfl (hb hby d3_24) rfl ((if0 _ _).trans (feq hc8).1) ?_
            show Steps p.tables e below (s₁.setTop (mkF m 27 #[.val (.ref x0), .val (.int x1), .val (.int x2), .val (.int x3), .val (.int (L.getD (x1).toNatClampNeg 0))] [])) _
            refine XS.iload X0.here hx rfl (hb hby d3_27) rfl ?_
            exact Steps.refl _)
        obtain ⟨fs, hr, hrun, hended, hW, hsame⟩ := X0.leave (v := some (.int (L.getD (x1).toNatClampNeg 0))) (fun h => by rw [Bd.returns] at h; cases h)
        refine ⟨_, _, st13.trans ?_, hrun, hended, _, _, rfl, ?_, ⟨_, rfl⟩, hW, hsame.mono (by decide) (by decide)⟩
        · exact retI X0 hx Bd.returns (hb hby d3_29) hr
        · show Q3 Z x0 x1 x2 x3 ka L h0 n0 _ s₁.heap _
          rw [e0]
          exact ⟨by rw [F3, if_neg hc2, if_pos hc5, if_neg hc8], N0, rfl⟩
    · have st14 : Steps p.tables e below (s₁.setTop (entryFrame m #[(.ref x0), (.int x1), (.int x2), (.int x3)] 5)) (s₁.setTop (mkF m 11 #[.val (.ref x0), .val (.int x1), .val (.int x2), .val (.int x3), .unset] [(.int (0 : Int32))])) := st4.trans (by
          show Steps p.tables e below (s₁.setTop (mkF m 7 #[.val (.ref x0), .val (.int x1), .val (.int x2), .val (.int x3), .unset] [(.int x3), (.int x1)])) _
          refine XS.icmpNo X0.here hx rfl (hb hby d3_7) rfl (flt hc5).1 ?_
          show Steps p.tables e below (s₁.setTop (mkF m 10 #[.val (.ref x0), .val (.int x1), .val (.int x2), .val (.int x3), .unset] [])) _
          refine XS.iconst X0.here hx rfl (hb hby d3_10) ?_
          exact Steps.refl _)
      obtain ⟨fs, hr, hrun, hended, hW, hsame⟩ := X0.leave (v := some (.int (0 : Int32))) (fun h => by rw [Bd.returns] at h; cases h)
      refine ⟨_, _, st14.trans ?_, hrun, hended, _, _, rfl, ?_, ⟨_, rfl⟩, hW, hsame.mono (by decide) (by decide)⟩
      · exact retI X0 hx Bd.returns (hb hby d3_11) hr
      · show Q3 Z x0 x1 x2 x3 ka L h0 n0 _ s₁.heap _
        rw [e0]
        exact ⟨by rw [F3, if_neg hc2, if_neg hc5], N0, rfl⟩
theorem own_st6 {a : Addr} {z1 z2 z3 z4 z5 v : Int32} {s6 : Slot} (h : One s6) : storeLocals #[.val (.ref a), .val (.int z1), .val (.int z2), .val (.int z3), .val (.int z4), .val (.int z5), s6] 6 (.int v) = some #[.val (.ref a), .val (.int z1), .val (.int z2), .val (.int z3), .val (.int z4), .val (.int z5), .val (.int v)] := by
  rcases h with rfl | ⟨w, rfl, hw⟩
  · rfl
  · cases w <;> first | rfl | (simp [Value.category] at hw)
theorem d4_10 : decode prog_11_method_6_code 10 = .ok (.iload 5, 2) := by decide +kernel
theorem d4_12 : decode prog_11_method_6_code 12 = .ok (.iload_n 1, 1) := by decide +kernel
theorem d4_13 : decode prog_11_method_6_code 13 = .ok (.if_icmp .lt 41, 3) := by decide +kernel
theorem d4_16 : decode prog_11_method_6_code 16 = .ok (.aload_n 0, 1) := by decide +kernel
theorem d4_17 : decode prog_11_method_6_code 17 = .ok (.iload 5, 2) := by decide +kernel
theorem d4_19 : decode prog_11_method_6_code 19 = .ok (.baload, 1) := by decide +kernel
theorem d4_20 : decode prog_11_method_6_code 20 = .ok (.bipush 48, 2) := by decide +kernel
theorem d4_22 : decode prog_11_method_6_code 22 = .ok (.isub, 1) := by decide +kernel
theorem d4_23 : decode prog_11_method_6_code 23 = .ok (.iload 4, 2) := by decide +kernel
theorem d4_25 : decode prog_11_method_6_code 25 = .ok (.imul, 1) := by decide +kernel
theorem d4_26 : decode prog_11_method_6_code 26 = .ok (.istore 6, 2) := by decide +kernel
theorem d4_28 : decode prog_11_method_6_code 28 = .ok (.iload_n 3, 1) := by decide +kernel
theorem d4_29 : decode prog_11_method_6_code 29 = .ok (.iload 6, 2) := by decide +kernel
theorem d4_31 : decode prog_11_method_6_code 31 = .ok (.bipush 10, 2) := by decide +kernel
theorem d4_33 : decode prog_11_method_6_code 33 = .ok (.idiv, 1) := by decide +kernel
theorem d4_34 : decode prog_11_method_6_code 34 = .ok (.iload 6, 2) := by decide +kernel
theorem d4_36 : decode prog_11_method_6_code 36 = .ok (.bipush 10, 2) := by decide +kernel
theorem d4_38 : decode prog_11_method_6_code 38 = .ok (.irem, 1) := by decide +kernel
theorem d4_39 : decode prog_11_method_6_code 39 = .ok (.iadd, 1) := by decide +kernel
theorem d4_40 : decode prog_11_method_6_code 40 = .ok (.iadd, 1) := by decide +kernel
theorem d4_41 : decode prog_11_method_6_code 41 = .ok (.istore_n 3, 1) := by decide +kernel
theorem d4_42 : decode prog_11_method_6_code 42 = .ok (.iconst 3, 1) := by decide +kernel
theorem d4_43 : decode prog_11_method_6_code 43 = .ok (.iload 4, 2) := by decide +kernel
theorem d4_45 : decode prog_11_method_6_code 45 = .ok (.isub, 1) := by decide +kernel
theorem d4_46 : decode prog_11_method_6_code 46 = .ok (.istore 4, 2) := by decide +kernel
theorem d4_48 : decode prog_11_method_6_code 48 = .ok (.iinc 5 (-1), 3) := by decide +kernel
theorem d4_51 : decode prog_11_method_6_code 51 = .ok (.goto (-41), 3) := by decide +kernel
set_option maxRecDepth 65536 in
set_option maxHeartbeats 40000000 in
theorem own_turn {p : Program} {l : Launch} {e : Env} {R : Room} {s : State} {m : MethodId} {args : Array Value} {below : List Frame} {meth : Method} {c : Code} {T0 : State} {locs : List Loc} {cells slots : Nat} {Z : State} {a0 : Array Value} {h0 : Heap}
    (X0 : Stand p l e R s m args below meth c T0 locs cells slots) (hx : p.tables.exec = Jvm.exec) (hZ : Z.Warmed39 s.vm) (hw : ∀ d ∈ tables_1, d.before a0 Z = true) (hby : c.code = prog_11_method_6_code) (hml : c.maxLocals = 7) (hown : s.vm.findClass "com/example/escritural/escritural/boleto/Digits" = some m.cls) (e0 : T0.heap = h0) (x0 : Addr) (x1 : Int32) (x2 : Int32) (sm : Int32) (fc : Int32) (ix : Int32) (s6 : Slot) (ka : ClassId) (L : List Int32) (A_x : Arv Z h0 x0 ka .byte (8 : Int32) (List.map Value.int L) (.int (0 : Int32))) (hi : ¬ ix < 0 ∧ ix < (8 : Int32)) (hp : ¬ ix < x1) (hs : One s6) :
    Steps p.tables e below (T0.setTop (mkF m 10 #[.val (.ref x0), .val (.int x1), .val (.int x2), .val (.int sm), .val (.int fc), .val (.int ix), s6] [])) (T0.setTop (mkF m 10 #[.val (.ref x0), .val (.int x1), .val (.int x2), .val (.int (sm + (((((L.getD (ix).toNatClampNeg 0) - (48 : Int32)) * fc) / (10 : Int32)) + ((((L.getD (ix).toNatClampNeg 0) - (48 : Int32)) * fc) % (10 : Int32))))), .val (.int ((3 : Int32) - fc)), .val (.int (ix + (-1 : Int32))), .val (.int (((L.getD (ix).toNatClampNeg 0) - (48 : Int32)) * fc))] [])) := by
  show Steps p.tables e below (T0.setTop (mkF m 10 #[.val (.ref x0), .val (.int x1), .val (.int x2), .val (.int sm), .val (.int fc), .val (.int ix), s6] [])) _
  refine XS.iload X0.here hx rfl (hb hby d4_10) rfl ?_
  show Steps p.tables e below (T0.setTop (mkF m 12 #[.val (.ref x0), .val (.int x1), .val (.int x2), .val (.int sm), .val (.int fc), .val (.int ix), s6] [(.int ix)])) _
  refine XS.iloadN X0.here hx rfl (hb hby d4_12) rfl ?_
  have hf1 : ¬ (ix < x1) := hp
  show Steps p.tables e below (T0.setTop (mkF m 13 #[.val (.ref x0), .val (.int x1), .val (.int x2), .val (.int sm), .val (.int fc), .val (.int ix), s6] [(.int x1), (.int ix)])) _
  refine XS.icmpNo X0.here hx rfl (hb hby d4_13) rfl (flt hf1).1 ?_
  show Steps p.tables e below (T0.setTop (mkF m 16 #[.val (.ref x0), .val (.int x1), .val (.int x2), .val (.int sm), .val (.int fc), .val (.int ix), s6] [])) _
  refine XS.aloadN X0.here hx rfl (hb hby d4_16) rfl rfl ?_
  show Steps p.tables e below (T0.setTop (mkF m 17 #[.val (.ref x0), .val (.int x1), .val (.int x2), .val (.int sm), .val (.int fc), .val (.int ix), s6] [(.ref x0)])) _
  refine XS.iload X0.here hx rfl (hb hby d4_17) rfl ?_
  obtain ⟨cl2, Ar2, q2, S2, N2, H2, G2⟩ := id A_x
  have hin2 : ¬ (ix < 0 ∨ cl2.slots.size ≤ (ix).toNatClampNeg) := inb_of S2 hi
  have hat2 : cl2.slots[(ix).toNatClampNeg]? = some (.int (L.getD (ix).toNatClampNeg 0)) := H2.at hin2 (own_getI L _)
  show Steps p.tables e below (T0.setTop (mkF m 19 #[.val (.ref x0), .val (.int x1), .val (.int x2), .val (.int sm), .val (.int fc), .val (.int ix), s6] [(.int ix), (.ref x0)])) _
  refine X0.baloadBytes hx (j := ix) (v := (.int (L.getD (ix).toNatClampNeg 0))) (by rw [e0]; exact Ar2.1) (State.isArrayOf_alike hZ.alike Ar2.2.1) Ar2.2.2 hin2 hat2 (g := (mkF m 19 #[.val (.ref x0), .val (.int x1), .val (.int x2), .val (.int sm), .val (.int fc), .val (.int ix), s6] [(.int ix), (.ref x0)])) rfl rfl (hb hby d4_19) _ ?_
  show Steps p.tables e below (T0.setTop (mkF m 20 #[.val (.ref x0), .val (.int x1), .val (.int x2), .val (.int sm), .val (.int fc), .val (.int ix), s6] [(.int (L.getD (ix).toNatClampNeg 0))])) _
  refine XS.bipush X0.here hx rfl (hb hby d4_20) ?_
  show Steps p.tables e below (T0.setTop (mkF m 22 #[.val (.ref x0), .val (.int x1), .val (.int x2), .val (.int sm), .val (.int fc), .val (.int ix), s6] [(.int (48 : Int32)), (.int (L.getD (ix).toNatClampNeg 0))])) _
  refine XS.isub X0.here hx rfl (hb hby d4_22) rfl ?_
  show Steps p.tables e below (T0.setTop (mkF m 23 #[.val (.ref x0), .val (.int x1), .val (.int x2), .val (.int sm), .val (.int fc), .val (.int ix), s6] [(.int ((L.getD (ix).toNatClampNeg 0) - (48 : Int32)))])) _
  refine XS.iload X0.here hx rfl (hb hby d4_23) rfl ?_
  show Steps p.tables e below (T0.setTop (mkF m 25 #[.val (.ref x0), .val (.int x1), .val (.int x2), .val (.int sm), .val (.int fc), .val (.int ix), s6] [(.int fc), (.int ((L.getD (ix).toNatClampNeg 0) - (48 : Int32)))])) _
  refine XS.imul X0.here hx rfl (hb hby d4_25) rfl ?_
  show Steps p.tables e below (T0.setTop (mkF m 26 #[.val (.ref x0), .val (.int x1), .val (.int x2), .val (.int sm), .val (.int fc), .val (.int ix), s6] [(.int (((L.getD (ix).toNatClampNeg 0) - (48 : Int32)) * fc))])) _
  refine XS.istore X0.here hx rfl (hb hby d4_26) rfl (l' := #[.val (.ref x0), .val (.int x1), .val (.int x2), .val (.int sm), .val (.int fc), .val (.int ix), .val (.int (((L.getD (ix).toNatClampNeg 0) - (48 : Int32)) * fc))]) (own_st6 hs) ?_
  show Steps p.tables e below (T0.setTop (mkF m 28 #[.val (.ref x0), .val (.int x1), .val (.int x2), .val (.int sm), .val (.int fc), .val (.int ix), .val (.int (((L.getD (ix).toNatClampNeg 0) - (48 : Int32)) * fc))] [])) _
  refine XS.iloadN X0.here hx rfl (hb hby d4_28) rfl ?_
  show Steps p.tables e below (T0.setTop (mkF m 29 #[.val (.ref x0), .val (.int x1), .val (.int x2), .val (.int sm), .val (.int fc), .val (.int ix), .val (.int (((L.getD (ix).toNatClampNeg 0) - (48 : Int32)) * fc))] [(.int sm)])) _
  refine XS.iload X0.here hx rfl (hb hby d4_29) rfl ?_
  show Steps p.tables e below (T0.setTop (mkF m 31 #[.val (.ref x0), .val (.int x1), .val (.int x2), .val (.int sm), .val (.int fc), .val (.int ix), .val (.int (((L.getD (ix).toNatClampNeg 0) - (48 : Int32)) * fc))] [(.int (((L.getD (ix).toNatClampNeg 0) - (48 : Int32)) * fc)), (.int sm)])) _
  refine XS.bipush X0.here hx rfl (hb hby d4_31) ?_
  show Steps p.tables e below (T0.setTop (mkF m 33 #[.val (.ref x0), .val (.int x1), .val (.int x2), .val (.int sm), .val (.int fc), .val (.int ix), .val (.int (((L.getD (ix).toNatClampNeg 0) - (48 : Int32)) * fc))] [(.int (10 : Int32)), (.int (((L.getD (ix).toNatClampNeg 0) - (48 : Int32)) * fc)), (.int sm)])) _
  refine XS.idiv X0.here hx rfl (hb hby d4_33) rfl (by decide) ?_
  show Steps p.tables e below (T0.setTop (mkF m 34 #[.val (.ref x0), .val (.int x1), .val (.int x2), .val (.int sm), .val (.int fc), .val (.int ix), .val (.int (((L.getD (ix).toNatClampNeg 0) - (48 : Int32)) * fc))] [(.int ((((L.getD (ix).toNatClampNeg 0) - (48 : Int32)) * fc) / (10 : Int32))), (.int sm)])) _
  refine XS.iload X0.here hx rfl (hb hby d4_34) rfl ?_
  show Steps p.tables e below (T0.setTop (mkF m 36 #[.val (.ref x0), .val (.int x1), .val (.int x2), .val (.int sm), .val (.int fc), .val (.int ix), .val (.int (((L.getD (ix).toNatClampNeg 0) - (48 : Int32)) * fc))] [(.int (((L.getD (ix).toNatClampNeg 0) - (48 : Int32)) * fc)), (.int ((((L.getD (ix).toNatClampNeg 0) - (48 : Int32)) * fc) / (10 : Int32))), (.int sm)])) _
  refine XS.bipush X0.here hx rfl (hb hby d4_36) ?_
  show Steps p.tables e below (T0.setTop (mkF m 38 #[.val (.ref x0), .val (.int x1), .val (.int x2), .val (.int sm), .val (.int fc), .val (.int ix), .val (.int (((L.getD (ix).toNatClampNeg 0) - (48 : Int32)) * fc))] [(.int (10 : Int32)), (.int (((L.getD (ix).toNatClampNeg 0) - (48 : Int32)) * fc)), (.int ((((L.getD (ix).toNatClampNeg 0) - (48 : Int32)) * fc) / (10 : Int32))), (.int sm)])) _
  refine iremM X0 hx rfl (hb hby d4_38) rfl (by decide) ?_
  show Steps p.tables e below (T0.setTop (mkF m 39 #[.val (.ref x0), .val (.int x1), .val (.int x2), .val (.int sm), .val (.int fc), .val (.int ix), .val (.int (((L.getD (ix).toNatClampNeg 0) - (48 : Int32)) * fc))] [(.int ((((L.getD (ix).toNatClampNeg 0) - (48 : Int32)) * fc) % (10 : Int32))), (.int ((((L.getD (ix).toNatClampNeg 0) - (48 : Int32)) * fc) / (10 : Int32))), (.int sm)])) _
  refine XS.iadd X0.here hx rfl (hb hby d4_39) rfl ?_
  show Steps p.tables e below (T0.setTop (mkF m 40 #[.val (.ref x0), .val (.int x1), .val (.int x2), .val (.int sm), .val (.int fc), .val (.int ix), .val (.int (((L.getD (ix).toNatClampNeg 0) - (48 : Int32)) * fc))] [(.int (((((L.getD (ix).toNatClampNeg 0) - (48 : Int32)) * fc) / (10 : Int32)) + ((((L.getD (ix).toNatClampNeg 0) - (48 : Int32)) * fc) % (10 : Int32)))), (.int sm)])) _
  refine XS.iadd X0.here hx rfl (hb hby d4_40) rfl ?_
  show Steps p.tables e below (T0.setTop (mkF m 41 #[.val (.ref x0), .val (.int x1), .val (.int x2), .val (.int sm), .val (.int fc), .val (.int ix), .val (.int (((L.getD (ix).toNatClampNeg 0) - (48 : Int32)) * fc))] [(.int (sm + (((((L.getD (ix).toNatClampNeg 0) - (48 : Int32)) * fc) / (10 : Int32)) + ((((L.getD (ix).toNatClampNeg 0) - (48 : Int32)) * fc) % (10 : Int32)))))])) _
  refine XS.istoreN X0.here hx rfl (hb hby d4_41) rfl (l' := #[.val (.ref x0), .val (.int x1), .val (.int x2), .val (.int (sm + (((((L.getD (ix).toNatClampNeg 0) - (48 : Int32)) * fc) / (10 : Int32)) + ((((L.getD (ix).toNatClampNeg 0) - (48 : Int32)) * fc) % (10 : Int32))))), .val (.int fc), .val (.int ix), .val (.int (((L.getD (ix).toNatClampNeg 0) - (48 : Int32)) * fc))]) rfl ?_
  show Steps p.tables e below (T0.setTop (mkF m 42 #[.val (.ref x0), .val (.int x1), .val (.int x2), .val (.int (sm + (((((L.getD (ix).toNatClampNeg 0) - (48 : Int32)) * fc) / (10 : Int32)) + ((((L.getD (ix).toNatClampNeg 0) - (48 : Int32)) * fc) % (10 : Int32))))), .val (.int fc), .val (.int ix), .val (.int (((L.getD (ix).toNatClampNeg 0) - (48 : Int32)) * fc))] [])) _
  refine XS.iconst X0.here hx rfl (hb hby d4_42) ?_
  show Steps p.tables e below (T0.setTop (mkF m 43 #[.val (.ref x0), .val (.int x1), .val (.int x2), .val (.int (sm + (((((L.getD (ix).toNatClampNeg 0) - (48 : Int32)) * fc) / (10 : Int32)) + ((((L.getD (ix).toNatClampNeg 0) - (48 : Int32)) * fc) % (10 : Int32))))), .val (.int fc), .val (.int ix), .val (.int (((L.getD (ix).toNatClampNeg 0) - (48 : Int32)) * fc))] [(.int (3 : Int32))])) _
  refine XS.iload X0.here hx rfl (hb hby d4_43) rfl ?_
  show Steps p.tables e below (T0.setTop (mkF m 45 #[.val (.ref x0), .val (.int x1), .val (.int x2), .val (.int (sm + (((((L.getD (ix).toNatClampNeg 0) - (48 : Int32)) * fc) / (10 : Int32)) + ((((L.getD (ix).toNatClampNeg 0) - (48 : Int32)) * fc) % (10 : Int32))))), .val (.int fc), .val (.int ix), .val (.int (((L.getD (ix).toNatClampNeg 0) - (48 : Int32)) * fc))] [(.int fc), (.int (3 : Int32))])) _
  refine XS.isub X0.here hx rfl (hb hby d4_45) rfl ?_
  show Steps p.tables e below (T0.setTop (mkF m 46 #[.val (.ref x0), .val (.int x1), .val (.int x2), .val (.int (sm + (((((L.getD (ix).toNatClampNeg 0) - (48 : Int32)) * fc) / (10 : Int32)) + ((((L.getD (ix).toNatClampNeg 0) - (48 : Int32)) * fc) % (10 : Int32))))), .val (.int fc), .val (.int ix), .val (.int (((L.getD (ix).toNatClampNeg 0) - (48 : Int32)) * fc))] [(.int ((3 : Int32) - fc))])) _
  refine XS.istore X0.here hx rfl (hb hby d4_46) rfl (l' := #[.val (.ref x0), .val (.int x1), .val (.int x2), .val (.int (sm + (((((L.getD (ix).toNatClampNeg 0) - (48 : Int32)) * fc) / (10 : Int32)) + ((((L.getD (ix).toNatClampNeg 0) - (48 : Int32)) * fc) % (10 : Int32))))), .val (.int ((3 : Int32) - fc)), .val (.int ix), .val (.int (((L.getD (ix).toNatClampNeg 0) - (48 : Int32)) * fc))]) rfl ?_
  show Steps p.tables e below (T0.setTop (mkF m 48 #[.val (.ref x0), .val (.int x1), .val (.int x2), .val (.int (sm + (((((L.getD (ix).toNatClampNeg 0) - (48 : Int32)) * fc) / (10 : Int32)) + ((((L.getD (ix).toNatClampNeg 0) - (48 : Int32)) * fc) % (10 : Int32))))), .val (.int ((3 : Int32) - fc)), .val (.int ix), .val (.int (((L.getD (ix).toNatClampNeg 0) - (48 : Int32)) * fc))] [])) _
  refine XS.iinc X0.here hx rfl (hb hby d4_48) rfl (l' := #[.val (.ref x0), .val (.int x1), .val (.int x2), .val (.int (sm + (((((L.getD (ix).toNatClampNeg 0) - (48 : Int32)) * fc) / (10 : Int32)) + ((((L.getD (ix).toNatClampNeg 0) - (48 : Int32)) * fc) % (10 : Int32))))), .val (.int ((3 : Int32) - fc)), .val (.int (ix + (-1 : Int32))), .val (.int (((L.getD (ix).toNatClampNeg 0) - (48 : Int32)) * fc))]) rfl ?_
  show Steps p.tables e below (T0.setTop (mkF m 51 #[.val (.ref x0), .val (.int x1), .val (.int x2), .val (.int (sm + (((((L.getD (ix).toNatClampNeg 0) - (48 : Int32)) * fc) / (10 : Int32)) + ((((L.getD (ix).toNatClampNeg 0) - (48 : Int32)) * fc) % (10 : Int32))))), .val (.int ((3 : Int32) - fc)), .val (.int (ix + (-1 : Int32))), .val (.int (((L.getD (ix).toNatClampNeg 0) - (48 : Int32)) * fc))] [])) _
  refine XS.goto X0.here hx rfl (pc0 := 51) (pc' := 10) rfl (hb hby d4_51) (by decide) (by decide) ?_
  exact Steps.refl _
set_option maxRecDepth 65536 in
set_option maxHeartbeats 40000000 in
theorem own_exit {p : Program} {l : Launch} {e : Env} {R : Room} {s : State} {m : MethodId} {args : Array Value} {below : List Frame} {meth : Method} {c : Code} {T0 : State} {locs : List Loc} {cells slots : Nat} {Z : State} {a0 : Array Value} {h0 : Heap}
    (X0 : Stand p l e R s m args below meth c T0 locs cells slots) (hx : p.tables.exec = Jvm.exec) (hZ : Z.Warmed39 s.vm) (hw : ∀ d ∈ tables_1, d.before a0 Z = true) (hby : c.code = prog_11_method_6_code) (hml : c.maxLocals = 7) (hown : s.vm.findClass "com/example/escritural/escritural/boleto/Digits" = some m.cls) (e0 : T0.heap = h0) (x0 : Addr) (x1 : Int32) (x2 : Int32) (sm : Int32) (fc : Int32) (ix : Int32) (s6 : Slot) (ka : ClassId) (L : List Int32) (hp : ix < x1) :
    Steps p.tables e below (T0.setTop (mkF m 10 #[.val (.ref x0), .val (.int x1), .val (.int x2), .val (.int sm), .val (.int fc), .val (.int ix), s6] [])) (T0.setTop (mkF m 54 #[.val (.ref x0), .val (.int x1), .val (.int x2), .val (.int sm), .val (.int fc), .val (.int ix), s6] [])) := by
  show Steps p.tables e below (T0.setTop (mkF m 10 #[.val (.ref x0), .val (.int x1), .val (.int x2), .val (.int sm), .val (.int fc), .val (.int ix), s6] [])) _
  refine XS.iload X0.here hx rfl (hb hby d4_10) rfl ?_
  show Steps p.tables e below (T0.setTop (mkF m 12 #[.val (.ref x0), .val (.int x1), .val (.int x2), .val (.int sm), .val (.int fc), .val (.int ix), s6] [(.int ix)])) _
  refine XS.iloadN X0.here hx rfl (hb hby d4_12) rfl ?_
  have hf1 : ix < x1 := hp
  show Steps p.tables e below (T0.setTop (mkF m 13 #[.val (.ref x0), .val (.int x1), .val (.int x2), .val (.int sm), .val (.int fc), .val (.int ix), s6] [(.int x1), (.int ix)])) _
  refine XS.icmpYes X0.here hx rfl (pc0 := 13) (pc' := 54) rfl (hb hby d4_13) rfl (tlt hf1).1 (by decide) (by decide) ?_
  exact Steps.refl _
def own_m : Nat → List Int32 → Int32 → Int32 → Int32 → Int32
  | 0, _, _, sm, _ => sm
  | n + 1, L, ix, sm, fc => own_m n L (ix + (-1 : Int32)) (sm + (((((L.getD (ix).toNatClampNeg 0) - (48 : Int32)) * fc) / (10 : Int32)) + ((((L.getD (ix).toNatClampNeg 0) - (48 : Int32)) * fc) % (10 : Int32)))) ((3 : Int32) - fc)
theorem own_loop {p : Program} {l : Launch} {e : Env} {R : Room} {s : State} {m : MethodId} {args : Array Value} {below : List Frame} {meth : Method} {c : Code} {T0 : State} {locs : List Loc} {cells slots : Nat} {Z : State} {a0 : Array Value} {h0 : Heap}
    (X0 : Stand p l e R s m args below meth c T0 locs cells slots) (hx : p.tables.exec = Jvm.exec) (hZ : Z.Warmed39 s.vm) (hw : ∀ d ∈ tables_1, d.before a0 Z = true) (hby : c.code = prog_11_method_6_code) (hml : c.maxLocals = 7) (hown : s.vm.findClass "com/example/escritural/escritural/boleto/Digits" = some m.cls) (e0 : T0.heap = h0) (x0 : Addr) (x1 x2 : Int32) (ka : ClassId) (L : List Int32) (A_x : Arv Z h0 x0 ka .byte (8 : Int32) (List.map Value.int L) (.int (0 : Int32))) (h1 : 0 ≤ x1.toInt) :
    ∀ (k : Nat) (sm fc ix : Int32) (s6 : Slot), ix.toInt < 8 → ix.toInt + 1 - x1.toInt = k → One s6 → ∃ f' i' s', Steps p.tables e below (T0.setTop (mkF m 10 #[.val (.ref x0), .val (.int x1), .val (.int x2), .val (.int sm), .val (.int fc), .val (.int ix), s6] [])) (T0.setTop (mkF m 54 #[.val (.ref x0), .val (.int x1), .val (.int x2), .val (.int (own_m k L ix sm fc)), .val (.int f'), .val (.int i'), s'] []))
  | 0, sm, fc, ix, s6, h8, hk, hs => ⟨fc, ix, s6, own_exit X0 hx hZ hw hby hml hown e0 x0 x1 x2 sm fc ix s6 ka L (by rw [Int32.lt_iff_toInt_lt]; omega)⟩
  | k + 1, sm, fc, ix, s6, h8, hk, hs => by
    have k0 : (0 : Int32).toInt = 0 := by decide
    have k8 : (8 : Int32).toInt = 8 := by decide
    have km : (-1 : Int32).toInt = -1 := by decide
    have e1 := c_iadd ix (-1)
    have r1 := rng32 (ix + (-1))
    rw [km] at e1
    obtain ⟨f', i', s', st⟩ := own_loop X0 hx hZ hw hby hml hown e0 x0 x1 x2 ka L A_x h1 k (sm + (((((L.getD (ix).toNatClampNeg 0) - (48 : Int32)) * fc) / (10 : Int32)) + ((((L.getD (ix).toNatClampNeg 0) - (48 : Int32)) * fc) % (10 : Int32)))) ((3 : Int32) - fc) (ix + (-1 : Int32)) (.val (.int (((L.getD (ix).toNatClampNeg 0) - (48 : Int32)) * fc))) (by omega) (by omega) (One.val rfl)
    refine ⟨f', i', s', ?_⟩
    rw [own_m]
    exact (own_turn X0 hx hZ hw hby hml hown e0 x0 x1 x2 sm fc ix s6 ka L A_x (by rw [Int32.lt_iff_toInt_lt, Int32.lt_iff_toInt_lt]; omega) (by rw [Int32.lt_iff_toInt_lt]; omega) hs).trans st
def own_res (x1 x2 : Int32) (L : List Int32) : Int32 := (((10 : Int32) - ((own_m (x2.toInt - x1.toInt).toNat L (x2 - (1 : Int32)) (0 : Int32) (2 : Int32)) % (10 : Int32))) % (10 : Int32))
theorem d4_0 : decode prog_11_method_6_code 0 = .ok (.iconst 0, 1) := by decide +kernel
theorem d4_1 : decode prog_11_method_6_code 1 = .ok (.istore_n 3, 1) := by decide +kernel
theorem d4_2 : decode prog_11_method_6_code 2 = .ok (.iconst 2, 1) := by decide +kernel
theorem d4_3 : decode prog_11_method_6_code 3 = .ok (.istore 4, 2) := by decide +kernel
theorem d4_5 : decode prog_11_method_6_code 5 = .ok (.iload_n 2, 1) := by decide +kernel
theorem d4_6 : decode prog_11_method_6_code 6 = .ok (.iconst 1, 1) := by decide +kernel
theorem d4_7 : decode prog_11_method_6_code 7 = .ok (.isub, 1) := by decide +kernel
theorem d4_8 : decode prog_11_method_6_code 8 = .ok (.istore 5, 2) := by decide +kernel
theorem d4_54 : decode prog_11_method_6_code 54 = .ok (.bipush 10, 2) := by decide +kernel
theorem d4_56 : decode prog_11_method_6_code 56 = .ok (.iload_n 3, 1) := by decide +kernel
theorem d4_57 : decode prog_11_method_6_code 57 = .ok (.bipush 10, 2) := by decide +kernel
theorem d4_59 : decode prog_11_method_6_code 59 = .ok (.irem, 1) := by decide +kernel
theorem d4_60 : decode prog_11_method_6_code 60 = .ok (.isub, 1) := by decide +kernel
theorem d4_61 : decode prog_11_method_6_code 61 = .ok (.bipush 10, 2) := by decide +kernel
theorem d4_63 : decode prog_11_method_6_code 63 = .ok (.irem, 1) := by decide +kernel
theorem d4_64 : decode prog_11_method_6_code 64 = .ok (.ireturn, 1) := by decide +kernel
theorem pn_1 : plainName "com/example/escritural/escritural/boleto/Digits" = true := by first | (simp [plainName, overriddenIn]; done) | decide +kernel
theorem ef_4 (m : MethodId) (x0 : Addr) (x1 : Int32) (x2 : Int32)  : entryFrame m #[(.ref x0), (.int x1), (.int x2)] 7 = mkF m 0 #[.val (.ref x0), .val (.int x1), .val (.int x2), .unset, .unset, .unset, .unset] [] := by first | (simp [entryFrame, mkF, argsToLocals, Value.category]; done) | rfl
def Q4 (Z : State) (x0 : Addr) (x1 : Int32) (x2 : Int32) (ka : ClassId) (L : List Int32) (h0 : Heap) (n0 : Nat) (vE : Option Value) (hE : Heap) (LE : List Loc) : Prop := vE = some (.int (own_res x1 x2 L)) ∧ Fr n0 LE ∧ hE = h0
set_option maxRecDepth 65536 in
set_option maxHeartbeats 40000000 in
theorem rm4 (l : Launch) (Z : State) (a0 : Array Value) (hw : ∀ d ∈ tables_1, d.before a0 Z = true) (ws : List Jvm.Cond) (x0 : Addr) (x1 : Int32) (x2 : Int32) (ka : ClassId) (L : List Int32) (h0 : Heap) (n0 : Nat) (Z0 : n0 ≤ h0.size) (A_x : Arv Z h0 x0 ka .byte (8 : Int32) (List.map Value.int L) (.int (0 : Int32))) (hbd : 0 ≤ x1.toInt ∧ x1.toInt ≤ x2.toInt ∧ x2.toInt ≤ 8) :
    MetFree l (⟨"com/example/escritural/escritural/boleto/Digits", "modulo10", "([BII)I"⟩ : MethodName) (head1 (Jvm.Cond.code (⟨"com/example/escritural/escritural/boleto/Digits", "modulo10", "([BII)I"⟩ : MethodName) prog_11_method_6_code 7 (some .int) :: ws) ({ frames := 0, cells := 0, slots := 0, locals := 0 } : Room)) (fun a U => a = #[(.ref x0), (.int x1), (.int x2)] ∧ Z.Warmed39 U.vm ∧ U.heap = h0) (fun _ _ _ _ _ => True) (fun _ U o U' => ∃ vE LE, o = .returned vE ∧ Q4 Z x0 x1 x2 ka L h0 n0 vE U'.heap LE ∧ FrameEnd U o U' LE ({ frames := 0, cells := 0, slots := 0, locals := 0 } : Room).cells ({ frames := 0, cells := 0, slots := 0, locals := 0 } : Room).slots) := by
  refine MetFree.of_bodySF (plainFor_of_name pn_1) hisR ?_
  intro p e s m args below meth c s₁ Bd hml0 hP hK
  obtain ⟨rfl, hZ, hh⟩ := hP
  have hx := Bd.exec
  have hby := Bd.bytes
  have hml : c.maxLocals = 7 := hml0
  have hown : s.vm.findClass "com/example/escritural/escritural/boleto/Digits" = some m.cls := findClass_of_methodNamed Bd.named
  have hnm := (name_of_methodNamed Bd.named Bd.method).1
  have X0 : Stand p l e ({ frames := 0, cells := 0, slots := 0, locals := 0 } : Room) s m #[(.ref x0), (.int x1), (.int x2)] below meth c s₁ [] 0 0 := Stand.of_body Bd
  have e0 : s₁.heap = h0 := by rw [← hh, Bd.state]; rfl
  have N0 := Fr.nil n0
  have st0 : Steps p.tables e below (s₁.setTop (entryFrame m #[(.ref x0), (.int x1), (.int x2)] 7)) (s₁.setTop (mkF m 0 #[.val (.ref x0), .val (.int x1), .val (.int x2), .unset, .unset, .unset, .unset] [])) := castTop (ef_4 m x0 x1 x2) (Steps.refl _)
  have st1 : Steps p.tables e below (s₁.setTop (entryFrame m #[(.ref x0), (.int x1), (.int x2)] 7)) (s₁.setTop (mkF m 10 #[.val (.ref x0), .val (.int x1), .val (.int x2), .val (.int (0 : Int32)), .val (.int (2 : Int32)), .val (.int (x2 - (1 : Int32))), .unset] [])) := st0.trans (by
      show Steps p.tables e below (s₁.setTop (mkF m 0 #[.val (.ref x0), .val (.int x1), .val (.int x2), .unset, .unset, .unset, .unset] [])) _
      refine XS.iconst X0.here hx rfl (hb hby d4_0) ?_
      show Steps p.tables e below (s₁.setTop (mkF m 1 #[.val (.ref x0), .val (.int x1), .val (.int x2), .unset, .unset, .unset, .unset] [(.int (0 : Int32))])) _
      refine XS.istoreN X0.here hx rfl (hb hby d4_1) rfl (l' := #[.val (.ref x0), .val (.int x1), .val (.int x2), .val (.int (0 : Int32)), .unset, .unset, .unset]) rfl ?_
      show Steps p.tables e below (s₁.setTop (mkF m 2 #[.val (.ref x0), .val (.int x1), .val (.int x2), .val (.int (0 : Int32)), .unset, .unset, .unset] [])) _
      refine XS.iconst X0.here hx rfl (hb hby d4_2) ?_
      show Steps p.tables e below (s₁.setTop (mkF m 3 #[.val (.ref x0), .val (.int x1), .val (.int x2), .val (.int (0 : Int32)), .unset, .unset, .unset] [(.int (2 : Int32))])) _
      refine XS.istore X0.here hx rfl (hb hby d4_3) rfl (l' := #[.val (.ref x0), .val (.int x1), .val (.int x2), .val (.int (0 : Int32)), .val (.int (2 : Int32)), .unset, .unset]) rfl ?_
      show Steps p.tables e below (s₁.setTop (mkF m 5 #[.val (.ref x0), .val (.int x1), .val (.int x2), .val (.int (0 : Int32)), .val (.int (2 : Int32)), .unset, .unset] [])) _
      refine XS.iloadN X0.here hx rfl (hb hby d4_5) rfl ?_
      show Steps p.tables e below (s₁.setTop (mkF m 6 #[.val (.ref x0), .val (.int x1), .val (.int x2), .val (.int (0 : Int32)), .val (.int (2 : Int32)), .unset, .unset] [(.int x2)])) _
      refine XS.iconst X0.here hx rfl (hb hby d4_6) ?_
      show Steps p.tables e below (s₁.setTop (mkF m 7 #[.val (.ref x0), .val (.int x1), .val (.int x2), .val (.int (0 : Int32)), .val (.int (2 : Int32)), .unset, .unset] [(.int (1 : Int32)), (.int x2)])) _
      refine XS.isub X0.here hx rfl (hb hby d4_7) rfl ?_
      show Steps p.tables e below (s₁.setTop (mkF m 8 #[.val (.ref x0), .val (.int x1), .val (.int x2), .val (.int (0 : Int32)), .val (.int (2 : Int32)), .unset, .unset] [(.int (x2 - (1 : Int32)))])) _
      refine XS.istore X0.here hx rfl (hb hby d4_8) rfl (l' := #[.val (.ref x0), .val (.int x1), .val (.int x2), .val (.int (0 : Int32)), .val (.int (2 : Int32)), .val (.int (x2 - (1 : Int32))), .unset]) rfl ?_
      exact Steps.refl _)
  have k1 : (1 : Int32).toInt = 1 := by decide
  have em := c_isub x2 1
  rw [k1] at em
  have rm := rng32 (x2 - 1)
  obtain ⟨f', i', s', sl⟩ := own_loop X0 hx hZ hw hby hml hown e0 x0 x1 x2 ka L A_x hbd.1 (x2.toInt - x1.toInt).toNat (0 : Int32) (2 : Int32) (x2 - (1 : Int32)) .unset (by omega) (by omega) One.u
  have st2 : Steps p.tables e below (s₁.setTop (entryFrame m #[(.ref x0), (.int x1), (.int x2)] 7)) (s₁.setTop (mkF m 54 #[.val (.ref x0), .val (.int x1), .val (.int x2), .val (.int (own_m (x2.toInt - x1.toInt).toNat L (x2 - (1 : Int32)) (0 : Int32) (2 : Int32))), .val (.int f'), .val (.int i'), s'] [])) := st1.trans sl
  have st3 : Steps p.tables e below (s₁.setTop (entryFrame m #[(.ref x0), (.int x1), (.int x2)] 7)) (s₁.setTop (mkF m 64 #[.val (.ref x0), .val (.int x1), .val (.int x2), .val (.int (own_m (x2.toInt - x1.toInt).toNat L (x2 - (1 : Int32)) (0 : Int32) (2 : Int32))), .val (.int f'), .val (.int i'), s'] [(.int (((10 : Int32) - ((own_m (x2.toInt - x1.toInt).toNat L (x2 - (1 : Int32)) (0 : Int32) (2 : Int32)) % (10 : Int32))) % (10 : Int32)))])) := st2.trans (by
      show Steps p.tables e below (s₁.setTop (mkF m 54 #[.val (.ref x0), .val (.int x1), .val (.int x2), .val (.int (own_m (x2.toInt - x1.toInt).toNat L (x2 - (1 : Int32)) (0 : Int32) (2 : Int32))), .val (.int f'), .val (.int i'), s'] [])) _
      refine XS.bipush X0.here hx rfl (hb hby d4_54) ?_
      show Steps p.tables e below (s₁.setTop (mkF m 56 #[.val (.ref x0), .val (.int x1), .val (.int x2), .val (.int (own_m (x2.toInt - x1.toInt).toNat L (x2 - (1 : Int32)) (0 : Int32) (2 : Int32))), .val (.int f'), .val (.int i'), s'] [(.int (10 : Int32))])) _
      refine XS.iloadN X0.here hx rfl (hb hby d4_56) rfl ?_
      show Steps p.tables e below (s₁.setTop (mkF m 57 #[.val (.ref x0), .val (.int x1), .val (.int x2), .val (.int (own_m (x2.toInt - x1.toInt).toNat L (x2 - (1 : Int32)) (0 : Int32) (2 : Int32))), .val (.int f'), .val (.int i'), s'] [(.int (own_m (x2.toInt - x1.toInt).toNat L (x2 - (1 : Int32)) (0 : Int32) (2 : Int32))), (.int (10 : Int32))])) _
      refine XS.bipush X0.here hx rfl (hb hby d4_57) ?_
      show Steps p.tables e below (s₁.setTop (mkF m 59 #[.val (.ref x0), .val (.int x1), .val (.int x2), .val (.int (own_m (x2.toInt - x1.toInt).toNat L (x2 - (1 : Int32)) (0 : Int32) (2 : Int32))), .val (.int f'), .val (.int i'), s'] [(.int (10 : Int32)), (.int (own_m (x2.toInt - x1.toInt).toNat L (x2 - (1 : Int32)) (0 : Int32) (2 : Int32))), (.int (10 : Int32))])) _
      refine iremM X0 hx rfl (hb hby d4_59) rfl (by decide) ?_
      show Steps p.tables e below (s₁.setTop (mkF m 60 #[.val (.ref x0), .val (.int x1), .val (.int x2), .val (.int (own_m (x2.toInt - x1.toInt).toNat L (x2 - (1 : Int32)) (0 : Int32) (2 : Int32))), .val (.int f'), .val (.int i'), s'] [(.int ((own_m (x2.toInt - x1.toInt).toNat L (x2 - (1 : Int32)) (0 : Int32) (2 : Int32)) % (10 : Int32))), (.int (10 : Int32))])) _
      refine XS.isub X0.here hx rfl (hb hby d4_60) rfl ?_
      show Steps p.tables e below (s₁.setTop (mkF m 61 #[.val (.ref x0), .val (.int x1), .val (.int x2), .val (.int (own_m (x2.toInt - x1.toInt).toNat L (x2 - (1 : Int32)) (0 : Int32) (2 : Int32))), .val (.int f'), .val (.int i'), s'] [(.int ((10 : Int32) - ((own_m (x2.toInt - x1.toInt).toNat L (x2 - (1 : Int32)) (0 : Int32) (2 : Int32)) % (10 : Int32))))])) _
      refine XS.bipush X0.here hx rfl (hb hby d4_61) ?_
      show Steps p.tables e below (s₁.setTop (mkF m 63 #[.val (.ref x0), .val (.int x1), .val (.int x2), .val (.int (own_m (x2.toInt - x1.toInt).toNat L (x2 - (1 : Int32)) (0 : Int32) (2 : Int32))), .val (.int f'), .val (.int i'), s'] [(.int (10 : Int32)), (.int ((10 : Int32) - ((own_m (x2.toInt - x1.toInt).toNat L (x2 - (1 : Int32)) (0 : Int32) (2 : Int32)) % (10 : Int32))))])) _
      refine iremM X0 hx rfl (hb hby d4_63) rfl (by decide) ?_
      exact Steps.refl _)
  obtain ⟨fs, hr, hrun, hended, hW, hsame⟩ := X0.leave (v := some (.int (((10 : Int32) - ((own_m (x2.toInt - x1.toInt).toNat L (x2 - (1 : Int32)) (0 : Int32) (2 : Int32)) % (10 : Int32))) % (10 : Int32)))) (fun h => by rw [Bd.returns] at h; cases h)
  refine ⟨_, _, st3.trans ?_, hrun, hended, _, _, rfl, ?_, ⟨_, rfl⟩, hW, hsame.mono (by decide) (by decide)⟩
  · exact retI X0 hx Bd.returns (hb hby d4_64) hr
  · show Q4 Z x0 x1 x2 ka L h0 n0 _ s₁.heap _
    rw [e0]
    exact ⟨rfl, N0, rfl⟩
theorem own_lo (x : Int32) : 0 ≤ (F1 x).toInt ∧ (F1 x).toInt ≤ 9 := by
  have e1 : (x &&& 2147483647).toInt = x.toInt % (2 ^ 31 : Nat) := c_mask x 2147483647 31 (by decide) (by decide)
  have e2 := (c_irem (x &&& 2147483647) 10 10 (by decide)).1 (by omega)
  show 0 ≤ ((x &&& 2147483647) % 10).toInt ∧ ((x &&& 2147483647) % 10).toInt ≤ 9
  omega
theorem own_hi (x : Int32) : 0 ≤ (F2 x).toInt ∧ (F2 x).toInt ≤ 9 := by
  have e1 : (x &&& 2147483647).toInt = x.toInt % (2 ^ 31 : Nat) := c_mask x 2147483647 31 (by decide) (by decide)
  have e2 := (c_idiv (x &&& 2147483647) 10 10 (by decide) (by decide)).1 (by omega)
  have e3 := (c_irem ((x &&& 2147483647) / 10) 10 10 (by decide)).1 (by omega)
  show 0 ≤ (((x &&& 2147483647) / 10) % 10).toInt ∧ (((x &&& 2147483647) / 10) % 10).toInt ≤ 9
  omega
theorem own_dig (d : Int32) (h : 0 ≤ d.toInt ∧ d.toInt ≤ 9) : d = 0 ∨ d = 1 ∨ d = 2 ∨ d = 3 ∨ d = 4 ∨ d = 5 ∨ d = 6 ∨ d = 7 ∨ d = 8 ∨ d = 9 := by
  simp only [← Int32.toInt_inj]
  simp only [show (0 : Int32).toInt = 0 by decide, show (1 : Int32).toInt = 1 by decide, show (2 : Int32).toInt = 2 by decide, show (3 : Int32).toInt = 3 by decide, show (4 : Int32).toInt = 4 by decide, show (5 : Int32).toInt = 5 by decide, show (6 : Int32).toInt = 6 by decide, show (7 : Int32).toInt = 7 by decide, show (8 : Int32).toInt = 8 by decide, show (9 : Int32).toInt = 9 by decide]
  omega
def own_b (d : Int32) : Int32 := ((((48 : Int32) + d).toInt8.toInt32)).toInt8.toInt32
theorem own_d2 (d : Int32) (h : 0 ≤ d.toInt ∧ d.toInt ≤ 9) : ((own_b d - 48) * 2) / 10 + ((own_b d - 48) * 2) % 10 = (if d < 5 then 2 * d else 2 * d - 9) := by
  rcases own_dig d h with rfl | rfl | rfl | rfl | rfl | rfl | rfl | rfl | rfl | rfl <;> decide +kernel
theorem own_d1 (d : Int32) (h : 0 ≤ d.toInt ∧ d.toInt ≤ 9) : ((own_b d - 48) * 1) / 10 + ((own_b d - 48) * 1) % 10 = d := by
  rcases own_dig d h with rfl | rfl | rfl | rfl | rfl | rfl | rfl | rfl | rfl | rfl <;> decide +kernel
theorem own_nine (d : Int32) (h : 0 ≤ d.toInt ∧ d.toInt ≤ 8) : d = 0 ∨ d = 1 ∨ d = 2 ∨ d = 3 ∨ d = 4 ∨ d = 5 ∨ d = 6 ∨ d = 7 ∨ d = 8 := by
  rcases own_dig d (by omega) with h1 | h1 | h1 | h1 | h1 | h1 | h1 | h1 | h1 | h1 <;> simp [h1]
  subst h1; exact absurd h.2 (by decide)
theorem own_ms (n : Nat) (L : List Int32) (ix ix' sm fc fc' d : Int32) (h1 : ix + (-1) = ix') (h2 : 3 - fc = fc') (h3 : L.getD ix.toNatClampNeg 0 = d) : own_m (n + 1) L ix sm fc = own_m n L ix' (sm + (((d - 48) * fc) / 10 + ((d - 48) * fc) % 10)) fc' := by subst h1 h2 h3; rfl
theorem own_t0 (i f t : Int32) (L : List Int32) (h : i < f ∨ ¬ i < t) : F3 i f t L = 0 := by
  unfold F3
  by_cases h1 : i < f
  · rw [if_pos h1]
  · rw [if_neg h1]
    rcases h with h | h
    · exact absurd h h1
    · rw [if_neg h]
theorem own_t1 (i f t : Int32) (L : List Int32) (d : Int32) (h1 : ¬ i < f) (h2 : i < t) (h3 : ¬ ((t - 1) - i) &&& 1 = 0) (h4 : L.getD i.toNatClampNeg 0 = d) : F3 i f t L = d := by
  unfold F3
  rw [if_neg h1, if_pos h2, h4, if_neg h3]
theorem own_t2 (i f t : Int32) (L : List Int32) (d : Int32) (h1 : ¬ i < f) (h2 : i < t) (h3 : ((t - 1) - i) &&& 1 = 0) (h4 : L.getD i.toNatClampNeg 0 = d) : F3 i f t L = (if d < 5 then 2 * d else 2 * d - 9) := by
  unfold F3
  rw [if_neg h1, if_pos h2, h4, if_pos h3]
theorem own_c0_0 (d0 d1 d2 d3 d4 d5 d6 d7 : Int32) (h0 : 0 ≤ d0.toInt ∧ d0.toInt ≤ 9) (h1 : 0 ≤ d1.toInt ∧ d1.toInt ≤ 9) (h2 : 0 ≤ d2.toInt ∧ d2.toInt ≤ 9) (h3 : 0 ≤ d3.toInt ∧ d3.toInt ≤ 9) (h4 : 0 ≤ d4.toInt ∧ d4.toInt ≤ 9) (h5 : 0 ≤ d5.toInt ∧ d5.toInt ≤ 9) (h6 : 0 ≤ d6.toInt ∧ d6.toInt ≤ 9) (h7 : 0 ≤ d7.toInt ∧ d7.toInt ≤ 9) : own_m 0 [own_b d0, own_b d1, own_b d2, own_b d3, own_b d4, own_b d5, own_b d6, own_b d7] ((0 : Int32) - 1) 0 2 = (((((((F3 0 0 0 [d0, d1, d2, d3, d4, d5, d6, d7] + F3 1 0 0 [d0, d1, d2, d3, d4, d5, d6, d7]) + F3 2 0 0 [d0, d1, d2, d3, d4, d5, d6, d7]) + F3 3 0 0 [d0, d1, d2, d3, d4, d5, d6, d7]) + F3 4 0 0 [d0, d1, d2, d3, d4, d5, d6, d7]) + F3 5 0 0 [d0, d1, d2, d3, d4, d5, d6, d7]) + F3 6 0 0 [d0, d1, d2, d3, d4, d5, d6, d7]) + F3 7 0 0 [d0, d1, d2, d3, d4, d5, d6, d7]) := by
  rw [own_m]
  rw [own_t0 0 0 0 _ (by decide)]
  rw [own_t0 1 0 0 _ (by decide)]
  rw [own_t0 2 0 0 _ (by decide)]
  rw [own_t0 3 0 0 _ (by decide)]
  rw [own_t0 4 0 0 _ (by decide)]
  rw [own_t0 5 0 0 _ (by decide)]
  rw [own_t0 6 0 0 _ (by decide)]
  rw [own_t0 7 0 0 _ (by decide)]
  simp only [Int32.zero_add, Int32.add_zero]
theorem own_c0_1 (d0 d1 d2 d3 d4 d5 d6 d7 : Int32) (h0 : 0 ≤ d0.toInt ∧ d0.toInt ≤ 9) (h1 : 0 ≤ d1.toInt ∧ d1.toInt ≤ 9) (h2 : 0 ≤ d2.toInt ∧ d2.toInt ≤ 9) (h3 : 0 ≤ d3.toInt ∧ d3.toInt ≤ 9) (h4 : 0 ≤ d4.toInt ∧ d4.toInt ≤ 9) (h5 : 0 ≤ d5.toInt ∧ d5.toInt ≤ 9) (h6 : 0 ≤ d6.toInt ∧ d6.toInt ≤ 9) (h7 : 0 ≤ d7.toInt ∧ d7.toInt ≤ 9) : own_m 1 [own_b d0, own_b d1, own_b d2, own_b d3, own_b d4, own_b d5, own_b d6, own_b d7] ((1 : Int32) - 1) 0 2 = (((((((F3 0 0 1 [d0, d1, d2, d3, d4, d5, d6, d7] + F3 1 0 1 [d0, d1, d2, d3, d4, d5, d6, d7]) + F3 2 0 1 [d0, d1, d2, d3, d4, d5, d6, d7]) + F3 3 0 1 [d0, d1, d2, d3, d4, d5, d6, d7]) + F3 4 0 1 [d0, d1, d2, d3, d4, d5, d6, d7]) + F3 5 0 1 [d0, d1, d2, d3, d4, d5, d6, d7]) + F3 6 0 1 [d0, d1, d2, d3, d4, d5, d6, d7]) + F3 7 0 1 [d0, d1, d2, d3, d4, d5, d6, d7]) := by
  rw [show (1 : Int32) - 1 = 0 by decide]
  rw [own_ms 0 _ 0 (-1) _ 2 1 (own_b d0) (by decide) (by decide) (by rw [show (0 : Int32).toNatClampNeg = 0 by decide]; rfl)]
  rw [own_m]
  rw [own_t2 0 0 1 _ d0 (by decide) (by decide) (by decide) (by rw [show (0 : Int32).toNatClampNeg = 0 by decide]; rfl)]
  rw [own_t0 1 0 1 _ (by decide)]
  rw [own_t0 2 0 1 _ (by decide)]
  rw [own_t0 3 0 1 _ (by decide)]
  rw [own_t0 4 0 1 _ (by decide)]
  rw [own_t0 5 0 1 _ (by decide)]
  rw [own_t0 6 0 1 _ (by decide)]
  rw [own_t0 7 0 1 _ (by decide)]
  rw [own_d2 d0 h0]
  simp only [Int32.zero_add, Int32.add_zero]
theorem own_c0_2 (d0 d1 d2 d3 d4 d5 d6 d7 : Int32) (h0 : 0 ≤ d0.toInt ∧ d0.toInt ≤ 9) (h1 : 0 ≤ d1.toInt ∧ d1.toInt ≤ 9) (h2 : 0 ≤ d2.toInt ∧ d2.toInt ≤ 9) (h3 : 0 ≤ d3.toInt ∧ d3.toInt ≤ 9) (h4 : 0 ≤ d4.toInt ∧ d4.toInt ≤ 9) (h5 : 0 ≤ d5.toInt ∧ d5.toInt ≤ 9) (h6 : 0 ≤ d6.toInt ∧ d6.toInt ≤ 9) (h7 : 0 ≤ d7.toInt ∧ d7.toInt ≤ 9) : own_m 2 [own_b d0, own_b d1, own_b d2, own_b d3, own_b d4, own_b d5, own_b d6, own_b d7] ((2 : Int32) - 1) 0 2 = (((((((F3 0 0 2 [d0, d1, d2, d3, d4, d5, d6, d7] + F3 1 0 2 [d0, d1, d2, d3, d4, d5, d6, d7]) + F3 2 0 2 [d0, d1, d2, d3, d4, d5, d6, d7]) + F3 3 0 2 [d0, d1, d2, d3, d4, d5, d6, d7]) + F3 4 0 2 [d0, d1, d2, d3, d4, d5, d6, d7]) + F3 5 0 2 [d0, d1, d2, d3, d4, d5, d6, d7]) + F3 6 0 2 [d0, d1, d2, d3, d4, d5, d6, d7]) + F3 7 0 2 [d0, d1, d2, d3, d4, d5, d6, d7]) := by
  rw [show (2 : Int32) - 1 = 1 by decide]
  rw [own_ms 1 _ 1 (0) _ 2 1 (own_b d1) (by decide) (by decide) (by rw [show (1 : Int32).toNatClampNeg = 1 by decide]; rfl)]
  rw [own_ms 0 _ 0 (-1) _ 1 2 (own_b d0) (by decide) (by decide) (by rw [show (0 : Int32).toNatClampNeg = 0 by decide]; rfl)]
  rw [own_m]
  rw [own_t1 0 0 2 _ d0 (by decide) (by decide) (by decide) (by rw [show (0 : Int32).toNatClampNeg = 0 by decide]; rfl)]
  rw [own_t2 1 0 2 _ d1 (by decide) (by decide) (by decide) (by rw [show (1 : Int32).toNatClampNeg = 1 by decide]; rfl)]
  rw [own_t0 2 0 2 _ (by decide)]
  rw [own_t0 3 0 2 _ (by decide)]
  rw [own_t0 4 0 2 _ (by decide)]
  rw [own_t0 5 0 2 _ (by decide)]
  rw [own_t0 6 0 2 _ (by decide)]
  rw [own_t0 7 0 2 _ (by decide)]
  rw [own_d2 d1 h1, own_d1 d0 h0]
  simp only [Int32.zero_add, Int32.add_zero]
  ac_rfl
theorem own_c0_3 (d0 d1 d2 d3 d4 d5 d6 d7 : Int32) (h0 : 0 ≤ d0.toInt ∧ d0.toInt ≤ 9) (h1 : 0 ≤ d1.toInt ∧ d1.toInt ≤ 9) (h2 : 0 ≤ d2.toInt ∧ d2.toInt ≤ 9) (h3 : 0 ≤ d3.toInt ∧ d3.toInt ≤ 9) (h4 : 0 ≤ d4.toInt ∧ d4.toInt ≤ 9) (h5 : 0 ≤ d5.toInt ∧ d5.toInt ≤ 9) (h6 : 0 ≤ d6.toInt ∧ d6.toInt ≤ 9) (h7 : 0 ≤ d7.toInt ∧ d7.toInt ≤ 9) : own_m 3 [own_b d0, own_b d1, own_b d2, own_b d3, own_b d4, own_b d5, own_b d6, own_b d7] ((3 : Int32) - 1) 0 2 = (((((((F3 0 0 3 [d0, d1, d2, d3, d4, d5, d6, d7] + F3 1 0 3 [d0, d1, d2, d3, d4, d5, d6, d7]) + F3 2 0 3 [d0, d1, d2, d3, d4, d5, d6, d7]) + F3 3 0 3 [d0, d1, d2, d3, d4, d5, d6, d7]) + F3 4 0 3 [d0, d1, d2, d3, d4, d5, d6, d7]) + F3 5 0 3 [d0, d1, d2, d3, d4, d5, d6, d7]) + F3 6 0 3 [d0, d1, d2, d3, d4, d5, d6, d7]) + F3 7 0 3 [d0, d1, d2, d3, d4, d5, d6, d7]) := by
  rw [show (3 : Int32) - 1 = 2 by decide]
  rw [own_ms 2 _ 2 (1) _ 2 1 (own_b d2) (by decide) (by decide) (by rw [show (2 : Int32).toNatClampNeg = 2 by decide]; rfl)]
  rw [own_ms 1 _ 1 (0) _ 1 2 (own_b d1) (by decide) (by decide) (by rw [show (1 : Int32).toNatClampNeg = 1 by decide]; rfl)]
  rw [own_ms 0 _ 0 (-1) _ 2 1 (own_b d0) (by decide) (by decide) (by rw [show (0 : Int32).toNatClampNeg = 0 by decide]; rfl)]
  rw [own_m]
  rw [own_t2 0 0 3 _ d0 (by decide) (by decide) (by decide) (by rw [show (0 : Int32).toNatClampNeg = 0 by decide]; rfl)]
  rw [own_t1 1 0 3 _ d1 (by decide) (by decide) (by decide) (by rw [show (1 : Int32).toNatClampNeg = 1 by decide]; rfl)]
  rw [own_t2 2 0 3 _ d2 (by decide) (by decide) (by decide) (by rw [show (2 : Int32).toNatClampNeg = 2 by decide]; rfl)]
  rw [own_t0 3 0 3 _ (by decide)]
  rw [own_t0 4 0 3 _ (by decide)]
  rw [own_t0 5 0 3 _ (by decide)]
  rw [own_t0 6 0 3 _ (by decide)]
  rw [own_t0 7 0 3 _ (by decide)]
  rw [own_d2 d2 h2, own_d1 d1 h1, own_d2 d0 h0]
  simp only [Int32.zero_add, Int32.add_zero]
  ac_rfl
theorem own_c0_4 (d0 d1 d2 d3 d4 d5 d6 d7 : Int32) (h0 : 0 ≤ d0.toInt ∧ d0.toInt ≤ 9) (h1 : 0 ≤ d1.toInt ∧ d1.toInt ≤ 9) (h2 : 0 ≤ d2.toInt ∧ d2.toInt ≤ 9) (h3 : 0 ≤ d3.toInt ∧ d3.toInt ≤ 9) (h4 : 0 ≤ d4.toInt ∧ d4.toInt ≤ 9) (h5 : 0 ≤ d5.toInt ∧ d5.toInt ≤ 9) (h6 : 0 ≤ d6.toInt ∧ d6.toInt ≤ 9) (h7 : 0 ≤ d7.toInt ∧ d7.toInt ≤ 9) : own_m 4 [own_b d0, own_b d1, own_b d2, own_b d3, own_b d4, own_b d5, own_b d6, own_b d7] ((4 : Int32) - 1) 0 2 = (((((((F3 0 0 4 [d0, d1, d2, d3, d4, d5, d6, d7] + F3 1 0 4 [d0, d1, d2, d3, d4, d5, d6, d7]) + F3 2 0 4 [d0, d1, d2, d3, d4, d5, d6, d7]) + F3 3 0 4 [d0, d1, d2, d3, d4, d5, d6, d7]) + F3 4 0 4 [d0, d1, d2, d3, d4, d5, d6, d7]) + F3 5 0 4 [d0, d1, d2, d3, d4, d5, d6, d7]) + F3 6 0 4 [d0, d1, d2, d3, d4, d5, d6, d7]) + F3 7 0 4 [d0, d1, d2, d3, d4, d5, d6, d7]) := by
  rw [show (4 : Int32) - 1 = 3 by decide]
  rw [own_ms 3 _ 3 (2) _ 2 1 (own_b d3) (by decide) (by decide) (by rw [show (3 : Int32).toNatClampNeg = 3 by decide]; rfl)]
  rw [own_ms 2 _ 2 (1) _ 1 2 (own_b d2) (by decide) (by decide) (by rw [show (2 : Int32).toNatClampNeg = 2 by decide]; rfl)]
  rw [own_ms 1 _ 1 (0) _ 2 1 (own_b d1) (by decide) (by decide) (by rw [show (1 : Int32).toNatClampNeg = 1 by decide]; rfl)]
  rw [own_ms 0 _ 0 (-1) _ 1 2 (own_b d0) (by decide) (by decide) (by rw [show (0 : Int32).toNatClampNeg = 0 by decide]; rfl)]
  rw [own_m]
  rw [own_t1 0 0 4 _ d0 (by decide) (by decide) (by decide) (by rw [show (0 : Int32).toNatClampNeg = 0 by decide]; rfl)]
  rw [own_t2 1 0 4 _ d1 (by decide) (by decide) (by decide) (by rw [show (1 : Int32).toNatClampNeg = 1 by decide]; rfl)]
  rw [own_t1 2 0 4 _ d2 (by decide) (by decide) (by decide) (by rw [show (2 : Int32).toNatClampNeg = 2 by decide]; rfl)]
  rw [own_t2 3 0 4 _ d3 (by decide) (by decide) (by decide) (by rw [show (3 : Int32).toNatClampNeg = 3 by decide]; rfl)]
  rw [own_t0 4 0 4 _ (by decide)]
  rw [own_t0 5 0 4 _ (by decide)]
  rw [own_t0 6 0 4 _ (by decide)]
  rw [own_t0 7 0 4 _ (by decide)]
  rw [own_d2 d3 h3, own_d1 d2 h2, own_d2 d1 h1, own_d1 d0 h0]
  simp only [Int32.zero_add, Int32.add_zero]
  ac_rfl
theorem own_c0_5 (d0 d1 d2 d3 d4 d5 d6 d7 : Int32) (h0 : 0 ≤ d0.toInt ∧ d0.toInt ≤ 9) (h1 : 0 ≤ d1.toInt ∧ d1.toInt ≤ 9) (h2 : 0 ≤ d2.toInt ∧ d2.toInt ≤ 9) (h3 : 0 ≤ d3.toInt ∧ d3.toInt ≤ 9) (h4 : 0 ≤ d4.toInt ∧ d4.toInt ≤ 9) (h5 : 0 ≤ d5.toInt ∧ d5.toInt ≤ 9) (h6 : 0 ≤ d6.toInt ∧ d6.toInt ≤ 9) (h7 : 0 ≤ d7.toInt ∧ d7.toInt ≤ 9) : own_m 5 [own_b d0, own_b d1, own_b d2, own_b d3, own_b d4, own_b d5, own_b d6, own_b d7] ((5 : Int32) - 1) 0 2 = (((((((F3 0 0 5 [d0, d1, d2, d3, d4, d5, d6, d7] + F3 1 0 5 [d0, d1, d2, d3, d4, d5, d6, d7]) + F3 2 0 5 [d0, d1, d2, d3, d4, d5, d6, d7]) + F3 3 0 5 [d0, d1, d2, d3, d4, d5, d6, d7]) + F3 4 0 5 [d0, d1, d2, d3, d4, d5, d6, d7]) + F3 5 0 5 [d0, d1, d2, d3, d4, d5, d6, d7]) + F3 6 0 5 [d0, d1, d2, d3, d4, d5, d6, d7]) + F3 7 0 5 [d0, d1, d2, d3, d4, d5, d6, d7]) := by
  rw [show (5 : Int32) - 1 = 4 by decide]
  rw [own_ms 4 _ 4 (3) _ 2 1 (own_b d4) (by decide) (by decide) (by rw [show (4 : Int32).toNatClampNeg = 4 by decide]; rfl)]
  rw [own_ms 3 _ 3 (2) _ 1 2 (own_b d3) (by decide) (by decide) (by rw [show (3 : Int32).toNatClampNeg = 3 by decide]; rfl)]
  rw [own_ms 2 _ 2 (1) _ 2 1 (own_b d2) (by decide) (by decide) (by rw [show (2 : Int32).toNatClampNeg = 2 by decide]; rfl)]
  rw [own_ms 1 _ 1 (0) _ 1 2 (own_b d1) (by decide) (by decide) (by rw [show (1 : Int32).toNatClampNeg = 1 by decide]; rfl)]
  rw [own_ms 0 _ 0 (-1) _ 2 1 (own_b d0) (by decide) (by decide) (by rw [show (0 : Int32).toNatClampNeg = 0 by decide]; rfl)]
  rw [own_m]
  rw [own_t2 0 0 5 _ d0 (by decide) (by decide) (by decide) (by rw [show (0 : Int32).toNatClampNeg = 0 by decide]; rfl)]
  rw [own_t1 1 0 5 _ d1 (by decide) (by decide) (by decide) (by rw [show (1 : Int32).toNatClampNeg = 1 by decide]; rfl)]
  rw [own_t2 2 0 5 _ d2 (by decide) (by decide) (by decide) (by rw [show (2 : Int32).toNatClampNeg = 2 by decide]; rfl)]
  rw [own_t1 3 0 5 _ d3 (by decide) (by decide) (by decide) (by rw [show (3 : Int32).toNatClampNeg = 3 by decide]; rfl)]
  rw [own_t2 4 0 5 _ d4 (by decide) (by decide) (by decide) (by rw [show (4 : Int32).toNatClampNeg = 4 by decide]; rfl)]
  rw [own_t0 5 0 5 _ (by decide)]
  rw [own_t0 6 0 5 _ (by decide)]
  rw [own_t0 7 0 5 _ (by decide)]
  rw [own_d2 d4 h4, own_d1 d3 h3, own_d2 d2 h2, own_d1 d1 h1, own_d2 d0 h0]
  simp only [Int32.zero_add, Int32.add_zero]
  ac_rfl
theorem own_c0_6 (d0 d1 d2 d3 d4 d5 d6 d7 : Int32) (h0 : 0 ≤ d0.toInt ∧ d0.toInt ≤ 9) (h1 : 0 ≤ d1.toInt ∧ d1.toInt ≤ 9) (h2 : 0 ≤ d2.toInt ∧ d2.toInt ≤ 9) (h3 : 0 ≤ d3.toInt ∧ d3.toInt ≤ 9) (h4 : 0 ≤ d4.toInt ∧ d4.toInt ≤ 9) (h5 : 0 ≤ d5.toInt ∧ d5.toInt ≤ 9) (h6 : 0 ≤ d6.toInt ∧ d6.toInt ≤ 9) (h7 : 0 ≤ d7.toInt ∧ d7.toInt ≤ 9) : own_m 6 [own_b d0, own_b d1, own_b d2, own_b d3, own_b d4, own_b d5, own_b d6, own_b d7] ((6 : Int32) - 1) 0 2 = (((((((F3 0 0 6 [d0, d1, d2, d3, d4, d5, d6, d7] + F3 1 0 6 [d0, d1, d2, d3, d4, d5, d6, d7]) + F3 2 0 6 [d0, d1, d2, d3, d4, d5, d6, d7]) + F3 3 0 6 [d0, d1, d2, d3, d4, d5, d6, d7]) + F3 4 0 6 [d0, d1, d2, d3, d4, d5, d6, d7]) + F3 5 0 6 [d0, d1, d2, d3, d4, d5, d6, d7]) + F3 6 0 6 [d0, d1, d2, d3, d4, d5, d6, d7]) + F3 7 0 6 [d0, d1, d2, d3, d4, d5, d6, d7]) := by
  rw [show (6 : Int32) - 1 = 5 by decide]
  rw [own_ms 5 _ 5 (4) _ 2 1 (own_b d5) (by decide) (by decide) (by rw [show (5 : Int32).toNatClampNeg = 5 by decide]; rfl)]
  rw [own_ms 4 _ 4 (3) _ 1 2 (own_b d4) (by decide) (by decide) (by rw [show (4 : Int32).toNatClampNeg = 4 by decide]; rfl)]
  rw [own_ms 3 _ 3 (2) _ 2 1 (own_b d3) (by decide) (by decide) (by rw [show (3 : Int32).toNatClampNeg = 3 by decide]; rfl)]
  rw [own_ms 2 _ 2 (1) _ 1 2 (own_b d2) (by decide) (by decide) (by rw [show (2 : Int32).toNatClampNeg = 2 by decide]; rfl)]
  rw [own_ms 1 _ 1 (0) _ 2 1 (own_b d1) (by decide) (by decide) (by rw [show (1 : Int32).toNatClampNeg = 1 by decide]; rfl)]
  rw [own_ms 0 _ 0 (-1) _ 1 2 (own_b d0) (by decide) (by decide) (by rw [show (0 : Int32).toNatClampNeg = 0 by decide]; rfl)]
  rw [own_m]
  rw [own_t1 0 0 6 _ d0 (by decide) (by decide) (by decide) (by rw [show (0 : Int32).toNatClampNeg = 0 by decide]; rfl)]
  rw [own_t2 1 0 6 _ d1 (by decide) (by decide) (by decide) (by rw [show (1 : Int32).toNatClampNeg = 1 by decide]; rfl)]
  rw [own_t1 2 0 6 _ d2 (by decide) (by decide) (by decide) (by rw [show (2 : Int32).toNatClampNeg = 2 by decide]; rfl)]
  rw [own_t2 3 0 6 _ d3 (by decide) (by decide) (by decide) (by rw [show (3 : Int32).toNatClampNeg = 3 by decide]; rfl)]
  rw [own_t1 4 0 6 _ d4 (by decide) (by decide) (by decide) (by rw [show (4 : Int32).toNatClampNeg = 4 by decide]; rfl)]
  rw [own_t2 5 0 6 _ d5 (by decide) (by decide) (by decide) (by rw [show (5 : Int32).toNatClampNeg = 5 by decide]; rfl)]
  rw [own_t0 6 0 6 _ (by decide)]
  rw [own_t0 7 0 6 _ (by decide)]
  rw [own_d2 d5 h5, own_d1 d4 h4, own_d2 d3 h3, own_d1 d2 h2, own_d2 d1 h1, own_d1 d0 h0]
  simp only [Int32.zero_add, Int32.add_zero]
  ac_rfl
theorem own_c0_7 (d0 d1 d2 d3 d4 d5 d6 d7 : Int32) (h0 : 0 ≤ d0.toInt ∧ d0.toInt ≤ 9) (h1 : 0 ≤ d1.toInt ∧ d1.toInt ≤ 9) (h2 : 0 ≤ d2.toInt ∧ d2.toInt ≤ 9) (h3 : 0 ≤ d3.toInt ∧ d3.toInt ≤ 9) (h4 : 0 ≤ d4.toInt ∧ d4.toInt ≤ 9) (h5 : 0 ≤ d5.toInt ∧ d5.toInt ≤ 9) (h6 : 0 ≤ d6.toInt ∧ d6.toInt ≤ 9) (h7 : 0 ≤ d7.toInt ∧ d7.toInt ≤ 9) : own_m 7 [own_b d0, own_b d1, own_b d2, own_b d3, own_b d4, own_b d5, own_b d6, own_b d7] ((7 : Int32) - 1) 0 2 = (((((((F3 0 0 7 [d0, d1, d2, d3, d4, d5, d6, d7] + F3 1 0 7 [d0, d1, d2, d3, d4, d5, d6, d7]) + F3 2 0 7 [d0, d1, d2, d3, d4, d5, d6, d7]) + F3 3 0 7 [d0, d1, d2, d3, d4, d5, d6, d7]) + F3 4 0 7 [d0, d1, d2, d3, d4, d5, d6, d7]) + F3 5 0 7 [d0, d1, d2, d3, d4, d5, d6, d7]) + F3 6 0 7 [d0, d1, d2, d3, d4, d5, d6, d7]) + F3 7 0 7 [d0, d1, d2, d3, d4, d5, d6, d7]) := by
  rw [show (7 : Int32) - 1 = 6 by decide]
  rw [own_ms 6 _ 6 (5) _ 2 1 (own_b d6) (by decide) (by decide) (by rw [show (6 : Int32).toNatClampNeg = 6 by decide]; rfl)]
  rw [own_ms 5 _ 5 (4) _ 1 2 (own_b d5) (by decide) (by decide) (by rw [show (5 : Int32).toNatClampNeg = 5 by decide]; rfl)]
  rw [own_ms 4 _ 4 (3) _ 2 1 (own_b d4) (by decide) (by decide) (by rw [show (4 : Int32).toNatClampNeg = 4 by decide]; rfl)]
  rw [own_ms 3 _ 3 (2) _ 1 2 (own_b d3) (by decide) (by decide) (by rw [show (3 : Int32).toNatClampNeg = 3 by decide]; rfl)]
  rw [own_ms 2 _ 2 (1) _ 2 1 (own_b d2) (by decide) (by decide) (by rw [show (2 : Int32).toNatClampNeg = 2 by decide]; rfl)]
  rw [own_ms 1 _ 1 (0) _ 1 2 (own_b d1) (by decide) (by decide) (by rw [show (1 : Int32).toNatClampNeg = 1 by decide]; rfl)]
  rw [own_ms 0 _ 0 (-1) _ 2 1 (own_b d0) (by decide) (by decide) (by rw [show (0 : Int32).toNatClampNeg = 0 by decide]; rfl)]
  rw [own_m]
  rw [own_t2 0 0 7 _ d0 (by decide) (by decide) (by decide) (by rw [show (0 : Int32).toNatClampNeg = 0 by decide]; rfl)]
  rw [own_t1 1 0 7 _ d1 (by decide) (by decide) (by decide) (by rw [show (1 : Int32).toNatClampNeg = 1 by decide]; rfl)]
  rw [own_t2 2 0 7 _ d2 (by decide) (by decide) (by decide) (by rw [show (2 : Int32).toNatClampNeg = 2 by decide]; rfl)]
  rw [own_t1 3 0 7 _ d3 (by decide) (by decide) (by decide) (by rw [show (3 : Int32).toNatClampNeg = 3 by decide]; rfl)]
  rw [own_t2 4 0 7 _ d4 (by decide) (by decide) (by decide) (by rw [show (4 : Int32).toNatClampNeg = 4 by decide]; rfl)]
  rw [own_t1 5 0 7 _ d5 (by decide) (by decide) (by decide) (by rw [show (5 : Int32).toNatClampNeg = 5 by decide]; rfl)]
  rw [own_t2 6 0 7 _ d6 (by decide) (by decide) (by decide) (by rw [show (6 : Int32).toNatClampNeg = 6 by decide]; rfl)]
  rw [own_t0 7 0 7 _ (by decide)]
  rw [own_d2 d6 h6, own_d1 d5 h5, own_d2 d4 h4, own_d1 d3 h3, own_d2 d2 h2, own_d1 d1 h1, own_d2 d0 h0]
  simp only [Int32.zero_add, Int32.add_zero]
  ac_rfl
theorem own_c0_8 (d0 d1 d2 d3 d4 d5 d6 d7 : Int32) (h0 : 0 ≤ d0.toInt ∧ d0.toInt ≤ 9) (h1 : 0 ≤ d1.toInt ∧ d1.toInt ≤ 9) (h2 : 0 ≤ d2.toInt ∧ d2.toInt ≤ 9) (h3 : 0 ≤ d3.toInt ∧ d3.toInt ≤ 9) (h4 : 0 ≤ d4.toInt ∧ d4.toInt ≤ 9) (h5 : 0 ≤ d5.toInt ∧ d5.toInt ≤ 9) (h6 : 0 ≤ d6.toInt ∧ d6.toInt ≤ 9) (h7 : 0 ≤ d7.toInt ∧ d7.toInt ≤ 9) : own_m 8 [own_b d0, own_b d1, own_b d2, own_b d3, own_b d4, own_b d5, own_b d6, own_b d7] ((8 : Int32) - 1) 0 2 = (((((((F3 0 0 8 [d0, d1, d2, d3, d4, d5, d6, d7] + F3 1 0 8 [d0, d1, d2, d3, d4, d5, d6, d7]) + F3 2 0 8 [d0, d1, d2, d3, d4, d5, d6, d7]) + F3 3 0 8 [d0, d1, d2, d3, d4, d5, d6, d7]) + F3 4 0 8 [d0, d1, d2, d3, d4, d5, d6, d7]) + F3 5 0 8 [d0, d1, d2, d3, d4, d5, d6, d7]) + F3 6 0 8 [d0, d1, d2, d3, d4, d5, d6, d7]) + F3 7 0 8 [d0, d1, d2, d3, d4, d5, d6, d7]) := by
  rw [show (8 : Int32) - 1 = 7 by decide]
  rw [own_ms 7 _ 7 (6) _ 2 1 (own_b d7) (by decide) (by decide) (by rw [show (7 : Int32).toNatClampNeg = 7 by decide]; rfl)]
  rw [own_ms 6 _ 6 (5) _ 1 2 (own_b d6) (by decide) (by decide) (by rw [show (6 : Int32).toNatClampNeg = 6 by decide]; rfl)]
  rw [own_ms 5 _ 5 (4) _ 2 1 (own_b d5) (by decide) (by decide) (by rw [show (5 : Int32).toNatClampNeg = 5 by decide]; rfl)]
  rw [own_ms 4 _ 4 (3) _ 1 2 (own_b d4) (by decide) (by decide) (by rw [show (4 : Int32).toNatClampNeg = 4 by decide]; rfl)]
  rw [own_ms 3 _ 3 (2) _ 2 1 (own_b d3) (by decide) (by decide) (by rw [show (3 : Int32).toNatClampNeg = 3 by decide]; rfl)]
  rw [own_ms 2 _ 2 (1) _ 1 2 (own_b d2) (by decide) (by decide) (by rw [show (2 : Int32).toNatClampNeg = 2 by decide]; rfl)]
  rw [own_ms 1 _ 1 (0) _ 2 1 (own_b d1) (by decide) (by decide) (by rw [show (1 : Int32).toNatClampNeg = 1 by decide]; rfl)]
  rw [own_ms 0 _ 0 (-1) _ 1 2 (own_b d0) (by decide) (by decide) (by rw [show (0 : Int32).toNatClampNeg = 0 by decide]; rfl)]
  rw [own_m]
  rw [own_t1 0 0 8 _ d0 (by decide) (by decide) (by decide) (by rw [show (0 : Int32).toNatClampNeg = 0 by decide]; rfl)]
  rw [own_t2 1 0 8 _ d1 (by decide) (by decide) (by decide) (by rw [show (1 : Int32).toNatClampNeg = 1 by decide]; rfl)]
  rw [own_t1 2 0 8 _ d2 (by decide) (by decide) (by decide) (by rw [show (2 : Int32).toNatClampNeg = 2 by decide]; rfl)]
  rw [own_t2 3 0 8 _ d3 (by decide) (by decide) (by decide) (by rw [show (3 : Int32).toNatClampNeg = 3 by decide]; rfl)]
  rw [own_t1 4 0 8 _ d4 (by decide) (by decide) (by decide) (by rw [show (4 : Int32).toNatClampNeg = 4 by decide]; rfl)]
  rw [own_t2 5 0 8 _ d5 (by decide) (by decide) (by decide) (by rw [show (5 : Int32).toNatClampNeg = 5 by decide]; rfl)]
  rw [own_t1 6 0 8 _ d6 (by decide) (by decide) (by decide) (by rw [show (6 : Int32).toNatClampNeg = 6 by decide]; rfl)]
  rw [own_t2 7 0 8 _ d7 (by decide) (by decide) (by decide) (by rw [show (7 : Int32).toNatClampNeg = 7 by decide]; rfl)]
  rw [own_d2 d7 h7, own_d1 d6 h6, own_d2 d5 h5, own_d1 d4 h4, own_d2 d3 h3, own_d1 d2 h2, own_d2 d1 h1, own_d1 d0 h0]
  simp only [Int32.zero_add, Int32.add_zero]
  ac_rfl
theorem own_c1_1 (d0 d1 d2 d3 d4 d5 d6 d7 : Int32) (h0 : 0 ≤ d0.toInt ∧ d0.toInt ≤ 9) (h1 : 0 ≤ d1.toInt ∧ d1.toInt ≤ 9) (h2 : 0 ≤ d2.toInt ∧ d2.toInt ≤ 9) (h3 : 0 ≤ d3.toInt ∧ d3.toInt ≤ 9) (h4 : 0 ≤ d4.toInt ∧ d4.toInt ≤ 9) (h5 : 0 ≤ d5.toInt ∧ d5.toInt ≤ 9) (h6 : 0 ≤ d6.toInt ∧ d6.toInt ≤ 9) (h7 : 0 ≤ d7.toInt ∧ d7.toInt ≤ 9) : own_m 0 [own_b d0, own_b d1, own_b d2, own_b d3, own_b d4, own_b d5, own_b d6, own_b d7] ((1 : Int32) - 1) 0 2 = (((((((F3 0 1 1 [d0, d1, d2, d3, d4, d5, d6, d7] + F3 1 1 1 [d0, d1, d2, d3, d4, d5, d6, d7]) + F3 2 1 1 [d0, d1, d2, d3, d4, d5, d6, d7]) + F3 3 1 1 [d0, d1, d2, d3, d4, d5, d6, d7]) + F3 4 1 1 [d0, d1, d2, d3, d4, d5, d6, d7]) + F3 5 1 1 [d0, d1, d2, d3, d4, d5, d6, d7]) + F3 6 1 1 [d0, d1, d2, d3, d4, d5, d6, d7]) + F3 7 1 1 [d0, d1, d2, d3, d4, d5, d6, d7]) := by
  rw [own_m]
  rw [own_t0 0 1 1 _ (by decide)]
  rw [own_t0 1 1 1 _ (by decide)]
  rw [own_t0 2 1 1 _ (by decide)]
  rw [own_t0 3 1 1 _ (by decide)]
  rw [own_t0 4 1 1 _ (by decide)]
  rw [own_t0 5 1 1 _ (by decide)]
  rw [own_t0 6 1 1 _ (by decide)]
  rw [own_t0 7 1 1 _ (by decide)]
  simp only [Int32.zero_add, Int32.add_zero]
theorem own_c1_2 (d0 d1 d2 d3 d4 d5 d6 d7 : Int32) (h0 : 0 ≤ d0.toInt ∧ d0.toInt ≤ 9) (h1 : 0 ≤ d1.toInt ∧ d1.toInt ≤ 9) (h2 : 0 ≤ d2.toInt ∧ d2.toInt ≤ 9) (h3 : 0 ≤ d3.toInt ∧ d3.toInt ≤ 9) (h4 : 0 ≤ d4.toInt ∧ d4.toInt ≤ 9) (h5 : 0 ≤ d5.toInt ∧ d5.toInt ≤ 9) (h6 : 0 ≤ d6.toInt ∧ d6.toInt ≤ 9) (h7 : 0 ≤ d7.toInt ∧ d7.toInt ≤ 9) : own_m 1 [own_b d0, own_b d1, own_b d2, own_b d3, own_b d4, own_b d5, own_b d6, own_b d7] ((2 : Int32) - 1) 0 2 = (((((((F3 0 1 2 [d0, d1, d2, d3, d4, d5, d6, d7] + F3 1 1 2 [d0, d1, d2, d3, d4, d5, d6, d7]) + F3 2 1 2 [d0, d1, d2, d3, d4, d5, d6, d7]) + F3 3 1 2 [d0, d1, d2, d3, d4, d5, d6, d7]) + F3 4 1 2 [d0, d1, d2, d3, d4, d5, d6, d7]) + F3 5 1 2 [d0, d1, d2, d3, d4, d5, d6, d7]) + F3 6 1 2 [d0, d1, d2, d3, d4, d5, d6, d7]) + F3 7 1 2 [d0, d1, d2, d3, d4, d5, d6, d7]) := by
  rw [show (2 : Int32) - 1 = 1 by decide]
  rw [own_ms 0 _ 1 (0) _ 2 1 (own_b d1) (by decide) (by decide) (by rw [show (1 : Int32).toNatClampNeg = 1 by decide]; rfl)]
  rw [own_m]
  rw [own_t0 0 1 2 _ (by decide)]
  rw [own_t2 1 1 2 _ d1 (by decide) (by decide) (by decide) (by rw [show (1 : Int32).toNatClampNeg = 1 by decide]; rfl)]
  rw [own_t0 2 1 2 _ (by decide)]
  rw [own_t0 3 1 2 _ (by decide)]
  rw [own_t0 4 1 2 _ (by decide)]
  rw [own_t0 5 1 2 _ (by decide)]
  rw [own_t0 6 1 2 _ (by decide)]
  rw [own_t0 7 1 2 _ (by decide)]
  rw [own_d2 d1 h1]
  simp only [Int32.zero_add, Int32.add_zero]
theorem own_c1_3 (d0 d1 d2 d3 d4 d5 d6 d7 : Int32) (h0 : 0 ≤ d0.toInt ∧ d0.toInt ≤ 9) (h1 : 0 ≤ d1.toInt ∧ d1.toInt ≤ 9) (h2 : 0 ≤ d2.toInt ∧ d2.toInt ≤ 9) (h3 : 0 ≤ d3.toInt ∧ d3.toInt ≤ 9) (h4 : 0 ≤ d4.toInt ∧ d4.toInt ≤ 9) (h5 : 0 ≤ d5.toInt ∧ d5.toInt ≤ 9) (h6 : 0 ≤ d6.toInt ∧ d6.toInt ≤ 9) (h7 : 0 ≤ d7.toInt ∧ d7.toInt ≤ 9) : own_m 2 [own_b d0, own_b d1, own_b d2, own_b d3, own_b d4, own_b d5, own_b d6, own_b d7] ((3 : Int32) - 1) 0 2 = (((((((F3 0 1 3 [d0, d1, d2, d3, d4, d5, d6, d7] + F3 1 1 3 [d0, d1, d2, d3, d4, d5, d6, d7]) + F3 2 1 3 [d0, d1, d2, d3, d4, d5, d6, d7]) + F3 3 1 3 [d0, d1, d2, d3, d4, d5, d6, d7]) + F3 4 1 3 [d0, d1, d2, d3, d4, d5, d6, d7]) + F3 5 1 3 [d0, d1, d2, d3, d4, d5, d6, d7]) + F3 6 1 3 [d0, d1, d2, d3, d4, d5, d6, d7]) + F3 7 1 3 [d0, d1, d2, d3, d4, d5, d6, d7]) := by
  rw [show (3 : Int32) - 1 = 2 by decide]
  rw [own_ms 1 _ 2 (1) _ 2 1 (own_b d2) (by decide) (by decide) (by rw [show (2 : Int32).toNatClampNeg = 2 by decide]; rfl)]
  rw [own_ms 0 _ 1 (0) _ 1 2 (own_b d1) (by decide) (by decide) (by rw [show (1 : Int32).toNatClampNeg = 1 by decide]; rfl)]
  rw [own_m]
  rw [own_t0 0 1 3 _ (by decide)]
  rw [own_t1 1 1 3 _ d1 (by decide) (by decide) (by decide) (by rw [show (1 : Int32).toNatClampNeg = 1 by decide]; rfl)]
  rw [own_t2 2 1 3 _ d2 (by decide) (by decide) (by decide) (by rw [show (2 : Int32).toNatClampNeg = 2 by decide]; rfl)]
  rw [own_t0 3 1 3 _ (by decide)]
  rw [own_t0 4 1 3 _ (by decide)]
  rw [own_t0 5 1 3 _ (by decide)]
  rw [own_t0 6 1 3 _ (by decide)]
  rw [own_t0 7 1 3 _ (by decide)]
  rw [own_d2 d2 h2, own_d1 d1 h1]
  simp only [Int32.zero_add, Int32.add_zero]
  ac_rfl
theorem own_c1_4 (d0 d1 d2 d3 d4 d5 d6 d7 : Int32) (h0 : 0 ≤ d0.toInt ∧ d0.toInt ≤ 9) (h1 : 0 ≤ d1.toInt ∧ d1.toInt ≤ 9) (h2 : 0 ≤ d2.toInt ∧ d2.toInt ≤ 9) (h3 : 0 ≤ d3.toInt ∧ d3.toInt ≤ 9) (h4 : 0 ≤ d4.toInt ∧ d4.toInt ≤ 9) (h5 : 0 ≤ d5.toInt ∧ d5.toInt ≤ 9) (h6 : 0 ≤ d6.toInt ∧ d6.toInt ≤ 9) (h7 : 0 ≤ d7.toInt ∧ d7.toInt ≤ 9) : own_m 3 [own_b d0, own_b d1, own_b d2, own_b d3, own_b d4, own_b d5, own_b d6, own_b d7] ((4 : Int32) - 1) 0 2 = (((((((F3 0 1 4 [d0, d1, d2, d3, d4, d5, d6, d7] + F3 1 1 4 [d0, d1, d2, d3, d4, d5, d6, d7]) + F3 2 1 4 [d0, d1, d2, d3, d4, d5, d6, d7]) + F3 3 1 4 [d0, d1, d2, d3, d4, d5, d6, d7]) + F3 4 1 4 [d0, d1, d2, d3, d4, d5, d6, d7]) + F3 5 1 4 [d0, d1, d2, d3, d4, d5, d6, d7]) + F3 6 1 4 [d0, d1, d2, d3, d4, d5, d6, d7]) + F3 7 1 4 [d0, d1, d2, d3, d4, d5, d6, d7]) := by
  rw [show (4 : Int32) - 1 = 3 by decide]
  rw [own_ms 2 _ 3 (2) _ 2 1 (own_b d3) (by decide) (by decide) (by rw [show (3 : Int32).toNatClampNeg = 3 by decide]; rfl)]
  rw [own_ms 1 _ 2 (1) _ 1 2 (own_b d2) (by decide) (by decide) (by rw [show (2 : Int32).toNatClampNeg = 2 by decide]; rfl)]
  rw [own_ms 0 _ 1 (0) _ 2 1 (own_b d1) (by decide) (by decide) (by rw [show (1 : Int32).toNatClampNeg = 1 by decide]; rfl)]
  rw [own_m]
  rw [own_t0 0 1 4 _ (by decide)]
  rw [own_t2 1 1 4 _ d1 (by decide) (by decide) (by decide) (by rw [show (1 : Int32).toNatClampNeg = 1 by decide]; rfl)]
  rw [own_t1 2 1 4 _ d2 (by decide) (by decide) (by decide) (by rw [show (2 : Int32).toNatClampNeg = 2 by decide]; rfl)]
  rw [own_t2 3 1 4 _ d3 (by decide) (by decide) (by decide) (by rw [show (3 : Int32).toNatClampNeg = 3 by decide]; rfl)]
  rw [own_t0 4 1 4 _ (by decide)]
  rw [own_t0 5 1 4 _ (by decide)]
  rw [own_t0 6 1 4 _ (by decide)]
  rw [own_t0 7 1 4 _ (by decide)]
  rw [own_d2 d3 h3, own_d1 d2 h2, own_d2 d1 h1]
  simp only [Int32.zero_add, Int32.add_zero]
  ac_rfl
theorem own_c1_5 (d0 d1 d2 d3 d4 d5 d6 d7 : Int32) (h0 : 0 ≤ d0.toInt ∧ d0.toInt ≤ 9) (h1 : 0 ≤ d1.toInt ∧ d1.toInt ≤ 9) (h2 : 0 ≤ d2.toInt ∧ d2.toInt ≤ 9) (h3 : 0 ≤ d3.toInt ∧ d3.toInt ≤ 9) (h4 : 0 ≤ d4.toInt ∧ d4.toInt ≤ 9) (h5 : 0 ≤ d5.toInt ∧ d5.toInt ≤ 9) (h6 : 0 ≤ d6.toInt ∧ d6.toInt ≤ 9) (h7 : 0 ≤ d7.toInt ∧ d7.toInt ≤ 9) : own_m 4 [own_b d0, own_b d1, own_b d2, own_b d3, own_b d4, own_b d5, own_b d6, own_b d7] ((5 : Int32) - 1) 0 2 = (((((((F3 0 1 5 [d0, d1, d2, d3, d4, d5, d6, d7] + F3 1 1 5 [d0, d1, d2, d3, d4, d5, d6, d7]) + F3 2 1 5 [d0, d1, d2, d3, d4, d5, d6, d7]) + F3 3 1 5 [d0, d1, d2, d3, d4, d5, d6, d7]) + F3 4 1 5 [d0, d1, d2, d3, d4, d5, d6, d7]) + F3 5 1 5 [d0, d1, d2, d3, d4, d5, d6, d7]) + F3 6 1 5 [d0, d1, d2, d3, d4, d5, d6, d7]) + F3 7 1 5 [d0, d1, d2, d3, d4, d5, d6, d7]) := by
  rw [show (5 : Int32) - 1 = 4 by decide]
  rw [own_ms 3 _ 4 (3) _ 2 1 (own_b d4) (by decide) (by decide) (by rw [show (4 : Int32).toNatClampNeg = 4 by decide]; rfl)]
  rw [own_ms 2 _ 3 (2) _ 1 2 (own_b d3) (by decide) (by decide) (by rw [show (3 : Int32).toNatClampNeg = 3 by decide]; rfl)]
  rw [own_ms 1 _ 2 (1) _ 2 1 (own_b d2) (by decide) (by decide) (by rw [show (2 : Int32).toNatClampNeg = 2 by decide]; rfl)]
  rw [own_ms 0 _ 1 (0) _ 1 2 (own_b d1) (by decide) (by decide) (by rw [show (1 : Int32).toNatClampNeg = 1 by decide]; rfl)]
  rw [own_m]
  rw [own_t0 0 1 5 _ (by decide)]
  rw [own_t1 1 1 5 _ d1 (by decide) (by decide) (by decide) (by rw [show (1 : Int32).toNatClampNeg = 1 by decide]; rfl)]
  rw [own_t2 2 1 5 _ d2 (by decide) (by decide) (by decide) (by rw [show (2 : Int32).toNatClampNeg = 2 by decide]; rfl)]
  rw [own_t1 3 1 5 _ d3 (by decide) (by decide) (by decide) (by rw [show (3 : Int32).toNatClampNeg = 3 by decide]; rfl)]
  rw [own_t2 4 1 5 _ d4 (by decide) (by decide) (by decide) (by rw [show (4 : Int32).toNatClampNeg = 4 by decide]; rfl)]
  rw [own_t0 5 1 5 _ (by decide)]
  rw [own_t0 6 1 5 _ (by decide)]
  rw [own_t0 7 1 5 _ (by decide)]
  rw [own_d2 d4 h4, own_d1 d3 h3, own_d2 d2 h2, own_d1 d1 h1]
  simp only [Int32.zero_add, Int32.add_zero]
  ac_rfl
theorem own_c1_6 (d0 d1 d2 d3 d4 d5 d6 d7 : Int32) (h0 : 0 ≤ d0.toInt ∧ d0.toInt ≤ 9) (h1 : 0 ≤ d1.toInt ∧ d1.toInt ≤ 9) (h2 : 0 ≤ d2.toInt ∧ d2.toInt ≤ 9) (h3 : 0 ≤ d3.toInt ∧ d3.toInt ≤ 9) (h4 : 0 ≤ d4.toInt ∧ d4.toInt ≤ 9) (h5 : 0 ≤ d5.toInt ∧ d5.toInt ≤ 9) (h6 : 0 ≤ d6.toInt ∧ d6.toInt ≤ 9) (h7 : 0 ≤ d7.toInt ∧ d7.toInt ≤ 9) : own_m 5 [own_b d0, own_b d1, own_b d2, own_b d3, own_b d4, own_b d5, own_b d6, own_b d7] ((6 : Int32) - 1) 0 2 = (((((((F3 0 1 6 [d0, d1, d2, d3, d4, d5, d6, d7] + F3 1 1 6 [d0, d1, d2, d3, d4, d5, d6, d7]) + F3 2 1 6 [d0, d1, d2, d3, d4, d5, d6, d7]) + F3 3 1 6 [d0, d1, d2, d3, d4, d5, d6, d7]) + F3 4 1 6 [d0, d1, d2, d3, d4, d5, d6, d7]) + F3 5 1 6 [d0, d1, d2, d3, d4, d5, d6, d7]) + F3 6 1 6 [d0, d1, d2, d3, d4, d5, d6, d7]) + F3 7 1 6 [d0, d1, d2, d3, d4, d5, d6, d7]) := by
  rw [show (6 : Int32) - 1 = 5 by decide]
  rw [own_ms 4 _ 5 (4) _ 2 1 (own_b d5) (by decide) (by decide) (by rw [show (5 : Int32).toNatClampNeg = 5 by decide]; rfl)]
  rw [own_ms 3 _ 4 (3) _ 1 2 (own_b d4) (by decide) (by decide) (by rw [show (4 : Int32).toNatClampNeg = 4 by decide]; rfl)]
  rw [own_ms 2 _ 3 (2) _ 2 1 (own_b d3) (by decide) (by decide) (by rw [show (3 : Int32).toNatClampNeg = 3 by decide]; rfl)]
  rw [own_ms 1 _ 2 (1) _ 1 2 (own_b d2) (by decide) (by decide) (by rw [show (2 : Int32).toNatClampNeg = 2 by decide]; rfl)]
  rw [own_ms 0 _ 1 (0) _ 2 1 (own_b d1) (by decide) (by decide) (by rw [show (1 : Int32).toNatClampNeg = 1 by decide]; rfl)]
  rw [own_m]
  rw [own_t0 0 1 6 _ (by decide)]
  rw [own_t2 1 1 6 _ d1 (by decide) (by decide) (by decide) (by rw [show (1 : Int32).toNatClampNeg = 1 by decide]; rfl)]
  rw [own_t1 2 1 6 _ d2 (by decide) (by decide) (by decide) (by rw [show (2 : Int32).toNatClampNeg = 2 by decide]; rfl)]
  rw [own_t2 3 1 6 _ d3 (by decide) (by decide) (by decide) (by rw [show (3 : Int32).toNatClampNeg = 3 by decide]; rfl)]
  rw [own_t1 4 1 6 _ d4 (by decide) (by decide) (by decide) (by rw [show (4 : Int32).toNatClampNeg = 4 by decide]; rfl)]
  rw [own_t2 5 1 6 _ d5 (by decide) (by decide) (by decide) (by rw [show (5 : Int32).toNatClampNeg = 5 by decide]; rfl)]
  rw [own_t0 6 1 6 _ (by decide)]
  rw [own_t0 7 1 6 _ (by decide)]
  rw [own_d2 d5 h5, own_d1 d4 h4, own_d2 d3 h3, own_d1 d2 h2, own_d2 d1 h1]
  simp only [Int32.zero_add, Int32.add_zero]
  ac_rfl
theorem own_c1_7 (d0 d1 d2 d3 d4 d5 d6 d7 : Int32) (h0 : 0 ≤ d0.toInt ∧ d0.toInt ≤ 9) (h1 : 0 ≤ d1.toInt ∧ d1.toInt ≤ 9) (h2 : 0 ≤ d2.toInt ∧ d2.toInt ≤ 9) (h3 : 0 ≤ d3.toInt ∧ d3.toInt ≤ 9) (h4 : 0 ≤ d4.toInt ∧ d4.toInt ≤ 9) (h5 : 0 ≤ d5.toInt ∧ d5.toInt ≤ 9) (h6 : 0 ≤ d6.toInt ∧ d6.toInt ≤ 9) (h7 : 0 ≤ d7.toInt ∧ d7.toInt ≤ 9) : own_m 6 [own_b d0, own_b d1, own_b d2, own_b d3, own_b d4, own_b d5, own_b d6, own_b d7] ((7 : Int32) - 1) 0 2 = (((((((F3 0 1 7 [d0, d1, d2, d3, d4, d5, d6, d7] + F3 1 1 7 [d0, d1, d2, d3, d4, d5, d6, d7]) + F3 2 1 7 [d0, d1, d2, d3, d4, d5, d6, d7]) + F3 3 1 7 [d0, d1, d2, d3, d4, d5, d6, d7]) + F3 4 1 7 [d0, d1, d2, d3, d4, d5, d6, d7]) + F3 5 1 7 [d0, d1, d2, d3, d4, d5, d6, d7]) + F3 6 1 7 [d0, d1, d2, d3, d4, d5, d6, d7]) + F3 7 1 7 [d0, d1, d2, d3, d4, d5, d6, d7]) := by
  rw [show (7 : Int32) - 1 = 6 by decide]
  rw [own_ms 5 _ 6 (5) _ 2 1 (own_b d6) (by decide) (by decide) (by rw [show (6 : Int32).toNatClampNeg = 6 by decide]; rfl)]
  rw [own_ms 4 _ 5 (4) _ 1 2 (own_b d5) (by decide) (by decide) (by rw [show (5 : Int32).toNatClampNeg = 5 by decide]; rfl)]
  rw [own_ms 3 _ 4 (3) _ 2 1 (own_b d4) (by decide) (by decide) (by rw [show (4 : Int32).toNatClampNeg = 4 by decide]; rfl)]
  rw [own_ms 2 _ 3 (2) _ 1 2 (own_b d3) (by decide) (by decide) (by rw [show (3 : Int32).toNatClampNeg = 3 by decide]; rfl)]
  rw [own_ms 1 _ 2 (1) _ 2 1 (own_b d2) (by decide) (by decide) (by rw [show (2 : Int32).toNatClampNeg = 2 by decide]; rfl)]
  rw [own_ms 0 _ 1 (0) _ 1 2 (own_b d1) (by decide) (by decide) (by rw [show (1 : Int32).toNatClampNeg = 1 by decide]; rfl)]
  rw [own_m]
  rw [own_t0 0 1 7 _ (by decide)]
  rw [own_t1 1 1 7 _ d1 (by decide) (by decide) (by decide) (by rw [show (1 : Int32).toNatClampNeg = 1 by decide]; rfl)]
  rw [own_t2 2 1 7 _ d2 (by decide) (by decide) (by decide) (by rw [show (2 : Int32).toNatClampNeg = 2 by decide]; rfl)]
  rw [own_t1 3 1 7 _ d3 (by decide) (by decide) (by decide) (by rw [show (3 : Int32).toNatClampNeg = 3 by decide]; rfl)]
  rw [own_t2 4 1 7 _ d4 (by decide) (by decide) (by decide) (by rw [show (4 : Int32).toNatClampNeg = 4 by decide]; rfl)]
  rw [own_t1 5 1 7 _ d5 (by decide) (by decide) (by decide) (by rw [show (5 : Int32).toNatClampNeg = 5 by decide]; rfl)]
  rw [own_t2 6 1 7 _ d6 (by decide) (by decide) (by decide) (by rw [show (6 : Int32).toNatClampNeg = 6 by decide]; rfl)]
  rw [own_t0 7 1 7 _ (by decide)]
  rw [own_d2 d6 h6, own_d1 d5 h5, own_d2 d4 h4, own_d1 d3 h3, own_d2 d2 h2, own_d1 d1 h1]
  simp only [Int32.zero_add, Int32.add_zero]
  ac_rfl
theorem own_c1_8 (d0 d1 d2 d3 d4 d5 d6 d7 : Int32) (h0 : 0 ≤ d0.toInt ∧ d0.toInt ≤ 9) (h1 : 0 ≤ d1.toInt ∧ d1.toInt ≤ 9) (h2 : 0 ≤ d2.toInt ∧ d2.toInt ≤ 9) (h3 : 0 ≤ d3.toInt ∧ d3.toInt ≤ 9) (h4 : 0 ≤ d4.toInt ∧ d4.toInt ≤ 9) (h5 : 0 ≤ d5.toInt ∧ d5.toInt ≤ 9) (h6 : 0 ≤ d6.toInt ∧ d6.toInt ≤ 9) (h7 : 0 ≤ d7.toInt ∧ d7.toInt ≤ 9) : own_m 7 [own_b d0, own_b d1, own_b d2, own_b d3, own_b d4, own_b d5, own_b d6, own_b d7] ((8 : Int32) - 1) 0 2 = (((((((F3 0 1 8 [d0, d1, d2, d3, d4, d5, d6, d7] + F3 1 1 8 [d0, d1, d2, d3, d4, d5, d6, d7]) + F3 2 1 8 [d0, d1, d2, d3, d4, d5, d6, d7]) + F3 3 1 8 [d0, d1, d2, d3, d4, d5, d6, d7]) + F3 4 1 8 [d0, d1, d2, d3, d4, d5, d6, d7]) + F3 5 1 8 [d0, d1, d2, d3, d4, d5, d6, d7]) + F3 6 1 8 [d0, d1, d2, d3, d4, d5, d6, d7]) + F3 7 1 8 [d0, d1, d2, d3, d4, d5, d6, d7]) := by
  rw [show (8 : Int32) - 1 = 7 by decide]
  rw [own_ms 6 _ 7 (6) _ 2 1 (own_b d7) (by decide) (by decide) (by rw [show (7 : Int32).toNatClampNeg = 7 by decide]; rfl)]
  rw [own_ms 5 _ 6 (5) _ 1 2 (own_b d6) (by decide) (by decide) (by rw [show (6 : Int32).toNatClampNeg = 6 by decide]; rfl)]
  rw [own_ms 4 _ 5 (4) _ 2 1 (own_b d5) (by decide) (by decide) (by rw [show (5 : Int32).toNatClampNeg = 5 by decide]; rfl)]
  rw [own_ms 3 _ 4 (3) _ 1 2 (own_b d4) (by decide) (by decide) (by rw [show (4 : Int32).toNatClampNeg = 4 by decide]; rfl)]
  rw [own_ms 2 _ 3 (2) _ 2 1 (own_b d3) (by decide) (by decide) (by rw [show (3 : Int32).toNatClampNeg = 3 by decide]; rfl)]
  rw [own_ms 1 _ 2 (1) _ 1 2 (own_b d2) (by decide) (by decide) (by rw [show (2 : Int32).toNatClampNeg = 2 by decide]; rfl)]
  rw [own_ms 0 _ 1 (0) _ 2 1 (own_b d1) (by decide) (by decide) (by rw [show (1 : Int32).toNatClampNeg = 1 by decide]; rfl)]
  rw [own_m]
  rw [own_t0 0 1 8 _ (by decide)]
  rw [own_t2 1 1 8 _ d1 (by decide) (by decide) (by decide) (by rw [show (1 : Int32).toNatClampNeg = 1 by decide]; rfl)]
  rw [own_t1 2 1 8 _ d2 (by decide) (by decide) (by decide) (by rw [show (2 : Int32).toNatClampNeg = 2 by decide]; rfl)]
  rw [own_t2 3 1 8 _ d3 (by decide) (by decide) (by decide) (by rw [show (3 : Int32).toNatClampNeg = 3 by decide]; rfl)]
  rw [own_t1 4 1 8 _ d4 (by decide) (by decide) (by decide) (by rw [show (4 : Int32).toNatClampNeg = 4 by decide]; rfl)]
  rw [own_t2 5 1 8 _ d5 (by decide) (by decide) (by decide) (by rw [show (5 : Int32).toNatClampNeg = 5 by decide]; rfl)]
  rw [own_t1 6 1 8 _ d6 (by decide) (by decide) (by decide) (by rw [show (6 : Int32).toNatClampNeg = 6 by decide]; rfl)]
  rw [own_t2 7 1 8 _ d7 (by decide) (by decide) (by decide) (by rw [show (7 : Int32).toNatClampNeg = 7 by decide]; rfl)]
  rw [own_d2 d7 h7, own_d1 d6 h6, own_d2 d5 h5, own_d1 d4 h4, own_d2 d3 h3, own_d1 d2 h2, own_d2 d1 h1]
  simp only [Int32.zero_add, Int32.add_zero]
  ac_rfl
theorem own_c2_2 (d0 d1 d2 d3 d4 d5 d6 d7 : Int32) (h0 : 0 ≤ d0.toInt ∧ d0.toInt ≤ 9) (h1 : 0 ≤ d1.toInt ∧ d1.toInt ≤ 9) (h2 : 0 ≤ d2.toInt ∧ d2.toInt ≤ 9) (h3 : 0 ≤ d3.toInt ∧ d3.toInt ≤ 9) (h4 : 0 ≤ d4.toInt ∧ d4.toInt ≤ 9) (h5 : 0 ≤ d5.toInt ∧ d5.toInt ≤ 9) (h6 : 0 ≤ d6.toInt ∧ d6.toInt ≤ 9) (h7 : 0 ≤ d7.toInt ∧ d7.toInt ≤ 9) : own_m 0 [own_b d0, own_b d1, own_b d2, own_b d3, own_b d4, own_b d5, own_b d6, own_b d7] ((2 : Int32) - 1) 0 2 = (((((((F3 0 2 2 [d0, d1, d2, d3, d4, d5, d6, d7] + F3 1 2 2 [d0, d1, d2, d3, d4, d5, d6, d7]) + F3 2 2 2 [d0, d1, d2, d3, d4, d5, d6, d7]) + F3 3 2 2 [d0, d1, d2, d3, d4, d5, d6, d7]) + F3 4 2 2 [d0, d1, d2, d3, d4, d5, d6, d7]) + F3 5 2 2 [d0, d1, d2, d3, d4, d5, d6, d7]) + F3 6 2 2 [d0, d1, d2, d3, d4, d5, d6, d7]) + F3 7 2 2 [d0, d1, d2, d3, d4, d5, d6, d7]) := by
  rw [own_m]
  rw [own_t0 0 2 2 _ (by decide)]
  rw [own_t0 1 2 2 _ (by decide)]
  rw [own_t0 2 2 2 _ (by decide)]
  rw [own_t0 3 2 2 _ (by decide)]
  rw [own_t0 4 2 2 _ (by decide)]
  rw [own_t0 5 2 2 _ (by decide)]
  rw [own_t0 6 2 2 _ (by decide)]
  rw [own_t0 7 2 2 _ (by decide)]
  simp only [Int32.zero_add, Int32.add_zero]
theorem own_c2_3 (d0 d1 d2 d3 d4 d5 d6 d7 : Int32) (h0 : 0 ≤ d0.toInt ∧ d0.toInt ≤ 9) (h1 : 0 ≤ d1.toInt ∧ d1.toInt ≤ 9) (h2 : 0 ≤ d2.toInt ∧ d2.toInt ≤ 9) (h3 : 0 ≤ d3.toInt ∧ d3.toInt ≤ 9) (h4 : 0 ≤ d4.toInt ∧ d4.toInt ≤ 9) (h5 : 0 ≤ d5.toInt ∧ d5.toInt ≤ 9) (h6 : 0 ≤ d6.toInt ∧ d6.toInt ≤ 9) (h7 : 0 ≤ d7.toInt ∧ d7.toInt ≤ 9) : own_m 1 [own_b d0, own_b d1, own_b d2, own_b d3, own_b d4, own_b d5, own_b d6, own_b d7] ((3 : Int32) - 1) 0 2 = (((((((F3 0 2 3 [d0, d1, d2, d3, d4, d5, d6, d7] + F3 1 2 3 [d0, d1, d2, d3, d4, d5, d6, d7]) + F3 2 2 3 [d0, d1, d2, d3, d4, d5, d6, d7]) + F3 3 2 3 [d0, d1, d2, d3, d4, d5, d6, d7]) + F3 4 2 3 [d0, d1, d2, d3, d4, d5, d6, d7]) + F3 5 2 3 [d0, d1, d2, d3, d4, d5, d6, d7]) + F3 6 2 3 [d0, d1, d2, d3, d4, d5, d6, d7]) + F3 7 2 3 [d0, d1, d2, d3, d4, d5, d6, d7]) := by
  rw [show (3 : Int32) - 1 = 2 by decide]
  rw [own_ms 0 _ 2 (1) _ 2 1 (own_b d2) (by decide) (by decide) (by rw [show (2 : Int32).toNatClampNeg = 2 by decide]; rfl)]
  rw [own_m]
  rw [own_t0 0 2 3 _ (by decide)]
  rw [own_t0 1 2 3 _ (by decide)]
  rw [own_t2 2 2 3 _ d2 (by decide) (by decide) (by decide) (by rw [show (2 : Int32).toNatClampNeg = 2 by decide]; rfl)]
  rw [own_t0 3 2 3 _ (by decide)]
  rw [own_t0 4 2 3 _ (by decide)]
  rw [own_t0 5 2 3 _ (by decide)]
  rw [own_t0 6 2 3 _ (by decide)]
  rw [own_t0 7 2 3 _ (by decide)]
  rw [own_d2 d2 h2]
  simp only [Int32.zero_add, Int32.add_zero]
theorem own_c2_4 (d0 d1 d2 d3 d4 d5 d6 d7 : Int32) (h0 : 0 ≤ d0.toInt ∧ d0.toInt ≤ 9) (h1 : 0 ≤ d1.toInt ∧ d1.toInt ≤ 9) (h2 : 0 ≤ d2.toInt ∧ d2.toInt ≤ 9) (h3 : 0 ≤ d3.toInt ∧ d3.toInt ≤ 9) (h4 : 0 ≤ d4.toInt ∧ d4.toInt ≤ 9) (h5 : 0 ≤ d5.toInt ∧ d5.toInt ≤ 9) (h6 : 0 ≤ d6.toInt ∧ d6.toInt ≤ 9) (h7 : 0 ≤ d7.toInt ∧ d7.toInt ≤ 9) : own_m 2 [own_b d0, own_b d1, own_b d2, own_b d3, own_b d4, own_b d5, own_b d6, own_b d7] ((4 : Int32) - 1) 0 2 = (((((((F3 0 2 4 [d0, d1, d2, d3, d4, d5, d6, d7] + F3 1 2 4 [d0, d1, d2, d3, d4, d5, d6, d7]) + F3 2 2 4 [d0, d1, d2, d3, d4, d5, d6, d7]) + F3 3 2 4 [d0, d1, d2, d3, d4, d5, d6, d7]) + F3 4 2 4 [d0, d1, d2, d3, d4, d5, d6, d7]) + F3 5 2 4 [d0, d1, d2, d3, d4, d5, d6, d7]) + F3 6 2 4 [d0, d1, d2, d3, d4, d5, d6, d7]) + F3 7 2 4 [d0, d1, d2, d3, d4, d5, d6, d7]) := by
  rw [show (4 : Int32) - 1 = 3 by decide]
  rw [own_ms 1 _ 3 (2) _ 2 1 (own_b d3) (by decide) (by decide) (by rw [show (3 : Int32).toNatClampNeg = 3 by decide]; rfl)]
  rw [own_ms 0 _ 2 (1) _ 1 2 (own_b d2) (by decide) (by decide) (by rw [show (2 : Int32).toNatClampNeg = 2 by decide]; rfl)]
  rw [own_m]
  rw [own_t0 0 2 4 _ (by decide)]
  rw [own_t0 1 2 4 _ (by decide)]
  rw [own_t1 2 2 4 _ d2 (by decide) (by decide) (by decide) (by rw [show (2 : Int32).toNatClampNeg = 2 by decide]; rfl)]
  rw [own_t2 3 2 4 _ d3 (by decide) (by decide) (by decide) (by rw [show (3 : Int32).toNatClampNeg = 3 by decide]; rfl)]
  rw [own_t0 4 2 4 _ (by decide)]
  rw [own_t0 5 2 4 _ (by decide)]
  rw [own_t0 6 2 4 _ (by decide)]
  rw [own_t0 7 2 4 _ (by decide)]
  rw [own_d2 d3 h3, own_d1 d2 h2]
  simp only [Int32.zero_add, Int32.add_zero]
  ac_rfl
theorem own_c2_5 (d0 d1 d2 d3 d4 d5 d6 d7 : Int32) (h0 : 0 ≤ d0.toInt ∧ d0.toInt ≤ 9) (h1 : 0 ≤ d1.toInt ∧ d1.toInt ≤ 9) (h2 : 0 ≤ d2.toInt ∧ d2.toInt ≤ 9) (h3 : 0 ≤ d3.toInt ∧ d3.toInt ≤ 9) (h4 : 0 ≤ d4.toInt ∧ d4.toInt ≤ 9) (h5 : 0 ≤ d5.toInt ∧ d5.toInt ≤ 9) (h6 : 0 ≤ d6.toInt ∧ d6.toInt ≤ 9) (h7 : 0 ≤ d7.toInt ∧ d7.toInt ≤ 9) : own_m 3 [own_b d0, own_b d1, own_b d2, own_b d3, own_b d4, own_b d5, own_b d6, own_b d7] ((5 : Int32) - 1) 0 2 = (((((((F3 0 2 5 [d0, d1, d2, d3, d4, d5, d6, d7] + F3 1 2 5 [d0, d1, d2, d3, d4, d5, d6, d7]) + F3 2 2 5 [d0, d1, d2, d3, d4, d5, d6, d7]) + F3 3 2 5 [d0, d1, d2, d3, d4, d5, d6, d7]) + F3 4 2 5 [d0, d1, d2, d3, d4, d5, d6, d7]) + F3 5 2 5 [d0, d1, d2, d3, d4, d5, d6, d7]) + F3 6 2 5 [d0, d1, d2, d3, d4, d5, d6, d7]) + F3 7 2 5 [d0, d1, d2, d3, d4, d5, d6, d7]) := by
  rw [show (5 : Int32) - 1 = 4 by decide]
  rw [own_ms 2 _ 4 (3) _ 2 1 (own_b d4) (by decide) (by decide) (by rw [show (4 : Int32).toNatClampNeg = 4 by decide]; rfl)]
  rw [own_ms 1 _ 3 (2) _ 1 2 (own_b d3) (by decide) (by decide) (by rw [show (3 : Int32).toNatClampNeg = 3 by decide]; rfl)]
  rw [own_ms 0 _ 2 (1) _ 2 1 (own_b d2) (by decide) (by decide) (by rw [show (2 : Int32).toNatClampNeg = 2 by decide]; rfl)]
  rw [own_m]
  rw [own_t0 0 2 5 _ (by decide)]
  rw [own_t0 1 2 5 _ (by decide)]
  rw [own_t2 2 2 5 _ d2 (by decide) (by decide) (by decide) (by rw [show (2 : Int32).toNatClampNeg = 2 by decide]; rfl)]
  rw [own_t1 3 2 5 _ d3 (by decide) (by decide) (by decide) (by rw [show (3 : Int32).toNatClampNeg = 3 by decide]; rfl)]
  rw [own_t2 4 2 5 _ d4 (by decide) (by decide) (by decide) (by rw [show (4 : Int32).toNatClampNeg = 4 by decide]; rfl)]
  rw [own_t0 5 2 5 _ (by decide)]
  rw [own_t0 6 2 5 _ (by decide)]
  rw [own_t0 7 2 5 _ (by decide)]
  rw [own_d2 d4 h4, own_d1 d3 h3, own_d2 d2 h2]
  simp only [Int32.zero_add, Int32.add_zero]
  ac_rfl
theorem own_c2_6 (d0 d1 d2 d3 d4 d5 d6 d7 : Int32) (h0 : 0 ≤ d0.toInt ∧ d0.toInt ≤ 9) (h1 : 0 ≤ d1.toInt ∧ d1.toInt ≤ 9) (h2 : 0 ≤ d2.toInt ∧ d2.toInt ≤ 9) (h3 : 0 ≤ d3.toInt ∧ d3.toInt ≤ 9) (h4 : 0 ≤ d4.toInt ∧ d4.toInt ≤ 9) (h5 : 0 ≤ d5.toInt ∧ d5.toInt ≤ 9) (h6 : 0 ≤ d6.toInt ∧ d6.toInt ≤ 9) (h7 : 0 ≤ d7.toInt ∧ d7.toInt ≤ 9) : own_m 4 [own_b d0, own_b d1, own_b d2, own_b d3, own_b d4, own_b d5, own_b d6, own_b d7] ((6 : Int32) - 1) 0 2 = (((((((F3 0 2 6 [d0, d1, d2, d3, d4, d5, d6, d7] + F3 1 2 6 [d0, d1, d2, d3, d4, d5, d6, d7]) + F3 2 2 6 [d0, d1, d2, d3, d4, d5, d6, d7]) + F3 3 2 6 [d0, d1, d2, d3, d4, d5, d6, d7]) + F3 4 2 6 [d0, d1, d2, d3, d4, d5, d6, d7]) + F3 5 2 6 [d0, d1, d2, d3, d4, d5, d6, d7]) + F3 6 2 6 [d0, d1, d2, d3, d4, d5, d6, d7]) + F3 7 2 6 [d0, d1, d2, d3, d4, d5, d6, d7]) := by
  rw [show (6 : Int32) - 1 = 5 by decide]
  rw [own_ms 3 _ 5 (4) _ 2 1 (own_b d5) (by decide) (by decide) (by rw [show (5 : Int32).toNatClampNeg = 5 by decide]; rfl)]
  rw [own_ms 2 _ 4 (3) _ 1 2 (own_b d4) (by decide) (by decide) (by rw [show (4 : Int32).toNatClampNeg = 4 by decide]; rfl)]
  rw [own_ms 1 _ 3 (2) _ 2 1 (own_b d3) (by decide) (by decide) (by rw [show (3 : Int32).toNatClampNeg = 3 by decide]; rfl)]
  rw [own_ms 0 _ 2 (1) _ 1 2 (own_b d2) (by decide) (by decide) (by rw [show (2 : Int32).toNatClampNeg = 2 by decide]; rfl)]
  rw [own_m]
  rw [own_t0 0 2 6 _ (by decide)]
  rw [own_t0 1 2 6 _ (by decide)]
  rw [own_t1 2 2 6 _ d2 (by decide) (by decide) (by decide) (by rw [show (2 : Int32).toNatClampNeg = 2 by decide]; rfl)]
  rw [own_t2 3 2 6 _ d3 (by decide) (by decide) (by decide) (by rw [show (3 : Int32).toNatClampNeg = 3 by decide]; rfl)]
  rw [own_t1 4 2 6 _ d4 (by decide) (by decide) (by decide) (by rw [show (4 : Int32).toNatClampNeg = 4 by decide]; rfl)]
  rw [own_t2 5 2 6 _ d5 (by decide) (by decide) (by decide) (by rw [show (5 : Int32).toNatClampNeg = 5 by decide]; rfl)]
  rw [own_t0 6 2 6 _ (by decide)]
  rw [own_t0 7 2 6 _ (by decide)]
  rw [own_d2 d5 h5, own_d1 d4 h4, own_d2 d3 h3, own_d1 d2 h2]
  simp only [Int32.zero_add, Int32.add_zero]
  ac_rfl
theorem own_c2_7 (d0 d1 d2 d3 d4 d5 d6 d7 : Int32) (h0 : 0 ≤ d0.toInt ∧ d0.toInt ≤ 9) (h1 : 0 ≤ d1.toInt ∧ d1.toInt ≤ 9) (h2 : 0 ≤ d2.toInt ∧ d2.toInt ≤ 9) (h3 : 0 ≤ d3.toInt ∧ d3.toInt ≤ 9) (h4 : 0 ≤ d4.toInt ∧ d4.toInt ≤ 9) (h5 : 0 ≤ d5.toInt ∧ d5.toInt ≤ 9) (h6 : 0 ≤ d6.toInt ∧ d6.toInt ≤ 9) (h7 : 0 ≤ d7.toInt ∧ d7.toInt ≤ 9) : own_m 5 [own_b d0, own_b d1, own_b d2, own_b d3, own_b d4, own_b d5, own_b d6, own_b d7] ((7 : Int32) - 1) 0 2 = (((((((F3 0 2 7 [d0, d1, d2, d3, d4, d5, d6, d7] + F3 1 2 7 [d0, d1, d2, d3, d4, d5, d6, d7]) + F3 2 2 7 [d0, d1, d2, d3, d4, d5, d6, d7]) + F3 3 2 7 [d0, d1, d2, d3, d4, d5, d6, d7]) + F3 4 2 7 [d0, d1, d2, d3, d4, d5, d6, d7]) + F3 5 2 7 [d0, d1, d2, d3, d4, d5, d6, d7]) + F3 6 2 7 [d0, d1, d2, d3, d4, d5, d6, d7]) + F3 7 2 7 [d0, d1, d2, d3, d4, d5, d6, d7]) := by
  rw [show (7 : Int32) - 1 = 6 by decide]
  rw [own_ms 4 _ 6 (5) _ 2 1 (own_b d6) (by decide) (by decide) (by rw [show (6 : Int32).toNatClampNeg = 6 by decide]; rfl)]
  rw [own_ms 3 _ 5 (4) _ 1 2 (own_b d5) (by decide) (by decide) (by rw [show (5 : Int32).toNatClampNeg = 5 by decide]; rfl)]
  rw [own_ms 2 _ 4 (3) _ 2 1 (own_b d4) (by decide) (by decide) (by rw [show (4 : Int32).toNatClampNeg = 4 by decide]; rfl)]
  rw [own_ms 1 _ 3 (2) _ 1 2 (own_b d3) (by decide) (by decide) (by rw [show (3 : Int32).toNatClampNeg = 3 by decide]; rfl)]
  rw [own_ms 0 _ 2 (1) _ 2 1 (own_b d2) (by decide) (by decide) (by rw [show (2 : Int32).toNatClampNeg = 2 by decide]; rfl)]
  rw [own_m]
  rw [own_t0 0 2 7 _ (by decide)]
  rw [own_t0 1 2 7 _ (by decide)]
  rw [own_t2 2 2 7 _ d2 (by decide) (by decide) (by decide) (by rw [show (2 : Int32).toNatClampNeg = 2 by decide]; rfl)]
  rw [own_t1 3 2 7 _ d3 (by decide) (by decide) (by decide) (by rw [show (3 : Int32).toNatClampNeg = 3 by decide]; rfl)]
  rw [own_t2 4 2 7 _ d4 (by decide) (by decide) (by decide) (by rw [show (4 : Int32).toNatClampNeg = 4 by decide]; rfl)]
  rw [own_t1 5 2 7 _ d5 (by decide) (by decide) (by decide) (by rw [show (5 : Int32).toNatClampNeg = 5 by decide]; rfl)]
  rw [own_t2 6 2 7 _ d6 (by decide) (by decide) (by decide) (by rw [show (6 : Int32).toNatClampNeg = 6 by decide]; rfl)]
  rw [own_t0 7 2 7 _ (by decide)]
  rw [own_d2 d6 h6, own_d1 d5 h5, own_d2 d4 h4, own_d1 d3 h3, own_d2 d2 h2]
  simp only [Int32.zero_add, Int32.add_zero]
  ac_rfl
theorem own_c2_8 (d0 d1 d2 d3 d4 d5 d6 d7 : Int32) (h0 : 0 ≤ d0.toInt ∧ d0.toInt ≤ 9) (h1 : 0 ≤ d1.toInt ∧ d1.toInt ≤ 9) (h2 : 0 ≤ d2.toInt ∧ d2.toInt ≤ 9) (h3 : 0 ≤ d3.toInt ∧ d3.toInt ≤ 9) (h4 : 0 ≤ d4.toInt ∧ d4.toInt ≤ 9) (h5 : 0 ≤ d5.toInt ∧ d5.toInt ≤ 9) (h6 : 0 ≤ d6.toInt ∧ d6.toInt ≤ 9) (h7 : 0 ≤ d7.toInt ∧ d7.toInt ≤ 9) : own_m 6 [own_b d0, own_b d1, own_b d2, own_b d3, own_b d4, own_b d5, own_b d6, own_b d7] ((8 : Int32) - 1) 0 2 = (((((((F3 0 2 8 [d0, d1, d2, d3, d4, d5, d6, d7] + F3 1 2 8 [d0, d1, d2, d3, d4, d5, d6, d7]) + F3 2 2 8 [d0, d1, d2, d3, d4, d5, d6, d7]) + F3 3 2 8 [d0, d1, d2, d3, d4, d5, d6, d7]) + F3 4 2 8 [d0, d1, d2, d3, d4, d5, d6, d7]) + F3 5 2 8 [d0, d1, d2, d3, d4, d5, d6, d7]) + F3 6 2 8 [d0, d1, d2, d3, d4, d5, d6, d7]) + F3 7 2 8 [d0, d1, d2, d3, d4, d5, d6, d7]) := by
  rw [show (8 : Int32) - 1 = 7 by decide]
  rw [own_ms 5 _ 7 (6) _ 2 1 (own_b d7) (by decide) (by decide) (by rw [show (7 : Int32).toNatClampNeg = 7 by decide]; rfl)]
  rw [own_ms 4 _ 6 (5) _ 1 2 (own_b d6) (by decide) (by decide) (by rw [show (6 : Int32).toNatClampNeg = 6 by decide]; rfl)]
  rw [own_ms 3 _ 5 (4) _ 2 1 (own_b d5) (by decide) (by decide) (by rw [show (5 : Int32).toNatClampNeg = 5 by decide]; rfl)]
  rw [own_ms 2 _ 4 (3) _ 1 2 (own_b d4) (by decide) (by decide) (by rw [show (4 : Int32).toNatClampNeg = 4 by decide]; rfl)]
  rw [own_ms 1 _ 3 (2) _ 2 1 (own_b d3) (by decide) (by decide) (by rw [show (3 : Int32).toNatClampNeg = 3 by decide]; rfl)]
  rw [own_ms 0 _ 2 (1) _ 1 2 (own_b d2) (by decide) (by decide) (by rw [show (2 : Int32).toNatClampNeg = 2 by decide]; rfl)]
  rw [own_m]
  rw [own_t0 0 2 8 _ (by decide)]
  rw [own_t0 1 2 8 _ (by decide)]
  rw [own_t1 2 2 8 _ d2 (by decide) (by decide) (by decide) (by rw [show (2 : Int32).toNatClampNeg = 2 by decide]; rfl)]
  rw [own_t2 3 2 8 _ d3 (by decide) (by decide) (by decide) (by rw [show (3 : Int32).toNatClampNeg = 3 by decide]; rfl)]
  rw [own_t1 4 2 8 _ d4 (by decide) (by decide) (by decide) (by rw [show (4 : Int32).toNatClampNeg = 4 by decide]; rfl)]
  rw [own_t2 5 2 8 _ d5 (by decide) (by decide) (by decide) (by rw [show (5 : Int32).toNatClampNeg = 5 by decide]; rfl)]
  rw [own_t1 6 2 8 _ d6 (by decide) (by decide) (by decide) (by rw [show (6 : Int32).toNatClampNeg = 6 by decide]; rfl)]
  rw [own_t2 7 2 8 _ d7 (by decide) (by decide) (by decide) (by rw [show (7 : Int32).toNatClampNeg = 7 by decide]; rfl)]
  rw [own_d2 d7 h7, own_d1 d6 h6, own_d2 d5 h5, own_d1 d4 h4, own_d2 d3 h3, own_d1 d2 h2]
  simp only [Int32.zero_add, Int32.add_zero]
  ac_rfl
theorem own_c3_3 (d0 d1 d2 d3 d4 d5 d6 d7 : Int32) (h0 : 0 ≤ d0.toInt ∧ d0.toInt ≤ 9) (h1 : 0 ≤ d1.toInt ∧ d1.toInt ≤ 9) (h2 : 0 ≤ d2.toInt ∧ d2.toInt ≤ 9) (h3 : 0 ≤ d3.toInt ∧ d3.toInt ≤ 9) (h4 : 0 ≤ d4.toInt ∧ d4.toInt ≤ 9) (h5 : 0 ≤ d5.toInt ∧ d5.toInt ≤ 9) (h6 : 0 ≤ d6.toInt ∧ d6.toInt ≤ 9) (h7 : 0 ≤ d7.toInt ∧ d7.toInt ≤ 9) : own_m 0 [own_b d0, own_b d1, own_b d2, own_b d3, own_b d4, own_b d5, own_b d6, own_b d7] ((3 : Int32) - 1) 0 2 = (((((((F3 0 3 3 [d0, d1, d2, d3, d4, d5, d6, d7] + F3 1 3 3 [d0, d1, d2, d3, d4, d5, d6, d7]) + F3 2 3 3 [d0, d1, d2, d3, d4, d5, d6, d7]) + F3 3 3 3 [d0, d1, d2, d3, d4, d5, d6, d7]) + F3 4 3 3 [d0, d1, d2, d3, d4, d5, d6, d7]) + F3 5 3 3 [d0, d1, d2, d3, d4, d5, d6, d7]) + F3 6 3 3 [d0, d1, d2, d3, d4, d5, d6, d7]) + F3 7 3 3 [d0, d1, d2, d3, d4, d5, d6, d7]) := by
  rw [own_m]
  rw [own_t0 0 3 3 _ (by decide)]
  rw [own_t0 1 3 3 _ (by decide)]
  rw [own_t0 2 3 3 _ (by decide)]
  rw [own_t0 3 3 3 _ (by decide)]
  rw [own_t0 4 3 3 _ (by decide)]
  rw [own_t0 5 3 3 _ (by decide)]
  rw [own_t0 6 3 3 _ (by decide)]
  rw [own_t0 7 3 3 _ (by decide)]
  simp only [Int32.zero_add, Int32.add_zero]
theorem own_c3_4 (d0 d1 d2 d3 d4 d5 d6 d7 : Int32) (h0 : 0 ≤ d0.toInt ∧ d0.toInt ≤ 9) (h1 : 0 ≤ d1.toInt ∧ d1.toInt ≤ 9) (h2 : 0 ≤ d2.toInt ∧ d2.toInt ≤ 9) (h3 : 0 ≤ d3.toInt ∧ d3.toInt ≤ 9) (h4 : 0 ≤ d4.toInt ∧ d4.toInt ≤ 9) (h5 : 0 ≤ d5.toInt ∧ d5.toInt ≤ 9) (h6 : 0 ≤ d6.toInt ∧ d6.toInt ≤ 9) (h7 : 0 ≤ d7.toInt ∧ d7.toInt ≤ 9) : own_m 1 [own_b d0, own_b d1, own_b d2, own_b d3, own_b d4, own_b d5, own_b d6, own_b d7] ((4 : Int32) - 1) 0 2 = (((((((F3 0 3 4 [d0, d1, d2, d3, d4, d5, d6, d7] + F3 1 3 4 [d0, d1, d2, d3, d4, d5, d6, d7]) + F3 2 3 4 [d0, d1, d2, d3, d4, d5, d6, d7]) + F3 3 3 4 [d0, d1, d2, d3, d4, d5, d6, d7]) + F3 4 3 4 [d0, d1, d2, d3, d4, d5, d6, d7]) + F3 5 3 4 [d0, d1, d2, d3, d4, d5, d6, d7]) + F3 6 3 4 [d0, d1, d2, d3, d4, d5, d6, d7]) + F3 7 3 4 [d0, d1, d2, d3, d4, d5, d6, d7]) := by
  rw [show (4 : Int32) - 1 = 3 by decide]
  rw [own_ms 0 _ 3 (2) _ 2 1 (own_b d3) (by decide) (by decide) (by rw [show (3 : Int32).toNatClampNeg = 3 by decide]; rfl)]
  rw [own_m]
  rw [own_t0 0 3 4 _ (by decide)]
  rw [own_t0 1 3 4 _ (by decide)]
  rw [own_t0 2 3 4 _ (by decide)]
  rw [own_t2 3 3 4 _ d3 (by decide) (by decide) (by decide) (by rw [show (3 : Int32).toNatClampNeg = 3 by decide]; rfl)]
  rw [own_t0 4 3 4 _ (by decide)]
  rw [own_t0 5 3 4 _ (by decide)]
  rw [own_t0 6 3 4 _ (by decide)]
  rw [own_t0 7 3 4 _ (by decide)]
  rw [own_d2 d3 h3]
  simp only [Int32.zero_add, Int32.add_zero]
theorem own_c3_5 (d0 d1 d2 d3 d4 d5 d6 d7 : Int32) (h0 : 0 ≤ d0.toInt ∧ d0.toInt ≤ 9) (h1 : 0 ≤ d1.toInt ∧ d1.toInt ≤ 9) (h2 : 0 ≤ d2.toInt ∧ d2.toInt ≤ 9) (h3 : 0 ≤ d3.toInt ∧ d3.toInt ≤ 9) (h4 : 0 ≤ d4.toInt ∧ d4.toInt ≤ 9) (h5 : 0 ≤ d5.toInt ∧ d5.toInt ≤ 9) (h6 : 0 ≤ d6.toInt ∧ d6.toInt ≤ 9) (h7 : 0 ≤ d7.toInt ∧ d7.toInt ≤ 9) : own_m 2 [own_b d0, own_b d1, own_b d2, own_b d3, own_b d4, own_b d5, own_b d6, own_b d7] ((5 : Int32) - 1) 0 2 = (((((((F3 0 3 5 [d0, d1, d2, d3, d4, d5, d6, d7] + F3 1 3 5 [d0, d1, d2, d3, d4, d5, d6, d7]) + F3 2 3 5 [d0, d1, d2, d3, d4, d5, d6, d7]) + F3 3 3 5 [d0, d1, d2, d3, d4, d5, d6, d7]) + F3 4 3 5 [d0, d1, d2, d3, d4, d5, d6, d7]) + F3 5 3 5 [d0, d1, d2, d3, d4, d5, d6, d7]) + F3 6 3 5 [d0, d1, d2, d3, d4, d5, d6, d7]) + F3 7 3 5 [d0, d1, d2, d3, d4, d5, d6, d7]) := by
  rw [show (5 : Int32) - 1 = 4 by decide]
  rw [own_ms 1 _ 4 (3) _ 2 1 (own_b d4) (by decide) (by decide) (by rw [show (4 : Int32).toNatClampNeg = 4 by decide]; rfl)]
  rw [own_ms 0 _ 3 (2) _ 1 2 (own_b d3) (by decide) (by decide) (by rw [show (3 : Int32).toNatClampNeg = 3 by decide]; rfl)]
  rw [own_m]
  rw [own_t0 0 3 5 _ (by decide)]
  rw [own_t0 1 3 5 _ (by decide)]
  rw [own_t0 2 3 5 _ (by decide)]
  rw [own_t1 3 3 5 _ d3 (by decide) (by decide) (by decide) (by rw [show (3 : Int32).toNatClampNeg = 3 by decide]; rfl)]
  rw [own_t2 4 3 5 _ d4 (by decide) (by decide) (by decide) (by rw [show (4 : Int32).toNatClampNeg = 4 by decide]; rfl)]
  rw [own_t0 5 3 5 _ (by decide)]
  rw [own_t0 6 3 5 _ (by decide)]
  rw [own_t0 7 3 5 _ (by decide)]
  rw [own_d2 d4 h4, own_d1 d3 h3]
  simp only [Int32.zero_add, Int32.add_zero]
  ac_rfl
theorem own_c3_6 (d0 d1 d2 d3 d4 d5 d6 d7 : Int32) (h0 : 0 ≤ d0.toInt ∧ d0.toInt ≤ 9) (h1 : 0 ≤ d1.toInt ∧ d1.toInt ≤ 9) (h2 : 0 ≤ d2.toInt ∧ d2.toInt ≤ 9) (h3 : 0 ≤ d3.toInt ∧ d3.toInt ≤ 9) (h4 : 0 ≤ d4.toInt ∧ d4.toInt ≤ 9) (h5 : 0 ≤ d5.toInt ∧ d5.toInt ≤ 9) (h6 : 0 ≤ d6.toInt ∧ d6.toInt ≤ 9) (h7 : 0 ≤ d7.toInt ∧ d7.toInt ≤ 9) : own_m 3 [own_b d0, own_b d1, own_b d2, own_b d3, own_b d4, own_b d5, own_b d6, own_b d7] ((6 : Int32) - 1) 0 2 = (((((((F3 0 3 6 [d0, d1, d2, d3, d4, d5, d6, d7] + F3 1 3 6 [d0, d1, d2, d3, d4, d5, d6, d7]) + F3 2 3 6 [d0, d1, d2, d3, d4, d5, d6, d7]) + F3 3 3 6 [d0, d1, d2, d3, d4, d5, d6, d7]) + F3 4 3 6 [d0, d1, d2, d3, d4, d5, d6, d7]) + F3 5 3 6 [d0, d1, d2, d3, d4, d5, d6, d7]) + F3 6 3 6 [d0, d1, d2, d3, d4, d5, d6, d7]) + F3 7 3 6 [d0, d1, d2, d3, d4, d5, d6, d7]) := by
  rw [show (6 : Int32) - 1 = 5 by decide]
  rw [own_ms 2 _ 5 (4) _ 2 1 (own_b d5) (by decide) (by decide) (by rw [show (5 : Int32).toNatClampNeg = 5 by decide]; rfl)]
  rw [own_ms 1 _ 4 (3) _ 1 2 (own_b d4) (by decide) (by decide) (by rw [show (4 : Int32).toNatClampNeg = 4 by decide]; rfl)]
  rw [own_ms 0 _ 3 (2) _ 2 1 (own_b d3) (by decide) (by decide) (by rw [show (3 : Int32).toNatClampNeg = 3 by decide]; rfl)]
  rw [own_m]
  rw [own_t0 0 3 6 _ (by decide)]
  rw [own_t0 1 3 6 _ (by decide)]
  rw [own_t0 2 3 6 _ (by decide)]
  rw [own_t2 3 3 6 _ d3 (by decide) (by decide) (by decide) (by rw [show (3 : Int32).toNatClampNeg = 3 by decide]; rfl)]
  rw [own_t1 4 3 6 _ d4 (by decide) (by decide) (by decide) (by rw [show (4 : Int32).toNatClampNeg = 4 by decide]; rfl)]
  rw [own_t2 5 3 6 _ d5 (by decide) (by decide) (by decide) (by rw [show (5 : Int32).toNatClampNeg = 5 by decide]; rfl)]
  rw [own_t0 6 3 6 _ (by decide)]
  rw [own_t0 7 3 6 _ (by decide)]
  rw [own_d2 d5 h5, own_d1 d4 h4, own_d2 d3 h3]
  simp only [Int32.zero_add, Int32.add_zero]
  ac_rfl
theorem own_c3_7 (d0 d1 d2 d3 d4 d5 d6 d7 : Int32) (h0 : 0 ≤ d0.toInt ∧ d0.toInt ≤ 9) (h1 : 0 ≤ d1.toInt ∧ d1.toInt ≤ 9) (h2 : 0 ≤ d2.toInt ∧ d2.toInt ≤ 9) (h3 : 0 ≤ d3.toInt ∧ d3.toInt ≤ 9) (h4 : 0 ≤ d4.toInt ∧ d4.toInt ≤ 9) (h5 : 0 ≤ d5.toInt ∧ d5.toInt ≤ 9) (h6 : 0 ≤ d6.toInt ∧ d6.toInt ≤ 9) (h7 : 0 ≤ d7.toInt ∧ d7.toInt ≤ 9) : own_m 4 [own_b d0, own_b d1, own_b d2, own_b d3, own_b d4, own_b d5, own_b d6, own_b d7] ((7 : Int32) - 1) 0 2 = (((((((F3 0 3 7 [d0, d1, d2, d3, d4, d5, d6, d7] + F3 1 3 7 [d0, d1, d2, d3, d4, d5, d6, d7]) + F3 2 3 7 [d0, d1, d2, d3, d4, d5, d6, d7]) + F3 3 3 7 [d0, d1, d2, d3, d4, d5, d6, d7]) + F3 4 3 7 [d0, d1, d2, d3, d4, d5, d6, d7]) + F3 5 3 7 [d0, d1, d2, d3, d4, d5, d6, d7]) + F3 6 3 7 [d0, d1, d2, d3, d4, d5, d6, d7]) + F3 7 3 7 [d0, d1, d2, d3, d4, d5, d6, d7]) := by
  rw [show (7 : Int32) - 1 = 6 by decide]
  rw [own_ms 3 _ 6 (5) _ 2 1 (own_b d6) (by decide) (by decide) (by rw [show (6 : Int32).toNatClampNeg = 6 by decide]; rfl)]
  rw [own_ms 2 _ 5 (4) _ 1 2 (own_b d5) (by decide) (by decide) (by rw [show (5 : Int32).toNatClampNeg = 5 by decide]; rfl)]
  rw [own_ms 1 _ 4 (3) _ 2 1 (own_b d4) (by decide) (by decide) (by rw [show (4 : Int32).toNatClampNeg = 4 by decide]; rfl)]
  rw [own_ms 0 _ 3 (2) _ 1 2 (own_b d3) (by decide) (by decide) (by rw [show (3 : Int32).toNatClampNeg = 3 by decide]; rfl)]
  rw [own_m]
  rw [own_t0 0 3 7 _ (by decide)]
  rw [own_t0 1 3 7 _ (by decide)]
  rw [own_t0 2 3 7 _ (by decide)]
  rw [own_t1 3 3 7 _ d3 (by decide) (by decide) (by decide) (by rw [show (3 : Int32).toNatClampNeg = 3 by decide]; rfl)]
  rw [own_t2 4 3 7 _ d4 (by decide) (by decide) (by decide) (by rw [show (4 : Int32).toNatClampNeg = 4 by decide]; rfl)]
  rw [own_t1 5 3 7 _ d5 (by decide) (by decide) (by decide) (by rw [show (5 : Int32).toNatClampNeg = 5 by decide]; rfl)]
  rw [own_t2 6 3 7 _ d6 (by decide) (by decide) (by decide) (by rw [show (6 : Int32).toNatClampNeg = 6 by decide]; rfl)]
  rw [own_t0 7 3 7 _ (by decide)]
  rw [own_d2 d6 h6, own_d1 d5 h5, own_d2 d4 h4, own_d1 d3 h3]
  simp only [Int32.zero_add, Int32.add_zero]
  ac_rfl
theorem own_c3_8 (d0 d1 d2 d3 d4 d5 d6 d7 : Int32) (h0 : 0 ≤ d0.toInt ∧ d0.toInt ≤ 9) (h1 : 0 ≤ d1.toInt ∧ d1.toInt ≤ 9) (h2 : 0 ≤ d2.toInt ∧ d2.toInt ≤ 9) (h3 : 0 ≤ d3.toInt ∧ d3.toInt ≤ 9) (h4 : 0 ≤ d4.toInt ∧ d4.toInt ≤ 9) (h5 : 0 ≤ d5.toInt ∧ d5.toInt ≤ 9) (h6 : 0 ≤ d6.toInt ∧ d6.toInt ≤ 9) (h7 : 0 ≤ d7.toInt ∧ d7.toInt ≤ 9) : own_m 5 [own_b d0, own_b d1, own_b d2, own_b d3, own_b d4, own_b d5, own_b d6, own_b d7] ((8 : Int32) - 1) 0 2 = (((((((F3 0 3 8 [d0, d1, d2, d3, d4, d5, d6, d7] + F3 1 3 8 [d0, d1, d2, d3, d4, d5, d6, d7]) + F3 2 3 8 [d0, d1, d2, d3, d4, d5, d6, d7]) + F3 3 3 8 [d0, d1, d2, d3, d4, d5, d6, d7]) + F3 4 3 8 [d0, d1, d2, d3, d4, d5, d6, d7]) + F3 5 3 8 [d0, d1, d2, d3, d4, d5, d6, d7]) + F3 6 3 8 [d0, d1, d2, d3, d4, d5, d6, d7]) + F3 7 3 8 [d0, d1, d2, d3, d4, d5, d6, d7]) := by
  rw [show (8 : Int32) - 1 = 7 by decide]
  rw [own_ms 4 _ 7 (6) _ 2 1 (own_b d7) (by decide) (by decide) (by rw [show (7 : Int32).toNatClampNeg = 7 by decide]; rfl)]
  rw [own_ms 3 _ 6 (5) _ 1 2 (own_b d6) (by decide) (by decide) (by rw [show (6 : Int32).toNatClampNeg = 6 by decide]; rfl)]
  rw [own_ms 2 _ 5 (4) _ 2 1 (own_b d5) (by decide) (by decide) (by rw [show (5 : Int32).toNatClampNeg = 5 by decide]; rfl)]
  rw [own_ms 1 _ 4 (3) _ 1 2 (own_b d4) (by decide) (by decide) (by rw [show (4 : Int32).toNatClampNeg = 4 by decide]; rfl)]
  rw [own_ms 0 _ 3 (2) _ 2 1 (own_b d3) (by decide) (by decide) (by rw [show (3 : Int32).toNatClampNeg = 3 by decide]; rfl)]
  rw [own_m]
  rw [own_t0 0 3 8 _ (by decide)]
  rw [own_t0 1 3 8 _ (by decide)]
  rw [own_t0 2 3 8 _ (by decide)]
  rw [own_t2 3 3 8 _ d3 (by decide) (by decide) (by decide) (by rw [show (3 : Int32).toNatClampNeg = 3 by decide]; rfl)]
  rw [own_t1 4 3 8 _ d4 (by decide) (by decide) (by decide) (by rw [show (4 : Int32).toNatClampNeg = 4 by decide]; rfl)]
  rw [own_t2 5 3 8 _ d5 (by decide) (by decide) (by decide) (by rw [show (5 : Int32).toNatClampNeg = 5 by decide]; rfl)]
  rw [own_t1 6 3 8 _ d6 (by decide) (by decide) (by decide) (by rw [show (6 : Int32).toNatClampNeg = 6 by decide]; rfl)]
  rw [own_t2 7 3 8 _ d7 (by decide) (by decide) (by decide) (by rw [show (7 : Int32).toNatClampNeg = 7 by decide]; rfl)]
  rw [own_d2 d7 h7, own_d1 d6 h6, own_d2 d5 h5, own_d1 d4 h4, own_d2 d3 h3]
  simp only [Int32.zero_add, Int32.add_zero]
  ac_rfl
theorem own_c4_4 (d0 d1 d2 d3 d4 d5 d6 d7 : Int32) (h0 : 0 ≤ d0.toInt ∧ d0.toInt ≤ 9) (h1 : 0 ≤ d1.toInt ∧ d1.toInt ≤ 9) (h2 : 0 ≤ d2.toInt ∧ d2.toInt ≤ 9) (h3 : 0 ≤ d3.toInt ∧ d3.toInt ≤ 9) (h4 : 0 ≤ d4.toInt ∧ d4.toInt ≤ 9) (h5 : 0 ≤ d5.toInt ∧ d5.toInt ≤ 9) (h6 : 0 ≤ d6.toInt ∧ d6.toInt ≤ 9) (h7 : 0 ≤ d7.toInt ∧ d7.toInt ≤ 9) : own_m 0 [own_b d0, own_b d1, own_b d2, own_b d3, own_b d4, own_b d5, own_b d6, own_b d7] ((4 : Int32) - 1) 0 2 = (((((((F3 0 4 4 [d0, d1, d2, d3, d4, d5, d6, d7] + F3 1 4 4 [d0, d1, d2, d3, d4, d5, d6, d7]) + F3 2 4 4 [d0, d1, d2, d3, d4, d5, d6, d7]) + F3 3 4 4 [d0, d1, d2, d3, d4, d5, d6, d7]) + F3 4 4 4 [d0, d1, d2, d3, d4, d5, d6, d7]) + F3 5 4 4 [d0, d1, d2, d3, d4, d5, d6, d7]) + F3 6 4 4 [d0, d1, d2, d3, d4, d5, d6, d7]) + F3 7 4 4 [d0, d1, d2, d3, d4, d5, d6, d7]) := by
  rw [own_m]
  rw [own_t0 0 4 4 _ (by decide)]
  rw [own_t0 1 4 4 _ (by decide)]
  rw [own_t0 2 4 4 _ (by decide)]
  rw [own_t0 3 4 4 _ (by decide)]
  rw [own_t0 4 4 4 _ (by decide)]
  rw [own_t0 5 4 4 _ (by decide)]
  rw [own_t0 6 4 4 _ (by decide)]
  rw [own_t0 7 4 4 _ (by decide)]
  simp only [Int32.zero_add, Int32.add_zero]
theorem own_c4_5 (d0 d1 d2 d3 d4 d5 d6 d7 : Int32) (h0 : 0 ≤ d0.toInt ∧ d0.toInt ≤ 9) (h1 : 0 ≤ d1.toInt ∧ d1.toInt ≤ 9) (h2 : 0 ≤ d2.toInt ∧ d2.toInt ≤ 9) (h3 : 0 ≤ d3.toInt ∧ d3.toInt ≤ 9) (h4 : 0 ≤ d4.toInt ∧ d4.toInt ≤ 9) (h5 : 0 ≤ d5.toInt ∧ d5.toInt ≤ 9) (h6 : 0 ≤ d6.toInt ∧ d6.toInt ≤ 9) (h7 : 0 ≤ d7.toInt ∧ d7.toInt ≤ 9) : own_m 1 [own_b d0, own_b d1, own_b d2, own_b d3, own_b d4, own_b d5, own_b d6, own_b d7] ((5 : Int32) - 1) 0 2 = (((((((F3 0 4 5 [d0, d1, d2, d3, d4, d5, d6, d7] + F3 1 4 5 [d0, d1, d2, d3, d4, d5, d6, d7]) + F3 2 4 5 [d0, d1, d2, d3, d4, d5, d6, d7]) + F3 3 4 5 [d0, d1, d2, d3, d4, d5, d6, d7]) + F3 4 4 5 [d0, d1, d2, d3, d4, d5, d6, d7]) + F3 5 4 5 [d0, d1, d2, d3, d4, d5, d6, d7]) + F3 6 4 5 [d0, d1, d2, d3, d4, d5, d6, d7]) + F3 7 4 5 [d0, d1, d2, d3, d4, d5, d6, d7]) := by
  rw [show (5 : Int32) - 1 = 4 by decide]
  rw [own_ms 0 _ 4 (3) _ 2 1 (own_b d4) (by decide) (by decide) (by rw [show (4 : Int32).toNatClampNeg = 4 by decide]; rfl)]
  rw [own_m]
  rw [own_t0 0 4 5 _ (by decide)]
  rw [own_t0 1 4 5 _ (by decide)]
  rw [own_t0 2 4 5 _ (by decide)]
  rw [own_t0 3 4 5 _ (by decide)]
  rw [own_t2 4 4 5 _ d4 (by decide) (by decide) (by decide) (by rw [show (4 : Int32).toNatClampNeg = 4 by decide]; rfl)]
  rw [own_t0 5 4 5 _ (by decide)]
  rw [own_t0 6 4 5 _ (by decide)]
  rw [own_t0 7 4 5 _ (by decide)]
  rw [own_d2 d4 h4]
  simp only [Int32.zero_add, Int32.add_zero]
theorem own_c4_6 (d0 d1 d2 d3 d4 d5 d6 d7 : Int32) (h0 : 0 ≤ d0.toInt ∧ d0.toInt ≤ 9) (h1 : 0 ≤ d1.toInt ∧ d1.toInt ≤ 9) (h2 : 0 ≤ d2.toInt ∧ d2.toInt ≤ 9) (h3 : 0 ≤ d3.toInt ∧ d3.toInt ≤ 9) (h4 : 0 ≤ d4.toInt ∧ d4.toInt ≤ 9) (h5 : 0 ≤ d5.toInt ∧ d5.toInt ≤ 9) (h6 : 0 ≤ d6.toInt ∧ d6.toInt ≤ 9) (h7 : 0 ≤ d7.toInt ∧ d7.toInt ≤ 9) : own_m 2 [own_b d0, own_b d1, own_b d2, own_b d3, own_b d4, own_b d5, own_b d6, own_b d7] ((6 : Int32) - 1) 0 2 = (((((((F3 0 4 6 [d0, d1, d2, d3, d4, d5, d6, d7] + F3 1 4 6 [d0, d1, d2, d3, d4, d5, d6, d7]) + F3 2 4 6 [d0, d1, d2, d3, d4, d5, d6, d7]) + F3 3 4 6 [d0, d1, d2, d3, d4, d5, d6, d7]) + F3 4 4 6 [d0, d1, d2, d3, d4, d5, d6, d7]) + F3 5 4 6 [d0, d1, d2, d3, d4, d5, d6, d7]) + F3 6 4 6 [d0, d1, d2, d3, d4, d5, d6, d7]) + F3 7 4 6 [d0, d1, d2, d3, d4, d5, d6, d7]) := by
  rw [show (6 : Int32) - 1 = 5 by decide]
  rw [own_ms 1 _ 5 (4) _ 2 1 (own_b d5) (by decide) (by decide) (by rw [show (5 : Int32).toNatClampNeg = 5 by decide]; rfl)]
  rw [own_ms 0 _ 4 (3) _ 1 2 (own_b d4) (by decide) (by decide) (by rw [show (4 : Int32).toNatClampNeg = 4 by decide]; rfl)]
  rw [own_m]
  rw [own_t0 0 4 6 _ (by decide)]
  rw [own_t0 1 4 6 _ (by decide)]
  rw [own_t0 2 4 6 _ (by decide)]
  rw [own_t0 3 4 6 _ (by decide)]
  rw [own_t1 4 4 6 _ d4 (by decide) (by decide) (by decide) (by rw [show (4 : Int32).toNatClampNeg = 4 by decide]; rfl)]
  rw [own_t2 5 4 6 _ d5 (by decide) (by decide) (by decide) (by rw [show (5 : Int32).toNatClampNeg = 5 by decide]; rfl)]
  rw [own_t0 6 4 6 _ (by decide)]
  rw [own_t0 7 4 6 _ (by decide)]
  rw [own_d2 d5 h5, own_d1 d4 h4]
  simp only [Int32.zero_add, Int32.add_zero]
  ac_rfl
theorem own_c4_7 (d0 d1 d2 d3 d4 d5 d6 d7 : Int32) (h0 : 0 ≤ d0.toInt ∧ d0.toInt ≤ 9) (h1 : 0 ≤ d1.toInt ∧ d1.toInt ≤ 9) (h2 : 0 ≤ d2.toInt ∧ d2.toInt ≤ 9) (h3 : 0 ≤ d3.toInt ∧ d3.toInt ≤ 9) (h4 : 0 ≤ d4.toInt ∧ d4.toInt ≤ 9) (h5 : 0 ≤ d5.toInt ∧ d5.toInt ≤ 9) (h6 : 0 ≤ d6.toInt ∧ d6.toInt ≤ 9) (h7 : 0 ≤ d7.toInt ∧ d7.toInt ≤ 9) : own_m 3 [own_b d0, own_b d1, own_b d2, own_b d3, own_b d4, own_b d5, own_b d6, own_b d7] ((7 : Int32) - 1) 0 2 = (((((((F3 0 4 7 [d0, d1, d2, d3, d4, d5, d6, d7] + F3 1 4 7 [d0, d1, d2, d3, d4, d5, d6, d7]) + F3 2 4 7 [d0, d1, d2, d3, d4, d5, d6, d7]) + F3 3 4 7 [d0, d1, d2, d3, d4, d5, d6, d7]) + F3 4 4 7 [d0, d1, d2, d3, d4, d5, d6, d7]) + F3 5 4 7 [d0, d1, d2, d3, d4, d5, d6, d7]) + F3 6 4 7 [d0, d1, d2, d3, d4, d5, d6, d7]) + F3 7 4 7 [d0, d1, d2, d3, d4, d5, d6, d7]) := by
  rw [show (7 : Int32) - 1 = 6 by decide]
  rw [own_ms 2 _ 6 (5) _ 2 1 (own_b d6) (by decide) (by decide) (by rw [show (6 : Int32).toNatClampNeg = 6 by decide]; rfl)]
  rw [own_ms 1 _ 5 (4) _ 1 2 (own_b d5) (by decide) (by decide) (by rw [show (5 : Int32).toNatClampNeg = 5 by decide]; rfl)]
  rw [own_ms 0 _ 4 (3) _ 2 1 (own_b d4) (by decide) (by decide) (by rw [show (4 : Int32).toNatClampNeg = 4 by decide]; rfl)]
  rw [own_m]
  rw [own_t0 0 4 7 _ (by decide)]
  rw [own_t0 1 4 7 _ (by decide)]
  rw [own_t0 2 4 7 _ (by decide)]
  rw [own_t0 3 4 7 _ (by decide)]
  rw [own_t2 4 4 7 _ d4 (by decide) (by decide) (by decide) (by rw [show (4 : Int32).toNatClampNeg = 4 by decide]; rfl)]
  rw [own_t1 5 4 7 _ d5 (by decide) (by decide) (by decide) (by rw [show (5 : Int32).toNatClampNeg = 5 by decide]; rfl)]
  rw [own_t2 6 4 7 _ d6 (by decide) (by decide) (by decide) (by rw [show (6 : Int32).toNatClampNeg = 6 by decide]; rfl)]
  rw [own_t0 7 4 7 _ (by decide)]
  rw [own_d2 d6 h6, own_d1 d5 h5, own_d2 d4 h4]
  simp only [Int32.zero_add, Int32.add_zero]
  ac_rfl
theorem own_c4_8 (d0 d1 d2 d3 d4 d5 d6 d7 : Int32) (h0 : 0 ≤ d0.toInt ∧ d0.toInt ≤ 9) (h1 : 0 ≤ d1.toInt ∧ d1.toInt ≤ 9) (h2 : 0 ≤ d2.toInt ∧ d2.toInt ≤ 9) (h3 : 0 ≤ d3.toInt ∧ d3.toInt ≤ 9) (h4 : 0 ≤ d4.toInt ∧ d4.toInt ≤ 9) (h5 : 0 ≤ d5.toInt ∧ d5.toInt ≤ 9) (h6 : 0 ≤ d6.toInt ∧ d6.toInt ≤ 9) (h7 : 0 ≤ d7.toInt ∧ d7.toInt ≤ 9) : own_m 4 [own_b d0, own_b d1, own_b d2, own_b d3, own_b d4, own_b d5, own_b d6, own_b d7] ((8 : Int32) - 1) 0 2 = (((((((F3 0 4 8 [d0, d1, d2, d3, d4, d5, d6, d7] + F3 1 4 8 [d0, d1, d2, d3, d4, d5, d6, d7]) + F3 2 4 8 [d0, d1, d2, d3, d4, d5, d6, d7]) + F3 3 4 8 [d0, d1, d2, d3, d4, d5, d6, d7]) + F3 4 4 8 [d0, d1, d2, d3, d4, d5, d6, d7]) + F3 5 4 8 [d0, d1, d2, d3, d4, d5, d6, d7]) + F3 6 4 8 [d0, d1, d2, d3, d4, d5, d6, d7]) + F3 7 4 8 [d0, d1, d2, d3, d4, d5, d6, d7]) := by
  rw [show (8 : Int32) - 1 = 7 by decide]
  rw [own_ms 3 _ 7 (6) _ 2 1 (own_b d7) (by decide) (by decide) (by rw [show (7 : Int32).toNatClampNeg = 7 by decide]; rfl)]
  rw [own_ms 2 _ 6 (5) _ 1 2 (own_b d6) (by decide) (by decide) (by rw [show (6 : Int32).toNatClampNeg = 6 by decide]; rfl)]
  rw [own_ms 1 _ 5 (4) _ 2 1 (own_b d5) (by decide) (by decide) (by rw [show (5 : Int32).toNatClampNeg = 5 by decide]; rfl)]
  rw [own_ms 0 _ 4 (3) _ 1 2 (own_b d4) (by decide) (by decide) (by rw [show (4 : Int32).toNatClampNeg = 4 by decide]; rfl)]
  rw [own_m]
  rw [own_t0 0 4 8 _ (by decide)]
  rw [own_t0 1 4 8 _ (by decide)]
  rw [own_t0 2 4 8 _ (by decide)]
  rw [own_t0 3 4 8 _ (by decide)]
  rw [own_t1 4 4 8 _ d4 (by decide) (by decide) (by decide) (by rw [show (4 : Int32).toNatClampNeg = 4 by decide]; rfl)]
  rw [own_t2 5 4 8 _ d5 (by decide) (by decide) (by decide) (by rw [show (5 : Int32).toNatClampNeg = 5 by decide]; rfl)]
  rw [own_t1 6 4 8 _ d6 (by decide) (by decide) (by decide) (by rw [show (6 : Int32).toNatClampNeg = 6 by decide]; rfl)]
  rw [own_t2 7 4 8 _ d7 (by decide) (by decide) (by decide) (by rw [show (7 : Int32).toNatClampNeg = 7 by decide]; rfl)]
  rw [own_d2 d7 h7, own_d1 d6 h6, own_d2 d5 h5, own_d1 d4 h4]
  simp only [Int32.zero_add, Int32.add_zero]
  ac_rfl
theorem own_c5_5 (d0 d1 d2 d3 d4 d5 d6 d7 : Int32) (h0 : 0 ≤ d0.toInt ∧ d0.toInt ≤ 9) (h1 : 0 ≤ d1.toInt ∧ d1.toInt ≤ 9) (h2 : 0 ≤ d2.toInt ∧ d2.toInt ≤ 9) (h3 : 0 ≤ d3.toInt ∧ d3.toInt ≤ 9) (h4 : 0 ≤ d4.toInt ∧ d4.toInt ≤ 9) (h5 : 0 ≤ d5.toInt ∧ d5.toInt ≤ 9) (h6 : 0 ≤ d6.toInt ∧ d6.toInt ≤ 9) (h7 : 0 ≤ d7.toInt ∧ d7.toInt ≤ 9) : own_m 0 [own_b d0, own_b d1, own_b d2, own_b d3, own_b d4, own_b d5, own_b d6, own_b d7] ((5 : Int32) - 1) 0 2 = (((((((F3 0 5 5 [d0, d1, d2, d3, d4, d5, d6, d7] + F3 1 5 5 [d0, d1, d2, d3, d4, d5, d6, d7]) + F3 2 5 5 [d0, d1, d2, d3, d4, d5, d6, d7]) + F3 3 5 5 [d0, d1, d2, d3, d4, d5, d6, d7]) + F3 4 5 5 [d0, d1, d2, d3, d4, d5, d6, d7]) + F3 5 5 5 [d0, d1, d2, d3, d4, d5, d6, d7]) + F3 6 5 5 [d0, d1, d2, d3, d4, d5, d6, d7]) + F3 7 5 5 [d0, d1, d2, d3, d4, d5, d6, d7]) := by
  rw [own_m]
  rw [own_t0 0 5 5 _ (by decide)]
  rw [own_t0 1 5 5 _ (by decide)]
  rw [own_t0 2 5 5 _ (by decide)]
  rw [own_t0 3 5 5 _ (by decide)]
  rw [own_t0 4 5 5 _ (by decide)]
  rw [own_t0 5 5 5 _ (by decide)]
  rw [own_t0 6 5 5 _ (by decide)]
  rw [own_t0 7 5 5 _ (by decide)]
  simp only [Int32.zero_add, Int32.add_zero]
theorem own_c5_6 (d0 d1 d2 d3 d4 d5 d6 d7 : Int32) (h0 : 0 ≤ d0.toInt ∧ d0.toInt ≤ 9) (h1 : 0 ≤ d1.toInt ∧ d1.toInt ≤ 9) (h2 : 0 ≤ d2.toInt ∧ d2.toInt ≤ 9) (h3 : 0 ≤ d3.toInt ∧ d3.toInt ≤ 9) (h4 : 0 ≤ d4.toInt ∧ d4.toInt ≤ 9) (h5 : 0 ≤ d5.toInt ∧ d5.toInt ≤ 9) (h6 : 0 ≤ d6.toInt ∧ d6.toInt ≤ 9) (h7 : 0 ≤ d7.toInt ∧ d7.toInt ≤ 9) : own_m 1 [own_b d0, own_b d1, own_b d2, own_b d3, own_b d4, own_b d5, own_b d6, own_b d7] ((6 : Int32) - 1) 0 2 = (((((((F3 0 5 6 [d0, d1, d2, d3, d4, d5, d6, d7] + F3 1 5 6 [d0, d1, d2, d3, d4, d5, d6, d7]) + F3 2 5 6 [d0, d1, d2, d3, d4, d5, d6, d7]) + F3 3 5 6 [d0, d1, d2, d3, d4, d5, d6, d7]) + F3 4 5 6 [d0, d1, d2, d3, d4, d5, d6, d7]) + F3 5 5 6 [d0, d1, d2, d3, d4, d5, d6, d7]) + F3 6 5 6 [d0, d1, d2, d3, d4, d5, d6, d7]) + F3 7 5 6 [d0, d1, d2, d3, d4, d5, d6, d7]) := by
  rw [show (6 : Int32) - 1 = 5 by decide]
  rw [own_ms 0 _ 5 (4) _ 2 1 (own_b d5) (by decide) (by decide) (by rw [show (5 : Int32).toNatClampNeg = 5 by decide]; rfl)]
  rw [own_m]
  rw [own_t0 0 5 6 _ (by decide)]
  rw [own_t0 1 5 6 _ (by decide)]
  rw [own_t0 2 5 6 _ (by decide)]
  rw [own_t0 3 5 6 _ (by decide)]
  rw [own_t0 4 5 6 _ (by decide)]
  rw [own_t2 5 5 6 _ d5 (by decide) (by decide) (by decide) (by rw [show (5 : Int32).toNatClampNeg = 5 by decide]; rfl)]
  rw [own_t0 6 5 6 _ (by decide)]
  rw [own_t0 7 5 6 _ (by decide)]
  rw [own_d2 d5 h5]
  simp only [Int32.zero_add, Int32.add_zero]
theorem own_c5_7 (d0 d1 d2 d3 d4 d5 d6 d7 : Int32) (h0 : 0 ≤ d0.toInt ∧ d0.toInt ≤ 9) (h1 : 0 ≤ d1.toInt ∧ d1.toInt ≤ 9) (h2 : 0 ≤ d2.toInt ∧ d2.toInt ≤ 9) (h3 : 0 ≤ d3.toInt ∧ d3.toInt ≤ 9) (h4 : 0 ≤ d4.toInt ∧ d4.toInt ≤ 9) (h5 : 0 ≤ d5.toInt ∧ d5.toInt ≤ 9) (h6 : 0 ≤ d6.toInt ∧ d6.toInt ≤ 9) (h7 : 0 ≤ d7.toInt ∧ d7.toInt ≤ 9) : own_m 2 [own_b d0, own_b d1, own_b d2, own_b d3, own_b d4, own_b d5, own_b d6, own_b d7] ((7 : Int32) - 1) 0 2 = (((((((F3 0 5 7 [d0, d1, d2, d3, d4, d5, d6, d7] + F3 1 5 7 [d0, d1, d2, d3, d4, d5, d6, d7]) + F3 2 5 7 [d0, d1, d2, d3, d4, d5, d6, d7]) + F3 3 5 7 [d0, d1, d2, d3, d4, d5, d6, d7]) + F3 4 5 7 [d0, d1, d2, d3, d4, d5, d6, d7]) + F3 5 5 7 [d0, d1, d2, d3, d4, d5, d6, d7]) + F3 6 5 7 [d0, d1, d2, d3, d4, d5, d6, d7]) + F3 7 5 7 [d0, d1, d2, d3, d4, d5, d6, d7]) := by
  rw [show (7 : Int32) - 1 = 6 by decide]
  rw [own_ms 1 _ 6 (5) _ 2 1 (own_b d6) (by decide) (by decide) (by rw [show (6 : Int32).toNatClampNeg = 6 by decide]; rfl)]
  rw [own_ms 0 _ 5 (4) _ 1 2 (own_b d5) (by decide) (by decide) (by rw [show (5 : Int32).toNatClampNeg = 5 by decide]; rfl)]
  rw [own_m]
  rw [own_t0 0 5 7 _ (by decide)]
  rw [own_t0 1 5 7 _ (by decide)]
  rw [own_t0 2 5 7 _ (by decide)]
  rw [own_t0 3 5 7 _ (by decide)]
  rw [own_t0 4 5 7 _ (by decide)]
  rw [own_t1 5 5 7 _ d5 (by decide) (by decide) (by decide) (by rw [show (5 : Int32).toNatClampNeg = 5 by decide]; rfl)]
  rw [own_t2 6 5 7 _ d6 (by decide) (by decide) (by decide) (by rw [show (6 : Int32).toNatClampNeg = 6 by decide]; rfl)]
  rw [own_t0 7 5 7 _ (by decide)]
  rw [own_d2 d6 h6, own_d1 d5 h5]
  simp only [Int32.zero_add, Int32.add_zero]
  ac_rfl
theorem own_c5_8 (d0 d1 d2 d3 d4 d5 d6 d7 : Int32) (h0 : 0 ≤ d0.toInt ∧ d0.toInt ≤ 9) (h1 : 0 ≤ d1.toInt ∧ d1.toInt ≤ 9) (h2 : 0 ≤ d2.toInt ∧ d2.toInt ≤ 9) (h3 : 0 ≤ d3.toInt ∧ d3.toInt ≤ 9) (h4 : 0 ≤ d4.toInt ∧ d4.toInt ≤ 9) (h5 : 0 ≤ d5.toInt ∧ d5.toInt ≤ 9) (h6 : 0 ≤ d6.toInt ∧ d6.toInt ≤ 9) (h7 : 0 ≤ d7.toInt ∧ d7.toInt ≤ 9) : own_m 3 [own_b d0, own_b d1, own_b d2, own_b d3, own_b d4, own_b d5, own_b d6, own_b d7] ((8 : Int32) - 1) 0 2 = (((((((F3 0 5 8 [d0, d1, d2, d3, d4, d5, d6, d7] + F3 1 5 8 [d0, d1, d2, d3, d4, d5, d6, d7]) + F3 2 5 8 [d0, d1, d2, d3, d4, d5, d6, d7]) + F3 3 5 8 [d0, d1, d2, d3, d4, d5, d6, d7]) + F3 4 5 8 [d0, d1, d2, d3, d4, d5, d6, d7]) + F3 5 5 8 [d0, d1, d2, d3, d4, d5, d6, d7]) + F3 6 5 8 [d0, d1, d2, d3, d4, d5, d6, d7]) + F3 7 5 8 [d0, d1, d2, d3, d4, d5, d6, d7]) := by
  rw [show (8 : Int32) - 1 = 7 by decide]
  rw [own_ms 2 _ 7 (6) _ 2 1 (own_b d7) (by decide) (by decide) (by rw [show (7 : Int32).toNatClampNeg = 7 by decide]; rfl)]
  rw [own_ms 1 _ 6 (5) _ 1 2 (own_b d6) (by decide) (by decide) (by rw [show (6 : Int32).toNatClampNeg = 6 by decide]; rfl)]
  rw [own_ms 0 _ 5 (4) _ 2 1 (own_b d5) (by decide) (by decide) (by rw [show (5 : Int32).toNatClampNeg = 5 by decide]; rfl)]
  rw [own_m]
  rw [own_t0 0 5 8 _ (by decide)]
  rw [own_t0 1 5 8 _ (by decide)]
  rw [own_t0 2 5 8 _ (by decide)]
  rw [own_t0 3 5 8 _ (by decide)]
  rw [own_t0 4 5 8 _ (by decide)]
  rw [own_t2 5 5 8 _ d5 (by decide) (by decide) (by decide) (by rw [show (5 : Int32).toNatClampNeg = 5 by decide]; rfl)]
  rw [own_t1 6 5 8 _ d6 (by decide) (by decide) (by decide) (by rw [show (6 : Int32).toNatClampNeg = 6 by decide]; rfl)]
  rw [own_t2 7 5 8 _ d7 (by decide) (by decide) (by decide) (by rw [show (7 : Int32).toNatClampNeg = 7 by decide]; rfl)]
  rw [own_d2 d7 h7, own_d1 d6 h6, own_d2 d5 h5]
  simp only [Int32.zero_add, Int32.add_zero]
  ac_rfl
theorem own_c6_6 (d0 d1 d2 d3 d4 d5 d6 d7 : Int32) (h0 : 0 ≤ d0.toInt ∧ d0.toInt ≤ 9) (h1 : 0 ≤ d1.toInt ∧ d1.toInt ≤ 9) (h2 : 0 ≤ d2.toInt ∧ d2.toInt ≤ 9) (h3 : 0 ≤ d3.toInt ∧ d3.toInt ≤ 9) (h4 : 0 ≤ d4.toInt ∧ d4.toInt ≤ 9) (h5 : 0 ≤ d5.toInt ∧ d5.toInt ≤ 9) (h6 : 0 ≤ d6.toInt ∧ d6.toInt ≤ 9) (h7 : 0 ≤ d7.toInt ∧ d7.toInt ≤ 9) : own_m 0 [own_b d0, own_b d1, own_b d2, own_b d3, own_b d4, own_b d5, own_b d6, own_b d7] ((6 : Int32) - 1) 0 2 = (((((((F3 0 6 6 [d0, d1, d2, d3, d4, d5, d6, d7] + F3 1 6 6 [d0, d1, d2, d3, d4, d5, d6, d7]) + F3 2 6 6 [d0, d1, d2, d3, d4, d5, d6, d7]) + F3 3 6 6 [d0, d1, d2, d3, d4, d5, d6, d7]) + F3 4 6 6 [d0, d1, d2, d3, d4, d5, d6, d7]) + F3 5 6 6 [d0, d1, d2, d3, d4, d5, d6, d7]) + F3 6 6 6 [d0, d1, d2, d3, d4, d5, d6, d7]) + F3 7 6 6 [d0, d1, d2, d3, d4, d5, d6, d7]) := by
  rw [own_m]
  rw [own_t0 0 6 6 _ (by decide)]
  rw [own_t0 1 6 6 _ (by decide)]
  rw [own_t0 2 6 6 _ (by decide)]
  rw [own_t0 3 6 6 _ (by decide)]
  rw [own_t0 4 6 6 _ (by decide)]
  rw [own_t0 5 6 6 _ (by decide)]
  rw [own_t0 6 6 6 _ (by decide)]
  rw [own_t0 7 6 6 _ (by decide)]
  simp only [Int32.zero_add, Int32.add_zero]
theorem own_c6_7 (d0 d1 d2 d3 d4 d5 d6 d7 : Int32) (h0 : 0 ≤ d0.toInt ∧ d0.toInt ≤ 9) (h1 : 0 ≤ d1.toInt ∧ d1.toInt ≤ 9) (h2 : 0 ≤ d2.toInt ∧ d2.toInt ≤ 9) (h3 : 0 ≤ d3.toInt ∧ d3.toInt ≤ 9) (h4 : 0 ≤ d4.toInt ∧ d4.toInt ≤ 9) (h5 : 0 ≤ d5.toInt ∧ d5.toInt ≤ 9) (h6 : 0 ≤ d6.toInt ∧ d6.toInt ≤ 9) (h7 : 0 ≤ d7.toInt ∧ d7.toInt ≤ 9) : own_m 1 [own_b d0, own_b d1, own_b d2, own_b d3, own_b d4, own_b d5, own_b d6, own_b d7] ((7 : Int32) - 1) 0 2 = (((((((F3 0 6 7 [d0, d1, d2, d3, d4, d5, d6, d7] + F3 1 6 7 [d0, d1, d2, d3, d4, d5, d6, d7]) + F3 2 6 7 [d0, d1, d2, d3, d4, d5, d6, d7]) + F3 3 6 7 [d0, d1, d2, d3, d4, d5, d6, d7]) + F3 4 6 7 [d0, d1, d2, d3, d4, d5, d6, d7]) + F3 5 6 7 [d0, d1, d2, d3, d4, d5, d6, d7]) + F3 6 6 7 [d0, d1, d2, d3, d4, d5, d6, d7]) + F3 7 6 7 [d0, d1, d2, d3, d4, d5, d6, d7]) := by
  rw [show (7 : Int32) - 1 = 6 by decide]
  rw [own_ms 0 _ 6 (5) _ 2 1 (own_b d6) (by decide) (by decide) (by rw [show (6 : Int32).toNatClampNeg = 6 by decide]; rfl)]
  rw [own_m]
  rw [own_t0 0 6 7 _ (by decide)]
  rw [own_t0 1 6 7 _ (by decide)]
  rw [own_t0 2 6 7 _ (by decide)]
  rw [own_t0 3 6 7 _ (by decide)]
  rw [own_t0 4 6 7 _ (by decide)]
  rw [own_t0 5 6 7 _ (by decide)]
  rw [own_t2 6 6 7 _ d6 (by decide) (by decide) (by decide) (by rw [show (6 : Int32).toNatClampNeg = 6 by decide]; rfl)]
  rw [own_t0 7 6 7 _ (by decide)]
  rw [own_d2 d6 h6]
  simp only [Int32.zero_add, Int32.add_zero]
theorem own_c6_8 (d0 d1 d2 d3 d4 d5 d6 d7 : Int32) (h0 : 0 ≤ d0.toInt ∧ d0.toInt ≤ 9) (h1 : 0 ≤ d1.toInt ∧ d1.toInt ≤ 9) (h2 : 0 ≤ d2.toInt ∧ d2.toInt ≤ 9) (h3 : 0 ≤ d3.toInt ∧ d3.toInt ≤ 9) (h4 : 0 ≤ d4.toInt ∧ d4.toInt ≤ 9) (h5 : 0 ≤ d5.toInt ∧ d5.toInt ≤ 9) (h6 : 0 ≤ d6.toInt ∧ d6.toInt ≤ 9) (h7 : 0 ≤ d7.toInt ∧ d7.toInt ≤ 9) : own_m 2 [own_b d0, own_b d1, own_b d2, own_b d3, own_b d4, own_b d5, own_b d6, own_b d7] ((8 : Int32) - 1) 0 2 = (((((((F3 0 6 8 [d0, d1, d2, d3, d4, d5, d6, d7] + F3 1 6 8 [d0, d1, d2, d3, d4, d5, d6, d7]) + F3 2 6 8 [d0, d1, d2, d3, d4, d5, d6, d7]) + F3 3 6 8 [d0, d1, d2, d3, d4, d5, d6, d7]) + F3 4 6 8 [d0, d1, d2, d3, d4, d5, d6, d7]) + F3 5 6 8 [d0, d1, d2, d3, d4, d5, d6, d7]) + F3 6 6 8 [d0, d1, d2, d3, d4, d5, d6, d7]) + F3 7 6 8 [d0, d1, d2, d3, d4, d5, d6, d7]) := by
  rw [show (8 : Int32) - 1 = 7 by decide]
  rw [own_ms 1 _ 7 (6) _ 2 1 (own_b d7) (by decide) (by decide) (by rw [show (7 : Int32).toNatClampNeg = 7 by decide]; rfl)]
  rw [own_ms 0 _ 6 (5) _ 1 2 (own_b d6) (by decide) (by decide) (by rw [show (6 : Int32).toNatClampNeg = 6 by decide]; rfl)]
  rw [own_m]
  rw [own_t0 0 6 8 _ (by decide)]
  rw [own_t0 1 6 8 _ (by decide)]
  rw [own_t0 2 6 8 _ (by decide)]
  rw [own_t0 3 6 8 _ (by decide)]
  rw [own_t0 4 6 8 _ (by decide)]
  rw [own_t0 5 6 8 _ (by decide)]
  rw [own_t1 6 6 8 _ d6 (by decide) (by decide) (by decide) (by rw [show (6 : Int32).toNatClampNeg = 6 by decide]; rfl)]
  rw [own_t2 7 6 8 _ d7 (by decide) (by decide) (by decide) (by rw [show (7 : Int32).toNatClampNeg = 7 by decide]; rfl)]
  rw [own_d2 d7 h7, own_d1 d6 h6]
  simp only [Int32.zero_add, Int32.add_zero]
  ac_rfl
theorem own_c7_7 (d0 d1 d2 d3 d4 d5 d6 d7 : Int32) (h0 : 0 ≤ d0.toInt ∧ d0.toInt ≤ 9) (h1 : 0 ≤ d1.toInt ∧ d1.toInt ≤ 9) (h2 : 0 ≤ d2.toInt ∧ d2.toInt ≤ 9) (h3 : 0 ≤ d3.toInt ∧ d3.toInt ≤ 9) (h4 : 0 ≤ d4.toInt ∧ d4.toInt ≤ 9) (h5 : 0 ≤ d5.toInt ∧ d5.toInt ≤ 9) (h6 : 0 ≤ d6.toInt ∧ d6.toInt ≤ 9) (h7 : 0 ≤ d7.toInt ∧ d7.toInt ≤ 9) : own_m 0 [own_b d0, own_b d1, own_b d2, own_b d3, own_b d4, own_b d5, own_b d6, own_b d7] ((7 : Int32) - 1) 0 2 = (((((((F3 0 7 7 [d0, d1, d2, d3, d4, d5, d6, d7] + F3 1 7 7 [d0, d1, d2, d3, d4, d5, d6, d7]) + F3 2 7 7 [d0, d1, d2, d3, d4, d5, d6, d7]) + F3 3 7 7 [d0, d1, d2, d3, d4, d5, d6, d7]) + F3 4 7 7 [d0, d1, d2, d3, d4, d5, d6, d7]) + F3 5 7 7 [d0, d1, d2, d3, d4, d5, d6, d7]) + F3 6 7 7 [d0, d1, d2, d3, d4, d5, d6, d7]) + F3 7 7 7 [d0, d1, d2, d3, d4, d5, d6, d7]) := by
  rw [own_m]
  rw [own_t0 0 7 7 _ (by decide)]
  rw [own_t0 1 7 7 _ (by decide)]
  rw [own_t0 2 7 7 _ (by decide)]
  rw [own_t0 3 7 7 _ (by decide)]
  rw [own_t0 4 7 7 _ (by decide)]
  rw [own_t0 5 7 7 _ (by decide)]
  rw [own_t0 6 7 7 _ (by decide)]
  rw [own_t0 7 7 7 _ (by decide)]
  simp only [Int32.zero_add, Int32.add_zero]
theorem own_c7_8 (d0 d1 d2 d3 d4 d5 d6 d7 : Int32) (h0 : 0 ≤ d0.toInt ∧ d0.toInt ≤ 9) (h1 : 0 ≤ d1.toInt ∧ d1.toInt ≤ 9) (h2 : 0 ≤ d2.toInt ∧ d2.toInt ≤ 9) (h3 : 0 ≤ d3.toInt ∧ d3.toInt ≤ 9) (h4 : 0 ≤ d4.toInt ∧ d4.toInt ≤ 9) (h5 : 0 ≤ d5.toInt ∧ d5.toInt ≤ 9) (h6 : 0 ≤ d6.toInt ∧ d6.toInt ≤ 9) (h7 : 0 ≤ d7.toInt ∧ d7.toInt ≤ 9) : own_m 1 [own_b d0, own_b d1, own_b d2, own_b d3, own_b d4, own_b d5, own_b d6, own_b d7] ((8 : Int32) - 1) 0 2 = (((((((F3 0 7 8 [d0, d1, d2, d3, d4, d5, d6, d7] + F3 1 7 8 [d0, d1, d2, d3, d4, d5, d6, d7]) + F3 2 7 8 [d0, d1, d2, d3, d4, d5, d6, d7]) + F3 3 7 8 [d0, d1, d2, d3, d4, d5, d6, d7]) + F3 4 7 8 [d0, d1, d2, d3, d4, d5, d6, d7]) + F3 5 7 8 [d0, d1, d2, d3, d4, d5, d6, d7]) + F3 6 7 8 [d0, d1, d2, d3, d4, d5, d6, d7]) + F3 7 7 8 [d0, d1, d2, d3, d4, d5, d6, d7]) := by
  rw [show (8 : Int32) - 1 = 7 by decide]
  rw [own_ms 0 _ 7 (6) _ 2 1 (own_b d7) (by decide) (by decide) (by rw [show (7 : Int32).toNatClampNeg = 7 by decide]; rfl)]
  rw [own_m]
  rw [own_t0 0 7 8 _ (by decide)]
  rw [own_t0 1 7 8 _ (by decide)]
  rw [own_t0 2 7 8 _ (by decide)]
  rw [own_t0 3 7 8 _ (by decide)]
  rw [own_t0 4 7 8 _ (by decide)]
  rw [own_t0 5 7 8 _ (by decide)]
  rw [own_t0 6 7 8 _ (by decide)]
  rw [own_t2 7 7 8 _ d7 (by decide) (by decide) (by decide) (by rw [show (7 : Int32).toNatClampNeg = 7 by decide]; rfl)]
  rw [own_d2 d7 h7]
  simp only [Int32.zero_add, Int32.add_zero]
theorem own_c8_8 (d0 d1 d2 d3 d4 d5 d6 d7 : Int32) (h0 : 0 ≤ d0.toInt ∧ d0.toInt ≤ 9) (h1 : 0 ≤ d1.toInt ∧ d1.toInt ≤ 9) (h2 : 0 ≤ d2.toInt ∧ d2.toInt ≤ 9) (h3 : 0 ≤ d3.toInt ∧ d3.toInt ≤ 9) (h4 : 0 ≤ d4.toInt ∧ d4.toInt ≤ 9) (h5 : 0 ≤ d5.toInt ∧ d5.toInt ≤ 9) (h6 : 0 ≤ d6.toInt ∧ d6.toInt ≤ 9) (h7 : 0 ≤ d7.toInt ∧ d7.toInt ≤ 9) : own_m 0 [own_b d0, own_b d1, own_b d2, own_b d3, own_b d4, own_b d5, own_b d6, own_b d7] ((8 : Int32) - 1) 0 2 = (((((((F3 0 8 8 [d0, d1, d2, d3, d4, d5, d6, d7] + F3 1 8 8 [d0, d1, d2, d3, d4, d5, d6, d7]) + F3 2 8 8 [d0, d1, d2, d3, d4, d5, d6, d7]) + F3 3 8 8 [d0, d1, d2, d3, d4, d5, d6, d7]) + F3 4 8 8 [d0, d1, d2, d3, d4, d5, d6, d7]) + F3 5 8 8 [d0, d1, d2, d3, d4, d5, d6, d7]) + F3 6 8 8 [d0, d1, d2, d3, d4, d5, d6, d7]) + F3 7 8 8 [d0, d1, d2, d3, d4, d5, d6, d7]) := by
  rw [own_m]
  rw [own_t0 0 8 8 _ (by decide)]
  rw [own_t0 1 8 8 _ (by decide)]
  rw [own_t0 2 8 8 _ (by decide)]
  rw [own_t0 3 8 8 _ (by decide)]
  rw [own_t0 4 8 8 _ (by decide)]
  rw [own_t0 5 8 8 _ (by decide)]
  rw [own_t0 6 8 8 _ (by decide)]
  rw [own_t0 7 8 8 _ (by decide)]
  simp only [Int32.zero_add, Int32.add_zero]
theorem own_sum (d0 d1 d2 d3 d4 d5 d6 d7 f t : Int32) (h0 : 0 ≤ d0.toInt ∧ d0.toInt ≤ 9) (h1 : 0 ≤ d1.toInt ∧ d1.toInt ≤ 9) (h2 : 0 ≤ d2.toInt ∧ d2.toInt ≤ 9) (h3 : 0 ≤ d3.toInt ∧ d3.toInt ≤ 9) (h4 : 0 ≤ d4.toInt ∧ d4.toInt ≤ 9) (h5 : 0 ≤ d5.toInt ∧ d5.toInt ≤ 9) (h6 : 0 ≤ d6.toInt ∧ d6.toInt ≤ 9) (h7 : 0 ≤ d7.toInt ∧ d7.toInt ≤ 9) (hf : 0 ≤ f.toInt ∧ f.toInt ≤ t.toInt ∧ t.toInt ≤ 8) : own_m (t.toInt - f.toInt).toNat [own_b d0, own_b d1, own_b d2, own_b d3, own_b d4, own_b d5, own_b d6, own_b d7] (t - 1) 0 2 = (((((((F3 0 f t [d0, d1, d2, d3, d4, d5, d6, d7] + F3 1 f t [d0, d1, d2, d3, d4, d5, d6, d7]) + F3 2 f t [d0, d1, d2, d3, d4, d5, d6, d7]) + F3 3 f t [d0, d1, d2, d3, d4, d5, d6, d7]) + F3 4 f t [d0, d1, d2, d3, d4, d5, d6, d7]) + F3 5 f t [d0, d1, d2, d3, d4, d5, d6, d7]) + F3 6 f t [d0, d1, d2, d3, d4, d5, d6, d7]) + F3 7 f t [d0, d1, d2, d3, d4, d5, d6, d7]) := by
  rcases own_nine f (by omega) with rfl | rfl | rfl | rfl | rfl | rfl | rfl | rfl | rfl <;> rcases own_nine t (by omega) with rfl | rfl | rfl | rfl | rfl | rfl | rfl | rfl | rfl
  · exact own_c0_0 d0 d1 d2 d3 d4 d5 d6 d7 h0 h1 h2 h3 h4 h5 h6 h7
  · exact own_c0_1 d0 d1 d2 d3 d4 d5 d6 d7 h0 h1 h2 h3 h4 h5 h6 h7
  · exact own_c0_2 d0 d1 d2 d3 d4 d5 d6 d7 h0 h1 h2 h3 h4 h5 h6 h7
  · exact own_c0_3 d0 d1 d2 d3 d4 d5 d6 d7 h0 h1 h2 h3 h4 h5 h6 h7
  · exact own_c0_4 d0 d1 d2 d3 d4 d5 d6 d7 h0 h1 h2 h3 h4 h5 h6 h7
  · exact own_c0_5 d0 d1 d2 d3 d4 d5 d6 d7 h0 h1 h2 h3 h4 h5 h6 h7
  · exact own_c0_6 d0 d1 d2 d3 d4 d5 d6 d7 h0 h1 h2 h3 h4 h5 h6 h7
  · exact own_c0_7 d0 d1 d2 d3 d4 d5 d6 d7 h0 h1 h2 h3 h4 h5 h6 h7
  · exact own_c0_8 d0 d1 d2 d3 d4 d5 d6 d7 h0 h1 h2 h3 h4 h5 h6 h7
  · exact absurd hf.2.1 (by decide)
  · exact own_c1_1 d0 d1 d2 d3 d4 d5 d6 d7 h0 h1 h2 h3 h4 h5 h6 h7
  · exact own_c1_2 d0 d1 d2 d3 d4 d5 d6 d7 h0 h1 h2 h3 h4 h5 h6 h7
  · exact own_c1_3 d0 d1 d2 d3 d4 d5 d6 d7 h0 h1 h2 h3 h4 h5 h6 h7
  · exact own_c1_4 d0 d1 d2 d3 d4 d5 d6 d7 h0 h1 h2 h3 h4 h5 h6 h7
  · exact own_c1_5 d0 d1 d2 d3 d4 d5 d6 d7 h0 h1 h2 h3 h4 h5 h6 h7
  · exact own_c1_6 d0 d1 d2 d3 d4 d5 d6 d7 h0 h1 h2 h3 h4 h5 h6 h7
  · exact own_c1_7 d0 d1 d2 d3 d4 d5 d6 d7 h0 h1 h2 h3 h4 h5 h6 h7
  · exact own_c1_8 d0 d1 d2 d3 d4 d5 d6 d7 h0 h1 h2 h3 h4 h5 h6 h7
  · exact absurd hf.2.1 (by decide)
  · exact absurd hf.2.1 (by decide)
  · exact own_c2_2 d0 d1 d2 d3 d4 d5 d6 d7 h0 h1 h2 h3 h4 h5 h6 h7
  · exact own_c2_3 d0 d1 d2 d3 d4 d5 d6 d7 h0 h1 h2 h3 h4 h5 h6 h7
  · exact own_c2_4 d0 d1 d2 d3 d4 d5 d6 d7 h0 h1 h2 h3 h4 h5 h6 h7
  · exact own_c2_5 d0 d1 d2 d3 d4 d5 d6 d7 h0 h1 h2 h3 h4 h5 h6 h7
  · exact own_c2_6 d0 d1 d2 d3 d4 d5 d6 d7 h0 h1 h2 h3 h4 h5 h6 h7
  · exact own_c2_7 d0 d1 d2 d3 d4 d5 d6 d7 h0 h1 h2 h3 h4 h5 h6 h7
  · exact own_c2_8 d0 d1 d2 d3 d4 d5 d6 d7 h0 h1 h2 h3 h4 h5 h6 h7
  · exact absurd hf.2.1 (by decide)
  · exact absurd hf.2.1 (by decide)
  · exact absurd hf.2.1 (by decide)
  · exact own_c3_3 d0 d1 d2 d3 d4 d5 d6 d7 h0 h1 h2 h3 h4 h5 h6 h7
  · exact own_c3_4 d0 d1 d2 d3 d4 d5 d6 d7 h0 h1 h2 h3 h4 h5 h6 h7
  · exact own_c3_5 d0 d1 d2 d3 d4 d5 d6 d7 h0 h1 h2 h3 h4 h5 h6 h7
  · exact own_c3_6 d0 d1 d2 d3 d4 d5 d6 d7 h0 h1 h2 h3 h4 h5 h6 h7
  · exact own_c3_7 d0 d1 d2 d3 d4 d5 d6 d7 h0 h1 h2 h3 h4 h5 h6 h7
  · exact own_c3_8 d0 d1 d2 d3 d4 d5 d6 d7 h0 h1 h2 h3 h4 h5 h6 h7
  · exact absurd hf.2.1 (by decide)
  · exact absurd hf.2.1 (by decide)
  · exact absurd hf.2.1 (by decide)
  · exact absurd hf.2.1 (by decide)
  · exact own_c4_4 d0 d1 d2 d3 d4 d5 d6 d7 h0 h1 h2 h3 h4 h5 h6 h7
  · exact own_c4_5 d0 d1 d2 d3 d4 d5 d6 d7 h0 h1 h2 h3 h4 h5 h6 h7
  · exact own_c4_6 d0 d1 d2 d3 d4 d5 d6 d7 h0 h1 h2 h3 h4 h5 h6 h7
  · exact own_c4_7 d0 d1 d2 d3 d4 d5 d6 d7 h0 h1 h2 h3 h4 h5 h6 h7
  · exact own_c4_8 d0 d1 d2 d3 d4 d5 d6 d7 h0 h1 h2 h3 h4 h5 h6 h7
  · exact absurd hf.2.1 (by decide)
  · exact absurd hf.2.1 (by decide)
  · exact absurd hf.2.1 (by decide)
  · exact absurd hf.2.1 (by decide)
  · exact absurd hf.2.1 (by decide)
  · exact own_c5_5 d0 d1 d2 d3 d4 d5 d6 d7 h0 h1 h2 h3 h4 h5 h6 h7
  · exact own_c5_6 d0 d1 d2 d3 d4 d5 d6 d7 h0 h1 h2 h3 h4 h5 h6 h7
  · exact own_c5_7 d0 d1 d2 d3 d4 d5 d6 d7 h0 h1 h2 h3 h4 h5 h6 h7
  · exact own_c5_8 d0 d1 d2 d3 d4 d5 d6 d7 h0 h1 h2 h3 h4 h5 h6 h7
  · exact absurd hf.2.1 (by decide)
  · exact absurd hf.2.1 (by decide)
  · exact absurd hf.2.1 (by decide)
  · exact absurd hf.2.1 (by decide)
  · exact absurd hf.2.1 (by decide)
  · exact absurd hf.2.1 (by decide)
  · exact own_c6_6 d0 d1 d2 d3 d4 d5 d6 d7 h0 h1 h2 h3 h4 h5 h6 h7
  · exact own_c6_7 d0 d1 d2 d3 d4 d5 d6 d7 h0 h1 h2 h3 h4 h5 h6 h7
  · exact own_c6_8 d0 d1 d2 d3 d4 d5 d6 d7 h0 h1 h2 h3 h4 h5 h6 h7
  · exact absurd hf.2.1 (by decide)
  · exact absurd hf.2.1 (by decide)
  · exact absurd hf.2.1 (by decide)
  · exact absurd hf.2.1 (by decide)
  · exact absurd hf.2.1 (by decide)
  · exact absurd hf.2.1 (by decide)
  · exact absurd hf.2.1 (by decide)
  · exact own_c7_7 d0 d1 d2 d3 d4 d5 d6 d7 h0 h1 h2 h3 h4 h5 h6 h7
  · exact own_c7_8 d0 d1 d2 d3 d4 d5 d6 d7 h0 h1 h2 h3 h4 h5 h6 h7
  · exact absurd hf.2.1 (by decide)
  · exact absurd hf.2.1 (by decide)
  · exact absurd hf.2.1 (by decide)
  · exact absurd hf.2.1 (by decide)
  · exact absurd hf.2.1 (by decide)
  · exact absurd hf.2.1 (by decide)
  · exact absurd hf.2.1 (by decide)
  · exact absurd hf.2.1 (by decide)
  · exact own_c8_8 d0 d1 d2 d3 d4 d5 d6 d7 h0 h1 h2 h3 h4 h5 h6 h7
theorem own_main (d0 d1 d2 d3 d4 d5 d6 d7 f t : Int32) (h0 : 0 ≤ d0.toInt ∧ d0.toInt ≤ 9) (h1 : 0 ≤ d1.toInt ∧ d1.toInt ≤ 9) (h2 : 0 ≤ d2.toInt ∧ d2.toInt ≤ 9) (h3 : 0 ≤ d3.toInt ∧ d3.toInt ≤ 9) (h4 : 0 ≤ d4.toInt ∧ d4.toInt ≤ 9) (h5 : 0 ≤ d5.toInt ∧ d5.toInt ≤ 9) (h6 : 0 ≤ d6.toInt ∧ d6.toInt ≤ 9) (h7 : 0 ≤ d7.toInt ∧ d7.toInt ≤ 9) (hf : 0 ≤ f.toInt ∧ f.toInt ≤ t.toInt ∧ t.toInt ≤ 8) : own_res f t [own_b d0, own_b d1, own_b d2, own_b d3, own_b d4, own_b d5, own_b d6, own_b d7] = (10 - ((((((((F3 0 f t [d0, d1, d2, d3, d4, d5, d6, d7] + F3 1 f t [d0, d1, d2, d3, d4, d5, d6, d7]) + F3 2 f t [d0, d1, d2, d3, d4, d5, d6, d7]) + F3 3 f t [d0, d1, d2, d3, d4, d5, d6, d7]) + F3 4 f t [d0, d1, d2, d3, d4, d5, d6, d7]) + F3 5 f t [d0, d1, d2, d3, d4, d5, d6, d7]) + F3 6 f t [d0, d1, d2, d3, d4, d5, d6, d7]) + F3 7 f t [d0, d1, d2, d3, d4, d5, d6, d7])) % 10) % 10 := by
  unfold own_res
  rw [own_sum d0 d1 d2 d3 d4 d5 d6 d7 f t h0 h1 h2 h3 h4 h5 h6 h7 hf]
theorem own_ft (x f t : Int32) (hf : f = (x &&& 2147483647) % 9) (ht : t = f + (((x.toUInt32 >>> ((8 : Int32) &&& 31).toUInt32).toInt32) % (9 - f))) : 0 ≤ f.toInt ∧ f.toInt ≤ t.toInt ∧ t.toInt ≤ 8 := by
  have e1 : (x &&& 2147483647).toInt = x.toInt % (2 ^ 31 : Nat) := c_mask x 2147483647 31 (by decide) (by decide)
  have e2 := (c_irem (x &&& 2147483647) 9 9 (by decide)).1 (by omega)
  rw [← hf] at e2
  have k9 : (9 : Int32).toInt = 9 := by decide
  have e3 := c_isub 9 f
  have r3 := rng32 (9 - f)
  rw [k9] at e3
  have e4 := c_iushr x 8 8 (by decide) (by decide)
  have r := rng32 x
  have e5 := (c_iremV ((x.toUInt32 >>> ((8 : Int32) &&& 31).toUInt32).toInt32) (9 - f)).1 (by omega) (by omega)
  have e6 := c_iadd f (((x.toUInt32 >>> ((8 : Int32) &&& 31).toUInt32).toInt32) % (9 - f))
  rw [← ht] at e6
  have r6 := rng32 t
  omega
theorem own_nz (x f : Int32) (hf : f = (x &&& 2147483647) % 9) : (9 : Int32) - f ≠ 0 := by
  have e1 : (x &&& 2147483647).toInt = x.toInt % (2 ^ 31 : Nat) := c_mask x 2147483647 31 (by decide) (by decide)
  have e2 := (c_irem (x &&& 2147483647) 9 9 (by decide)).1 (by omega)
  rw [← hf] at e2
  have k9 : (9 : Int32).toInt = 9 := by decide
  have k0 : (0 : Int32).toInt = 0 := by decide
  have e3 := c_isub 9 f
  have r3 := rng32 (9 - f)
  rw [k9] at e3
  intro q
  rw [q, k0] at e3
  omega
theorem pd_0 : parseMethodDescriptor "(I)I" = some ⟨[.int], some .int⟩ := by decide +kernel
theorem pd_1 : parseMethodDescriptor "([IIII)I" = some ⟨[(.array .int), .int, .int, .int], some .int⟩ := by decide +kernel
theorem pd_2 : parseMethodDescriptor "([BII)I" = some ⟨[(.array .byte), .int, .int], some .int⟩ := by decide +kernel
theorem ef_0 (m : MethodId) (x0 : Int32) (x1 : Int32) (x2 : Int32) (x3 : Int32) (x4 : Int32)  : entryFrame m #[(.int x0), (.int x1), (.int x2), (.int x3), (.int x4)] maxLocals = mkF m 0 #[.val (.int x0), .val (.int x1), .val (.int x2), .val (.int x3), .val (.int x4), .unset, .unset, .unset, .unset, .unset, .unset, .unset] [] := by first | (simp [entryFrame, mkF, argsToLocals, Value.category, maxLocals]; done) | rfl
def Q0 (Z : State) (x0 : Int32) (x1 : Int32) (x2 : Int32) (x3 : Int32) (x4 : Int32) (h0 : Heap) (n0 : Nat) (vE : Option Value) (hE : Heap) (LE : List Loc) : Prop := vE = some (.int (1 : Int32)) ∧ Fr n0 LE
set_option maxRecDepth 65536 in
set_option maxHeartbeats 40000000 in
theorem rm0 (l : Launch) (Z : State) (a0 : Array Value) (hw : ∀ d ∈ tables_1, d.before a0 Z = true) (ws : List Jvm.Cond) (x0 : Int32) (x1 : Int32) (x2 : Int32) (x3 : Int32) (x4 : Int32) (h0 : Heap) (n0 : Nat) (Z0 : n0 ≤ h0.size) :
    MetFree l x (head1 (Jvm.Cond.code x code maxLocals ret :: ws) room_1) (fun a U => a = #[(.int x0), (.int x1), (.int x2), (.int x3), (.int x4)] ∧ Z.Warmed39 U.vm ∧ U.heap = h0) (fun _ _ _ _ _ => True) (fun _ U o U' => ∃ vE LE, o = .returned vE ∧ Q0 Z x0 x1 x2 x3 x4 h0 n0 vE U'.heap LE ∧ FrameEnd U o U' LE room_1.cells room_1.slots) := by
  refine MetFree.of_bodySF (plainFor_of_name pn_0) hisR ?_
  intro p e s m args below meth c s₁ Bd hml0 hP hK
  obtain ⟨rfl, hZ, hh⟩ := hP
  have hx := Bd.exec
  have hby := Bd.bytes
  have hml : c.maxLocals = 12 := hml0
  have hown : s.vm.findClass "com/example/escritural/escritural/boleto/DigitsModulo10PinLaw" = some m.cls := findClass_of_methodNamed Bd.named
  have hnm := (name_of_methodNamed Bd.named Bd.method).1
  have X0 : Stand p l e room_1 s m #[(.int x0), (.int x1), (.int x2), (.int x3), (.int x4)] below meth c s₁ [] 0 0 := Stand.of_body Bd
  have e0 : s₁.heap = h0 := by rw [← hh, Bd.state]; rfl
  have N0 := Fr.nil n0
  have st0 : Steps p.tables e below (s₁.setTop (entryFrame m #[(.int x0), (.int x1), (.int x2), (.int x3), (.int x4)] maxLocals)) (s₁.setTop (mkF m 0 #[.val (.int x0), .val (.int x1), .val (.int x2), .val (.int x3), .val (.int x4), .unset, .unset, .unset, .unset, .unset, .unset, .unset] [])) := castTop (ef_0 m x0 x1 x2 x3 x4) (Steps.refl _)
  have st1 : Steps p.tables e below (s₁.setTop (entryFrame m #[(.int x0), (.int x1), (.int x2), (.int x3), (.int x4)] maxLocals)) (s₁.setTop (mkF m 2 #[.val (.int x0), .val (.int x1), .val (.int x2), .val (.int x3), .val (.int x4), .unset, .unset, .unset, .unset, .unset, .unset, .unset] [(.int (8 : Int32))])) := st0.trans (by
      show Steps p.tables e below (s₁.setTop (mkF m 0 #[.val (.int x0), .val (.int x1), .val (.int x2), .val (.int x3), .val (.int x4), .unset, .unset, .unset, .unset, .unset, .unset, .unset] [])) _
      refine XS.bipush X0.here hx rfl (hb hby at_0) ?_
      exact Steps.refl _)
  obtain ⟨T2, h2, k2, X2, e2, E2, A2, sr2⟩ := newP X0 hx hZ (hw _ (List.mem_of_getElem? (i := 0) rfl)) e0 (g := (mkF m 2 #[.val (.int x0), .val (.int x1), .val (.int x2), .val (.int x3), .val (.int x4), .unset, .unset, .unset, .unset, .unset, .unset, .unset] [(.int (8 : Int32))])) rfl (hb hby at_2) rfl (by decide) (cap := 8) (by decide) (by decide) (by decide) (by decide)
  obtain ⟨b2, g2⟩ : ∃ z, z = h0.size := ⟨_, rfl⟩
  rw [← g2] at A2 sr2
  have g_b2 : n0 ≤ b2 := Nat.le_trans Z0 (Nat.le_of_eq g2.symm)
  have f3 : Arv Z h2 b2 k2 .int (8 : Int32) [(.int (0 : Int32)), (.int (0 : Int32)), (.int (0 : Int32)), (.int (0 : Int32)), (.int (0 : Int32)), (.int (0 : Int32)), (.int (0 : Int32)), (.int (0 : Int32))] (.int (0 : Int32)) := (Arv.new A2 (by decide)).pad (pad_rep [] (.int (0 : Int32)) 8)
  have Z2 : n0 ≤ h2.size := Nat.le_trans Z0 E2.1
  have st4 : Steps p.tables e below (s₁.setTop (entryFrame m #[(.int x0), (.int x1), (.int x2), (.int x3), (.int x4)] maxLocals)) (T2.setTop (mkF m 4 #[.val (.int x0), .val (.int x1), .val (.int x2), .val (.int x3), .val (.int x4), .unset, .unset, .unset, .unset, .unset, .unset, .unset] [(.ref b2)])) := st1.trans (sr2 _ (Steps.refl _))
  have st5 : Steps p.tables e below (s₁.setTop (entryFrame m #[(.int x0), (.int x1), (.int x2), (.int x3), (.int x4)] maxLocals)) (T2.setTop (mkF m 10 #[.val (.int x0), .val (.int x1), .val (.int x2), .val (.int x3), .val (.int x4), .val (.ref b2), .unset, .unset, .unset, .unset, .unset, .unset] [(.int x0), (.int (0 : Int32)), (.ref b2)])) := st4.trans (by
      show Steps p.tables e below (T2.setTop (mkF m 4 #[.val (.int x0), .val (.int x1), .val (.int x2), .val (.int x3), .val (.int x4), .unset, .unset, .unset, .unset, .unset, .unset, .unset] [(.ref b2)])) _
      refine XS.astore X2.here hx rfl (hb hby at_4) rfl rfl (l' := #[.val (.int x0), .val (.int x1), .val (.int x2), .val (.int x3), .val (.int x4), .val (.ref b2), .unset, .unset, .unset, .unset, .unset, .unset]) rfl ?_
      show Steps p.tables e below (T2.setTop (mkF m 6 #[.val (.int x0), .val (.int x1), .val (.int x2), .val (.int x3), .val (.int x4), .val (.ref b2), .unset, .unset, .unset, .unset, .unset, .unset] [])) _
      refine XS.aload X2.here hx rfl (hb hby at_6) rfl rfl ?_
      show Steps p.tables e below (T2.setTop (mkF m 8 #[.val (.int x0), .val (.int x1), .val (.int x2), .val (.int x3), .val (.int x4), .val (.ref b2), .unset, .unset, .unset, .unset, .unset, .unset] [(.ref b2)])) _
      refine XS.iconst X2.here hx rfl (hb hby at_8) ?_
      show Steps p.tables e below (T2.setTop (mkF m 9 #[.val (.int x0), .val (.int x1), .val (.int x2), .val (.int x3), .val (.int x4), .val (.ref b2), .unset, .unset, .unset, .unset, .unset, .unset] [(.int (0 : Int32)), (.ref b2)])) _
      refine XS.iloadN X2.here hx rfl (hb hby at_9) rfl ?_
      exact Steps.refl _)
  obtain ⟨_, _, ⟨T6, L6, k6, n6⟩, -, X6, ⟨Lc6, hQ6, l6, y6, z6⟩, sr6⟩ := Jvm.LawKit.callS X2 hx (y := (⟨"com/example/escritural/escritural/boleto/DigitsModulo10PinLaw", "lo", "(I)I"⟩ : MethodName)) hown (mvT hZ (hw _ (List.mem_of_getElem? (i := 1) rfl))) (mvT hZ (hw _ (List.mem_of_getElem? (i := 2) rfl))) (mvT hZ (hw _ (List.mem_of_getElem? (i := 3) rfl))) (mvT hZ (hw _ (List.mem_of_getElem? (i := 4) rfl))) (by decide) (backOf (W := 2) (rm1 l Z a0 hw [] x0  h2 n0 Z2 ) hZ (hw _ (List.mem_of_getElem? (i := 4) rfl)) (hw _ (List.mem_of_getElem? (i := 3) rfl)) (by decide) (by decide)) (g := (mkF m 10 #[.val (.int x0), .val (.int x1), .val (.int x2), .val (.int x3), .val (.int x4), .val (.ref b2), .unset, .unset, .unset, .unset, .unset, .unset] [(.int x0), (.int (0 : Int32)), (.ref b2)])) rfl (by rw [hml]; rfl) (argsL := [(.int x0)]) (rest := [(.int (0 : Int32)), (.ref b2)]) (lenOf pd_0 rfl) rfl (by show 2 * 0 + _ ≤ _; exact Nat.le_of_eq rfl) (hb hby at_10) (fun _ _ => ⟨rfl, e2, (by decide : 1 + 0 ≤ _), (by decide : 8 + 0 ≤ _)⟩)
  dsimp only [Pt.U, Pt.locs, Pt.cells, Pt.slots] at X6 l6 y6 z6 sr6 hQ6
  subst l6 y6 z6
  obtain ⟨rfl, N6q, hh6⟩ := hQ6
  have N6 := Fr.app N0 N6q
  obtain ⟨LL6, X6, N6⟩ := own_hide X6 N6
  have st7 : Steps p.tables e below (s₁.setTop (entryFrame m #[(.int x0), (.int x1), (.int x2), (.int x3), (.int x4)] maxLocals)) (T6.setTop (mkF m 13 #[.val (.int x0), .val (.int x1), .val (.int x2), .val (.int x3), .val (.int x4), .val (.ref b2), .unset, .unset, .unset, .unset, .unset, .unset] [(.int (F1 x0)), (.int (0 : Int32)), (.ref b2)])) := st5.trans (sr6 _ (Steps.refl _))
  have hd0 := own_lo (x0)
  obtain ⟨d0, e_d0⟩ : ∃ z, z = (F1 x0) := ⟨_, rfl⟩
  rw [← e_d0] at st7
  rw [show F1 x0 = d0 from e_d0.symm] at hd0
  obtain ⟨cl8, Ar8, q8, S8, N8, H8, G8⟩ := id f3
  have hin8 : ¬ ((0 : Int32) < 0 ∨ cl8.slots.size ≤ ((0 : Int32)).toNatClampNeg) := inb_of S8 ⟨by decide, by decide⟩
  obtain ⟨T9, h9, X9, e9, W9, sr9⟩ := stI X6 hx hZ hh6 Ar8 (j := (0 : Int32)) hin8 (g := (mkF m 13 #[.val (.int x0), .val (.int x1), .val (.int x2), .val (.int x3), .val (.int x4), .val (.ref b2), .unset, .unset, .unset, .unset, .unset, .unset] [(.int d0), (.int (0 : Int32)), (.ref b2)])) rfl rfl (hb hby at_13)
  have f10 : Arv Z h9 b2 k2 .int (8 : Int32) [(.int d0), (.int (0 : Int32)), (.int (0 : Int32)), (.int (0 : Int32)), (.int (0 : Int32)), (.int (0 : Int32)), (.int (0 : Int32)), (.int (0 : Int32))] (.int (0 : Int32)) := Arv.set Ar8 q8 S8 N8 H8 G8 rfl W9 0 rfl (Nat.le_of_ble_eq_true rfl)
  have Z9 : n0 ≤ h9.size := Nat.le_trans Z2 (Keep.of_wr W9).1
  have N9 := Fr.snoc X9 N6 g_b2
  obtain ⟨LL9, X9, N9⟩ := own_hide X9 N9
  have st11 : Steps p.tables e below (s₁.setTop (entryFrame m #[(.int x0), (.int x1), (.int x2), (.int x3), (.int x4)] maxLocals)) (T9.setTop (mkF m 14 #[.val (.int x0), .val (.int x1), .val (.int x2), .val (.int x3), .val (.int x4), .val (.ref b2), .unset, .unset, .unset, .unset, .unset, .unset] [])) := st7.trans (sr9 _ (Steps.refl _))
  have st12 : Steps p.tables e below (s₁.setTop (entryFrame m #[(.int x0), (.int x1), (.int x2), (.int x3), (.int x4)] maxLocals)) (T9.setTop (mkF m 18 #[.val (.int x0), .val (.int x1), .val (.int x2), .val (.int x3), .val (.int x4), .val (.ref b2), .unset, .unset, .unset, .unset, .unset, .unset] [(.int x0), (.int (1 : Int32)), (.ref b2)])) := st11.trans (by
      show Steps p.tables e below (T9.setTop (mkF m 14 #[.val (.int x0), .val (.int x1), .val (.int x2), .val (.int x3), .val (.int x4), .val (.ref b2), .unset, .unset, .unset, .unset, .unset, .unset] [])) _
      refine XS.aload X9.here hx rfl (hb hby at_14) rfl rfl ?_
      show Steps p.tables e below (T9.setTop (mkF m 16 #[.val (.int x0), .val (.int x1), .val (.int x2), .val (.int x3), .val (.int x4), .val (.ref b2), .unset, .unset, .unset, .unset, .unset, .unset] [(.ref b2)])) _
      refine XS.iconst X9.here hx rfl (hb hby at_16) ?_
      show Steps p.tables e below (T9.setTop (mkF m 17 #[.val (.int x0), .val (.int x1), .val (.int x2), .val (.int x3), .val (.int x4), .val (.ref b2), .unset, .unset, .unset, .unset, .unset, .unset] [(.int (1 : Int32)), (.ref b2)])) _
      refine XS.iloadN X9.here hx rfl (hb hby at_17) rfl ?_
      exact Steps.refl _)
  obtain ⟨_, _, ⟨T13, L13, k13, n13⟩, -, X13, ⟨Lc13, hQ13, l13, y13, z13⟩, sr13⟩ := Jvm.LawKit.callS X9 hx (y := (⟨"com/example/escritural/escritural/boleto/DigitsModulo10PinLaw", "hi", "(I)I"⟩ : MethodName)) hown (mvT hZ (hw _ (List.mem_of_getElem? (i := 6) rfl))) (mvT hZ (hw _ (List.mem_of_getElem? (i := 7) rfl))) (mvT hZ (hw _ (List.mem_of_getElem? (i := 3) rfl))) (mvT hZ (hw _ (List.mem_of_getElem? (i := 8) rfl))) (by decide) (backOf (W := 2) (rm2 l Z a0 hw [] x0  h9 n0 Z9 ) hZ (hw _ (List.mem_of_getElem? (i := 8) rfl)) (hw _ (List.mem_of_getElem? (i := 3) rfl)) (by decide) (by decide)) (g := (mkF m 18 #[.val (.int x0), .val (.int x1), .val (.int x2), .val (.int x3), .val (.int x4), .val (.ref b2), .unset, .unset, .unset, .unset, .unset, .unset] [(.int x0), (.int (1 : Int32)), (.ref b2)])) rfl (by rw [hml]; rfl) (argsL := [(.int x0)]) (rest := [(.int (1 : Int32)), (.ref b2)]) (lenOf pd_0 rfl) rfl (by show 2 * 0 + _ ≤ _; exact Nat.le_of_eq rfl) (hb hby at_18) (fun _ _ => ⟨rfl, e9, (by decide : 1 + 0 ≤ _), (by decide : 8 + 0 ≤ _)⟩)
  dsimp only [Pt.U, Pt.locs, Pt.cells, Pt.slots] at X13 l13 y13 z13 sr13 hQ13
  subst l13 y13 z13
  obtain ⟨rfl, N13q, hh13⟩ := hQ13
  have N13 := Fr.app N9 N13q
  obtain ⟨LL13, X13, N13⟩ := own_hide X13 N13
  have st14 : Steps p.tables e below (s₁.setTop (entryFrame m #[(.int x0), (.int x1), (.int x2), (.int x3), (.int x4)] maxLocals)) (T13.setTop (mkF m 21 #[.val (.int x0), .val (.int x1), .val (.int x2), .val (.int x3), .val (.int x4), .val (.ref b2), .unset, .unset, .unset, .unset, .unset, .unset] [(.int (F2 x0)), (.int (1 : Int32)), (.ref b2)])) := st12.trans (sr13 _ (Steps.refl _))
  have hd1 := own_hi (x0)
  obtain ⟨d1, e_d1⟩ : ∃ z, z = (F2 x0) := ⟨_, rfl⟩
  rw [← e_d1] at st14
  rw [show F2 x0 = d1 from e_d1.symm] at hd1
  obtain ⟨cl15, Ar15, q15, S15, N15, H15, G15⟩ := id f10
  have hin15 : ¬ ((1 : Int32) < 0 ∨ cl15.slots.size ≤ ((1 : Int32)).toNatClampNeg) := inb_of S15 ⟨by decide, by decide⟩
  obtain ⟨T16, h16, X16, e16, W16, sr16⟩ := stI X13 hx hZ hh13 Ar15 (j := (1 : Int32)) hin15 (g := (mkF m 21 #[.val (.int x0), .val (.int x1), .val (.int x2), .val (.int x3), .val (.int x4), .val (.ref b2), .unset, .unset, .unset, .unset, .unset, .unset] [(.int d1), (.int (1 : Int32)), (.ref b2)])) rfl rfl (hb hby at_21)
  have f17 : Arv Z h16 b2 k2 .int (8 : Int32) [(.int d0), (.int d1), (.int (0 : Int32)), (.int (0 : Int32)), (.int (0 : Int32)), (.int (0 : Int32)), (.int (0 : Int32)), (.int (0 : Int32))] (.int (0 : Int32)) := Arv.set Ar15 q15 S15 N15 H15 G15 rfl W16 1 rfl (Nat.le_of_ble_eq_true rfl)
  have Z16 : n0 ≤ h16.size := Nat.le_trans Z9 (Keep.of_wr W16).1
  have N16 := Fr.snoc X16 N13 g_b2
  obtain ⟨LL16, X16, N16⟩ := own_hide X16 N16
  have st18 : Steps p.tables e below (s₁.setTop (entryFrame m #[(.int x0), (.int x1), (.int x2), (.int x3), (.int x4)] maxLocals)) (T16.setTop (mkF m 22 #[.val (.int x0), .val (.int x1), .val (.int x2), .val (.int x3), .val (.int x4), .val (.ref b2), .unset, .unset, .unset, .unset, .unset, .unset] [])) := st14.trans (sr16 _ (Steps.refl _))
  have st19 : Steps p.tables e below (s₁.setTop (entryFrame m #[(.int x0), (.int x1), (.int x2), (.int x3), (.int x4)] maxLocals)) (T16.setTop (mkF m 26 #[.val (.int x0), .val (.int x1), .val (.int x2), .val (.int x3), .val (.int x4), .val (.ref b2), .unset, .unset, .unset, .unset, .unset, .unset] [(.int x1), (.int (2 : Int32)), (.ref b2)])) := st18.trans (by
      show Steps p.tables e below (T16.setTop (mkF m 22 #[.val (.int x0), .val (.int x1), .val (.int x2), .val (.int x3), .val (.int x4), .val (.ref b2), .unset, .unset, .unset, .unset, .unset, .unset] [])) _
      refine XS.aload X16.here hx rfl (hb hby at_22) rfl rfl ?_
      show Steps p.tables e below (T16.setTop (mkF m 24 #[.val (.int x0), .val (.int x1), .val (.int x2), .val (.int x3), .val (.int x4), .val (.ref b2), .unset, .unset, .unset, .unset, .unset, .unset] [(.ref b2)])) _
      refine XS.iconst X16.here hx rfl (hb hby at_24) ?_
      show Steps p.tables e below (T16.setTop (mkF m 25 #[.val (.int x0), .val (.int x1), .val (.int x2), .val (.int x3), .val (.int x4), .val (.ref b2), .unset, .unset, .unset, .unset, .unset, .unset] [(.int (2 : Int32)), (.ref b2)])) _
      refine XS.iloadN X16.here hx rfl (hb hby at_25) rfl ?_
      exact Steps.refl _)
  obtain ⟨_, _, ⟨T20, L20, k20, n20⟩, -, X20, ⟨Lc20, hQ20, l20, y20, z20⟩, sr20⟩ := Jvm.LawKit.callS X16 hx (y := (⟨"com/example/escritural/escritural/boleto/DigitsModulo10PinLaw", "lo", "(I)I"⟩ : MethodName)) hown (mvT hZ (hw _ (List.mem_of_getElem? (i := 1) rfl))) (mvT hZ (hw _ (List.mem_of_getElem? (i := 2) rfl))) (mvT hZ (hw _ (List.mem_of_getElem? (i := 3) rfl))) (mvT hZ (hw _ (List.mem_of_getElem? (i := 4) rfl))) (by decide) (backOf (W := 2) (rm1 l Z a0 hw [] x1  h16 n0 Z16 ) hZ (hw _ (List.mem_of_getElem? (i := 4) rfl)) (hw _ (List.mem_of_getElem? (i := 3) rfl)) (by decide) (by decide)) (g := (mkF m 26 #[.val (.int x0), .val (.int x1), .val (.int x2), .val (.int x3), .val (.int x4), .val (.ref b2), .unset, .unset, .unset, .unset, .unset, .unset] [(.int x1), (.int (2 : Int32)), (.ref b2)])) rfl (by rw [hml]; rfl) (argsL := [(.int x1)]) (rest := [(.int (2 : Int32)), (.ref b2)]) (lenOf pd_0 rfl) rfl (by show 2 * 0 + _ ≤ _; exact Nat.le_of_eq rfl) (hb hby at_26) (fun _ _ => ⟨rfl, e16, (by decide : 1 + 0 ≤ _), (by decide : 8 + 0 ≤ _)⟩)
  dsimp only [Pt.U, Pt.locs, Pt.cells, Pt.slots] at X20 l20 y20 z20 sr20 hQ20
  subst l20 y20 z20
  obtain ⟨rfl, N20q, hh20⟩ := hQ20
  have N20 := Fr.app N16 N20q
  obtain ⟨LL20, X20, N20⟩ := own_hide X20 N20
  have st21 : Steps p.tables e below (s₁.setTop (entryFrame m #[(.int x0), (.int x1), (.int x2), (.int x3), (.int x4)] maxLocals)) (T20.setTop (mkF m 29 #[.val (.int x0), .val (.int x1), .val (.int x2), .val (.int x3), .val (.int x4), .val (.ref b2), .unset, .unset, .unset, .unset, .unset, .unset] [(.int (F1 x1)), (.int (2 : Int32)), (.ref b2)])) := st19.trans (sr20 _ (Steps.refl _))
  have hd2 := own_lo (x1)
  obtain ⟨d2, e_d2⟩ : ∃ z, z = (F1 x1) := ⟨_, rfl⟩
  rw [← e_d2] at st21
  rw [show F1 x1 = d2 from e_d2.symm] at hd2
  obtain ⟨cl22, Ar22, q22, S22, N22, H22, G22⟩ := id f17
  have hin22 : ¬ ((2 : Int32) < 0 ∨ cl22.slots.size ≤ ((2 : Int32)).toNatClampNeg) := inb_of S22 ⟨by decide, by decide⟩
  obtain ⟨T23, h23, X23, e23, W23, sr23⟩ := stI X20 hx hZ hh20 Ar22 (j := (2 : Int32)) hin22 (g := (mkF m 29 #[.val (.int x0), .val (.int x1), .val (.int x2), .val (.int x3), .val (.int x4), .val (.ref b2), .unset, .unset, .unset, .unset, .unset, .unset] [(.int d2), (.int (2 : Int32)), (.ref b2)])) rfl rfl (hb hby at_29)
  have f24 : Arv Z h23 b2 k2 .int (8 : Int32) [(.int d0), (.int d1), (.int d2), (.int (0 : Int32)), (.int (0 : Int32)), (.int (0 : Int32)), (.int (0 : Int32)), (.int (0 : Int32))] (.int (0 : Int32)) := Arv.set Ar22 q22 S22 N22 H22 G22 rfl W23 2 rfl (Nat.le_of_ble_eq_true rfl)
  have Z23 : n0 ≤ h23.size := Nat.le_trans Z16 (Keep.of_wr W23).1
  have N23 := Fr.snoc X23 N20 g_b2
  obtain ⟨LL23, X23, N23⟩ := own_hide X23 N23
  have st25 : Steps p.tables e below (s₁.setTop (entryFrame m #[(.int x0), (.int x1), (.int x2), (.int x3), (.int x4)] maxLocals)) (T23.setTop (mkF m 30 #[.val (.int x0), .val (.int x1), .val (.int x2), .val (.int x3), .val (.int x4), .val (.ref b2), .unset, .unset, .unset, .unset, .unset, .unset] [])) := st21.trans (sr23 _ (Steps.refl _))
  have st26 : Steps p.tables e below (s₁.setTop (entryFrame m #[(.int x0), (.int x1), (.int x2), (.int x3), (.int x4)] maxLocals)) (T23.setTop (mkF m 34 #[.val (.int x0), .val (.int x1), .val (.int x2), .val (.int x3), .val (.int x4), .val (.ref b2), .unset, .unset, .unset, .unset, .unset, .unset] [(.int x1), (.int (3 : Int32)), (.ref b2)])) := st25.trans (by
      show Steps p.tables e below (T23.setTop (mkF m 30 #[.val (.int x0), .val (.int x1), .val (.int x2), .val (.int x3), .val (.int x4), .val (.ref b2), .unset, .unset, .unset, .unset, .unset, .unset] [])) _
      refine XS.aload X23.here hx rfl (hb hby at_30) rfl rfl ?_
      show Steps p.tables e below (T23.setTop (mkF m 32 #[.val (.int x0), .val (.int x1), .val (.int x2), .val (.int x3), .val (.int x4), .val (.ref b2), .unset, .unset, .unset, .unset, .unset, .unset] [(.ref b2)])) _
      refine XS.iconst X23.here hx rfl (hb hby at_32) ?_
      show Steps p.tables e below (T23.setTop (mkF m 33 #[.val (.int x0), .val (.int x1), .val (.int x2), .val (.int x3), .val (.int x4), .val (.ref b2), .unset, .unset, .unset, .unset, .unset, .unset] [(.int (3 : Int32)), (.ref b2)])) _
      refine XS.iloadN X23.here hx rfl (hb hby at_33) rfl ?_
      exact Steps.refl _)
  obtain ⟨_, _, ⟨T27, L27, k27, n27⟩, -, X27, ⟨Lc27, hQ27, l27, y27, z27⟩, sr27⟩ := Jvm.LawKit.callS X23 hx (y := (⟨"com/example/escritural/escritural/boleto/DigitsModulo10PinLaw", "hi", "(I)I"⟩ : MethodName)) hown (mvT hZ (hw _ (List.mem_of_getElem? (i := 6) rfl))) (mvT hZ (hw _ (List.mem_of_getElem? (i := 7) rfl))) (mvT hZ (hw _ (List.mem_of_getElem? (i := 3) rfl))) (mvT hZ (hw _ (List.mem_of_getElem? (i := 8) rfl))) (by decide) (backOf (W := 2) (rm2 l Z a0 hw [] x1  h23 n0 Z23 ) hZ (hw _ (List.mem_of_getElem? (i := 8) rfl)) (hw _ (List.mem_of_getElem? (i := 3) rfl)) (by decide) (by decide)) (g := (mkF m 34 #[.val (.int x0), .val (.int x1), .val (.int x2), .val (.int x3), .val (.int x4), .val (.ref b2), .unset, .unset, .unset, .unset, .unset, .unset] [(.int x1), (.int (3 : Int32)), (.ref b2)])) rfl (by rw [hml]; rfl) (argsL := [(.int x1)]) (rest := [(.int (3 : Int32)), (.ref b2)]) (lenOf pd_0 rfl) rfl (by show 2 * 0 + _ ≤ _; exact Nat.le_of_eq rfl) (hb hby at_34) (fun _ _ => ⟨rfl, e23, (by decide : 1 + 0 ≤ _), (by decide : 8 + 0 ≤ _)⟩)
  dsimp only [Pt.U, Pt.locs, Pt.cells, Pt.slots] at X27 l27 y27 z27 sr27 hQ27
  subst l27 y27 z27
  obtain ⟨rfl, N27q, hh27⟩ := hQ27
  have N27 := Fr.app N23 N27q
  obtain ⟨LL27, X27, N27⟩ := own_hide X27 N27
  have st28 : Steps p.tables e below (s₁.setTop (entryFrame m #[(.int x0), (.int x1), (.int x2), (.int x3), (.int x4)] maxLocals)) (T27.setTop (mkF m 37 #[.val (.int x0), .val (.int x1), .val (.int x2), .val (.int x3), .val (.int x4), .val (.ref b2), .unset, .unset, .unset, .unset, .unset, .unset] [(.int (F2 x1)), (.int (3 : Int32)), (.ref b2)])) := st26.trans (sr27 _ (Steps.refl _))
  have hd3 := own_hi (x1)
  obtain ⟨d3, e_d3⟩ : ∃ z, z = (F2 x1) := ⟨_, rfl⟩
  rw [← e_d3] at st28
  rw [show F2 x1 = d3 from e_d3.symm] at hd3
  obtain ⟨cl29, Ar29, q29, S29, N29, H29, G29⟩ := id f24
  have hin29 : ¬ ((3 : Int32) < 0 ∨ cl29.slots.size ≤ ((3 : Int32)).toNatClampNeg) := inb_of S29 ⟨by decide, by decide⟩
  obtain ⟨T30, h30, X30, e30, W30, sr30⟩ := stI X27 hx hZ hh27 Ar29 (j := (3 : Int32)) hin29 (g := (mkF m 37 #[.val (.int x0), .val (.int x1), .val (.int x2), .val (.int x3), .val (.int x4), .val (.ref b2), .unset, .unset, .unset, .unset, .unset, .unset] [(.int d3), (.int (3 : Int32)), (.ref b2)])) rfl rfl (hb hby at_37)
  have f31 : Arv Z h30 b2 k2 .int (8 : Int32) [(.int d0), (.int d1), (.int d2), (.int d3), (.int (0 : Int32)), (.int (0 : Int32)), (.int (0 : Int32)), (.int (0 : Int32))] (.int (0 : Int32)) := Arv.set Ar29 q29 S29 N29 H29 G29 rfl W30 3 rfl (Nat.le_of_ble_eq_true rfl)
  have Z30 : n0 ≤ h30.size := Nat.le_trans Z23 (Keep.of_wr W30).1
  have N30 := Fr.snoc X30 N27 g_b2
  obtain ⟨LL30, X30, N30⟩ := own_hide X30 N30
  have st32 : Steps p.tables e below (s₁.setTop (entryFrame m #[(.int x0), (.int x1), (.int x2), (.int x3), (.int x4)] maxLocals)) (T30.setTop (mkF m 38 #[.val (.int x0), .val (.int x1), .val (.int x2), .val (.int x3), .val (.int x4), .val (.ref b2), .unset, .unset, .unset, .unset, .unset, .unset] [])) := st28.trans (sr30 _ (Steps.refl _))
  have st33 : Steps p.tables e below (s₁.setTop (entryFrame m #[(.int x0), (.int x1), (.int x2), (.int x3), (.int x4)] maxLocals)) (T30.setTop (mkF m 42 #[.val (.int x0), .val (.int x1), .val (.int x2), .val (.int x3), .val (.int x4), .val (.ref b2), .unset, .unset, .unset, .unset, .unset, .unset] [(.int x2), (.int (4 : Int32)), (.ref b2)])) := st32.trans (by
      show Steps p.tables e below (T30.setTop (mkF m 38 #[.val (.int x0), .val (.int x1), .val (.int x2), .val (.int x3), .val (.int x4), .val (.ref b2), .unset, .unset, .unset, .unset, .unset, .unset] [])) _
      refine XS.aload X30.here hx rfl (hb hby at_38) rfl rfl ?_
      show Steps p.tables e below (T30.setTop (mkF m 40 #[.val (.int x0), .val (.int x1), .val (.int x2), .val (.int x3), .val (.int x4), .val (.ref b2), .unset, .unset, .unset, .unset, .unset, .unset] [(.ref b2)])) _
      refine XS.iconst X30.here hx rfl (hb hby at_40) ?_
      show Steps p.tables e below (T30.setTop (mkF m 41 #[.val (.int x0), .val (.int x1), .val (.int x2), .val (.int x3), .val (.int x4), .val (.ref b2), .unset, .unset, .unset, .unset, .unset, .unset] [(.int (4 : Int32)), (.ref b2)])) _
      refine XS.iloadN X30.here hx rfl (hb hby at_41) rfl ?_
      exact Steps.refl _)
  obtain ⟨_, _, ⟨T34, L34, k34, n34⟩, -, X34, ⟨Lc34, hQ34, l34, y34, z34⟩, sr34⟩ := Jvm.LawKit.callS X30 hx (y := (⟨"com/example/escritural/escritural/boleto/DigitsModulo10PinLaw", "lo", "(I)I"⟩ : MethodName)) hown (mvT hZ (hw _ (List.mem_of_getElem? (i := 1) rfl))) (mvT hZ (hw _ (List.mem_of_getElem? (i := 2) rfl))) (mvT hZ (hw _ (List.mem_of_getElem? (i := 3) rfl))) (mvT hZ (hw _ (List.mem_of_getElem? (i := 4) rfl))) (by decide) (backOf (W := 2) (rm1 l Z a0 hw [] x2  h30 n0 Z30 ) hZ (hw _ (List.mem_of_getElem? (i := 4) rfl)) (hw _ (List.mem_of_getElem? (i := 3) rfl)) (by decide) (by decide)) (g := (mkF m 42 #[.val (.int x0), .val (.int x1), .val (.int x2), .val (.int x3), .val (.int x4), .val (.ref b2), .unset, .unset, .unset, .unset, .unset, .unset] [(.int x2), (.int (4 : Int32)), (.ref b2)])) rfl (by rw [hml]; rfl) (argsL := [(.int x2)]) (rest := [(.int (4 : Int32)), (.ref b2)]) (lenOf pd_0 rfl) rfl (by show 2 * 0 + _ ≤ _; exact Nat.le_of_eq rfl) (hb hby at_42) (fun _ _ => ⟨rfl, e30, (by decide : 1 + 0 ≤ _), (by decide : 8 + 0 ≤ _)⟩)
  dsimp only [Pt.U, Pt.locs, Pt.cells, Pt.slots] at X34 l34 y34 z34 sr34 hQ34
  subst l34 y34 z34
  obtain ⟨rfl, N34q, hh34⟩ := hQ34
  have N34 := Fr.app N30 N34q
  obtain ⟨LL34, X34, N34⟩ := own_hide X34 N34
  have st35 : Steps p.tables e below (s₁.setTop (entryFrame m #[(.int x0), (.int x1), (.int x2), (.int x3), (.int x4)] maxLocals)) (T34.setTop (mkF m 45 #[.val (.int x0), .val (.int x1), .val (.int x2), .val (.int x3), .val (.int x4), .val (.ref b2), .unset, .unset, .unset, .unset, .unset, .unset] [(.int (F1 x2)), (.int (4 : Int32)), (.ref b2)])) := st33.trans (sr34 _ (Steps.refl _))
  have hd4 := own_lo (x2)
  obtain ⟨d4, e_d4⟩ : ∃ z, z = (F1 x2) := ⟨_, rfl⟩
  rw [← e_d4] at st35
  rw [show F1 x2 = d4 from e_d4.symm] at hd4
  obtain ⟨cl36, Ar36, q36, S36, N36, H36, G36⟩ := id f31
  have hin36 : ¬ ((4 : Int32) < 0 ∨ cl36.slots.size ≤ ((4 : Int32)).toNatClampNeg) := inb_of S36 ⟨by decide, by decide⟩
  obtain ⟨T37, h37, X37, e37, W37, sr37⟩ := stI X34 hx hZ hh34 Ar36 (j := (4 : Int32)) hin36 (g := (mkF m 45 #[.val (.int x0), .val (.int x1), .val (.int x2), .val (.int x3), .val (.int x4), .val (.ref b2), .unset, .unset, .unset, .unset, .unset, .unset] [(.int d4), (.int (4 : Int32)), (.ref b2)])) rfl rfl (hb hby at_45)
  have f38 : Arv Z h37 b2 k2 .int (8 : Int32) [(.int d0), (.int d1), (.int d2), (.int d3), (.int d4), (.int (0 : Int32)), (.int (0 : Int32)), (.int (0 : Int32))] (.int (0 : Int32)) := Arv.set Ar36 q36 S36 N36 H36 G36 rfl W37 4 rfl (Nat.le_of_ble_eq_true rfl)
  have Z37 : n0 ≤ h37.size := Nat.le_trans Z30 (Keep.of_wr W37).1
  have N37 := Fr.snoc X37 N34 g_b2
  obtain ⟨LL37, X37, N37⟩ := own_hide X37 N37
  have st39 : Steps p.tables e below (s₁.setTop (entryFrame m #[(.int x0), (.int x1), (.int x2), (.int x3), (.int x4)] maxLocals)) (T37.setTop (mkF m 46 #[.val (.int x0), .val (.int x1), .val (.int x2), .val (.int x3), .val (.int x4), .val (.ref b2), .unset, .unset, .unset, .unset, .unset, .unset] [])) := st35.trans (sr37 _ (Steps.refl _))
  have st40 : Steps p.tables e below (s₁.setTop (entryFrame m #[(.int x0), (.int x1), (.int x2), (.int x3), (.int x4)] maxLocals)) (T37.setTop (mkF m 50 #[.val (.int x0), .val (.int x1), .val (.int x2), .val (.int x3), .val (.int x4), .val (.ref b2), .unset, .unset, .unset, .unset, .unset, .unset] [(.int x2), (.int (5 : Int32)), (.ref b2)])) := st39.trans (by
      show Steps p.tables e below (T37.setTop (mkF m 46 #[.val (.int x0), .val (.int x1), .val (.int x2), .val (.int x3), .val (.int x4), .val (.ref b2), .unset, .unset, .unset, .unset, .unset, .unset] [])) _
      refine XS.aload X37.here hx rfl (hb hby at_46) rfl rfl ?_
      show Steps p.tables e below (T37.setTop (mkF m 48 #[.val (.int x0), .val (.int x1), .val (.int x2), .val (.int x3), .val (.int x4), .val (.ref b2), .unset, .unset, .unset, .unset, .unset, .unset] [(.ref b2)])) _
      refine XS.iconst X37.here hx rfl (hb hby at_48) ?_
      show Steps p.tables e below (T37.setTop (mkF m 49 #[.val (.int x0), .val (.int x1), .val (.int x2), .val (.int x3), .val (.int x4), .val (.ref b2), .unset, .unset, .unset, .unset, .unset, .unset] [(.int (5 : Int32)), (.ref b2)])) _
      refine XS.iloadN X37.here hx rfl (hb hby at_49) rfl ?_
      exact Steps.refl _)
  obtain ⟨_, _, ⟨T41, L41, k41, n41⟩, -, X41, ⟨Lc41, hQ41, l41, y41, z41⟩, sr41⟩ := Jvm.LawKit.callS X37 hx (y := (⟨"com/example/escritural/escritural/boleto/DigitsModulo10PinLaw", "hi", "(I)I"⟩ : MethodName)) hown (mvT hZ (hw _ (List.mem_of_getElem? (i := 6) rfl))) (mvT hZ (hw _ (List.mem_of_getElem? (i := 7) rfl))) (mvT hZ (hw _ (List.mem_of_getElem? (i := 3) rfl))) (mvT hZ (hw _ (List.mem_of_getElem? (i := 8) rfl))) (by decide) (backOf (W := 2) (rm2 l Z a0 hw [] x2  h37 n0 Z37 ) hZ (hw _ (List.mem_of_getElem? (i := 8) rfl)) (hw _ (List.mem_of_getElem? (i := 3) rfl)) (by decide) (by decide)) (g := (mkF m 50 #[.val (.int x0), .val (.int x1), .val (.int x2), .val (.int x3), .val (.int x4), .val (.ref b2), .unset, .unset, .unset, .unset, .unset, .unset] [(.int x2), (.int (5 : Int32)), (.ref b2)])) rfl (by rw [hml]; rfl) (argsL := [(.int x2)]) (rest := [(.int (5 : Int32)), (.ref b2)]) (lenOf pd_0 rfl) rfl (by show 2 * 0 + _ ≤ _; exact Nat.le_of_eq rfl) (hb hby at_50) (fun _ _ => ⟨rfl, e37, (by decide : 1 + 0 ≤ _), (by decide : 8 + 0 ≤ _)⟩)
  dsimp only [Pt.U, Pt.locs, Pt.cells, Pt.slots] at X41 l41 y41 z41 sr41 hQ41
  subst l41 y41 z41
  obtain ⟨rfl, N41q, hh41⟩ := hQ41
  have N41 := Fr.app N37 N41q
  obtain ⟨LL41, X41, N41⟩ := own_hide X41 N41
  have st42 : Steps p.tables e below (s₁.setTop (entryFrame m #[(.int x0), (.int x1), (.int x2), (.int x3), (.int x4)] maxLocals)) (T41.setTop (mkF m 53 #[.val (.int x0), .val (.int x1), .val (.int x2), .val (.int x3), .val (.int x4), .val (.ref b2), .unset, .unset, .unset, .unset, .unset, .unset] [(.int (F2 x2)), (.int (5 : Int32)), (.ref b2)])) := st40.trans (sr41 _ (Steps.refl _))
  have hd5 := own_hi (x2)
  obtain ⟨d5, e_d5⟩ : ∃ z, z = (F2 x2) := ⟨_, rfl⟩
  rw [← e_d5] at st42
  rw [show F2 x2 = d5 from e_d5.symm] at hd5
  obtain ⟨cl43, Ar43, q43, S43, N43, H43, G43⟩ := id f38
  have hin43 : ¬ ((5 : Int32) < 0 ∨ cl43.slots.size ≤ ((5 : Int32)).toNatClampNeg) := inb_of S43 ⟨by decide, by decide⟩
  obtain ⟨T44, h44, X44, e44, W44, sr44⟩ := stI X41 hx hZ hh41 Ar43 (j := (5 : Int32)) hin43 (g := (mkF m 53 #[.val (.int x0), .val (.int x1), .val (.int x2), .val (.int x3), .val (.int x4), .val (.ref b2), .unset, .unset, .unset, .unset, .unset, .unset] [(.int d5), (.int (5 : Int32)), (.ref b2)])) rfl rfl (hb hby at_53)
  have f45 : Arv Z h44 b2 k2 .int (8 : Int32) [(.int d0), (.int d1), (.int d2), (.int d3), (.int d4), (.int d5), (.int (0 : Int32)), (.int (0 : Int32))] (.int (0 : Int32)) := Arv.set Ar43 q43 S43 N43 H43 G43 rfl W44 5 rfl (Nat.le_of_ble_eq_true rfl)
  have Z44 : n0 ≤ h44.size := Nat.le_trans Z37 (Keep.of_wr W44).1
  have N44 := Fr.snoc X44 N41 g_b2
  obtain ⟨LL44, X44, N44⟩ := own_hide X44 N44
  have st46 : Steps p.tables e below (s₁.setTop (entryFrame m #[(.int x0), (.int x1), (.int x2), (.int x3), (.int x4)] maxLocals)) (T44.setTop (mkF m 54 #[.val (.int x0), .val (.int x1), .val (.int x2), .val (.int x3), .val (.int x4), .val (.ref b2), .unset, .unset, .unset, .unset, .unset, .unset] [])) := st42.trans (sr44 _ (Steps.refl _))
  have st47 : Steps p.tables e below (s₁.setTop (entryFrame m #[(.int x0), (.int x1), (.int x2), (.int x3), (.int x4)] maxLocals)) (T44.setTop (mkF m 59 #[.val (.int x0), .val (.int x1), .val (.int x2), .val (.int x3), .val (.int x4), .val (.ref b2), .unset, .unset, .unset, .unset, .unset, .unset] [(.int x3), (.int (6 : Int32)), (.ref b2)])) := st46.trans (by
      show Steps p.tables e below (T44.setTop (mkF m 54 #[.val (.int x0), .val (.int x1), .val (.int x2), .val (.int x3), .val (.int x4), .val (.ref b2), .unset, .unset, .unset, .unset, .unset, .unset] [])) _
      refine XS.aload X44.here hx rfl (hb hby at_54) rfl rfl ?_
      show Steps p.tables e below (T44.setTop (mkF m 56 #[.val (.int x0), .val (.int x1), .val (.int x2), .val (.int x3), .val (.int x4), .val (.ref b2), .unset, .unset, .unset, .unset, .unset, .unset] [(.ref b2)])) _
      refine XS.bipush X44.here hx rfl (hb hby at_56) ?_
      show Steps p.tables e below (T44.setTop (mkF m 58 #[.val (.int x0), .val (.int x1), .val (.int x2), .val (.int x3), .val (.int x4), .val (.ref b2), .unset, .unset, .unset, .unset, .unset, .unset] [(.int (6 : Int32)), (.ref b2)])) _
      refine XS.iloadN X44.here hx rfl (hb hby at_58) rfl ?_
      exact Steps.refl _)
  obtain ⟨_, _, ⟨T48, L48, k48, n48⟩, -, X48, ⟨Lc48, hQ48, l48, y48, z48⟩, sr48⟩ := Jvm.LawKit.callS X44 hx (y := (⟨"com/example/escritural/escritural/boleto/DigitsModulo10PinLaw", "lo", "(I)I"⟩ : MethodName)) hown (mvT hZ (hw _ (List.mem_of_getElem? (i := 1) rfl))) (mvT hZ (hw _ (List.mem_of_getElem? (i := 2) rfl))) (mvT hZ (hw _ (List.mem_of_getElem? (i := 3) rfl))) (mvT hZ (hw _ (List.mem_of_getElem? (i := 4) rfl))) (by decide) (backOf (W := 2) (rm1 l Z a0 hw [] x3  h44 n0 Z44 ) hZ (hw _ (List.mem_of_getElem? (i := 4) rfl)) (hw _ (List.mem_of_getElem? (i := 3) rfl)) (by decide) (by decide)) (g := (mkF m 59 #[.val (.int x0), .val (.int x1), .val (.int x2), .val (.int x3), .val (.int x4), .val (.ref b2), .unset, .unset, .unset, .unset, .unset, .unset] [(.int x3), (.int (6 : Int32)), (.ref b2)])) rfl (by rw [hml]; rfl) (argsL := [(.int x3)]) (rest := [(.int (6 : Int32)), (.ref b2)]) (lenOf pd_0 rfl) rfl (by show 2 * 0 + _ ≤ _; exact Nat.le_of_eq rfl) (hb hby at_59) (fun _ _ => ⟨rfl, e44, (by decide : 1 + 0 ≤ _), (by decide : 8 + 0 ≤ _)⟩)
  dsimp only [Pt.U, Pt.locs, Pt.cells, Pt.slots] at X48 l48 y48 z48 sr48 hQ48
  subst l48 y48 z48
  obtain ⟨rfl, N48q, hh48⟩ := hQ48
  have N48 := Fr.app N44 N48q
  obtain ⟨LL48, X48, N48⟩ := own_hide X48 N48
  have st49 : Steps p.tables e below (s₁.setTop (entryFrame m #[(.int x0), (.int x1), (.int x2), (.int x3), (.int x4)] maxLocals)) (T48.setTop (mkF m 62 #[.val (.int x0), .val (.int x1), .val (.int x2), .val (.int x3), .val (.int x4), .val (.ref b2), .unset, .unset, .unset, .unset, .unset, .unset] [(.int (F1 x3)), (.int (6 : Int32)), (.ref b2)])) := st47.trans (sr48 _ (Steps.refl _))
  have hd6 := own_lo (x3)
  obtain ⟨d6, e_d6⟩ : ∃ z, z = (F1 x3) := ⟨_, rfl⟩
  rw [← e_d6] at st49
  rw [show F1 x3 = d6 from e_d6.symm] at hd6
  obtain ⟨cl50, Ar50, q50, S50, N50, H50, G50⟩ := id f45
  have hin50 : ¬ ((6 : Int32) < 0 ∨ cl50.slots.size ≤ ((6 : Int32)).toNatClampNeg) := inb_of S50 ⟨by decide, by decide⟩
  obtain ⟨T51, h51, X51, e51, W51, sr51⟩ := stI X48 hx hZ hh48 Ar50 (j := (6 : Int32)) hin50 (g := (mkF m 62 #[.val (.int x0), .val (.int x1), .val (.int x2), .val (.int x3), .val (.int x4), .val (.ref b2), .unset, .unset, .unset, .unset, .unset, .unset] [(.int d6), (.int (6 : Int32)), (.ref b2)])) rfl rfl (hb hby at_62)
  have f52 : Arv Z h51 b2 k2 .int (8 : Int32) [(.int d0), (.int d1), (.int d2), (.int d3), (.int d4), (.int d5), (.int d6), (.int (0 : Int32))] (.int (0 : Int32)) := Arv.set Ar50 q50 S50 N50 H50 G50 rfl W51 6 rfl (Nat.le_of_ble_eq_true rfl)
  have Z51 : n0 ≤ h51.size := Nat.le_trans Z44 (Keep.of_wr W51).1
  have N51 := Fr.snoc X51 N48 g_b2
  obtain ⟨LL51, X51, N51⟩ := own_hide X51 N51
  have st53 : Steps p.tables e below (s₁.setTop (entryFrame m #[(.int x0), (.int x1), (.int x2), (.int x3), (.int x4)] maxLocals)) (T51.setTop (mkF m 63 #[.val (.int x0), .val (.int x1), .val (.int x2), .val (.int x3), .val (.int x4), .val (.ref b2), .unset, .unset, .unset, .unset, .unset, .unset] [])) := st49.trans (sr51 _ (Steps.refl _))
  have st54 : Steps p.tables e below (s₁.setTop (entryFrame m #[(.int x0), (.int x1), (.int x2), (.int x3), (.int x4)] maxLocals)) (T51.setTop (mkF m 68 #[.val (.int x0), .val (.int x1), .val (.int x2), .val (.int x3), .val (.int x4), .val (.ref b2), .unset, .unset, .unset, .unset, .unset, .unset] [(.int x3), (.int (7 : Int32)), (.ref b2)])) := st53.trans (by
      show Steps p.tables e below (T51.setTop (mkF m 63 #[.val (.int x0), .val (.int x1), .val (.int x2), .val (.int x3), .val (.int x4), .val (.ref b2), .unset, .unset, .unset, .unset, .unset, .unset] [])) _
      refine XS.aload X51.here hx rfl (hb hby at_63) rfl rfl ?_
      show Steps p.tables e below (T51.setTop (mkF m 65 #[.val (.int x0), .val (.int x1), .val (.int x2), .val (.int x3), .val (.int x4), .val (.ref b2), .unset, .unset, .unset, .unset, .unset, .unset] [(.ref b2)])) _
      refine XS.bipush X51.here hx rfl (hb hby at_65) ?_
      show Steps p.tables e below (T51.setTop (mkF m 67 #[.val (.int x0), .val (.int x1), .val (.int x2), .val (.int x3), .val (.int x4), .val (.ref b2), .unset, .unset, .unset, .unset, .unset, .unset] [(.int (7 : Int32)), (.ref b2)])) _
      refine XS.iloadN X51.here hx rfl (hb hby at_67) rfl ?_
      exact Steps.refl _)
  obtain ⟨_, _, ⟨T55, L55, k55, n55⟩, -, X55, ⟨Lc55, hQ55, l55, y55, z55⟩, sr55⟩ := Jvm.LawKit.callS X51 hx (y := (⟨"com/example/escritural/escritural/boleto/DigitsModulo10PinLaw", "hi", "(I)I"⟩ : MethodName)) hown (mvT hZ (hw _ (List.mem_of_getElem? (i := 6) rfl))) (mvT hZ (hw _ (List.mem_of_getElem? (i := 7) rfl))) (mvT hZ (hw _ (List.mem_of_getElem? (i := 3) rfl))) (mvT hZ (hw _ (List.mem_of_getElem? (i := 8) rfl))) (by decide) (backOf (W := 2) (rm2 l Z a0 hw [] x3  h51 n0 Z51 ) hZ (hw _ (List.mem_of_getElem? (i := 8) rfl)) (hw _ (List.mem_of_getElem? (i := 3) rfl)) (by decide) (by decide)) (g := (mkF m 68 #[.val (.int x0), .val (.int x1), .val (.int x2), .val (.int x3), .val (.int x4), .val (.ref b2), .unset, .unset, .unset, .unset, .unset, .unset] [(.int x3), (.int (7 : Int32)), (.ref b2)])) rfl (by rw [hml]; rfl) (argsL := [(.int x3)]) (rest := [(.int (7 : Int32)), (.ref b2)]) (lenOf pd_0 rfl) rfl (by show 2 * 0 + _ ≤ _; exact Nat.le_of_eq rfl) (hb hby at_68) (fun _ _ => ⟨rfl, e51, (by decide : 1 + 0 ≤ _), (by decide : 8 + 0 ≤ _)⟩)
  dsimp only [Pt.U, Pt.locs, Pt.cells, Pt.slots] at X55 l55 y55 z55 sr55 hQ55
  subst l55 y55 z55
  obtain ⟨rfl, N55q, hh55⟩ := hQ55
  have N55 := Fr.app N51 N55q
  obtain ⟨LL55, X55, N55⟩ := own_hide X55 N55
  have st56 : Steps p.tables e below (s₁.setTop (entryFrame m #[(.int x0), (.int x1), (.int x2), (.int x3), (.int x4)] maxLocals)) (T55.setTop (mkF m 71 #[.val (.int x0), .val (.int x1), .val (.int x2), .val (.int x3), .val (.int x4), .val (.ref b2), .unset, .unset, .unset, .unset, .unset, .unset] [(.int (F2 x3)), (.int (7 : Int32)), (.ref b2)])) := st54.trans (sr55 _ (Steps.refl _))
  have hd7 := own_hi (x3)
  obtain ⟨d7, e_d7⟩ : ∃ z, z = (F2 x3) := ⟨_, rfl⟩
  rw [← e_d7] at st56
  rw [show F2 x3 = d7 from e_d7.symm] at hd7
  obtain ⟨cl57, Ar57, q57, S57, N57, H57, G57⟩ := id f52
  have hin57 : ¬ ((7 : Int32) < 0 ∨ cl57.slots.size ≤ ((7 : Int32)).toNatClampNeg) := inb_of S57 ⟨by decide, by decide⟩
  obtain ⟨T58, h58, X58, e58, W58, sr58⟩ := stI X55 hx hZ hh55 Ar57 (j := (7 : Int32)) hin57 (g := (mkF m 71 #[.val (.int x0), .val (.int x1), .val (.int x2), .val (.int x3), .val (.int x4), .val (.ref b2), .unset, .unset, .unset, .unset, .unset, .unset] [(.int d7), (.int (7 : Int32)), (.ref b2)])) rfl rfl (hb hby at_71)
  have f59 : Arv Z h58 b2 k2 .int (8 : Int32) [(.int d0), (.int d1), (.int d2), (.int d3), (.int d4), (.int d5), (.int d6), (.int d7)] (.int (0 : Int32)) := Arv.set Ar57 q57 S57 N57 H57 G57 rfl W58 7 rfl (Nat.le_of_ble_eq_true rfl)
  have Z58 : n0 ≤ h58.size := Nat.le_trans Z51 (Keep.of_wr W58).1
  have N58 := Fr.snoc X58 N55 g_b2
  obtain ⟨LL58, X58, N58⟩ := own_hide X58 N58
  have st60 : Steps p.tables e below (s₁.setTop (entryFrame m #[(.int x0), (.int x1), (.int x2), (.int x3), (.int x4)] maxLocals)) (T58.setTop (mkF m 72 #[.val (.int x0), .val (.int x1), .val (.int x2), .val (.int x3), .val (.int x4), .val (.ref b2), .unset, .unset, .unset, .unset, .unset, .unset] [])) := st56.trans (sr58 _ (Steps.refl _))
  have st61 : Steps p.tables e below (s₁.setTop (entryFrame m #[(.int x0), (.int x1), (.int x2), (.int x3), (.int x4)] maxLocals)) (T58.setTop (mkF m 74 #[.val (.int x0), .val (.int x1), .val (.int x2), .val (.int x3), .val (.int x4), .val (.ref b2), .unset, .unset, .unset, .unset, .unset, .unset] [(.int (8 : Int32))])) := st60.trans (by
      show Steps p.tables e below (T58.setTop (mkF m 72 #[.val (.int x0), .val (.int x1), .val (.int x2), .val (.int x3), .val (.int x4), .val (.ref b2), .unset, .unset, .unset, .unset, .unset, .unset] [])) _
      refine XS.bipush X58.here hx rfl (hb hby at_72) ?_
      exact Steps.refl _)
  obtain ⟨T62, h62, k62, X62, e62, E62, A62, sr62⟩ := newP X58 hx hZ (hw _ (List.mem_of_getElem? (i := 9) rfl)) e58 (g := (mkF m 74 #[.val (.int x0), .val (.int x1), .val (.int x2), .val (.int x3), .val (.int x4), .val (.ref b2), .unset, .unset, .unset, .unset, .unset, .unset] [(.int (8 : Int32))])) rfl (hb hby at_74) rfl (by decide) (cap := 8) (by decide) (by decide) (by decide) (by decide)
  obtain ⟨b62, g62⟩ : ∃ z, z = h58.size := ⟨_, rfl⟩
  rw [← g62] at A62 sr62
  have g_b62 : n0 ≤ b62 := Nat.le_trans Z58 (Nat.le_of_eq g62.symm)
  have ne_b2_b62 : b2 ≠ b62 := Nat.ne_of_lt (Nat.lt_of_lt_of_le f59.lt (Nat.le_of_eq g62.symm))
  have f63 : Arv Z h62 b2 k2 .int (8 : Int32) [(.int d0), (.int d1), (.int d2), (.int d3), (.int d4), (.int d5), (.int d6), (.int d7)] (.int (0 : Int32)) := f59.ext E62
  have f64 : Arv Z h62 b62 k62 .byte (8 : Int32) [(.int (0 : Int32)), (.int (0 : Int32)), (.int (0 : Int32)), (.int (0 : Int32)), (.int (0 : Int32)), (.int (0 : Int32)), (.int (0 : Int32)), (.int (0 : Int32))] (.int (0 : Int32)) := (Arv.new A62 (by decide)).pad (pad_rep [] (.int (0 : Int32)) 8)
  have Z62 : n0 ≤ h62.size := Nat.le_trans Z58 E62.1
  have st65 : Steps p.tables e below (s₁.setTop (entryFrame m #[(.int x0), (.int x1), (.int x2), (.int x3), (.int x4)] maxLocals)) (T62.setTop (mkF m 76 #[.val (.int x0), .val (.int x1), .val (.int x2), .val (.int x3), .val (.int x4), .val (.ref b2), .unset, .unset, .unset, .unset, .unset, .unset] [(.ref b62)])) := st61.trans (sr62 _ (Steps.refl _))
  obtain ⟨cl66, Ar66, q66, S66, N66, H66, G66⟩ := id f63
  have hin66 : ¬ ((0 : Int32) < 0 ∨ cl66.slots.size ≤ ((0 : Int32)).toNatClampNeg) := inb_of S66 ⟨by decide, by decide⟩
  have hat66 : cl66.slots[((0 : Int32)).toNatClampNeg]? = some (.int d0) := H66.at hin66 rfl
  have st67 : Steps p.tables e below (s₁.setTop (entryFrame m #[(.int x0), (.int x1), (.int x2), (.int x3), (.int x4)] maxLocals)) (T62.setTop (mkF m 89 #[.val (.int x0), .val (.int x1), .val (.int x2), .val (.int x3), .val (.int x4), .val (.ref b2), .val (.ref b62), .unset, .unset, .unset, .unset, .unset] [(.int (((48 : Int32) + d0).toInt8.toInt32)), (.int (0 : Int32)), (.ref b62)])) := st65.trans (by
      show Steps p.tables e below (T62.setTop (mkF m 76 #[.val (.int x0), .val (.int x1), .val (.int x2), .val (.int x3), .val (.int x4), .val (.ref b2), .unset, .unset, .unset, .unset, .unset, .unset] [(.ref b62)])) _
      refine XS.astore X62.here hx rfl (hb hby at_76) rfl rfl (l' := #[.val (.int x0), .val (.int x1), .val (.int x2), .val (.int x3), .val (.int x4), .val (.ref b2), .val (.ref b62), .unset, .unset, .unset, .unset, .unset]) rfl ?_
      show Steps p.tables e below (T62.setTop (mkF m 78 #[.val (.int x0), .val (.int x1), .val (.int x2), .val (.int x3), .val (.int x4), .val (.ref b2), .val (.ref b62), .unset, .unset, .unset, .unset, .unset] [])) _
      refine XS.aload X62.here hx rfl (hb hby at_78) rfl rfl ?_
      show Steps p.tables e below (T62.setTop (mkF m 80 #[.val (.int x0), .val (.int x1), .val (.int x2), .val (.int x3), .val (.int x4), .val (.ref b2), .val (.ref b62), .unset, .unset, .unset, .unset, .unset] [(.ref b62)])) _
      refine XS.iconst X62.here hx rfl (hb hby at_80) ?_
      show Steps p.tables e below (T62.setTop (mkF m 81 #[.val (.int x0), .val (.int x1), .val (.int x2), .val (.int x3), .val (.int x4), .val (.ref b2), .val (.ref b62), .unset, .unset, .unset, .unset, .unset] [(.int (0 : Int32)), (.ref b62)])) _
      refine XS.bipush X62.here hx rfl (hb hby at_81) ?_
      show Steps p.tables e below (T62.setTop (mkF m 83 #[.val (.int x0), .val (.int x1), .val (.int x2), .val (.int x3), .val (.int x4), .val (.ref b2), .val (.ref b62), .unset, .unset, .unset, .unset, .unset] [(.int (48 : Int32)), (.int (0 : Int32)), (.ref b62)])) _
      refine XS.aload X62.here hx rfl (hb hby at_83) rfl rfl ?_
      show Steps p.tables e below (T62.setTop (mkF m 85 #[.val (.int x0), .val (.int x1), .val (.int x2), .val (.int x3), .val (.int x4), .val (.ref b2), .val (.ref b62), .unset, .unset, .unset, .unset, .unset] [(.ref b2), (.int (48 : Int32)), (.int (0 : Int32)), (.ref b62)])) _
      refine XS.iconst X62.here hx rfl (hb hby at_85) ?_
      show Steps p.tables e below (T62.setTop (mkF m 86 #[.val (.int x0), .val (.int x1), .val (.int x2), .val (.int x3), .val (.int x4), .val (.ref b2), .val (.ref b62), .unset, .unset, .unset, .unset, .unset] [(.int (0 : Int32)), (.ref b2), (.int (48 : Int32)), (.int (0 : Int32)), (.ref b62)])) _
      refine X62.iaload hx (j := (0 : Int32)) (v := (.int d0)) (by rw [e62]; exact Ar66.1) (State.isArrayOf_alike hZ.alike Ar66.2.1) Ar66.2.2 hin66 hat66 (g := (mkF m 86 #[.val (.int x0), .val (.int x1), .val (.int x2), .val (.int x3), .val (.int x4), .val (.ref b2), .val (.ref b62), .unset, .unset, .unset, .unset, .unset] [(.int (0 : Int32)), (.ref b2), (.int (48 : Int32)), (.int (0 : Int32)), (.ref b62)])) rfl rfl (hb hby at_86) _ ?_
      show Steps p.tables e below (T62.setTop (mkF m 87 #[.val (.int x0), .val (.int x1), .val (.int x2), .val (.int x3), .val (.int x4), .val (.ref b2), .val (.ref b62), .unset, .unset, .unset, .unset, .unset] [(.int d0), (.int (48 : Int32)), (.int (0 : Int32)), (.ref b62)])) _
      refine XS.iadd X62.here hx rfl (hb hby at_87) rfl ?_
      show Steps p.tables e below (T62.setTop (mkF m 88 #[.val (.int x0), .val (.int x1), .val (.int x2), .val (.int x3), .val (.int x4), .val (.ref b2), .val (.ref b62), .unset, .unset, .unset, .unset, .unset] [(.int ((48 : Int32) + d0)), (.int (0 : Int32)), (.ref b62)])) _
      refine XS.i2b X62.here hx rfl (hb hby at_88) rfl ?_
      exact Steps.refl _)
  obtain ⟨cl68, Ar68, q68, S68, N68, H68, G68⟩ := id f64
  have hin68 : ¬ ((0 : Int32) < 0 ∨ cl68.slots.size ≤ ((0 : Int32)).toNatClampNeg) := inb_of S68 ⟨by decide, by decide⟩
  obtain ⟨T69, h69, X69, e69, W69, sr69⟩ := stB X62 hx hZ e62 Ar68 (j := (0 : Int32)) hin68 (g := (mkF m 89 #[.val (.int x0), .val (.int x1), .val (.int x2), .val (.int x3), .val (.int x4), .val (.ref b2), .val (.ref b62), .unset, .unset, .unset, .unset, .unset] [(.int (((48 : Int32) + d0).toInt8.toInt32)), (.int (0 : Int32)), (.ref b62)])) rfl rfl (hb hby at_89)
  have f70 : Arv Z h69 b2 k2 .int (8 : Int32) [(.int d0), (.int d1), (.int d2), (.int d3), (.int d4), (.int d5), (.int d6), (.int d7)] (.int (0 : Int32)) := f63.other W69 ne_b2_b62
  have f71 : Arv Z h69 b62 k62 .byte (8 : Int32) [(.int ((((48 : Int32) + d0).toInt8.toInt32)).toInt8.toInt32), (.int (0 : Int32)), (.int (0 : Int32)), (.int (0 : Int32)), (.int (0 : Int32)), (.int (0 : Int32)), (.int (0 : Int32)), (.int (0 : Int32))] (.int (0 : Int32)) := Arv.set Ar68 q68 S68 N68 H68 G68 (fits_nar_byte _) W69 0 rfl (Nat.le_of_ble_eq_true rfl)
  have Z69 : n0 ≤ h69.size := Nat.le_trans Z62 (Keep.of_wr W69).1
  have N69 := Fr.snoc X69 N58 g_b62
  obtain ⟨LL69, X69, N69⟩ := own_hide X69 N69
  have st72 : Steps p.tables e below (s₁.setTop (entryFrame m #[(.int x0), (.int x1), (.int x2), (.int x3), (.int x4)] maxLocals)) (T69.setTop (mkF m 90 #[.val (.int x0), .val (.int x1), .val (.int x2), .val (.int x3), .val (.int x4), .val (.ref b2), .val (.ref b62), .unset, .unset, .unset, .unset, .unset] [])) := st67.trans (sr69 _ (Steps.refl _))
  obtain ⟨cl73, Ar73, q73, S73, N73, H73, G73⟩ := id f70
  have hin73 : ¬ ((1 : Int32) < 0 ∨ cl73.slots.size ≤ ((1 : Int32)).toNatClampNeg) := inb_of S73 ⟨by decide, by decide⟩
  have hat73 : cl73.slots[((1 : Int32)).toNatClampNeg]? = some (.int d1) := H73.at hin73 rfl
  have st74 : Steps p.tables e below (s₁.setTop (entryFrame m #[(.int x0), (.int x1), (.int x2), (.int x3), (.int x4)] maxLocals)) (T69.setTop (mkF m 101 #[.val (.int x0), .val (.int x1), .val (.int x2), .val (.int x3), .val (.int x4), .val (.ref b2), .val (.ref b62), .unset, .unset, .unset, .unset, .unset] [(.int (((48 : Int32) + d1).toInt8.toInt32)), (.int (1 : Int32)), (.ref b62)])) := st72.trans (by
      show Steps p.tables e below (T69.setTop (mkF m 90 #[.val (.int x0), .val (.int x1), .val (.int x2), .val (.int x3), .val (.int x4), .val (.ref b2), .val (.ref b62), .unset, .unset, .unset, .unset, .unset] [])) _
      refine XS.aload X69.here hx rfl (hb hby at_90) rfl rfl ?_
      show Steps p.tables e below (T69.setTop (mkF m 92 #[.val (.int x0), .val (.int x1), .val (.int x2), .val (.int x3), .val (.int x4), .val (.ref b2), .val (.ref b62), .unset, .unset, .unset, .unset, .unset] [(.ref b62)])) _
      refine XS.iconst X69.here hx rfl (hb hby at_92) ?_
      show Steps p.tables e below (T69.setTop (mkF m 93 #[.val (.int x0), .val (.int x1), .val (.int x2), .val (.int x3), .val (.int x4), .val (.ref b2), .val (.ref b62), .unset, .unset, .unset, .unset, .unset] [(.int (1 : Int32)), (.ref b62)])) _
      refine XS.bipush X69.here hx rfl (hb hby at_93) ?_
      show Steps p.tables e below (T69.setTop (mkF m 95 #[.val (.int x0), .val (.int x1), .val (.int x2), .val (.int x3), .val (.int x4), .val (.ref b2), .val (.ref b62), .unset, .unset, .unset, .unset, .unset] [(.int (48 : Int32)), (.int (1 : Int32)), (.ref b62)])) _
      refine XS.aload X69.here hx rfl (hb hby at_95) rfl rfl ?_
      show Steps p.tables e below (T69.setTop (mkF m 97 #[.val (.int x0), .val (.int x1), .val (.int x2), .val (.int x3), .val (.int x4), .val (.ref b2), .val (.ref b62), .unset, .unset, .unset, .unset, .unset] [(.ref b2), (.int (48 : Int32)), (.int (1 : Int32)), (.ref b62)])) _
      refine XS.iconst X69.here hx rfl (hb hby at_97) ?_
      show Steps p.tables e below (T69.setTop (mkF m 98 #[.val (.int x0), .val (.int x1), .val (.int x2), .val (.int x3), .val (.int x4), .val (.ref b2), .val (.ref b62), .unset, .unset, .unset, .unset, .unset] [(.int (1 : Int32)), (.ref b2), (.int (48 : Int32)), (.int (1 : Int32)), (.ref b62)])) _
      refine X69.iaload hx (j := (1 : Int32)) (v := (.int d1)) (by rw [e69]; exact Ar73.1) (State.isArrayOf_alike hZ.alike Ar73.2.1) Ar73.2.2 hin73 hat73 (g := (mkF m 98 #[.val (.int x0), .val (.int x1), .val (.int x2), .val (.int x3), .val (.int x4), .val (.ref b2), .val (.ref b62), .unset, .unset, .unset, .unset, .unset] [(.int (1 : Int32)), (.ref b2), (.int (48 : Int32)), (.int (1 : Int32)), (.ref b62)])) rfl rfl (hb hby at_98) _ ?_
      show Steps p.tables e below (T69.setTop (mkF m 99 #[.val (.int x0), .val (.int x1), .val (.int x2), .val (.int x3), .val (.int x4), .val (.ref b2), .val (.ref b62), .unset, .unset, .unset, .unset, .unset] [(.int d1), (.int (48 : Int32)), (.int (1 : Int32)), (.ref b62)])) _
      refine XS.iadd X69.here hx rfl (hb hby at_99) rfl ?_
      show Steps p.tables e below (T69.setTop (mkF m 100 #[.val (.int x0), .val (.int x1), .val (.int x2), .val (.int x3), .val (.int x4), .val (.ref b2), .val (.ref b62), .unset, .unset, .unset, .unset, .unset] [(.int ((48 : Int32) + d1)), (.int (1 : Int32)), (.ref b62)])) _
      refine XS.i2b X69.here hx rfl (hb hby at_100) rfl ?_
      exact Steps.refl _)
  obtain ⟨cl75, Ar75, q75, S75, N75, H75, G75⟩ := id f71
  have hin75 : ¬ ((1 : Int32) < 0 ∨ cl75.slots.size ≤ ((1 : Int32)).toNatClampNeg) := inb_of S75 ⟨by decide, by decide⟩
  obtain ⟨T76, h76, X76, e76, W76, sr76⟩ := stB X69 hx hZ e69 Ar75 (j := (1 : Int32)) hin75 (g := (mkF m 101 #[.val (.int x0), .val (.int x1), .val (.int x2), .val (.int x3), .val (.int x4), .val (.ref b2), .val (.ref b62), .unset, .unset, .unset, .unset, .unset] [(.int (((48 : Int32) + d1).toInt8.toInt32)), (.int (1 : Int32)), (.ref b62)])) rfl rfl (hb hby at_101)
  have f77 : Arv Z h76 b2 k2 .int (8 : Int32) [(.int d0), (.int d1), (.int d2), (.int d3), (.int d4), (.int d5), (.int d6), (.int d7)] (.int (0 : Int32)) := f70.other W76 ne_b2_b62
  have f78 : Arv Z h76 b62 k62 .byte (8 : Int32) [(.int ((((48 : Int32) + d0).toInt8.toInt32)).toInt8.toInt32), (.int ((((48 : Int32) + d1).toInt8.toInt32)).toInt8.toInt32), (.int (0 : Int32)), (.int (0 : Int32)), (.int (0 : Int32)), (.int (0 : Int32)), (.int (0 : Int32)), (.int (0 : Int32))] (.int (0 : Int32)) := Arv.set Ar75 q75 S75 N75 H75 G75 (fits_nar_byte _) W76 1 rfl (Nat.le_of_ble_eq_true rfl)
  have Z76 : n0 ≤ h76.size := Nat.le_trans Z69 (Keep.of_wr W76).1
  have N76 := Fr.snoc X76 N69 g_b62
  obtain ⟨LL76, X76, N76⟩ := own_hide X76 N76
  have st79 : Steps p.tables e below (s₁.setTop (entryFrame m #[(.int x0), (.int x1), (.int x2), (.int x3), (.int x4)] maxLocals)) (T76.setTop (mkF m 102 #[.val (.int x0), .val (.int x1), .val (.int x2), .val (.int x3), .val (.int x4), .val (.ref b2), .val (.ref b62), .unset, .unset, .unset, .unset, .unset] [])) := st74.trans (sr76 _ (Steps.refl _))
  obtain ⟨cl80, Ar80, q80, S80, N80, H80, G80⟩ := id f77
  have hin80 : ¬ ((2 : Int32) < 0 ∨ cl80.slots.size ≤ ((2 : Int32)).toNatClampNeg) := inb_of S80 ⟨by decide, by decide⟩
  have hat80 : cl80.slots[((2 : Int32)).toNatClampNeg]? = some (.int d2) := H80.at hin80 rfl
  have st81 : Steps p.tables e below (s₁.setTop (entryFrame m #[(.int x0), (.int x1), (.int x2), (.int x3), (.int x4)] maxLocals)) (T76.setTop (mkF m 113 #[.val (.int x0), .val (.int x1), .val (.int x2), .val (.int x3), .val (.int x4), .val (.ref b2), .val (.ref b62), .unset, .unset, .unset, .unset, .unset] [(.int (((48 : Int32) + d2).toInt8.toInt32)), (.int (2 : Int32)), (.ref b62)])) := st79.trans (by
      show Steps p.tables e below (T76.setTop (mkF m 102 #[.val (.int x0), .val (.int x1), .val (.int x2), .val (.int x3), .val (.int x4), .val (.ref b2), .val (.ref b62), .unset, .unset, .unset, .unset, .unset] [])) _
      refine XS.aload X76.here hx rfl (hb hby at_102) rfl rfl ?_
      show Steps p.tables e below (T76.setTop (mkF m 104 #[.val (.int x0), .val (.int x1), .val (.int x2), .val (.int x3), .val (.int x4), .val (.ref b2), .val (.ref b62), .unset, .unset, .unset, .unset, .unset] [(.ref b62)])) _
      refine XS.iconst X76.here hx rfl (hb hby at_104) ?_
      show Steps p.tables e below (T76.setTop (mkF m 105 #[.val (.int x0), .val (.int x1), .val (.int x2), .val (.int x3), .val (.int x4), .val (.ref b2), .val (.ref b62), .unset, .unset, .unset, .unset, .unset] [(.int (2 : Int32)), (.ref b62)])) _
      refine XS.bipush X76.here hx rfl (hb hby at_105) ?_
      show Steps p.tables e below (T76.setTop (mkF m 107 #[.val (.int x0), .val (.int x1), .val (.int x2), .val (.int x3), .val (.int x4), .val (.ref b2), .val (.ref b62), .unset, .unset, .unset, .unset, .unset] [(.int (48 : Int32)), (.int (2 : Int32)), (.ref b62)])) _
      refine XS.aload X76.here hx rfl (hb hby at_107) rfl rfl ?_
      show Steps p.tables e below (T76.setTop (mkF m 109 #[.val (.int x0), .val (.int x1), .val (.int x2), .val (.int x3), .val (.int x4), .val (.ref b2), .val (.ref b62), .unset, .unset, .unset, .unset, .unset] [(.ref b2), (.int (48 : Int32)), (.int (2 : Int32)), (.ref b62)])) _
      refine XS.iconst X76.here hx rfl (hb hby at_109) ?_
      show Steps p.tables e below (T76.setTop (mkF m 110 #[.val (.int x0), .val (.int x1), .val (.int x2), .val (.int x3), .val (.int x4), .val (.ref b2), .val (.ref b62), .unset, .unset, .unset, .unset, .unset] [(.int (2 : Int32)), (.ref b2), (.int (48 : Int32)), (.int (2 : Int32)), (.ref b62)])) _
      refine X76.iaload hx (j := (2 : Int32)) (v := (.int d2)) (by rw [e76]; exact Ar80.1) (State.isArrayOf_alike hZ.alike Ar80.2.1) Ar80.2.2 hin80 hat80 (g := (mkF m 110 #[.val (.int x0), .val (.int x1), .val (.int x2), .val (.int x3), .val (.int x4), .val (.ref b2), .val (.ref b62), .unset, .unset, .unset, .unset, .unset] [(.int (2 : Int32)), (.ref b2), (.int (48 : Int32)), (.int (2 : Int32)), (.ref b62)])) rfl rfl (hb hby at_110) _ ?_
      show Steps p.tables e below (T76.setTop (mkF m 111 #[.val (.int x0), .val (.int x1), .val (.int x2), .val (.int x3), .val (.int x4), .val (.ref b2), .val (.ref b62), .unset, .unset, .unset, .unset, .unset] [(.int d2), (.int (48 : Int32)), (.int (2 : Int32)), (.ref b62)])) _
      refine XS.iadd X76.here hx rfl (hb hby at_111) rfl ?_
      show Steps p.tables e below (T76.setTop (mkF m 112 #[.val (.int x0), .val (.int x1), .val (.int x2), .val (.int x3), .val (.int x4), .val (.ref b2), .val (.ref b62), .unset, .unset, .unset, .unset, .unset] [(.int ((48 : Int32) + d2)), (.int (2 : Int32)), (.ref b62)])) _
      refine XS.i2b X76.here hx rfl (hb hby at_112) rfl ?_
      exact Steps.refl _)
  obtain ⟨cl82, Ar82, q82, S82, N82, H82, G82⟩ := id f78
  have hin82 : ¬ ((2 : Int32) < 0 ∨ cl82.slots.size ≤ ((2 : Int32)).toNatClampNeg) := inb_of S82 ⟨by decide, by decide⟩
  obtain ⟨T83, h83, X83, e83, W83, sr83⟩ := stB X76 hx hZ e76 Ar82 (j := (2 : Int32)) hin82 (g := (mkF m 113 #[.val (.int x0), .val (.int x1), .val (.int x2), .val (.int x3), .val (.int x4), .val (.ref b2), .val (.ref b62), .unset, .unset, .unset, .unset, .unset] [(.int (((48 : Int32) + d2).toInt8.toInt32)), (.int (2 : Int32)), (.ref b62)])) rfl rfl (hb hby at_113)
  have f84 : Arv Z h83 b2 k2 .int (8 : Int32) [(.int d0), (.int d1), (.int d2), (.int d3), (.int d4), (.int d5), (.int d6), (.int d7)] (.int (0 : Int32)) := f77.other W83 ne_b2_b62
  have f85 : Arv Z h83 b62 k62 .byte (8 : Int32) [(.int ((((48 : Int32) + d0).toInt8.toInt32)).toInt8.toInt32), (.int ((((48 : Int32) + d1).toInt8.toInt32)).toInt8.toInt32), (.int ((((48 : Int32) + d2).toInt8.toInt32)).toInt8.toInt32), (.int (0 : Int32)), (.int (0 : Int32)), (.int (0 : Int32)), (.int (0 : Int32)), (.int (0 : Int32))] (.int (0 : Int32)) := Arv.set Ar82 q82 S82 N82 H82 G82 (fits_nar_byte _) W83 2 rfl (Nat.le_of_ble_eq_true rfl)
  have Z83 : n0 ≤ h83.size := Nat.le_trans Z76 (Keep.of_wr W83).1
  have N83 := Fr.snoc X83 N76 g_b62
  obtain ⟨LL83, X83, N83⟩ := own_hide X83 N83
  have st86 : Steps p.tables e below (s₁.setTop (entryFrame m #[(.int x0), (.int x1), (.int x2), (.int x3), (.int x4)] maxLocals)) (T83.setTop (mkF m 114 #[.val (.int x0), .val (.int x1), .val (.int x2), .val (.int x3), .val (.int x4), .val (.ref b2), .val (.ref b62), .unset, .unset, .unset, .unset, .unset] [])) := st81.trans (sr83 _ (Steps.refl _))
  obtain ⟨cl87, Ar87, q87, S87, N87, H87, G87⟩ := id f84
  have hin87 : ¬ ((3 : Int32) < 0 ∨ cl87.slots.size ≤ ((3 : Int32)).toNatClampNeg) := inb_of S87 ⟨by decide, by decide⟩
  have hat87 : cl87.slots[((3 : Int32)).toNatClampNeg]? = some (.int d3) := H87.at hin87 rfl
  have st88 : Steps p.tables e below (s₁.setTop (entryFrame m #[(.int x0), (.int x1), (.int x2), (.int x3), (.int x4)] maxLocals)) (T83.setTop (mkF m 125 #[.val (.int x0), .val (.int x1), .val (.int x2), .val (.int x3), .val (.int x4), .val (.ref b2), .val (.ref b62), .unset, .unset, .unset, .unset, .unset] [(.int (((48 : Int32) + d3).toInt8.toInt32)), (.int (3 : Int32)), (.ref b62)])) := st86.trans (by
      show Steps p.tables e below (T83.setTop (mkF m 114 #[.val (.int x0), .val (.int x1), .val (.int x2), .val (.int x3), .val (.int x4), .val (.ref b2), .val (.ref b62), .unset, .unset, .unset, .unset, .unset] [])) _
      refine XS.aload X83.here hx rfl (hb hby at_114) rfl rfl ?_
      show Steps p.tables e below (T83.setTop (mkF m 116 #[.val (.int x0), .val (.int x1), .val (.int x2), .val (.int x3), .val (.int x4), .val (.ref b2), .val (.ref b62), .unset, .unset, .unset, .unset, .unset] [(.ref b62)])) _
      refine XS.iconst X83.here hx rfl (hb hby at_116) ?_
      show Steps p.tables e below (T83.setTop (mkF m 117 #[.val (.int x0), .val (.int x1), .val (.int x2), .val (.int x3), .val (.int x4), .val (.ref b2), .val (.ref b62), .unset, .unset, .unset, .unset, .unset] [(.int (3 : Int32)), (.ref b62)])) _
      refine XS.bipush X83.here hx rfl (hb hby at_117) ?_
      show Steps p.tables e below (T83.setTop (mkF m 119 #[.val (.int x0), .val (.int x1), .val (.int x2), .val (.int x3), .val (.int x4), .val (.ref b2), .val (.ref b62), .unset, .unset, .unset, .unset, .unset] [(.int (48 : Int32)), (.int (3 : Int32)), (.ref b62)])) _
      refine XS.aload X83.here hx rfl (hb hby at_119) rfl rfl ?_
      show Steps p.tables e below (T83.setTop (mkF m 121 #[.val (.int x0), .val (.int x1), .val (.int x2), .val (.int x3), .val (.int x4), .val (.ref b2), .val (.ref b62), .unset, .unset, .unset, .unset, .unset] [(.ref b2), (.int (48 : Int32)), (.int (3 : Int32)), (.ref b62)])) _
      refine XS.iconst X83.here hx rfl (hb hby at_121) ?_
      show Steps p.tables e below (T83.setTop (mkF m 122 #[.val (.int x0), .val (.int x1), .val (.int x2), .val (.int x3), .val (.int x4), .val (.ref b2), .val (.ref b62), .unset, .unset, .unset, .unset, .unset] [(.int (3 : Int32)), (.ref b2), (.int (48 : Int32)), (.int (3 : Int32)), (.ref b62)])) _
      refine X83.iaload hx (j := (3 : Int32)) (v := (.int d3)) (by rw [e83]; exact Ar87.1) (State.isArrayOf_alike hZ.alike Ar87.2.1) Ar87.2.2 hin87 hat87 (g := (mkF m 122 #[.val (.int x0), .val (.int x1), .val (.int x2), .val (.int x3), .val (.int x4), .val (.ref b2), .val (.ref b62), .unset, .unset, .unset, .unset, .unset] [(.int (3 : Int32)), (.ref b2), (.int (48 : Int32)), (.int (3 : Int32)), (.ref b62)])) rfl rfl (hb hby at_122) _ ?_
      show Steps p.tables e below (T83.setTop (mkF m 123 #[.val (.int x0), .val (.int x1), .val (.int x2), .val (.int x3), .val (.int x4), .val (.ref b2), .val (.ref b62), .unset, .unset, .unset, .unset, .unset] [(.int d3), (.int (48 : Int32)), (.int (3 : Int32)), (.ref b62)])) _
      refine XS.iadd X83.here hx rfl (hb hby at_123) rfl ?_
      show Steps p.tables e below (T83.setTop (mkF m 124 #[.val (.int x0), .val (.int x1), .val (.int x2), .val (.int x3), .val (.int x4), .val (.ref b2), .val (.ref b62), .unset, .unset, .unset, .unset, .unset] [(.int ((48 : Int32) + d3)), (.int (3 : Int32)), (.ref b62)])) _
      refine XS.i2b X83.here hx rfl (hb hby at_124) rfl ?_
      exact Steps.refl _)
  obtain ⟨cl89, Ar89, q89, S89, N89, H89, G89⟩ := id f85
  have hin89 : ¬ ((3 : Int32) < 0 ∨ cl89.slots.size ≤ ((3 : Int32)).toNatClampNeg) := inb_of S89 ⟨by decide, by decide⟩
  obtain ⟨T90, h90, X90, e90, W90, sr90⟩ := stB X83 hx hZ e83 Ar89 (j := (3 : Int32)) hin89 (g := (mkF m 125 #[.val (.int x0), .val (.int x1), .val (.int x2), .val (.int x3), .val (.int x4), .val (.ref b2), .val (.ref b62), .unset, .unset, .unset, .unset, .unset] [(.int (((48 : Int32) + d3).toInt8.toInt32)), (.int (3 : Int32)), (.ref b62)])) rfl rfl (hb hby at_125)
  have f91 : Arv Z h90 b2 k2 .int (8 : Int32) [(.int d0), (.int d1), (.int d2), (.int d3), (.int d4), (.int d5), (.int d6), (.int d7)] (.int (0 : Int32)) := f84.other W90 ne_b2_b62
  have f92 : Arv Z h90 b62 k62 .byte (8 : Int32) [(.int ((((48 : Int32) + d0).toInt8.toInt32)).toInt8.toInt32), (.int ((((48 : Int32) + d1).toInt8.toInt32)).toInt8.toInt32), (.int ((((48 : Int32) + d2).toInt8.toInt32)).toInt8.toInt32), (.int ((((48 : Int32) + d3).toInt8.toInt32)).toInt8.toInt32), (.int (0 : Int32)), (.int (0 : Int32)), (.int (0 : Int32)), (.int (0 : Int32))] (.int (0 : Int32)) := Arv.set Ar89 q89 S89 N89 H89 G89 (fits_nar_byte _) W90 3 rfl (Nat.le_of_ble_eq_true rfl)
  have Z90 : n0 ≤ h90.size := Nat.le_trans Z83 (Keep.of_wr W90).1
  have N90 := Fr.snoc X90 N83 g_b62
  obtain ⟨LL90, X90, N90⟩ := own_hide X90 N90
  have st93 : Steps p.tables e below (s₁.setTop (entryFrame m #[(.int x0), (.int x1), (.int x2), (.int x3), (.int x4)] maxLocals)) (T90.setTop (mkF m 126 #[.val (.int x0), .val (.int x1), .val (.int x2), .val (.int x3), .val (.int x4), .val (.ref b2), .val (.ref b62), .unset, .unset, .unset, .unset, .unset] [])) := st88.trans (sr90 _ (Steps.refl _))
  obtain ⟨cl94, Ar94, q94, S94, N94, H94, G94⟩ := id f91
  have hin94 : ¬ ((4 : Int32) < 0 ∨ cl94.slots.size ≤ ((4 : Int32)).toNatClampNeg) := inb_of S94 ⟨by decide, by decide⟩
  have hat94 : cl94.slots[((4 : Int32)).toNatClampNeg]? = some (.int d4) := H94.at hin94 rfl
  have st95 : Steps p.tables e below (s₁.setTop (entryFrame m #[(.int x0), (.int x1), (.int x2), (.int x3), (.int x4)] maxLocals)) (T90.setTop (mkF m 137 #[.val (.int x0), .val (.int x1), .val (.int x2), .val (.int x3), .val (.int x4), .val (.ref b2), .val (.ref b62), .unset, .unset, .unset, .unset, .unset] [(.int (((48 : Int32) + d4).toInt8.toInt32)), (.int (4 : Int32)), (.ref b62)])) := st93.trans (by
      show Steps p.tables e below (T90.setTop (mkF m 126 #[.val (.int x0), .val (.int x1), .val (.int x2), .val (.int x3), .val (.int x4), .val (.ref b2), .val (.ref b62), .unset, .unset, .unset, .unset, .unset] [])) _
      refine XS.aload X90.here hx rfl (hb hby at_126) rfl rfl ?_
      show Steps p.tables e below (T90.setTop (mkF m 128 #[.val (.int x0), .val (.int x1), .val (.int x2), .val (.int x3), .val (.int x4), .val (.ref b2), .val (.ref b62), .unset, .unset, .unset, .unset, .unset] [(.ref b62)])) _
      refine XS.iconst X90.here hx rfl (hb hby at_128) ?_
      show Steps p.tables e below (T90.setTop (mkF m 129 #[.val (.int x0), .val (.int x1), .val (.int x2), .val (.int x3), .val (.int x4), .val (.ref b2), .val (.ref b62), .unset, .unset, .unset, .unset, .unset] [(.int (4 : Int32)), (.ref b62)])) _
      refine XS.bipush X90.here hx rfl (hb hby at_129) ?_
      show Steps p.tables e below (T90.setTop (mkF m 131 #[.val (.int x0), .val (.int x1), .val (.int x2), .val (.int x3), .val (.int x4), .val (.ref b2), .val (.ref b62), .unset, .unset, .unset, .unset, .unset] [(.int (48 : Int32)), (.int (4 : Int32)), (.ref b62)])) _
      refine XS.aload X90.here hx rfl (hb hby at_131) rfl rfl ?_
      show Steps p.tables e below (T90.setTop (mkF m 133 #[.val (.int x0), .val (.int x1), .val (.int x2), .val (.int x3), .val (.int x4), .val (.ref b2), .val (.ref b62), .unset, .unset, .unset, .unset, .unset] [(.ref b2), (.int (48 : Int32)), (.int (4 : Int32)), (.ref b62)])) _
      refine XS.iconst X90.here hx rfl (hb hby at_133) ?_
      show Steps p.tables e below (T90.setTop (mkF m 134 #[.val (.int x0), .val (.int x1), .val (.int x2), .val (.int x3), .val (.int x4), .val (.ref b2), .val (.ref b62), .unset, .unset, .unset, .unset, .unset] [(.int (4 : Int32)), (.ref b2), (.int (48 : Int32)), (.int (4 : Int32)), (.ref b62)])) _
      refine X90.iaload hx (j := (4 : Int32)) (v := (.int d4)) (by rw [e90]; exact Ar94.1) (State.isArrayOf_alike hZ.alike Ar94.2.1) Ar94.2.2 hin94 hat94 (g := (mkF m 134 #[.val (.int x0), .val (.int x1), .val (.int x2), .val (.int x3), .val (.int x4), .val (.ref b2), .val (.ref b62), .unset, .unset, .unset, .unset, .unset] [(.int (4 : Int32)), (.ref b2), (.int (48 : Int32)), (.int (4 : Int32)), (.ref b62)])) rfl rfl (hb hby at_134) _ ?_
      show Steps p.tables e below (T90.setTop (mkF m 135 #[.val (.int x0), .val (.int x1), .val (.int x2), .val (.int x3), .val (.int x4), .val (.ref b2), .val (.ref b62), .unset, .unset, .unset, .unset, .unset] [(.int d4), (.int (48 : Int32)), (.int (4 : Int32)), (.ref b62)])) _
      refine XS.iadd X90.here hx rfl (hb hby at_135) rfl ?_
      show Steps p.tables e below (T90.setTop (mkF m 136 #[.val (.int x0), .val (.int x1), .val (.int x2), .val (.int x3), .val (.int x4), .val (.ref b2), .val (.ref b62), .unset, .unset, .unset, .unset, .unset] [(.int ((48 : Int32) + d4)), (.int (4 : Int32)), (.ref b62)])) _
      refine XS.i2b X90.here hx rfl (hb hby at_136) rfl ?_
      exact Steps.refl _)
  obtain ⟨cl96, Ar96, q96, S96, N96, H96, G96⟩ := id f92
  have hin96 : ¬ ((4 : Int32) < 0 ∨ cl96.slots.size ≤ ((4 : Int32)).toNatClampNeg) := inb_of S96 ⟨by decide, by decide⟩
  obtain ⟨T97, h97, X97, e97, W97, sr97⟩ := stB X90 hx hZ e90 Ar96 (j := (4 : Int32)) hin96 (g := (mkF m 137 #[.val (.int x0), .val (.int x1), .val (.int x2), .val (.int x3), .val (.int x4), .val (.ref b2), .val (.ref b62), .unset, .unset, .unset, .unset, .unset] [(.int (((48 : Int32) + d4).toInt8.toInt32)), (.int (4 : Int32)), (.ref b62)])) rfl rfl (hb hby at_137)
  have f98 : Arv Z h97 b2 k2 .int (8 : Int32) [(.int d0), (.int d1), (.int d2), (.int d3), (.int d4), (.int d5), (.int d6), (.int d7)] (.int (0 : Int32)) := f91.other W97 ne_b2_b62
  have f99 : Arv Z h97 b62 k62 .byte (8 : Int32) [(.int ((((48 : Int32) + d0).toInt8.toInt32)).toInt8.toInt32), (.int ((((48 : Int32) + d1).toInt8.toInt32)).toInt8.toInt32), (.int ((((48 : Int32) + d2).toInt8.toInt32)).toInt8.toInt32), (.int ((((48 : Int32) + d3).toInt8.toInt32)).toInt8.toInt32), (.int ((((48 : Int32) + d4).toInt8.toInt32)).toInt8.toInt32), (.int (0 : Int32)), (.int (0 : Int32)), (.int (0 : Int32))] (.int (0 : Int32)) := Arv.set Ar96 q96 S96 N96 H96 G96 (fits_nar_byte _) W97 4 rfl (Nat.le_of_ble_eq_true rfl)
  have Z97 : n0 ≤ h97.size := Nat.le_trans Z90 (Keep.of_wr W97).1
  have N97 := Fr.snoc X97 N90 g_b62
  obtain ⟨LL97, X97, N97⟩ := own_hide X97 N97
  have st100 : Steps p.tables e below (s₁.setTop (entryFrame m #[(.int x0), (.int x1), (.int x2), (.int x3), (.int x4)] maxLocals)) (T97.setTop (mkF m 138 #[.val (.int x0), .val (.int x1), .val (.int x2), .val (.int x3), .val (.int x4), .val (.ref b2), .val (.ref b62), .unset, .unset, .unset, .unset, .unset] [])) := st95.trans (sr97 _ (Steps.refl _))
  obtain ⟨cl101, Ar101, q101, S101, N101, H101, G101⟩ := id f98
  have hin101 : ¬ ((5 : Int32) < 0 ∨ cl101.slots.size ≤ ((5 : Int32)).toNatClampNeg) := inb_of S101 ⟨by decide, by decide⟩
  have hat101 : cl101.slots[((5 : Int32)).toNatClampNeg]? = some (.int d5) := H101.at hin101 rfl
  have st102 : Steps p.tables e below (s₁.setTop (entryFrame m #[(.int x0), (.int x1), (.int x2), (.int x3), (.int x4)] maxLocals)) (T97.setTop (mkF m 149 #[.val (.int x0), .val (.int x1), .val (.int x2), .val (.int x3), .val (.int x4), .val (.ref b2), .val (.ref b62), .unset, .unset, .unset, .unset, .unset] [(.int (((48 : Int32) + d5).toInt8.toInt32)), (.int (5 : Int32)), (.ref b62)])) := st100.trans (by
      show Steps p.tables e below (T97.setTop (mkF m 138 #[.val (.int x0), .val (.int x1), .val (.int x2), .val (.int x3), .val (.int x4), .val (.ref b2), .val (.ref b62), .unset, .unset, .unset, .unset, .unset] [])) _
      refine XS.aload X97.here hx rfl (hb hby at_138) rfl rfl ?_
      show Steps p.tables e below (T97.setTop (mkF m 140 #[.val (.int x0), .val (.int x1), .val (.int x2), .val (.int x3), .val (.int x4), .val (.ref b2), .val (.ref b62), .unset, .unset, .unset, .unset, .unset] [(.ref b62)])) _
      refine XS.iconst X97.here hx rfl (hb hby at_140) ?_
      show Steps p.tables e below (T97.setTop (mkF m 141 #[.val (.int x0), .val (.int x1), .val (.int x2), .val (.int x3), .val (.int x4), .val (.ref b2), .val (.ref b62), .unset, .unset, .unset, .unset, .unset] [(.int (5 : Int32)), (.ref b62)])) _
      refine XS.bipush X97.here hx rfl (hb hby at_141) ?_
      show Steps p.tables e below (T97.setTop (mkF m 143 #[.val (.int x0), .val (.int x1), .val (.int x2), .val (.int x3), .val (.int x4), .val (.ref b2), .val (.ref b62), .unset, .unset, .unset, .unset, .unset] [(.int (48 : Int32)), (.int (5 : Int32)), (.ref b62)])) _
      refine XS.aload X97.here hx rfl (hb hby at_143) rfl rfl ?_
      show Steps p.tables e below (T97.setTop (mkF m 145 #[.val (.int x0), .val (.int x1), .val (.int x2), .val (.int x3), .val (.int x4), .val (.ref b2), .val (.ref b62), .unset, .unset, .unset, .unset, .unset] [(.ref b2), (.int (48 : Int32)), (.int (5 : Int32)), (.ref b62)])) _
      refine XS.iconst X97.here hx rfl (hb hby at_145) ?_
      show Steps p.tables e below (T97.setTop (mkF m 146 #[.val (.int x0), .val (.int x1), .val (.int x2), .val (.int x3), .val (.int x4), .val (.ref b2), .val (.ref b62), .unset, .unset, .unset, .unset, .unset] [(.int (5 : Int32)), (.ref b2), (.int (48 : Int32)), (.int (5 : Int32)), (.ref b62)])) _
      refine X97.iaload hx (j := (5 : Int32)) (v := (.int d5)) (by rw [e97]; exact Ar101.1) (State.isArrayOf_alike hZ.alike Ar101.2.1) Ar101.2.2 hin101 hat101 (g := (mkF m 146 #[.val (.int x0), .val (.int x1), .val (.int x2), .val (.int x3), .val (.int x4), .val (.ref b2), .val (.ref b62), .unset, .unset, .unset, .unset, .unset] [(.int (5 : Int32)), (.ref b2), (.int (48 : Int32)), (.int (5 : Int32)), (.ref b62)])) rfl rfl (hb hby at_146) _ ?_
      show Steps p.tables e below (T97.setTop (mkF m 147 #[.val (.int x0), .val (.int x1), .val (.int x2), .val (.int x3), .val (.int x4), .val (.ref b2), .val (.ref b62), .unset, .unset, .unset, .unset, .unset] [(.int d5), (.int (48 : Int32)), (.int (5 : Int32)), (.ref b62)])) _
      refine XS.iadd X97.here hx rfl (hb hby at_147) rfl ?_
      show Steps p.tables e below (T97.setTop (mkF m 148 #[.val (.int x0), .val (.int x1), .val (.int x2), .val (.int x3), .val (.int x4), .val (.ref b2), .val (.ref b62), .unset, .unset, .unset, .unset, .unset] [(.int ((48 : Int32) + d5)), (.int (5 : Int32)), (.ref b62)])) _
      refine XS.i2b X97.here hx rfl (hb hby at_148) rfl ?_
      exact Steps.refl _)
  obtain ⟨cl103, Ar103, q103, S103, N103, H103, G103⟩ := id f99
  have hin103 : ¬ ((5 : Int32) < 0 ∨ cl103.slots.size ≤ ((5 : Int32)).toNatClampNeg) := inb_of S103 ⟨by decide, by decide⟩
  obtain ⟨T104, h104, X104, e104, W104, sr104⟩ := stB X97 hx hZ e97 Ar103 (j := (5 : Int32)) hin103 (g := (mkF m 149 #[.val (.int x0), .val (.int x1), .val (.int x2), .val (.int x3), .val (.int x4), .val (.ref b2), .val (.ref b62), .unset, .unset, .unset, .unset, .unset] [(.int (((48 : Int32) + d5).toInt8.toInt32)), (.int (5 : Int32)), (.ref b62)])) rfl rfl (hb hby at_149)
  have f105 : Arv Z h104 b2 k2 .int (8 : Int32) [(.int d0), (.int d1), (.int d2), (.int d3), (.int d4), (.int d5), (.int d6), (.int d7)] (.int (0 : Int32)) := f98.other W104 ne_b2_b62
  have f106 : Arv Z h104 b62 k62 .byte (8 : Int32) [(.int ((((48 : Int32) + d0).toInt8.toInt32)).toInt8.toInt32), (.int ((((48 : Int32) + d1).toInt8.toInt32)).toInt8.toInt32), (.int ((((48 : Int32) + d2).toInt8.toInt32)).toInt8.toInt32), (.int ((((48 : Int32) + d3).toInt8.toInt32)).toInt8.toInt32), (.int ((((48 : Int32) + d4).toInt8.toInt32)).toInt8.toInt32), (.int ((((48 : Int32) + d5).toInt8.toInt32)).toInt8.toInt32), (.int (0 : Int32)), (.int (0 : Int32))] (.int (0 : Int32)) := Arv.set Ar103 q103 S103 N103 H103 G103 (fits_nar_byte _) W104 5 rfl (Nat.le_of_ble_eq_true rfl)
  have Z104 : n0 ≤ h104.size := Nat.le_trans Z97 (Keep.of_wr W104).1
  have N104 := Fr.snoc X104 N97 g_b62
  obtain ⟨LL104, X104, N104⟩ := own_hide X104 N104
  have st107 : Steps p.tables e below (s₁.setTop (entryFrame m #[(.int x0), (.int x1), (.int x2), (.int x3), (.int x4)] maxLocals)) (T104.setTop (mkF m 150 #[.val (.int x0), .val (.int x1), .val (.int x2), .val (.int x3), .val (.int x4), .val (.ref b2), .val (.ref b62), .unset, .unset, .unset, .unset, .unset] [])) := st102.trans (sr104 _ (Steps.refl _))
  obtain ⟨cl108, Ar108, q108, S108, N108, H108, G108⟩ := id f105
  have hin108 : ¬ ((6 : Int32) < 0 ∨ cl108.slots.size ≤ ((6 : Int32)).toNatClampNeg) := inb_of S108 ⟨by decide, by decide⟩
  have hat108 : cl108.slots[((6 : Int32)).toNatClampNeg]? = some (.int d6) := H108.at hin108 rfl
  have st109 : Steps p.tables e below (s₁.setTop (entryFrame m #[(.int x0), (.int x1), (.int x2), (.int x3), (.int x4)] maxLocals)) (T104.setTop (mkF m 163 #[.val (.int x0), .val (.int x1), .val (.int x2), .val (.int x3), .val (.int x4), .val (.ref b2), .val (.ref b62), .unset, .unset, .unset, .unset, .unset] [(.int (((48 : Int32) + d6).toInt8.toInt32)), (.int (6 : Int32)), (.ref b62)])) := st107.trans (by
      show Steps p.tables e below (T104.setTop (mkF m 150 #[.val (.int x0), .val (.int x1), .val (.int x2), .val (.int x3), .val (.int x4), .val (.ref b2), .val (.ref b62), .unset, .unset, .unset, .unset, .unset] [])) _
      refine XS.aload X104.here hx rfl (hb hby at_150) rfl rfl ?_
      show Steps p.tables e below (T104.setTop (mkF m 152 #[.val (.int x0), .val (.int x1), .val (.int x2), .val (.int x3), .val (.int x4), .val (.ref b2), .val (.ref b62), .unset, .unset, .unset, .unset, .unset] [(.ref b62)])) _
      refine XS.bipush X104.here hx rfl (hb hby at_152) ?_
      show Steps p.tables e below (T104.setTop (mkF m 154 #[.val (.int x0), .val (.int x1), .val (.int x2), .val (.int x3), .val (.int x4), .val (.ref b2), .val (.ref b62), .unset, .unset, .unset, .unset, .unset] [(.int (6 : Int32)), (.ref b62)])) _
      refine XS.bipush X104.here hx rfl (hb hby at_154) ?_
      show Steps p.tables e below (T104.setTop (mkF m 156 #[.val (.int x0), .val (.int x1), .val (.int x2), .val (.int x3), .val (.int x4), .val (.ref b2), .val (.ref b62), .unset, .unset, .unset, .unset, .unset] [(.int (48 : Int32)), (.int (6 : Int32)), (.ref b62)])) _
      refine XS.aload X104.here hx rfl (hb hby at_156) rfl rfl ?_
      show Steps p.tables e below (T104.setTop (mkF m 158 #[.val (.int x0), .val (.int x1), .val (.int x2), .val (.int x3), .val (.int x4), .val (.ref b2), .val (.ref b62), .unset, .unset, .unset, .unset, .unset] [(.ref b2), (.int (48 : Int32)), (.int (6 : Int32)), (.ref b62)])) _
      refine XS.bipush X104.here hx rfl (hb hby at_158) ?_
      show Steps p.tables e below (T104.setTop (mkF m 160 #[.val (.int x0), .val (.int x1), .val (.int x2), .val (.int x3), .val (.int x4), .val (.ref b2), .val (.ref b62), .unset, .unset, .unset, .unset, .unset] [(.int (6 : Int32)), (.ref b2), (.int (48 : Int32)), (.int (6 : Int32)), (.ref b62)])) _
      refine X104.iaload hx (j := (6 : Int32)) (v := (.int d6)) (by rw [e104]; exact Ar108.1) (State.isArrayOf_alike hZ.alike Ar108.2.1) Ar108.2.2 hin108 hat108 (g := (mkF m 160 #[.val (.int x0), .val (.int x1), .val (.int x2), .val (.int x3), .val (.int x4), .val (.ref b2), .val (.ref b62), .unset, .unset, .unset, .unset, .unset] [(.int (6 : Int32)), (.ref b2), (.int (48 : Int32)), (.int (6 : Int32)), (.ref b62)])) rfl rfl (hb hby at_160) _ ?_
      show Steps p.tables e below (T104.setTop (mkF m 161 #[.val (.int x0), .val (.int x1), .val (.int x2), .val (.int x3), .val (.int x4), .val (.ref b2), .val (.ref b62), .unset, .unset, .unset, .unset, .unset] [(.int d6), (.int (48 : Int32)), (.int (6 : Int32)), (.ref b62)])) _
      refine XS.iadd X104.here hx rfl (hb hby at_161) rfl ?_
      show Steps p.tables e below (T104.setTop (mkF m 162 #[.val (.int x0), .val (.int x1), .val (.int x2), .val (.int x3), .val (.int x4), .val (.ref b2), .val (.ref b62), .unset, .unset, .unset, .unset, .unset] [(.int ((48 : Int32) + d6)), (.int (6 : Int32)), (.ref b62)])) _
      refine XS.i2b X104.here hx rfl (hb hby at_162) rfl ?_
      exact Steps.refl _)
  obtain ⟨cl110, Ar110, q110, S110, N110, H110, G110⟩ := id f106
  have hin110 : ¬ ((6 : Int32) < 0 ∨ cl110.slots.size ≤ ((6 : Int32)).toNatClampNeg) := inb_of S110 ⟨by decide, by decide⟩
  obtain ⟨T111, h111, X111, e111, W111, sr111⟩ := stB X104 hx hZ e104 Ar110 (j := (6 : Int32)) hin110 (g := (mkF m 163 #[.val (.int x0), .val (.int x1), .val (.int x2), .val (.int x3), .val (.int x4), .val (.ref b2), .val (.ref b62), .unset, .unset, .unset, .unset, .unset] [(.int (((48 : Int32) + d6).toInt8.toInt32)), (.int (6 : Int32)), (.ref b62)])) rfl rfl (hb hby at_163)
  have f112 : Arv Z h111 b2 k2 .int (8 : Int32) [(.int d0), (.int d1), (.int d2), (.int d3), (.int d4), (.int d5), (.int d6), (.int d7)] (.int (0 : Int32)) := f105.other W111 ne_b2_b62
  have f113 : Arv Z h111 b62 k62 .byte (8 : Int32) [(.int ((((48 : Int32) + d0).toInt8.toInt32)).toInt8.toInt32), (.int ((((48 : Int32) + d1).toInt8.toInt32)).toInt8.toInt32), (.int ((((48 : Int32) + d2).toInt8.toInt32)).toInt8.toInt32), (.int ((((48 : Int32) + d3).toInt8.toInt32)).toInt8.toInt32), (.int ((((48 : Int32) + d4).toInt8.toInt32)).toInt8.toInt32), (.int ((((48 : Int32) + d5).toInt8.toInt32)).toInt8.toInt32), (.int ((((48 : Int32) + d6).toInt8.toInt32)).toInt8.toInt32), (.int (0 : Int32))] (.int (0 : Int32)) := Arv.set Ar110 q110 S110 N110 H110 G110 (fits_nar_byte _) W111 6 rfl (Nat.le_of_ble_eq_true rfl)
  have Z111 : n0 ≤ h111.size := Nat.le_trans Z104 (Keep.of_wr W111).1
  have N111 := Fr.snoc X111 N104 g_b62
  obtain ⟨LL111, X111, N111⟩ := own_hide X111 N111
  have st114 : Steps p.tables e below (s₁.setTop (entryFrame m #[(.int x0), (.int x1), (.int x2), (.int x3), (.int x4)] maxLocals)) (T111.setTop (mkF m 164 #[.val (.int x0), .val (.int x1), .val (.int x2), .val (.int x3), .val (.int x4), .val (.ref b2), .val (.ref b62), .unset, .unset, .unset, .unset, .unset] [])) := st109.trans (sr111 _ (Steps.refl _))
  obtain ⟨cl115, Ar115, q115, S115, N115, H115, G115⟩ := id f112
  have hin115 : ¬ ((7 : Int32) < 0 ∨ cl115.slots.size ≤ ((7 : Int32)).toNatClampNeg) := inb_of S115 ⟨by decide, by decide⟩
  have hat115 : cl115.slots[((7 : Int32)).toNatClampNeg]? = some (.int d7) := H115.at hin115 rfl
  have st116 : Steps p.tables e below (s₁.setTop (entryFrame m #[(.int x0), (.int x1), (.int x2), (.int x3), (.int x4)] maxLocals)) (T111.setTop (mkF m 177 #[.val (.int x0), .val (.int x1), .val (.int x2), .val (.int x3), .val (.int x4), .val (.ref b2), .val (.ref b62), .unset, .unset, .unset, .unset, .unset] [(.int (((48 : Int32) + d7).toInt8.toInt32)), (.int (7 : Int32)), (.ref b62)])) := st114.trans (by
      show Steps p.tables e below (T111.setTop (mkF m 164 #[.val (.int x0), .val (.int x1), .val (.int x2), .val (.int x3), .val (.int x4), .val (.ref b2), .val (.ref b62), .unset, .unset, .unset, .unset, .unset] [])) _
      refine XS.aload X111.here hx rfl (hb hby at_164) rfl rfl ?_
      show Steps p.tables e below (T111.setTop (mkF m 166 #[.val (.int x0), .val (.int x1), .val (.int x2), .val (.int x3), .val (.int x4), .val (.ref b2), .val (.ref b62), .unset, .unset, .unset, .unset, .unset] [(.ref b62)])) _
      refine XS.bipush X111.here hx rfl (hb hby at_166) ?_
      show Steps p.tables e below (T111.setTop (mkF m 168 #[.val (.int x0), .val (.int x1), .val (.int x2), .val (.int x3), .val (.int x4), .val (.ref b2), .val (.ref b62), .unset, .unset, .unset, .unset, .unset] [(.int (7 : Int32)), (.ref b62)])) _
      refine XS.bipush X111.here hx rfl (hb hby at_168) ?_
      show Steps p.tables e below (T111.setTop (mkF m 170 #[.val (.int x0), .val (.int x1), .val (.int x2), .val (.int x3), .val (.int x4), .val (.ref b2), .val (.ref b62), .unset, .unset, .unset, .unset, .unset] [(.int (48 : Int32)), (.int (7 : Int32)), (.ref b62)])) _
      refine XS.aload X111.here hx rfl (hb hby at_170) rfl rfl ?_
      show Steps p.tables e below (T111.setTop (mkF m 172 #[.val (.int x0), .val (.int x1), .val (.int x2), .val (.int x3), .val (.int x4), .val (.ref b2), .val (.ref b62), .unset, .unset, .unset, .unset, .unset] [(.ref b2), (.int (48 : Int32)), (.int (7 : Int32)), (.ref b62)])) _
      refine XS.bipush X111.here hx rfl (hb hby at_172) ?_
      show Steps p.tables e below (T111.setTop (mkF m 174 #[.val (.int x0), .val (.int x1), .val (.int x2), .val (.int x3), .val (.int x4), .val (.ref b2), .val (.ref b62), .unset, .unset, .unset, .unset, .unset] [(.int (7 : Int32)), (.ref b2), (.int (48 : Int32)), (.int (7 : Int32)), (.ref b62)])) _
      refine X111.iaload hx (j := (7 : Int32)) (v := (.int d7)) (by rw [e111]; exact Ar115.1) (State.isArrayOf_alike hZ.alike Ar115.2.1) Ar115.2.2 hin115 hat115 (g := (mkF m 174 #[.val (.int x0), .val (.int x1), .val (.int x2), .val (.int x3), .val (.int x4), .val (.ref b2), .val (.ref b62), .unset, .unset, .unset, .unset, .unset] [(.int (7 : Int32)), (.ref b2), (.int (48 : Int32)), (.int (7 : Int32)), (.ref b62)])) rfl rfl (hb hby at_174) _ ?_
      show Steps p.tables e below (T111.setTop (mkF m 175 #[.val (.int x0), .val (.int x1), .val (.int x2), .val (.int x3), .val (.int x4), .val (.ref b2), .val (.ref b62), .unset, .unset, .unset, .unset, .unset] [(.int d7), (.int (48 : Int32)), (.int (7 : Int32)), (.ref b62)])) _
      refine XS.iadd X111.here hx rfl (hb hby at_175) rfl ?_
      show Steps p.tables e below (T111.setTop (mkF m 176 #[.val (.int x0), .val (.int x1), .val (.int x2), .val (.int x3), .val (.int x4), .val (.ref b2), .val (.ref b62), .unset, .unset, .unset, .unset, .unset] [(.int ((48 : Int32) + d7)), (.int (7 : Int32)), (.ref b62)])) _
      refine XS.i2b X111.here hx rfl (hb hby at_176) rfl ?_
      exact Steps.refl _)
  obtain ⟨cl117, Ar117, q117, S117, N117, H117, G117⟩ := id f113
  have hin117 : ¬ ((7 : Int32) < 0 ∨ cl117.slots.size ≤ ((7 : Int32)).toNatClampNeg) := inb_of S117 ⟨by decide, by decide⟩
  obtain ⟨T118, h118, X118, e118, W118, sr118⟩ := stB X111 hx hZ e111 Ar117 (j := (7 : Int32)) hin117 (g := (mkF m 177 #[.val (.int x0), .val (.int x1), .val (.int x2), .val (.int x3), .val (.int x4), .val (.ref b2), .val (.ref b62), .unset, .unset, .unset, .unset, .unset] [(.int (((48 : Int32) + d7).toInt8.toInt32)), (.int (7 : Int32)), (.ref b62)])) rfl rfl (hb hby at_177)
  have f119 : Arv Z h118 b2 k2 .int (8 : Int32) [(.int d0), (.int d1), (.int d2), (.int d3), (.int d4), (.int d5), (.int d6), (.int d7)] (.int (0 : Int32)) := f112.other W118 ne_b2_b62
  have f120 : Arv Z h118 b62 k62 .byte (8 : Int32) [(.int ((((48 : Int32) + d0).toInt8.toInt32)).toInt8.toInt32), (.int ((((48 : Int32) + d1).toInt8.toInt32)).toInt8.toInt32), (.int ((((48 : Int32) + d2).toInt8.toInt32)).toInt8.toInt32), (.int ((((48 : Int32) + d3).toInt8.toInt32)).toInt8.toInt32), (.int ((((48 : Int32) + d4).toInt8.toInt32)).toInt8.toInt32), (.int ((((48 : Int32) + d5).toInt8.toInt32)).toInt8.toInt32), (.int ((((48 : Int32) + d6).toInt8.toInt32)).toInt8.toInt32), (.int ((((48 : Int32) + d7).toInt8.toInt32)).toInt8.toInt32)] (.int (0 : Int32)) := Arv.set Ar117 q117 S117 N117 H117 G117 (fits_nar_byte _) W118 7 rfl (Nat.le_of_ble_eq_true rfl)
  have Z118 : n0 ≤ h118.size := Nat.le_trans Z111 (Keep.of_wr W118).1
  have N118 := Fr.snoc X118 N111 g_b62
  obtain ⟨LL118, X118, N118⟩ := own_hide X118 N118
  have st121 : Steps p.tables e below (s₁.setTop (entryFrame m #[(.int x0), (.int x1), (.int x2), (.int x3), (.int x4)] maxLocals)) (T118.setTop (mkF m 178 #[.val (.int x0), .val (.int x1), .val (.int x2), .val (.int x3), .val (.int x4), .val (.ref b2), .val (.ref b62), .unset, .unset, .unset, .unset, .unset] [])) := st116.trans (sr118 _ (Steps.refl _))
  have st122 : Steps p.tables e below (s₁.setTop (entryFrame m #[(.int x0), (.int x1), (.int x2), (.int x3), (.int x4)] maxLocals)) (T118.setTop (mkF m 186 #[.val (.int x0), .val (.int x1), .val (.int x2), .val (.int x3), .val (.int x4), .val (.ref b2), .val (.ref b62), .unset, .unset, .unset, .unset, .unset] [(.int ((x4 &&& (2147483647 : Int32)) % (9 : Int32)))])) := st121.trans (by
      show Steps p.tables e below (T118.setTop (mkF m 178 #[.val (.int x0), .val (.int x1), .val (.int x2), .val (.int x3), .val (.int x4), .val (.ref b2), .val (.ref b62), .unset, .unset, .unset, .unset, .unset] [])) _
      refine XS.iload X118.here hx rfl (hb hby at_178) rfl ?_
      show Steps p.tables e below (T118.setTop (mkF m 180 #[.val (.int x0), .val (.int x1), .val (.int x2), .val (.int x3), .val (.int x4), .val (.ref b2), .val (.ref b62), .unset, .unset, .unset, .unset, .unset] [(.int x4)])) _
      refine X118.ldcInt hx hown (mvT hZ (hw _ (List.mem_of_getElem? (i := 5) rfl))) (g := (mkF m 180 #[.val (.int x0), .val (.int x1), .val (.int x2), .val (.int x3), .val (.int x4), .val (.ref b2), .val (.ref b62), .unset, .unset, .unset, .unset, .unset] [(.int x4)])) rfl (hb hby at_180) _ ?_
      show Steps p.tables e below (T118.setTop (mkF m 182 #[.val (.int x0), .val (.int x1), .val (.int x2), .val (.int x3), .val (.int x4), .val (.ref b2), .val (.ref b62), .unset, .unset, .unset, .unset, .unset] [(.int (2147483647 : Int32)), (.int x4)])) _
      refine XS.iand X118.here hx rfl (hb hby at_182) rfl ?_
      show Steps p.tables e below (T118.setTop (mkF m 183 #[.val (.int x0), .val (.int x1), .val (.int x2), .val (.int x3), .val (.int x4), .val (.ref b2), .val (.ref b62), .unset, .unset, .unset, .unset, .unset] [(.int (x4 &&& (2147483647 : Int32)))])) _
      refine XS.bipush X118.here hx rfl (hb hby at_183) ?_
      show Steps p.tables e below (T118.setTop (mkF m 185 #[.val (.int x0), .val (.int x1), .val (.int x2), .val (.int x3), .val (.int x4), .val (.ref b2), .val (.ref b62), .unset, .unset, .unset, .unset, .unset] [(.int (9 : Int32)), (.int (x4 &&& (2147483647 : Int32)))])) _
      refine iremM X118 hx rfl (hb hby at_185) rfl (by decide) ?_
      exact Steps.refl _)
  obtain ⟨f, e_f⟩ : ∃ z, z = ((x4 &&& (2147483647 : Int32)) % (9 : Int32)) := ⟨_, rfl⟩
  rw [← e_f] at st122
  have st123 : Steps p.tables e below (s₁.setTop (entryFrame m #[(.int x0), (.int x1), (.int x2), (.int x3), (.int x4)] maxLocals)) (T118.setTop (mkF m 202 #[.val (.int x0), .val (.int x1), .val (.int x2), .val (.int x3), .val (.int x4), .val (.ref b2), .val (.ref b62), .val (.int f), .unset, .unset, .unset, .unset] [(.int (f + (((x4.toUInt32 >>> ((8 : Int32) &&& 31).toUInt32).toInt32) % ((9 : Int32) - f))))])) := st122.trans (by
      show Steps p.tables e below (T118.setTop (mkF m 186 #[.val (.int x0), .val (.int x1), .val (.int x2), .val (.int x3), .val (.int x4), .val (.ref b2), .val (.ref b62), .unset, .unset, .unset, .unset, .unset] [(.int f)])) _
      refine XS.istore X118.here hx rfl (hb hby at_186) rfl (l' := #[.val (.int x0), .val (.int x1), .val (.int x2), .val (.int x3), .val (.int x4), .val (.ref b2), .val (.ref b62), .val (.int f), .unset, .unset, .unset, .unset]) rfl ?_
      show Steps p.tables e below (T118.setTop (mkF m 188 #[.val (.int x0), .val (.int x1), .val (.int x2), .val (.int x3), .val (.int x4), .val (.ref b2), .val (.ref b62), .val (.int f), .unset, .unset, .unset, .unset] [])) _
      refine XS.iload X118.here hx rfl (hb hby at_188) rfl ?_
      show Steps p.tables e below (T118.setTop (mkF m 190 #[.val (.int x0), .val (.int x1), .val (.int x2), .val (.int x3), .val (.int x4), .val (.ref b2), .val (.ref b62), .val (.int f), .unset, .unset, .unset, .unset] [(.int f)])) _
      refine XS.iload X118.here hx rfl (hb hby at_190) rfl ?_
      show Steps p.tables e below (T118.setTop (mkF m 192 #[.val (.int x0), .val (.int x1), .val (.int x2), .val (.int x3), .val (.int x4), .val (.ref b2), .val (.ref b62), .val (.int f), .unset, .unset, .unset, .unset] [(.int x4), (.int f)])) _
      refine XS.bipush X118.here hx rfl (hb hby at_192) ?_
      show Steps p.tables e below (T118.setTop (mkF m 194 #[.val (.int x0), .val (.int x1), .val (.int x2), .val (.int x3), .val (.int x4), .val (.ref b2), .val (.ref b62), .val (.int f), .unset, .unset, .unset, .unset] [(.int (8 : Int32)), (.int x4), (.int f)])) _
      refine XS.iushr X118.here hx rfl (hb hby at_194) rfl ?_
      show Steps p.tables e below (T118.setTop (mkF m 195 #[.val (.int x0), .val (.int x1), .val (.int x2), .val (.int x3), .val (.int x4), .val (.ref b2), .val (.ref b62), .val (.int f), .unset, .unset, .unset, .unset] [(.int ((x4.toUInt32 >>> ((8 : Int32) &&& 31).toUInt32).toInt32)), (.int f)])) _
      refine XS.bipush X118.here hx rfl (hb hby at_195) ?_
      show Steps p.tables e below (T118.setTop (mkF m 197 #[.val (.int x0), .val (.int x1), .val (.int x2), .val (.int x3), .val (.int x4), .val (.ref b2), .val (.ref b62), .val (.int f), .unset, .unset, .unset, .unset] [(.int (9 : Int32)), (.int ((x4.toUInt32 >>> ((8 : Int32) &&& 31).toUInt32).toInt32)), (.int f)])) _
      refine XS.iload X118.here hx rfl (hb hby at_197) rfl ?_
      show Steps p.tables e below (T118.setTop (mkF m 199 #[.val (.int x0), .val (.int x1), .val (.int x2), .val (.int x3), .val (.int x4), .val (.ref b2), .val (.ref b62), .val (.int f), .unset, .unset, .unset, .unset] [(.int f), (.int (9 : Int32)), (.int ((x4.toUInt32 >>> ((8 : Int32) &&& 31).toUInt32).toInt32)), (.int f)])) _
      refine XS.isub X118.here hx rfl (hb hby at_199) rfl ?_
      show Steps p.tables e below (T118.setTop (mkF m 200 #[.val (.int x0), .val (.int x1), .val (.int x2), .val (.int x3), .val (.int x4), .val (.ref b2), .val (.ref b62), .val (.int f), .unset, .unset, .unset, .unset] [(.int ((9 : Int32) - f)), (.int ((x4.toUInt32 >>> ((8 : Int32) &&& 31).toUInt32).toInt32)), (.int f)])) _
      refine iremM X118 hx rfl (hb hby at_200) rfl (own_nz x4 f e_f) ?_
      show Steps p.tables e below (T118.setTop (mkF m 201 #[.val (.int x0), .val (.int x1), .val (.int x2), .val (.int x3), .val (.int x4), .val (.ref b2), .val (.ref b62), .val (.int f), .unset, .unset, .unset, .unset] [(.int (((x4.toUInt32 >>> ((8 : Int32) &&& 31).toUInt32).toInt32) % ((9 : Int32) - f))), (.int f)])) _
      refine XS.iadd X118.here hx rfl (hb hby at_201) rfl ?_
      exact Steps.refl _)
  obtain ⟨t, e_t⟩ : ∃ z, z = (f + (((x4.toUInt32 >>> ((8 : Int32) &&& 31).toUInt32).toInt32) % ((9 : Int32) - f))) := ⟨_, rfl⟩
  rw [← e_t] at st123
  have hft := own_ft x4 f t e_f e_t
  have st124 : Steps p.tables e below (s₁.setTop (entryFrame m #[(.int x0), (.int x1), (.int x2), (.int x3), (.int x4)] maxLocals)) (T118.setTop (mkF m 211 #[.val (.int x0), .val (.int x1), .val (.int x2), .val (.int x3), .val (.int x4), .val (.ref b2), .val (.ref b62), .val (.int f), .val (.int t), .unset, .unset, .unset] [(.int t), (.int f), (.int (0 : Int32)), (.ref b2)])) := st123.trans (by
      show Steps p.tables e below (T118.setTop (mkF m 202 #[.val (.int x0), .val (.int x1), .val (.int x2), .val (.int x3), .val (.int x4), .val (.ref b2), .val (.ref b62), .val (.int f), .unset, .unset, .unset, .unset] [(.int t)])) _
      refine XS.istore X118.here hx rfl (hb hby at_202) rfl (l' := #[.val (.int x0), .val (.int x1), .val (.int x2), .val (.int x3), .val (.int x4), .val (.ref b2), .val (.ref b62), .val (.int f), .val (.int t), .unset, .unset, .unset]) rfl ?_
      show Steps p.tables e below (T118.setTop (mkF m 204 #[.val (.int x0), .val (.int x1), .val (.int x2), .val (.int x3), .val (.int x4), .val (.ref b2), .val (.ref b62), .val (.int f), .val (.int t), .unset, .unset, .unset] [])) _
      refine XS.aload X118.here hx rfl (hb hby at_204) rfl rfl ?_
      show Steps p.tables e below (T118.setTop (mkF m 206 #[.val (.int x0), .val (.int x1), .val (.int x2), .val (.int x3), .val (.int x4), .val (.ref b2), .val (.ref b62), .val (.int f), .val (.int t), .unset, .unset, .unset] [(.ref b2)])) _
      refine XS.iconst X118.here hx rfl (hb hby at_206) ?_
      show Steps p.tables e below (T118.setTop (mkF m 207 #[.val (.int x0), .val (.int x1), .val (.int x2), .val (.int x3), .val (.int x4), .val (.ref b2), .val (.ref b62), .val (.int f), .val (.int t), .unset, .unset, .unset] [(.int (0 : Int32)), (.ref b2)])) _
      refine XS.iload X118.here hx rfl (hb hby at_207) rfl ?_
      show Steps p.tables e below (T118.setTop (mkF m 209 #[.val (.int x0), .val (.int x1), .val (.int x2), .val (.int x3), .val (.int x4), .val (.ref b2), .val (.ref b62), .val (.int f), .val (.int t), .unset, .unset, .unset] [(.int f), (.int (0 : Int32)), (.ref b2)])) _
      refine XS.iload X118.here hx rfl (hb hby at_209) rfl ?_
      exact Steps.refl _)
  obtain ⟨_, _, ⟨T125, L125, k125, n125⟩, -, X125, ⟨Lc125, hQ125, l125, y125, z125⟩, sr125⟩ := Jvm.LawKit.callS X118 hx (y := (⟨"com/example/escritural/escritural/boleto/DigitsModulo10PinLaw", "term", "([IIII)I"⟩ : MethodName)) hown (mvT hZ (hw _ (List.mem_of_getElem? (i := 10) rfl))) (mvT hZ (hw _ (List.mem_of_getElem? (i := 11) rfl))) (mvT hZ (hw _ (List.mem_of_getElem? (i := 3) rfl))) (mvT hZ (hw _ (List.mem_of_getElem? (i := 12) rfl))) (by decide) (backOf (W := 0) (rm3 l Z a0 hw [] b2 (0 : Int32) f t k2 ([d0, d1, d2, d3, d4, d5, d6, d7] : List Int32) h118 n0 Z118 f119 (by decide)) hZ (hw _ (List.mem_of_getElem? (i := 12) rfl)) (hw _ (List.mem_of_getElem? (i := 3) rfl)) (by decide) (by decide)) (g := (mkF m 211 #[.val (.int x0), .val (.int x1), .val (.int x2), .val (.int x3), .val (.int x4), .val (.ref b2), .val (.ref b62), .val (.int f), .val (.int t), .unset, .unset, .unset] [(.int t), (.int f), (.int (0 : Int32)), (.ref b2)])) rfl (by rw [hml]; rfl) (argsL := [(.ref b2), (.int (0 : Int32)), (.int f), (.int t)]) (rest := []) (lenOf pd_1 rfl) rfl (by show 2 * 0 + _ ≤ _; exact Nat.le_of_eq rfl) (hb hby at_211) (fun _ _ => ⟨rfl, e118, (by decide : 2 + 0 ≤ _), (by decide : 16 + 0 ≤ _)⟩)
  dsimp only [Pt.U, Pt.locs, Pt.cells, Pt.slots] at X125 l125 y125 z125 sr125 hQ125
  subst l125 y125 z125
  obtain ⟨rfl, N125q, hh125⟩ := hQ125
  have N125 := Fr.app N118 N125q
  obtain ⟨LL125, X125, N125⟩ := own_hide X125 N125
  have st126 : Steps p.tables e below (s₁.setTop (entryFrame m #[(.int x0), (.int x1), (.int x2), (.int x3), (.int x4)] maxLocals)) (T125.setTop (mkF m 214 #[.val (.int x0), .val (.int x1), .val (.int x2), .val (.int x3), .val (.int x4), .val (.ref b2), .val (.ref b62), .val (.int f), .val (.int t), .unset, .unset, .unset] [(.int (F3 (0 : Int32) f t ([d0, d1, d2, d3, d4, d5, d6, d7] : List Int32)))])) := st124.trans (sr125 _ (Steps.refl _))
  have st127 : Steps p.tables e below (s₁.setTop (entryFrame m #[(.int x0), (.int x1), (.int x2), (.int x3), (.int x4)] maxLocals)) (T125.setTop (mkF m 221 #[.val (.int x0), .val (.int x1), .val (.int x2), .val (.int x3), .val (.int x4), .val (.ref b2), .val (.ref b62), .val (.int f), .val (.int t), .unset, .unset, .unset] [(.int t), (.int f), (.int (1 : Int32)), (.ref b2), (.int (F3 (0 : Int32) f t ([d0, d1, d2, d3, d4, d5, d6, d7] : List Int32)))])) := st126.trans (by
      show Steps p.tables e below (T125.setTop (mkF m 214 #[.val (.int x0), .val (.int x1), .val (.int x2), .val (.int x3), .val (.int x4), .val (.ref b2), .val (.ref b62), .val (.int f), .val (.int t), .unset, .unset, .unset] [(.int (F3 (0 : Int32) f t ([d0, d1, d2, d3, d4, d5, d6, d7] : List Int32)))])) _
      refine XS.aload X125.here hx rfl (hb hby at_214) rfl rfl ?_
      show Steps p.tables e below (T125.setTop (mkF m 216 #[.val (.int x0), .val (.int x1), .val (.int x2), .val (.int x3), .val (.int x4), .val (.ref b2), .val (.ref b62), .val (.int f), .val (.int t), .unset, .unset, .unset] [(.ref b2), (.int (F3 (0 : Int32) f t ([d0, d1, d2, d3, d4, d5, d6, d7] : List Int32)))])) _
      refine XS.iconst X125.here hx rfl (hb hby at_216) ?_
      show Steps p.tables e below (T125.setTop (mkF m 217 #[.val (.int x0), .val (.int x1), .val (.int x2), .val (.int x3), .val (.int x4), .val (.ref b2), .val (.ref b62), .val (.int f), .val (.int t), .unset, .unset, .unset] [(.int (1 : Int32)), (.ref b2), (.int (F3 (0 : Int32) f t ([d0, d1, d2, d3, d4, d5, d6, d7] : List Int32)))])) _
      refine XS.iload X125.here hx rfl (hb hby at_217) rfl ?_
      show Steps p.tables e below (T125.setTop (mkF m 219 #[.val (.int x0), .val (.int x1), .val (.int x2), .val (.int x3), .val (.int x4), .val (.ref b2), .val (.ref b62), .val (.int f), .val (.int t), .unset, .unset, .unset] [(.int f), (.int (1 : Int32)), (.ref b2), (.int (F3 (0 : Int32) f t ([d0, d1, d2, d3, d4, d5, d6, d7] : List Int32)))])) _
      refine XS.iload X125.here hx rfl (hb hby at_219) rfl ?_
      exact Steps.refl _)
  obtain ⟨_, _, ⟨T128, L128, k128, n128⟩, -, X128, ⟨Lc128, hQ128, l128, y128, z128⟩, sr128⟩ := Jvm.LawKit.callS X125 hx (y := (⟨"com/example/escritural/escritural/boleto/DigitsModulo10PinLaw", "term", "([IIII)I"⟩ : MethodName)) hown (mvT hZ (hw _ (List.mem_of_getElem? (i := 10) rfl))) (mvT hZ (hw _ (List.mem_of_getElem? (i := 11) rfl))) (mvT hZ (hw _ (List.mem_of_getElem? (i := 3) rfl))) (mvT hZ (hw _ (List.mem_of_getElem? (i := 12) rfl))) (by decide) (backOf (W := 1) (rm3 l Z a0 hw [] b2 (1 : Int32) f t k2 ([d0, d1, d2, d3, d4, d5, d6, d7] : List Int32) h118 n0 Z118 f119 (by decide)) hZ (hw _ (List.mem_of_getElem? (i := 12) rfl)) (hw _ (List.mem_of_getElem? (i := 3) rfl)) (by decide) (by decide)) (g := (mkF m 221 #[.val (.int x0), .val (.int x1), .val (.int x2), .val (.int x3), .val (.int x4), .val (.ref b2), .val (.ref b62), .val (.int f), .val (.int t), .unset, .unset, .unset] [(.int t), (.int f), (.int (1 : Int32)), (.ref b2), (.int (F3 (0 : Int32) f t ([d0, d1, d2, d3, d4, d5, d6, d7] : List Int32)))])) rfl (by rw [hml]; rfl) (argsL := [(.ref b2), (.int (1 : Int32)), (.int f), (.int t)]) (rest := [(.int (F3 (0 : Int32) f t ([d0, d1, d2, d3, d4, d5, d6, d7] : List Int32)))]) (lenOf pd_1 rfl) rfl (by show 2 * 0 + _ ≤ _; exact Nat.le_of_eq rfl) (hb hby at_221) (fun _ _ => ⟨rfl, hh125, (by decide : 2 + 0 ≤ _), (by decide : 16 + 0 ≤ _)⟩)
  dsimp only [Pt.U, Pt.locs, Pt.cells, Pt.slots] at X128 l128 y128 z128 sr128 hQ128
  subst l128 y128 z128
  obtain ⟨rfl, N128q, hh128⟩ := hQ128
  have N128 := Fr.app N125 N128q
  obtain ⟨LL128, X128, N128⟩ := own_hide X128 N128
  have st129 : Steps p.tables e below (s₁.setTop (entryFrame m #[(.int x0), (.int x1), (.int x2), (.int x3), (.int x4)] maxLocals)) (T128.setTop (mkF m 224 #[.val (.int x0), .val (.int x1), .val (.int x2), .val (.int x3), .val (.int x4), .val (.ref b2), .val (.ref b62), .val (.int f), .val (.int t), .unset, .unset, .unset] [(.int (F3 (1 : Int32) f t ([d0, d1, d2, d3, d4, d5, d6, d7] : List Int32))), (.int (F3 (0 : Int32) f t ([d0, d1, d2, d3, d4, d5, d6, d7] : List Int32)))])) := st127.trans (sr128 _ (Steps.refl _))
  have st130 : Steps p.tables e below (s₁.setTop (entryFrame m #[(.int x0), (.int x1), (.int x2), (.int x3), (.int x4)] maxLocals)) (T128.setTop (mkF m 232 #[.val (.int x0), .val (.int x1), .val (.int x2), .val (.int x3), .val (.int x4), .val (.ref b2), .val (.ref b62), .val (.int f), .val (.int t), .unset, .unset, .unset] [(.int t), (.int f), (.int (2 : Int32)), (.ref b2), (.int ((F3 (0 : Int32) f t ([d0, d1, d2, d3, d4, d5, d6, d7] : List Int32)) + (F3 (1 : Int32) f t ([d0, d1, d2, d3, d4, d5, d6, d7] : List Int32))))])) := st129.trans (by
      show Steps p.tables e below (T128.setTop (mkF m 224 #[.val (.int x0), .val (.int x1), .val (.int x2), .val (.int x3), .val (.int x4), .val (.ref b2), .val (.ref b62), .val (.int f), .val (.int t), .unset, .unset, .unset] [(.int (F3 (1 : Int32) f t ([d0, d1, d2, d3, d4, d5, d6, d7] : List Int32))), (.int (F3 (0 : Int32) f t ([d0, d1, d2, d3, d4, d5, d6, d7] : List Int32)))])) _
      refine XS.iadd X128.here hx rfl (hb hby at_224) rfl ?_
      show Steps p.tables e below (T128.setTop (mkF m 225 #[.val (.int x0), .val (.int x1), .val (.int x2), .val (.int x3), .val (.int x4), .val (.ref b2), .val (.ref b62), .val (.int f), .val (.int t), .unset, .unset, .unset] [(.int ((F3 (0 : Int32) f t ([d0, d1, d2, d3, d4, d5, d6, d7] : List Int32)) + (F3 (1 : Int32) f t ([d0, d1, d2, d3, d4, d5, d6, d7] : List Int32))))])) _
      refine XS.aload X128.here hx rfl (hb hby at_225) rfl rfl ?_
      show Steps p.tables e below (T128.setTop (mkF m 227 #[.val (.int x0), .val (.int x1), .val (.int x2), .val (.int x3), .val (.int x4), .val (.ref b2), .val (.ref b62), .val (.int f), .val (.int t), .unset, .unset, .unset] [(.ref b2), (.int ((F3 (0 : Int32) f t ([d0, d1, d2, d3, d4, d5, d6, d7] : List Int32)) + (F3 (1 : Int32) f t ([d0, d1, d2, d3, d4, d5, d6, d7] : List Int32))))])) _
      refine XS.iconst X128.here hx rfl (hb hby at_227) ?_
      show Steps p.tables e below (T128.setTop (mkF m 228 #[.val (.int x0), .val (.int x1), .val (.int x2), .val (.int x3), .val (.int x4), .val (.ref b2), .val (.ref b62), .val (.int f), .val (.int t), .unset, .unset, .unset] [(.int (2 : Int32)), (.ref b2), (.int ((F3 (0 : Int32) f t ([d0, d1, d2, d3, d4, d5, d6, d7] : List Int32)) + (F3 (1 : Int32) f t ([d0, d1, d2, d3, d4, d5, d6, d7] : List Int32))))])) _
      refine XS.iload X128.here hx rfl (hb hby at_228) rfl ?_
      show Steps p.tables e below (T128.setTop (mkF m 230 #[.val (.int x0), .val (.int x1), .val (.int x2), .val (.int x3), .val (.int x4), .val (.ref b2), .val (.ref b62), .val (.int f), .val (.int t), .unset, .unset, .unset] [(.int f), (.int (2 : Int32)), (.ref b2), (.int ((F3 (0 : Int32) f t ([d0, d1, d2, d3, d4, d5, d6, d7] : List Int32)) + (F3 (1 : Int32) f t ([d0, d1, d2, d3, d4, d5, d6, d7] : List Int32))))])) _
      refine XS.iload X128.here hx rfl (hb hby at_230) rfl ?_
      exact Steps.refl _)
  obtain ⟨_, _, ⟨T131, L131, k131, n131⟩, -, X131, ⟨Lc131, hQ131, l131, y131, z131⟩, sr131⟩ := Jvm.LawKit.callS X128 hx (y := (⟨"com/example/escritural/escritural/boleto/DigitsModulo10PinLaw", "term", "([IIII)I"⟩ : MethodName)) hown (mvT hZ (hw _ (List.mem_of_getElem? (i := 10) rfl))) (mvT hZ (hw _ (List.mem_of_getElem? (i := 11) rfl))) (mvT hZ (hw _ (List.mem_of_getElem? (i := 3) rfl))) (mvT hZ (hw _ (List.mem_of_getElem? (i := 12) rfl))) (by decide) (backOf (W := 1) (rm3 l Z a0 hw [] b2 (2 : Int32) f t k2 ([d0, d1, d2, d3, d4, d5, d6, d7] : List Int32) h118 n0 Z118 f119 (by decide)) hZ (hw _ (List.mem_of_getElem? (i := 12) rfl)) (hw _ (List.mem_of_getElem? (i := 3) rfl)) (by decide) (by decide)) (g := (mkF m 232 #[.val (.int x0), .val (.int x1), .val (.int x2), .val (.int x3), .val (.int x4), .val (.ref b2), .val (.ref b62), .val (.int f), .val (.int t), .unset, .unset, .unset] [(.int t), (.int f), (.int (2 : Int32)), (.ref b2), (.int ((F3 (0 : Int32) f t ([d0, d1, d2, d3, d4, d5, d6, d7] : List Int32)) + (F3 (1 : Int32) f t ([d0, d1, d2, d3, d4, d5, d6, d7] : List Int32))))])) rfl (by rw [hml]; rfl) (argsL := [(.ref b2), (.int (2 : Int32)), (.int f), (.int t)]) (rest := [(.int ((F3 (0 : Int32) f t ([d0, d1, d2, d3, d4, d5, d6, d7] : List Int32)) + (F3 (1 : Int32) f t ([d0, d1, d2, d3, d4, d5, d6, d7] : List Int32))))]) (lenOf pd_1 rfl) rfl (by show 2 * 0 + _ ≤ _; exact Nat.le_of_eq rfl) (hb hby at_232) (fun _ _ => ⟨rfl, hh128, (by decide : 2 + 0 ≤ _), (by decide : 16 + 0 ≤ _)⟩)
  dsimp only [Pt.U, Pt.locs, Pt.cells, Pt.slots] at X131 l131 y131 z131 sr131 hQ131
  subst l131 y131 z131
  obtain ⟨rfl, N131q, hh131⟩ := hQ131
  have N131 := Fr.app N128 N131q
  obtain ⟨LL131, X131, N131⟩ := own_hide X131 N131
  have st132 : Steps p.tables e below (s₁.setTop (entryFrame m #[(.int x0), (.int x1), (.int x2), (.int x3), (.int x4)] maxLocals)) (T131.setTop (mkF m 235 #[.val (.int x0), .val (.int x1), .val (.int x2), .val (.int x3), .val (.int x4), .val (.ref b2), .val (.ref b62), .val (.int f), .val (.int t), .unset, .unset, .unset] [(.int (F3 (2 : Int32) f t ([d0, d1, d2, d3, d4, d5, d6, d7] : List Int32))), (.int ((F3 (0 : Int32) f t ([d0, d1, d2, d3, d4, d5, d6, d7] : List Int32)) + (F3 (1 : Int32) f t ([d0, d1, d2, d3, d4, d5, d6, d7] : List Int32))))])) := st130.trans (sr131 _ (Steps.refl _))
  have st133 : Steps p.tables e below (s₁.setTop (entryFrame m #[(.int x0), (.int x1), (.int x2), (.int x3), (.int x4)] maxLocals)) (T131.setTop (mkF m 243 #[.val (.int x0), .val (.int x1), .val (.int x2), .val (.int x3), .val (.int x4), .val (.ref b2), .val (.ref b62), .val (.int f), .val (.int t), .unset, .unset, .unset] [(.int t), (.int f), (.int (3 : Int32)), (.ref b2), (.int (((F3 (0 : Int32) f t ([d0, d1, d2, d3, d4, d5, d6, d7] : List Int32)) + (F3 (1 : Int32) f t ([d0, d1, d2, d3, d4, d5, d6, d7] : List Int32))) + (F3 (2 : Int32) f t ([d0, d1, d2, d3, d4, d5, d6, d7] : List Int32))))])) := st132.trans (by
      show Steps p.tables e below (T131.setTop (mkF m 235 #[.val (.int x0), .val (.int x1), .val (.int x2), .val (.int x3), .val (.int x4), .val (.ref b2), .val (.ref b62), .val (.int f), .val (.int t), .unset, .unset, .unset] [(.int (F3 (2 : Int32) f t ([d0, d1, d2, d3, d4, d5, d6, d7] : List Int32))), (.int ((F3 (0 : Int32) f t ([d0, d1, d2, d3, d4, d5, d6, d7] : List Int32)) + (F3 (1 : Int32) f t ([d0, d1, d2, d3, d4, d5, d6, d7] : List Int32))))])) _
      refine XS.iadd X131.here hx rfl (hb hby at_235) rfl ?_
      show Steps p.tables e below (T131.setTop (mkF m 236 #[.val (.int x0), .val (.int x1), .val (.int x2), .val (.int x3), .val (.int x4), .val (.ref b2), .val (.ref b62), .val (.int f), .val (.int t), .unset, .unset, .unset] [(.int (((F3 (0 : Int32) f t ([d0, d1, d2, d3, d4, d5, d6, d7] : List Int32)) + (F3 (1 : Int32) f t ([d0, d1, d2, d3, d4, d5, d6, d7] : List Int32))) + (F3 (2 : Int32) f t ([d0, d1, d2, d3, d4, d5, d6, d7] : List Int32))))])) _
      refine XS.aload X131.here hx rfl (hb hby at_236) rfl rfl ?_
      show Steps p.tables e below (T131.setTop (mkF m 238 #[.val (.int x0), .val (.int x1), .val (.int x2), .val (.int x3), .val (.int x4), .val (.ref b2), .val (.ref b62), .val (.int f), .val (.int t), .unset, .unset, .unset] [(.ref b2), (.int (((F3 (0 : Int32) f t ([d0, d1, d2, d3, d4, d5, d6, d7] : List Int32)) + (F3 (1 : Int32) f t ([d0, d1, d2, d3, d4, d5, d6, d7] : List Int32))) + (F3 (2 : Int32) f t ([d0, d1, d2, d3, d4, d5, d6, d7] : List Int32))))])) _
      refine XS.iconst X131.here hx rfl (hb hby at_238) ?_
      show Steps p.tables e below (T131.setTop (mkF m 239 #[.val (.int x0), .val (.int x1), .val (.int x2), .val (.int x3), .val (.int x4), .val (.ref b2), .val (.ref b62), .val (.int f), .val (.int t), .unset, .unset, .unset] [(.int (3 : Int32)), (.ref b2), (.int (((F3 (0 : Int32) f t ([d0, d1, d2, d3, d4, d5, d6, d7] : List Int32)) + (F3 (1 : Int32) f t ([d0, d1, d2, d3, d4, d5, d6, d7] : List Int32))) + (F3 (2 : Int32) f t ([d0, d1, d2, d3, d4, d5, d6, d7] : List Int32))))])) _
      refine XS.iload X131.here hx rfl (hb hby at_239) rfl ?_
      show Steps p.tables e below (T131.setTop (mkF m 241 #[.val (.int x0), .val (.int x1), .val (.int x2), .val (.int x3), .val (.int x4), .val (.ref b2), .val (.ref b62), .val (.int f), .val (.int t), .unset, .unset, .unset] [(.int f), (.int (3 : Int32)), (.ref b2), (.int (((F3 (0 : Int32) f t ([d0, d1, d2, d3, d4, d5, d6, d7] : List Int32)) + (F3 (1 : Int32) f t ([d0, d1, d2, d3, d4, d5, d6, d7] : List Int32))) + (F3 (2 : Int32) f t ([d0, d1, d2, d3, d4, d5, d6, d7] : List Int32))))])) _
      refine XS.iload X131.here hx rfl (hb hby at_241) rfl ?_
      exact Steps.refl _)
  obtain ⟨_, _, ⟨T134, L134, k134, n134⟩, -, X134, ⟨Lc134, hQ134, l134, y134, z134⟩, sr134⟩ := Jvm.LawKit.callS X131 hx (y := (⟨"com/example/escritural/escritural/boleto/DigitsModulo10PinLaw", "term", "([IIII)I"⟩ : MethodName)) hown (mvT hZ (hw _ (List.mem_of_getElem? (i := 10) rfl))) (mvT hZ (hw _ (List.mem_of_getElem? (i := 11) rfl))) (mvT hZ (hw _ (List.mem_of_getElem? (i := 3) rfl))) (mvT hZ (hw _ (List.mem_of_getElem? (i := 12) rfl))) (by decide) (backOf (W := 1) (rm3 l Z a0 hw [] b2 (3 : Int32) f t k2 ([d0, d1, d2, d3, d4, d5, d6, d7] : List Int32) h118 n0 Z118 f119 (by decide)) hZ (hw _ (List.mem_of_getElem? (i := 12) rfl)) (hw _ (List.mem_of_getElem? (i := 3) rfl)) (by decide) (by decide)) (g := (mkF m 243 #[.val (.int x0), .val (.int x1), .val (.int x2), .val (.int x3), .val (.int x4), .val (.ref b2), .val (.ref b62), .val (.int f), .val (.int t), .unset, .unset, .unset] [(.int t), (.int f), (.int (3 : Int32)), (.ref b2), (.int (((F3 (0 : Int32) f t ([d0, d1, d2, d3, d4, d5, d6, d7] : List Int32)) + (F3 (1 : Int32) f t ([d0, d1, d2, d3, d4, d5, d6, d7] : List Int32))) + (F3 (2 : Int32) f t ([d0, d1, d2, d3, d4, d5, d6, d7] : List Int32))))])) rfl (by rw [hml]; rfl) (argsL := [(.ref b2), (.int (3 : Int32)), (.int f), (.int t)]) (rest := [(.int (((F3 (0 : Int32) f t ([d0, d1, d2, d3, d4, d5, d6, d7] : List Int32)) + (F3 (1 : Int32) f t ([d0, d1, d2, d3, d4, d5, d6, d7] : List Int32))) + (F3 (2 : Int32) f t ([d0, d1, d2, d3, d4, d5, d6, d7] : List Int32))))]) (lenOf pd_1 rfl) rfl (by show 2 * 0 + _ ≤ _; exact Nat.le_of_eq rfl) (hb hby at_243) (fun _ _ => ⟨rfl, hh131, (by decide : 2 + 0 ≤ _), (by decide : 16 + 0 ≤ _)⟩)
  dsimp only [Pt.U, Pt.locs, Pt.cells, Pt.slots] at X134 l134 y134 z134 sr134 hQ134
  subst l134 y134 z134
  obtain ⟨rfl, N134q, hh134⟩ := hQ134
  have N134 := Fr.app N131 N134q
  obtain ⟨LL134, X134, N134⟩ := own_hide X134 N134
  have st135 : Steps p.tables e below (s₁.setTop (entryFrame m #[(.int x0), (.int x1), (.int x2), (.int x3), (.int x4)] maxLocals)) (T134.setTop (mkF m 246 #[.val (.int x0), .val (.int x1), .val (.int x2), .val (.int x3), .val (.int x4), .val (.ref b2), .val (.ref b62), .val (.int f), .val (.int t), .unset, .unset, .unset] [(.int (F3 (3 : Int32) f t ([d0, d1, d2, d3, d4, d5, d6, d7] : List Int32))), (.int (((F3 (0 : Int32) f t ([d0, d1, d2, d3, d4, d5, d6, d7] : List Int32)) + (F3 (1 : Int32) f t ([d0, d1, d2, d3, d4, d5, d6, d7] : List Int32))) + (F3 (2 : Int32) f t ([d0, d1, d2, d3, d4, d5, d6, d7] : List Int32))))])) := st133.trans (sr134 _ (Steps.refl _))
  have st136 : Steps p.tables e below (s₁.setTop (entryFrame m #[(.int x0), (.int x1), (.int x2), (.int x3), (.int x4)] maxLocals)) (T134.setTop (mkF m 254 #[.val (.int x0), .val (.int x1), .val (.int x2), .val (.int x3), .val (.int x4), .val (.ref b2), .val (.ref b62), .val (.int f), .val (.int t), .unset, .unset, .unset] [(.int t), (.int f), (.int (4 : Int32)), (.ref b2), (.int ((((F3 (0 : Int32) f t ([d0, d1, d2, d3, d4, d5, d6, d7] : List Int32)) + (F3 (1 : Int32) f t ([d0, d1, d2, d3, d4, d5, d6, d7] : List Int32))) + (F3 (2 : Int32) f t ([d0, d1, d2, d3, d4, d5, d6, d7] : List Int32))) + (F3 (3 : Int32) f t ([d0, d1, d2, d3, d4, d5, d6, d7] : List Int32))))])) := st135.trans (by
      show Steps p.tables e below (T134.setTop (mkF m 246 #[.val (.int x0), .val (.int x1), .val (.int x2), .val (.int x3), .val (.int x4), .val (.ref b2), .val (.ref b62), .val (.int f), .val (.int t), .unset, .unset, .unset] [(.int (F3 (3 : Int32) f t ([d0, d1, d2, d3, d4, d5, d6, d7] : List Int32))), (.int (((F3 (0 : Int32) f t ([d0, d1, d2, d3, d4, d5, d6, d7] : List Int32)) + (F3 (1 : Int32) f t ([d0, d1, d2, d3, d4, d5, d6, d7] : List Int32))) + (F3 (2 : Int32) f t ([d0, d1, d2, d3, d4, d5, d6, d7] : List Int32))))])) _
      refine XS.iadd X134.here hx rfl (hb hby at_246) rfl ?_
      show Steps p.tables e below (T134.setTop (mkF m 247 #[.val (.int x0), .val (.int x1), .val (.int x2), .val (.int x3), .val (.int x4), .val (.ref b2), .val (.ref b62), .val (.int f), .val (.int t), .unset, .unset, .unset] [(.int ((((F3 (0 : Int32) f t ([d0, d1, d2, d3, d4, d5, d6, d7] : List Int32)) + (F3 (1 : Int32) f t ([d0, d1, d2, d3, d4, d5, d6, d7] : List Int32))) + (F3 (2 : Int32) f t ([d0, d1, d2, d3, d4, d5, d6, d7] : List Int32))) + (F3 (3 : Int32) f t ([d0, d1, d2, d3, d4, d5, d6, d7] : List Int32))))])) _
      refine XS.aload X134.here hx rfl (hb hby at_247) rfl rfl ?_
      show Steps p.tables e below (T134.setTop (mkF m 249 #[.val (.int x0), .val (.int x1), .val (.int x2), .val (.int x3), .val (.int x4), .val (.ref b2), .val (.ref b62), .val (.int f), .val (.int t), .unset, .unset, .unset] [(.ref b2), (.int ((((F3 (0 : Int32) f t ([d0, d1, d2, d3, d4, d5, d6, d7] : List Int32)) + (F3 (1 : Int32) f t ([d0, d1, d2, d3, d4, d5, d6, d7] : List Int32))) + (F3 (2 : Int32) f t ([d0, d1, d2, d3, d4, d5, d6, d7] : List Int32))) + (F3 (3 : Int32) f t ([d0, d1, d2, d3, d4, d5, d6, d7] : List Int32))))])) _
      refine XS.iconst X134.here hx rfl (hb hby at_249) ?_
      show Steps p.tables e below (T134.setTop (mkF m 250 #[.val (.int x0), .val (.int x1), .val (.int x2), .val (.int x3), .val (.int x4), .val (.ref b2), .val (.ref b62), .val (.int f), .val (.int t), .unset, .unset, .unset] [(.int (4 : Int32)), (.ref b2), (.int ((((F3 (0 : Int32) f t ([d0, d1, d2, d3, d4, d5, d6, d7] : List Int32)) + (F3 (1 : Int32) f t ([d0, d1, d2, d3, d4, d5, d6, d7] : List Int32))) + (F3 (2 : Int32) f t ([d0, d1, d2, d3, d4, d5, d6, d7] : List Int32))) + (F3 (3 : Int32) f t ([d0, d1, d2, d3, d4, d5, d6, d7] : List Int32))))])) _
      refine XS.iload X134.here hx rfl (hb hby at_250) rfl ?_
      show Steps p.tables e below (T134.setTop (mkF m 252 #[.val (.int x0), .val (.int x1), .val (.int x2), .val (.int x3), .val (.int x4), .val (.ref b2), .val (.ref b62), .val (.int f), .val (.int t), .unset, .unset, .unset] [(.int f), (.int (4 : Int32)), (.ref b2), (.int ((((F3 (0 : Int32) f t ([d0, d1, d2, d3, d4, d5, d6, d7] : List Int32)) + (F3 (1 : Int32) f t ([d0, d1, d2, d3, d4, d5, d6, d7] : List Int32))) + (F3 (2 : Int32) f t ([d0, d1, d2, d3, d4, d5, d6, d7] : List Int32))) + (F3 (3 : Int32) f t ([d0, d1, d2, d3, d4, d5, d6, d7] : List Int32))))])) _
      refine XS.iload X134.here hx rfl (hb hby at_252) rfl ?_
      exact Steps.refl _)
  obtain ⟨_, _, ⟨T137, L137, k137, n137⟩, -, X137, ⟨Lc137, hQ137, l137, y137, z137⟩, sr137⟩ := Jvm.LawKit.callS X134 hx (y := (⟨"com/example/escritural/escritural/boleto/DigitsModulo10PinLaw", "term", "([IIII)I"⟩ : MethodName)) hown (mvT hZ (hw _ (List.mem_of_getElem? (i := 10) rfl))) (mvT hZ (hw _ (List.mem_of_getElem? (i := 11) rfl))) (mvT hZ (hw _ (List.mem_of_getElem? (i := 3) rfl))) (mvT hZ (hw _ (List.mem_of_getElem? (i := 12) rfl))) (by decide) (backOf (W := 1) (rm3 l Z a0 hw [] b2 (4 : Int32) f t k2 ([d0, d1, d2, d3, d4, d5, d6, d7] : List Int32) h118 n0 Z118 f119 (by decide)) hZ (hw _ (List.mem_of_getElem? (i := 12) rfl)) (hw _ (List.mem_of_getElem? (i := 3) rfl)) (by decide) (by decide)) (g := (mkF m 254 #[.val (.int x0), .val (.int x1), .val (.int x2), .val (.int x3), .val (.int x4), .val (.ref b2), .val (.ref b62), .val (.int f), .val (.int t), .unset, .unset, .unset] [(.int t), (.int f), (.int (4 : Int32)), (.ref b2), (.int ((((F3 (0 : Int32) f t ([d0, d1, d2, d3, d4, d5, d6, d7] : List Int32)) + (F3 (1 : Int32) f t ([d0, d1, d2, d3, d4, d5, d6, d7] : List Int32))) + (F3 (2 : Int32) f t ([d0, d1, d2, d3, d4, d5, d6, d7] : List Int32))) + (F3 (3 : Int32) f t ([d0, d1, d2, d3, d4, d5, d6, d7] : List Int32))))])) rfl (by rw [hml]; rfl) (argsL := [(.ref b2), (.int (4 : Int32)), (.int f), (.int t)]) (rest := [(.int ((((F3 (0 : Int32) f t ([d0, d1, d2, d3, d4, d5, d6, d7] : List Int32)) + (F3 (1 : Int32) f t ([d0, d1, d2, d3, d4, d5, d6, d7] : List Int32))) + (F3 (2 : Int32) f t ([d0, d1, d2, d3, d4, d5, d6, d7] : List Int32))) + (F3 (3 : Int32) f t ([d0, d1, d2, d3, d4, d5, d6, d7] : List Int32))))]) (lenOf pd_1 rfl) rfl (by show 2 * 0 + _ ≤ _; exact Nat.le_of_eq rfl) (hb hby at_254) (fun _ _ => ⟨rfl, hh134, (by decide : 2 + 0 ≤ _), (by decide : 16 + 0 ≤ _)⟩)
  dsimp only [Pt.U, Pt.locs, Pt.cells, Pt.slots] at X137 l137 y137 z137 sr137 hQ137
  subst l137 y137 z137
  obtain ⟨rfl, N137q, hh137⟩ := hQ137
  have N137 := Fr.app N134 N137q
  obtain ⟨LL137, X137, N137⟩ := own_hide X137 N137
  have st138 : Steps p.tables e below (s₁.setTop (entryFrame m #[(.int x0), (.int x1), (.int x2), (.int x3), (.int x4)] maxLocals)) (T137.setTop (mkF m 257 #[.val (.int x0), .val (.int x1), .val (.int x2), .val (.int x3), .val (.int x4), .val (.ref b2), .val (.ref b62), .val (.int f), .val (.int t), .unset, .unset, .unset] [(.int (F3 (4 : Int32) f t ([d0, d1, d2, d3, d4, d5, d6, d7] : List Int32))), (.int ((((F3 (0 : Int32) f t ([d0, d1, d2, d3, d4, d5, d6, d7] : List Int32)) + (F3 (1 : Int32) f t ([d0, d1, d2, d3, d4, d5, d6, d7] : List Int32))) + (F3 (2 : Int32) f t ([d0, d1, d2, d3, d4, d5, d6, d7] : List Int32))) + (F3 (3 : Int32) f t ([d0, d1, d2, d3, d4, d5, d6, d7] : List Int32))))])) := st136.trans (sr137 _ (Steps.refl _))
  have st139 : Steps p.tables e below (s₁.setTop (entryFrame m #[(.int x0), (.int x1), (.int x2), (.int x3), (.int x4)] maxLocals)) (T137.setTop (mkF m 265 #[.val (.int x0), .val (.int x1), .val (.int x2), .val (.int x3), .val (.int x4), .val (.ref b2), .val (.ref b62), .val (.int f), .val (.int t), .unset, .unset, .unset] [(.int t), (.int f), (.int (5 : Int32)), (.ref b2), (.int (((((F3 (0 : Int32) f t ([d0, d1, d2, d3, d4, d5, d6, d7] : List Int32)) + (F3 (1 : Int32) f t ([d0, d1, d2, d3, d4, d5, d6, d7] : List Int32))) + (F3 (2 : Int32) f t ([d0, d1, d2, d3, d4, d5, d6, d7] : List Int32))) + (F3 (3 : Int32) f t ([d0, d1, d2, d3, d4, d5, d6, d7] : List Int32))) + (F3 (4 : Int32) f t ([d0, d1, d2, d3, d4, d5, d6, d7] : List Int32))))])) := st138.trans (by
      show Steps p.tables e below (T137.setTop (mkF m 257 #[.val (.int x0), .val (.int x1), .val (.int x2), .val (.int x3), .val (.int x4), .val (.ref b2), .val (.ref b62), .val (.int f), .val (.int t), .unset, .unset, .unset] [(.int (F3 (4 : Int32) f t ([d0, d1, d2, d3, d4, d5, d6, d7] : List Int32))), (.int ((((F3 (0 : Int32) f t ([d0, d1, d2, d3, d4, d5, d6, d7] : List Int32)) + (F3 (1 : Int32) f t ([d0, d1, d2, d3, d4, d5, d6, d7] : List Int32))) + (F3 (2 : Int32) f t ([d0, d1, d2, d3, d4, d5, d6, d7] : List Int32))) + (F3 (3 : Int32) f t ([d0, d1, d2, d3, d4, d5, d6, d7] : List Int32))))])) _
      refine XS.iadd X137.here hx rfl (hb hby at_257) rfl ?_
      show Steps p.tables e below (T137.setTop (mkF m 258 #[.val (.int x0), .val (.int x1), .val (.int x2), .val (.int x3), .val (.int x4), .val (.ref b2), .val (.ref b62), .val (.int f), .val (.int t), .unset, .unset, .unset] [(.int (((((F3 (0 : Int32) f t ([d0, d1, d2, d3, d4, d5, d6, d7] : List Int32)) + (F3 (1 : Int32) f t ([d0, d1, d2, d3, d4, d5, d6, d7] : List Int32))) + (F3 (2 : Int32) f t ([d0, d1, d2, d3, d4, d5, d6, d7] : List Int32))) + (F3 (3 : Int32) f t ([d0, d1, d2, d3, d4, d5, d6, d7] : List Int32))) + (F3 (4 : Int32) f t ([d0, d1, d2, d3, d4, d5, d6, d7] : List Int32))))])) _
      refine XS.aload X137.here hx rfl (hb hby at_258) rfl rfl ?_
      show Steps p.tables e below (T137.setTop (mkF m 260 #[.val (.int x0), .val (.int x1), .val (.int x2), .val (.int x3), .val (.int x4), .val (.ref b2), .val (.ref b62), .val (.int f), .val (.int t), .unset, .unset, .unset] [(.ref b2), (.int (((((F3 (0 : Int32) f t ([d0, d1, d2, d3, d4, d5, d6, d7] : List Int32)) + (F3 (1 : Int32) f t ([d0, d1, d2, d3, d4, d5, d6, d7] : List Int32))) + (F3 (2 : Int32) f t ([d0, d1, d2, d3, d4, d5, d6, d7] : List Int32))) + (F3 (3 : Int32) f t ([d0, d1, d2, d3, d4, d5, d6, d7] : List Int32))) + (F3 (4 : Int32) f t ([d0, d1, d2, d3, d4, d5, d6, d7] : List Int32))))])) _
      refine XS.iconst X137.here hx rfl (hb hby at_260) ?_
      show Steps p.tables e below (T137.setTop (mkF m 261 #[.val (.int x0), .val (.int x1), .val (.int x2), .val (.int x3), .val (.int x4), .val (.ref b2), .val (.ref b62), .val (.int f), .val (.int t), .unset, .unset, .unset] [(.int (5 : Int32)), (.ref b2), (.int (((((F3 (0 : Int32) f t ([d0, d1, d2, d3, d4, d5, d6, d7] : List Int32)) + (F3 (1 : Int32) f t ([d0, d1, d2, d3, d4, d5, d6, d7] : List Int32))) + (F3 (2 : Int32) f t ([d0, d1, d2, d3, d4, d5, d6, d7] : List Int32))) + (F3 (3 : Int32) f t ([d0, d1, d2, d3, d4, d5, d6, d7] : List Int32))) + (F3 (4 : Int32) f t ([d0, d1, d2, d3, d4, d5, d6, d7] : List Int32))))])) _
      refine XS.iload X137.here hx rfl (hb hby at_261) rfl ?_
      show Steps p.tables e below (T137.setTop (mkF m 263 #[.val (.int x0), .val (.int x1), .val (.int x2), .val (.int x3), .val (.int x4), .val (.ref b2), .val (.ref b62), .val (.int f), .val (.int t), .unset, .unset, .unset] [(.int f), (.int (5 : Int32)), (.ref b2), (.int (((((F3 (0 : Int32) f t ([d0, d1, d2, d3, d4, d5, d6, d7] : List Int32)) + (F3 (1 : Int32) f t ([d0, d1, d2, d3, d4, d5, d6, d7] : List Int32))) + (F3 (2 : Int32) f t ([d0, d1, d2, d3, d4, d5, d6, d7] : List Int32))) + (F3 (3 : Int32) f t ([d0, d1, d2, d3, d4, d5, d6, d7] : List Int32))) + (F3 (4 : Int32) f t ([d0, d1, d2, d3, d4, d5, d6, d7] : List Int32))))])) _
      refine XS.iload X137.here hx rfl (hb hby at_263) rfl ?_
      exact Steps.refl _)
  obtain ⟨_, _, ⟨T140, L140, k140, n140⟩, -, X140, ⟨Lc140, hQ140, l140, y140, z140⟩, sr140⟩ := Jvm.LawKit.callS X137 hx (y := (⟨"com/example/escritural/escritural/boleto/DigitsModulo10PinLaw", "term", "([IIII)I"⟩ : MethodName)) hown (mvT hZ (hw _ (List.mem_of_getElem? (i := 10) rfl))) (mvT hZ (hw _ (List.mem_of_getElem? (i := 11) rfl))) (mvT hZ (hw _ (List.mem_of_getElem? (i := 3) rfl))) (mvT hZ (hw _ (List.mem_of_getElem? (i := 12) rfl))) (by decide) (backOf (W := 1) (rm3 l Z a0 hw [] b2 (5 : Int32) f t k2 ([d0, d1, d2, d3, d4, d5, d6, d7] : List Int32) h118 n0 Z118 f119 (by decide)) hZ (hw _ (List.mem_of_getElem? (i := 12) rfl)) (hw _ (List.mem_of_getElem? (i := 3) rfl)) (by decide) (by decide)) (g := (mkF m 265 #[.val (.int x0), .val (.int x1), .val (.int x2), .val (.int x3), .val (.int x4), .val (.ref b2), .val (.ref b62), .val (.int f), .val (.int t), .unset, .unset, .unset] [(.int t), (.int f), (.int (5 : Int32)), (.ref b2), (.int (((((F3 (0 : Int32) f t ([d0, d1, d2, d3, d4, d5, d6, d7] : List Int32)) + (F3 (1 : Int32) f t ([d0, d1, d2, d3, d4, d5, d6, d7] : List Int32))) + (F3 (2 : Int32) f t ([d0, d1, d2, d3, d4, d5, d6, d7] : List Int32))) + (F3 (3 : Int32) f t ([d0, d1, d2, d3, d4, d5, d6, d7] : List Int32))) + (F3 (4 : Int32) f t ([d0, d1, d2, d3, d4, d5, d6, d7] : List Int32))))])) rfl (by rw [hml]; rfl) (argsL := [(.ref b2), (.int (5 : Int32)), (.int f), (.int t)]) (rest := [(.int (((((F3 (0 : Int32) f t ([d0, d1, d2, d3, d4, d5, d6, d7] : List Int32)) + (F3 (1 : Int32) f t ([d0, d1, d2, d3, d4, d5, d6, d7] : List Int32))) + (F3 (2 : Int32) f t ([d0, d1, d2, d3, d4, d5, d6, d7] : List Int32))) + (F3 (3 : Int32) f t ([d0, d1, d2, d3, d4, d5, d6, d7] : List Int32))) + (F3 (4 : Int32) f t ([d0, d1, d2, d3, d4, d5, d6, d7] : List Int32))))]) (lenOf pd_1 rfl) rfl (by show 2 * 0 + _ ≤ _; exact Nat.le_of_eq rfl) (hb hby at_265) (fun _ _ => ⟨rfl, hh137, (by decide : 2 + 0 ≤ _), (by decide : 16 + 0 ≤ _)⟩)
  dsimp only [Pt.U, Pt.locs, Pt.cells, Pt.slots] at X140 l140 y140 z140 sr140 hQ140
  subst l140 y140 z140
  obtain ⟨rfl, N140q, hh140⟩ := hQ140
  have N140 := Fr.app N137 N140q
  obtain ⟨LL140, X140, N140⟩ := own_hide X140 N140
  have st141 : Steps p.tables e below (s₁.setTop (entryFrame m #[(.int x0), (.int x1), (.int x2), (.int x3), (.int x4)] maxLocals)) (T140.setTop (mkF m 268 #[.val (.int x0), .val (.int x1), .val (.int x2), .val (.int x3), .val (.int x4), .val (.ref b2), .val (.ref b62), .val (.int f), .val (.int t), .unset, .unset, .unset] [(.int (F3 (5 : Int32) f t ([d0, d1, d2, d3, d4, d5, d6, d7] : List Int32))), (.int (((((F3 (0 : Int32) f t ([d0, d1, d2, d3, d4, d5, d6, d7] : List Int32)) + (F3 (1 : Int32) f t ([d0, d1, d2, d3, d4, d5, d6, d7] : List Int32))) + (F3 (2 : Int32) f t ([d0, d1, d2, d3, d4, d5, d6, d7] : List Int32))) + (F3 (3 : Int32) f t ([d0, d1, d2, d3, d4, d5, d6, d7] : List Int32))) + (F3 (4 : Int32) f t ([d0, d1, d2, d3, d4, d5, d6, d7] : List Int32))))])) := st139.trans (sr140 _ (Steps.refl _))
  have st142 : Steps p.tables e below (s₁.setTop (entryFrame m #[(.int x0), (.int x1), (.int x2), (.int x3), (.int x4)] maxLocals)) (T140.setTop (mkF m 277 #[.val (.int x0), .val (.int x1), .val (.int x2), .val (.int x3), .val (.int x4), .val (.ref b2), .val (.ref b62), .val (.int f), .val (.int t), .unset, .unset, .unset] [(.int t), (.int f), (.int (6 : Int32)), (.ref b2), (.int ((((((F3 (0 : Int32) f t ([d0, d1, d2, d3, d4, d5, d6, d7] : List Int32)) + (F3 (1 : Int32) f t ([d0, d1, d2, d3, d4, d5, d6, d7] : List Int32))) + (F3 (2 : Int32) f t ([d0, d1, d2, d3, d4, d5, d6, d7] : List Int32))) + (F3 (3 : Int32) f t ([d0, d1, d2, d3, d4, d5, d6, d7] : List Int32))) + (F3 (4 : Int32) f t ([d0, d1, d2, d3, d4, d5, d6, d7] : List Int32))) + (F3 (5 : Int32) f t ([d0, d1, d2, d3, d4, d5, d6, d7] : List Int32))))])) := st141.trans (by
      show Steps p.tables e below (T140.setTop (mkF m 268 #[.val (.int x0), .val (.int x1), .val (.int x2), .val (.int x3), .val (.int x4), .val (.ref b2), .val (.ref b62), .val (.int f), .val (.int t), .unset, .unset, .unset] [(.int (F3 (5 : Int32) f t ([d0, d1, d2, d3, d4, d5, d6, d7] : List Int32))), (.int (((((F3 (0 : Int32) f t ([d0, d1, d2, d3, d4, d5, d6, d7] : List Int32)) + (F3 (1 : Int32) f t ([d0, d1, d2, d3, d4, d5, d6, d7] : List Int32))) + (F3 (2 : Int32) f t ([d0, d1, d2, d3, d4, d5, d6, d7] : List Int32))) + (F3 (3 : Int32) f t ([d0, d1, d2, d3, d4, d5, d6, d7] : List Int32))) + (F3 (4 : Int32) f t ([d0, d1, d2, d3, d4, d5, d6, d7] : List Int32))))])) _
      refine XS.iadd X140.here hx rfl (hb hby at_268) rfl ?_
      show Steps p.tables e below (T140.setTop (mkF m 269 #[.val (.int x0), .val (.int x1), .val (.int x2), .val (.int x3), .val (.int x4), .val (.ref b2), .val (.ref b62), .val (.int f), .val (.int t), .unset, .unset, .unset] [(.int ((((((F3 (0 : Int32) f t ([d0, d1, d2, d3, d4, d5, d6, d7] : List Int32)) + (F3 (1 : Int32) f t ([d0, d1, d2, d3, d4, d5, d6, d7] : List Int32))) + (F3 (2 : Int32) f t ([d0, d1, d2, d3, d4, d5, d6, d7] : List Int32))) + (F3 (3 : Int32) f t ([d0, d1, d2, d3, d4, d5, d6, d7] : List Int32))) + (F3 (4 : Int32) f t ([d0, d1, d2, d3, d4, d5, d6, d7] : List Int32))) + (F3 (5 : Int32) f t ([d0, d1, d2, d3, d4, d5, d6, d7] : List Int32))))])) _
      refine XS.aload X140.here hx rfl (hb hby at_269) rfl rfl ?_
      show Steps p.tables e below (T140.setTop (mkF m 271 #[.val (.int x0), .val (.int x1), .val (.int x2), .val (.int x3), .val (.int x4), .val (.ref b2), .val (.ref b62), .val (.int f), .val (.int t), .unset, .unset, .unset] [(.ref b2), (.int ((((((F3 (0 : Int32) f t ([d0, d1, d2, d3, d4, d5, d6, d7] : List Int32)) + (F3 (1 : Int32) f t ([d0, d1, d2, d3, d4, d5, d6, d7] : List Int32))) + (F3 (2 : Int32) f t ([d0, d1, d2, d3, d4, d5, d6, d7] : List Int32))) + (F3 (3 : Int32) f t ([d0, d1, d2, d3, d4, d5, d6, d7] : List Int32))) + (F3 (4 : Int32) f t ([d0, d1, d2, d3, d4, d5, d6, d7] : List Int32))) + (F3 (5 : Int32) f t ([d0, d1, d2, d3, d4, d5, d6, d7] : List Int32))))])) _
      refine XS.bipush X140.here hx rfl (hb hby at_271) ?_
      show Steps p.tables e below (T140.setTop (mkF m 273 #[.val (.int x0), .val (.int x1), .val (.int x2), .val (.int x3), .val (.int x4), .val (.ref b2), .val (.ref b62), .val (.int f), .val (.int t), .unset, .unset, .unset] [(.int (6 : Int32)), (.ref b2), (.int ((((((F3 (0 : Int32) f t ([d0, d1, d2, d3, d4, d5, d6, d7] : List Int32)) + (F3 (1 : Int32) f t ([d0, d1, d2, d3, d4, d5, d6, d7] : List Int32))) + (F3 (2 : Int32) f t ([d0, d1, d2, d3, d4, d5, d6, d7] : List Int32))) + (F3 (3 : Int32) f t ([d0, d1, d2, d3, d4, d5, d6, d7] : List Int32))) + (F3 (4 : Int32) f t ([d0, d1, d2, d3, d4, d5, d6, d7] : List Int32))) + (F3 (5 : Int32) f t ([d0, d1, d2, d3, d4, d5, d6, d7] : List Int32))))])) _
      refine XS.iload X140.here hx rfl (hb hby at_273) rfl ?_
      show Steps p.tables e below (T140.setTop (mkF m 275 #[.val (.int x0), .val (.int x1), .val (.int x2), .val (.int x3), .val (.int x4), .val (.ref b2), .val (.ref b62), .val (.int f), .val (.int t), .unset, .unset, .unset] [(.int f), (.int (6 : Int32)), (.ref b2), (.int ((((((F3 (0 : Int32) f t ([d0, d1, d2, d3, d4, d5, d6, d7] : List Int32)) + (F3 (1 : Int32) f t ([d0, d1, d2, d3, d4, d5, d6, d7] : List Int32))) + (F3 (2 : Int32) f t ([d0, d1, d2, d3, d4, d5, d6, d7] : List Int32))) + (F3 (3 : Int32) f t ([d0, d1, d2, d3, d4, d5, d6, d7] : List Int32))) + (F3 (4 : Int32) f t ([d0, d1, d2, d3, d4, d5, d6, d7] : List Int32))) + (F3 (5 : Int32) f t ([d0, d1, d2, d3, d4, d5, d6, d7] : List Int32))))])) _
      refine XS.iload X140.here hx rfl (hb hby at_275) rfl ?_
      exact Steps.refl _)
  obtain ⟨_, _, ⟨T143, L143, k143, n143⟩, -, X143, ⟨Lc143, hQ143, l143, y143, z143⟩, sr143⟩ := Jvm.LawKit.callS X140 hx (y := (⟨"com/example/escritural/escritural/boleto/DigitsModulo10PinLaw", "term", "([IIII)I"⟩ : MethodName)) hown (mvT hZ (hw _ (List.mem_of_getElem? (i := 10) rfl))) (mvT hZ (hw _ (List.mem_of_getElem? (i := 11) rfl))) (mvT hZ (hw _ (List.mem_of_getElem? (i := 3) rfl))) (mvT hZ (hw _ (List.mem_of_getElem? (i := 12) rfl))) (by decide) (backOf (W := 1) (rm3 l Z a0 hw [] b2 (6 : Int32) f t k2 ([d0, d1, d2, d3, d4, d5, d6, d7] : List Int32) h118 n0 Z118 f119 (by decide)) hZ (hw _ (List.mem_of_getElem? (i := 12) rfl)) (hw _ (List.mem_of_getElem? (i := 3) rfl)) (by decide) (by decide)) (g := (mkF m 277 #[.val (.int x0), .val (.int x1), .val (.int x2), .val (.int x3), .val (.int x4), .val (.ref b2), .val (.ref b62), .val (.int f), .val (.int t), .unset, .unset, .unset] [(.int t), (.int f), (.int (6 : Int32)), (.ref b2), (.int ((((((F3 (0 : Int32) f t ([d0, d1, d2, d3, d4, d5, d6, d7] : List Int32)) + (F3 (1 : Int32) f t ([d0, d1, d2, d3, d4, d5, d6, d7] : List Int32))) + (F3 (2 : Int32) f t ([d0, d1, d2, d3, d4, d5, d6, d7] : List Int32))) + (F3 (3 : Int32) f t ([d0, d1, d2, d3, d4, d5, d6, d7] : List Int32))) + (F3 (4 : Int32) f t ([d0, d1, d2, d3, d4, d5, d6, d7] : List Int32))) + (F3 (5 : Int32) f t ([d0, d1, d2, d3, d4, d5, d6, d7] : List Int32))))])) rfl (by rw [hml]; rfl) (argsL := [(.ref b2), (.int (6 : Int32)), (.int f), (.int t)]) (rest := [(.int ((((((F3 (0 : Int32) f t ([d0, d1, d2, d3, d4, d5, d6, d7] : List Int32)) + (F3 (1 : Int32) f t ([d0, d1, d2, d3, d4, d5, d6, d7] : List Int32))) + (F3 (2 : Int32) f t ([d0, d1, d2, d3, d4, d5, d6, d7] : List Int32))) + (F3 (3 : Int32) f t ([d0, d1, d2, d3, d4, d5, d6, d7] : List Int32))) + (F3 (4 : Int32) f t ([d0, d1, d2, d3, d4, d5, d6, d7] : List Int32))) + (F3 (5 : Int32) f t ([d0, d1, d2, d3, d4, d5, d6, d7] : List Int32))))]) (lenOf pd_1 rfl) rfl (by show 2 * 0 + _ ≤ _; exact Nat.le_of_eq rfl) (hb hby at_277) (fun _ _ => ⟨rfl, hh140, (by decide : 2 + 0 ≤ _), (by decide : 16 + 0 ≤ _)⟩)
  dsimp only [Pt.U, Pt.locs, Pt.cells, Pt.slots] at X143 l143 y143 z143 sr143 hQ143
  subst l143 y143 z143
  obtain ⟨rfl, N143q, hh143⟩ := hQ143
  have N143 := Fr.app N140 N143q
  obtain ⟨LL143, X143, N143⟩ := own_hide X143 N143
  have st144 : Steps p.tables e below (s₁.setTop (entryFrame m #[(.int x0), (.int x1), (.int x2), (.int x3), (.int x4)] maxLocals)) (T143.setTop (mkF m 280 #[.val (.int x0), .val (.int x1), .val (.int x2), .val (.int x3), .val (.int x4), .val (.ref b2), .val (.ref b62), .val (.int f), .val (.int t), .unset, .unset, .unset] [(.int (F3 (6 : Int32) f t ([d0, d1, d2, d3, d4, d5, d6, d7] : List Int32))), (.int ((((((F3 (0 : Int32) f t ([d0, d1, d2, d3, d4, d5, d6, d7] : List Int32)) + (F3 (1 : Int32) f t ([d0, d1, d2, d3, d4, d5, d6, d7] : List Int32))) + (F3 (2 : Int32) f t ([d0, d1, d2, d3, d4, d5, d6, d7] : List Int32))) + (F3 (3 : Int32) f t ([d0, d1, d2, d3, d4, d5, d6, d7] : List Int32))) + (F3 (4 : Int32) f t ([d0, d1, d2, d3, d4, d5, d6, d7] : List Int32))) + (F3 (5 : Int32) f t ([d0, d1, d2, d3, d4, d5, d6, d7] : List Int32))))])) := st142.trans (sr143 _ (Steps.refl _))
  have st145 : Steps p.tables e below (s₁.setTop (entryFrame m #[(.int x0), (.int x1), (.int x2), (.int x3), (.int x4)] maxLocals)) (T143.setTop (mkF m 289 #[.val (.int x0), .val (.int x1), .val (.int x2), .val (.int x3), .val (.int x4), .val (.ref b2), .val (.ref b62), .val (.int f), .val (.int t), .unset, .unset, .unset] [(.int t), (.int f), (.int (7 : Int32)), (.ref b2), (.int (((((((F3 (0 : Int32) f t ([d0, d1, d2, d3, d4, d5, d6, d7] : List Int32)) + (F3 (1 : Int32) f t ([d0, d1, d2, d3, d4, d5, d6, d7] : List Int32))) + (F3 (2 : Int32) f t ([d0, d1, d2, d3, d4, d5, d6, d7] : List Int32))) + (F3 (3 : Int32) f t ([d0, d1, d2, d3, d4, d5, d6, d7] : List Int32))) + (F3 (4 : Int32) f t ([d0, d1, d2, d3, d4, d5, d6, d7] : List Int32))) + (F3 (5 : Int32) f t ([d0, d1, d2, d3, d4, d5, d6, d7] : List Int32))) + (F3 (6 : Int32) f t ([d0, d1, d2, d3, d4, d5, d6, d7] : List Int32))))])) := st144.trans (by
      show Steps p.tables e below (T143.setTop (mkF m 280 #[.val (.int x0), .val (.int x1), .val (.int x2), .val (.int x3), .val (.int x4), .val (.ref b2), .val (.ref b62), .val (.int f), .val (.int t), .unset, .unset, .unset] [(.int (F3 (6 : Int32) f t ([d0, d1, d2, d3, d4, d5, d6, d7] : List Int32))), (.int ((((((F3 (0 : Int32) f t ([d0, d1, d2, d3, d4, d5, d6, d7] : List Int32)) + (F3 (1 : Int32) f t ([d0, d1, d2, d3, d4, d5, d6, d7] : List Int32))) + (F3 (2 : Int32) f t ([d0, d1, d2, d3, d4, d5, d6, d7] : List Int32))) + (F3 (3 : Int32) f t ([d0, d1, d2, d3, d4, d5, d6, d7] : List Int32))) + (F3 (4 : Int32) f t ([d0, d1, d2, d3, d4, d5, d6, d7] : List Int32))) + (F3 (5 : Int32) f t ([d0, d1, d2, d3, d4, d5, d6, d7] : List Int32))))])) _
      refine XS.iadd X143.here hx rfl (hb hby at_280) rfl ?_
      show Steps p.tables e below (T143.setTop (mkF m 281 #[.val (.int x0), .val (.int x1), .val (.int x2), .val (.int x3), .val (.int x4), .val (.ref b2), .val (.ref b62), .val (.int f), .val (.int t), .unset, .unset, .unset] [(.int (((((((F3 (0 : Int32) f t ([d0, d1, d2, d3, d4, d5, d6, d7] : List Int32)) + (F3 (1 : Int32) f t ([d0, d1, d2, d3, d4, d5, d6, d7] : List Int32))) + (F3 (2 : Int32) f t ([d0, d1, d2, d3, d4, d5, d6, d7] : List Int32))) + (F3 (3 : Int32) f t ([d0, d1, d2, d3, d4, d5, d6, d7] : List Int32))) + (F3 (4 : Int32) f t ([d0, d1, d2, d3, d4, d5, d6, d7] : List Int32))) + (F3 (5 : Int32) f t ([d0, d1, d2, d3, d4, d5, d6, d7] : List Int32))) + (F3 (6 : Int32) f t ([d0, d1, d2, d3, d4, d5, d6, d7] : List Int32))))])) _
      refine XS.aload X143.here hx rfl (hb hby at_281) rfl rfl ?_
      show Steps p.tables e below (T143.setTop (mkF m 283 #[.val (.int x0), .val (.int x1), .val (.int x2), .val (.int x3), .val (.int x4), .val (.ref b2), .val (.ref b62), .val (.int f), .val (.int t), .unset, .unset, .unset] [(.ref b2), (.int (((((((F3 (0 : Int32) f t ([d0, d1, d2, d3, d4, d5, d6, d7] : List Int32)) + (F3 (1 : Int32) f t ([d0, d1, d2, d3, d4, d5, d6, d7] : List Int32))) + (F3 (2 : Int32) f t ([d0, d1, d2, d3, d4, d5, d6, d7] : List Int32))) + (F3 (3 : Int32) f t ([d0, d1, d2, d3, d4, d5, d6, d7] : List Int32))) + (F3 (4 : Int32) f t ([d0, d1, d2, d3, d4, d5, d6, d7] : List Int32))) + (F3 (5 : Int32) f t ([d0, d1, d2, d3, d4, d5, d6, d7] : List Int32))) + (F3 (6 : Int32) f t ([d0, d1, d2, d3, d4, d5, d6, d7] : List Int32))))])) _
      refine XS.bipush X143.here hx rfl (hb hby at_283) ?_
      show Steps p.tables e below (T143.setTop (mkF m 285 #[.val (.int x0), .val (.int x1), .val (.int x2), .val (.int x3), .val (.int x4), .val (.ref b2), .val (.ref b62), .val (.int f), .val (.int t), .unset, .unset, .unset] [(.int (7 : Int32)), (.ref b2), (.int (((((((F3 (0 : Int32) f t ([d0, d1, d2, d3, d4, d5, d6, d7] : List Int32)) + (F3 (1 : Int32) f t ([d0, d1, d2, d3, d4, d5, d6, d7] : List Int32))) + (F3 (2 : Int32) f t ([d0, d1, d2, d3, d4, d5, d6, d7] : List Int32))) + (F3 (3 : Int32) f t ([d0, d1, d2, d3, d4, d5, d6, d7] : List Int32))) + (F3 (4 : Int32) f t ([d0, d1, d2, d3, d4, d5, d6, d7] : List Int32))) + (F3 (5 : Int32) f t ([d0, d1, d2, d3, d4, d5, d6, d7] : List Int32))) + (F3 (6 : Int32) f t ([d0, d1, d2, d3, d4, d5, d6, d7] : List Int32))))])) _
      refine XS.iload X143.here hx rfl (hb hby at_285) rfl ?_
      show Steps p.tables e below (T143.setTop (mkF m 287 #[.val (.int x0), .val (.int x1), .val (.int x2), .val (.int x3), .val (.int x4), .val (.ref b2), .val (.ref b62), .val (.int f), .val (.int t), .unset, .unset, .unset] [(.int f), (.int (7 : Int32)), (.ref b2), (.int (((((((F3 (0 : Int32) f t ([d0, d1, d2, d3, d4, d5, d6, d7] : List Int32)) + (F3 (1 : Int32) f t ([d0, d1, d2, d3, d4, d5, d6, d7] : List Int32))) + (F3 (2 : Int32) f t ([d0, d1, d2, d3, d4, d5, d6, d7] : List Int32))) + (F3 (3 : Int32) f t ([d0, d1, d2, d3, d4, d5, d6, d7] : List Int32))) + (F3 (4 : Int32) f t ([d0, d1, d2, d3, d4, d5, d6, d7] : List Int32))) + (F3 (5 : Int32) f t ([d0, d1, d2, d3, d4, d5, d6, d7] : List Int32))) + (F3 (6 : Int32) f t ([d0, d1, d2, d3, d4, d5, d6, d7] : List Int32))))])) _
      refine XS.iload X143.here hx rfl (hb hby at_287) rfl ?_
      exact Steps.refl _)
  obtain ⟨_, _, ⟨T146, L146, k146, n146⟩, -, X146, ⟨Lc146, hQ146, l146, y146, z146⟩, sr146⟩ := Jvm.LawKit.callS X143 hx (y := (⟨"com/example/escritural/escritural/boleto/DigitsModulo10PinLaw", "term", "([IIII)I"⟩ : MethodName)) hown (mvT hZ (hw _ (List.mem_of_getElem? (i := 10) rfl))) (mvT hZ (hw _ (List.mem_of_getElem? (i := 11) rfl))) (mvT hZ (hw _ (List.mem_of_getElem? (i := 3) rfl))) (mvT hZ (hw _ (List.mem_of_getElem? (i := 12) rfl))) (by decide) (backOf (W := 1) (rm3 l Z a0 hw [] b2 (7 : Int32) f t k2 ([d0, d1, d2, d3, d4, d5, d6, d7] : List Int32) h118 n0 Z118 f119 (by decide)) hZ (hw _ (List.mem_of_getElem? (i := 12) rfl)) (hw _ (List.mem_of_getElem? (i := 3) rfl)) (by decide) (by decide)) (g := (mkF m 289 #[.val (.int x0), .val (.int x1), .val (.int x2), .val (.int x3), .val (.int x4), .val (.ref b2), .val (.ref b62), .val (.int f), .val (.int t), .unset, .unset, .unset] [(.int t), (.int f), (.int (7 : Int32)), (.ref b2), (.int (((((((F3 (0 : Int32) f t ([d0, d1, d2, d3, d4, d5, d6, d7] : List Int32)) + (F3 (1 : Int32) f t ([d0, d1, d2, d3, d4, d5, d6, d7] : List Int32))) + (F3 (2 : Int32) f t ([d0, d1, d2, d3, d4, d5, d6, d7] : List Int32))) + (F3 (3 : Int32) f t ([d0, d1, d2, d3, d4, d5, d6, d7] : List Int32))) + (F3 (4 : Int32) f t ([d0, d1, d2, d3, d4, d5, d6, d7] : List Int32))) + (F3 (5 : Int32) f t ([d0, d1, d2, d3, d4, d5, d6, d7] : List Int32))) + (F3 (6 : Int32) f t ([d0, d1, d2, d3, d4, d5, d6, d7] : List Int32))))])) rfl (by rw [hml]; rfl) (argsL := [(.ref b2), (.int (7 : Int32)), (.int f), (.int t)]) (rest := [(.int (((((((F3 (0 : Int32) f t ([d0, d1, d2, d3, d4, d5, d6, d7] : List Int32)) + (F3 (1 : Int32) f t ([d0, d1, d2, d3, d4, d5, d6, d7] : List Int32))) + (F3 (2 : Int32) f t ([d0, d1, d2, d3, d4, d5, d6, d7] : List Int32))) + (F3 (3 : Int32) f t ([d0, d1, d2, d3, d4, d5, d6, d7] : List Int32))) + (F3 (4 : Int32) f t ([d0, d1, d2, d3, d4, d5, d6, d7] : List Int32))) + (F3 (5 : Int32) f t ([d0, d1, d2, d3, d4, d5, d6, d7] : List Int32))) + (F3 (6 : Int32) f t ([d0, d1, d2, d3, d4, d5, d6, d7] : List Int32))))]) (lenOf pd_1 rfl) rfl (by show 2 * 0 + _ ≤ _; exact Nat.le_of_eq rfl) (hb hby at_289) (fun _ _ => ⟨rfl, hh143, (by decide : 2 + 0 ≤ _), (by decide : 16 + 0 ≤ _)⟩)
  dsimp only [Pt.U, Pt.locs, Pt.cells, Pt.slots] at X146 l146 y146 z146 sr146 hQ146
  subst l146 y146 z146
  obtain ⟨rfl, N146q, hh146⟩ := hQ146
  have N146 := Fr.app N143 N146q
  obtain ⟨LL146, X146, N146⟩ := own_hide X146 N146
  have st147 : Steps p.tables e below (s₁.setTop (entryFrame m #[(.int x0), (.int x1), (.int x2), (.int x3), (.int x4)] maxLocals)) (T146.setTop (mkF m 292 #[.val (.int x0), .val (.int x1), .val (.int x2), .val (.int x3), .val (.int x4), .val (.ref b2), .val (.ref b62), .val (.int f), .val (.int t), .unset, .unset, .unset] [(.int (F3 (7 : Int32) f t ([d0, d1, d2, d3, d4, d5, d6, d7] : List Int32))), (.int (((((((F3 (0 : Int32) f t ([d0, d1, d2, d3, d4, d5, d6, d7] : List Int32)) + (F3 (1 : Int32) f t ([d0, d1, d2, d3, d4, d5, d6, d7] : List Int32))) + (F3 (2 : Int32) f t ([d0, d1, d2, d3, d4, d5, d6, d7] : List Int32))) + (F3 (3 : Int32) f t ([d0, d1, d2, d3, d4, d5, d6, d7] : List Int32))) + (F3 (4 : Int32) f t ([d0, d1, d2, d3, d4, d5, d6, d7] : List Int32))) + (F3 (5 : Int32) f t ([d0, d1, d2, d3, d4, d5, d6, d7] : List Int32))) + (F3 (6 : Int32) f t ([d0, d1, d2, d3, d4, d5, d6, d7] : List Int32))))])) := st145.trans (sr146 _ (Steps.refl _))
  have st148 : Steps p.tables e below (s₁.setTop (entryFrame m #[(.int x0), (.int x1), (.int x2), (.int x3), (.int x4)] maxLocals)) (T146.setTop (mkF m 314 #[.val (.int x0), .val (.int x1), .val (.int x2), .val (.int x3), .val (.int x4), .val (.ref b2), .val (.ref b62), .val (.int f), .val (.int t), .val (.int ((((((((F3 (0 : Int32) f t ([d0, d1, d2, d3, d4, d5, d6, d7] : List Int32)) + (F3 (1 : Int32) f t ([d0, d1, d2, d3, d4, d5, d6, d7] : List Int32))) + (F3 (2 : Int32) f t ([d0, d1, d2, d3, d4, d5, d6, d7] : List Int32))) + (F3 (3 : Int32) f t ([d0, d1, d2, d3, d4, d5, d6, d7] : List Int32))) + (F3 (4 : Int32) f t ([d0, d1, d2, d3, d4, d5, d6, d7] : List Int32))) + (F3 (5 : Int32) f t ([d0, d1, d2, d3, d4, d5, d6, d7] : List Int32))) + (F3 (6 : Int32) f t ([d0, d1, d2, d3, d4, d5, d6, d7] : List Int32))) + (F3 (7 : Int32) f t ([d0, d1, d2, d3, d4, d5, d6, d7] : List Int32)))), .val (.int (((10 : Int32) - (((((((((F3 (0 : Int32) f t ([d0, d1, d2, d3, d4, d5, d6, d7] : List Int32)) + (F3 (1 : Int32) f t ([d0, d1, d2, d3, d4, d5, d6, d7] : List Int32))) + (F3 (2 : Int32) f t ([d0, d1, d2, d3, d4, d5, d6, d7] : List Int32))) + (F3 (3 : Int32) f t ([d0, d1, d2, d3, d4, d5, d6, d7] : List Int32))) + (F3 (4 : Int32) f t ([d0, d1, d2, d3, d4, d5, d6, d7] : List Int32))) + (F3 (5 : Int32) f t ([d0, d1, d2, d3, d4, d5, d6, d7] : List Int32))) + (F3 (6 : Int32) f t ([d0, d1, d2, d3, d4, d5, d6, d7] : List Int32))) + (F3 (7 : Int32) f t ([d0, d1, d2, d3, d4, d5, d6, d7] : List Int32))) % (10 : Int32))) % (10 : Int32))), .unset] [(.int t), (.int f), (.ref b62)])) := st147.trans (by
      show Steps p.tables e below (T146.setTop (mkF m 292 #[.val (.int x0), .val (.int x1), .val (.int x2), .val (.int x3), .val (.int x4), .val (.ref b2), .val (.ref b62), .val (.int f), .val (.int t), .unset, .unset, .unset] [(.int (F3 (7 : Int32) f t ([d0, d1, d2, d3, d4, d5, d6, d7] : List Int32))), (.int (((((((F3 (0 : Int32) f t ([d0, d1, d2, d3, d4, d5, d6, d7] : List Int32)) + (F3 (1 : Int32) f t ([d0, d1, d2, d3, d4, d5, d6, d7] : List Int32))) + (F3 (2 : Int32) f t ([d0, d1, d2, d3, d4, d5, d6, d7] : List Int32))) + (F3 (3 : Int32) f t ([d0, d1, d2, d3, d4, d5, d6, d7] : List Int32))) + (F3 (4 : Int32) f t ([d0, d1, d2, d3, d4, d5, d6, d7] : List Int32))) + (F3 (5 : Int32) f t ([d0, d1, d2, d3, d4, d5, d6, d7] : List Int32))) + (F3 (6 : Int32) f t ([d0, d1, d2, d3, d4, d5, d6, d7] : List Int32))))])) _
      refine XS.iadd X146.here hx rfl (hb hby at_292) rfl ?_
      show Steps p.tables e below (T146.setTop (mkF m 293 #[.val (.int x0), .val (.int x1), .val (.int x2), .val (.int x3), .val (.int x4), .val (.ref b2), .val (.ref b62), .val (.int f), .val (.int t), .unset, .unset, .unset] [(.int ((((((((F3 (0 : Int32) f t ([d0, d1, d2, d3, d4, d5, d6, d7] : List Int32)) + (F3 (1 : Int32) f t ([d0, d1, d2, d3, d4, d5, d6, d7] : List Int32))) + (F3 (2 : Int32) f t ([d0, d1, d2, d3, d4, d5, d6, d7] : List Int32))) + (F3 (3 : Int32) f t ([d0, d1, d2, d3, d4, d5, d6, d7] : List Int32))) + (F3 (4 : Int32) f t ([d0, d1, d2, d3, d4, d5, d6, d7] : List Int32))) + (F3 (5 : Int32) f t ([d0, d1, d2, d3, d4, d5, d6, d7] : List Int32))) + (F3 (6 : Int32) f t ([d0, d1, d2, d3, d4, d5, d6, d7] : List Int32))) + (F3 (7 : Int32) f t ([d0, d1, d2, d3, d4, d5, d6, d7] : List Int32))))])) _
      refine XS.istore X146.here hx rfl (hb hby at_293) rfl (l' := #[.val (.int x0), .val (.int x1), .val (.int x2), .val (.int x3), .val (.int x4), .val (.ref b2), .val (.ref b62), .val (.int f), .val (.int t), .val (.int ((((((((F3 (0 : Int32) f t ([d0, d1, d2, d3, d4, d5, d6, d7] : List Int32)) + (F3 (1 : Int32) f t ([d0, d1, d2, d3, d4, d5, d6, d7] : List Int32))) + (F3 (2 : Int32) f t ([d0, d1, d2, d3, d4, d5, d6, d7] : List Int32))) + (F3 (3 : Int32) f t ([d0, d1, d2, d3, d4, d5, d6, d7] : List Int32))) + (F3 (4 : Int32) f t ([d0, d1, d2, d3, d4, d5, d6, d7] : List Int32))) + (F3 (5 : Int32) f t ([d0, d1, d2, d3, d4, d5, d6, d7] : List Int32))) + (F3 (6 : Int32) f t ([d0, d1, d2, d3, d4, d5, d6, d7] : List Int32))) + (F3 (7 : Int32) f t ([d0, d1, d2, d3, d4, d5, d6, d7] : List Int32)))), .unset, .unset]) rfl ?_
      show Steps p.tables e below (T146.setTop (mkF m 295 #[.val (.int x0), .val (.int x1), .val (.int x2), .val (.int x3), .val (.int x4), .val (.ref b2), .val (.ref b62), .val (.int f), .val (.int t), .val (.int ((((((((F3 (0 : Int32) f t ([d0, d1, d2, d3, d4, d5, d6, d7] : List Int32)) + (F3 (1 : Int32) f t ([d0, d1, d2, d3, d4, d5, d6, d7] : List Int32))) + (F3 (2 : Int32) f t ([d0, d1, d2, d3, d4, d5, d6, d7] : List Int32))) + (F3 (3 : Int32) f t ([d0, d1, d2, d3, d4, d5, d6, d7] : List Int32))) + (F3 (4 : Int32) f t ([d0, d1, d2, d3, d4, d5, d6, d7] : List Int32))) + (F3 (5 : Int32) f t ([d0, d1, d2, d3, d4, d5, d6, d7] : List Int32))) + (F3 (6 : Int32) f t ([d0, d1, d2, d3, d4, d5, d6, d7] : List Int32))) + (F3 (7 : Int32) f t ([d0, d1, d2, d3, d4, d5, d6, d7] : List Int32)))), .unset, .unset] [])) _
      refine XS.bipush X146.here hx rfl (hb hby at_295) ?_
      show Steps p.tables e below (T146.setTop (mkF m 297 #[.val (.int x0), .val (.int x1), .val (.int x2), .val (.int x3), .val (.int x4), .val (.ref b2), .val (.ref b62), .val (.int f), .val (.int t), .val (.int ((((((((F3 (0 : Int32) f t ([d0, d1, d2, d3, d4, d5, d6, d7] : List Int32)) + (F3 (1 : Int32) f t ([d0, d1, d2, d3, d4, d5, d6, d7] : List Int32))) + (F3 (2 : Int32) f t ([d0, d1, d2, d3, d4, d5, d6, d7] : List Int32))) + (F3 (3 : Int32) f t ([d0, d1, d2, d3, d4, d5, d6, d7] : List Int32))) + (F3 (4 : Int32) f t ([d0, d1, d2, d3, d4, d5, d6, d7] : List Int32))) + (F3 (5 : Int32) f t ([d0, d1, d2, d3, d4, d5, d6, d7] : List Int32))) + (F3 (6 : Int32) f t ([d0, d1, d2, d3, d4, d5, d6, d7] : List Int32))) + (F3 (7 : Int32) f t ([d0, d1, d2, d3, d4, d5, d6, d7] : List Int32)))), .unset, .unset] [(.int (10 : Int32))])) _
      refine XS.iload X146.here hx rfl (hb hby at_297) rfl ?_
      show Steps p.tables e below (T146.setTop (mkF m 299 #[.val (.int x0), .val (.int x1), .val (.int x2), .val (.int x3), .val (.int x4), .val (.ref b2), .val (.ref b62), .val (.int f), .val (.int t), .val (.int ((((((((F3 (0 : Int32) f t ([d0, d1, d2, d3, d4, d5, d6, d7] : List Int32)) + (F3 (1 : Int32) f t ([d0, d1, d2, d3, d4, d5, d6, d7] : List Int32))) + (F3 (2 : Int32) f t ([d0, d1, d2, d3, d4, d5, d6, d7] : List Int32))) + (F3 (3 : Int32) f t ([d0, d1, d2, d3, d4, d5, d6, d7] : List Int32))) + (F3 (4 : Int32) f t ([d0, d1, d2, d3, d4, d5, d6, d7] : List Int32))) + (F3 (5 : Int32) f t ([d0, d1, d2, d3, d4, d5, d6, d7] : List Int32))) + (F3 (6 : Int32) f t ([d0, d1, d2, d3, d4, d5, d6, d7] : List Int32))) + (F3 (7 : Int32) f t ([d0, d1, d2, d3, d4, d5, d6, d7] : List Int32)))), .unset, .unset] [(.int ((((((((F3 (0 : Int32) f t ([d0, d1, d2, d3, d4, d5, d6, d7] : List Int32)) + (F3 (1 : Int32) f t ([d0, d1, d2, d3, d4, d5, d6, d7] : List Int32))) + (F3 (2 : Int32) f t ([d0, d1, d2, d3, d4, d5, d6, d7] : List Int32))) + (F3 (3 : Int32) f t ([d0, d1, d2, d3, d4, d5, d6, d7] : List Int32))) + (F3 (4 : Int32) f t ([d0, d1, d2, d3, d4, d5, d6, d7] : List Int32))) + (F3 (5 : Int32) f t ([d0, d1, d2, d3, d4, d5, d6, d7] : List Int32))) + (F3 (6 : Int32) f t ([d0, d1, d2, d3, d4, d5, d6, d7] : List Int32))) + (F3 (7 : Int32) f t ([d0, d1, d2, d3, d4, d5, d6, d7] : List Int32)))), (.int (10 : Int32))])) _
      refine XS.bipush X146.here hx rfl (hb hby at_299) ?_
      show Steps p.tables e below (T146.setTop (mkF m 301 #[.val (.int x0), .val (.int x1), .val (.int x2), .val (.int x3), .val (.int x4), .val (.ref b2), .val (.ref b62), .val (.int f), .val (.int t), .val (.int ((((((((F3 (0 : Int32) f t ([d0, d1, d2, d3, d4, d5, d6, d7] : List Int32)) + (F3 (1 : Int32) f t ([d0, d1, d2, d3, d4, d5, d6, d7] : List Int32))) + (F3 (2 : Int32) f t ([d0, d1, d2, d3, d4, d5, d6, d7] : List Int32))) + (F3 (3 : Int32) f t ([d0, d1, d2, d3, d4, d5, d6, d7] : List Int32))) + (F3 (4 : Int32) f t ([d0, d1, d2, d3, d4, d5, d6, d7] : List Int32))) + (F3 (5 : Int32) f t ([d0, d1, d2, d3, d4, d5, d6, d7] : List Int32))) + (F3 (6 : Int32) f t ([d0, d1, d2, d3, d4, d5, d6, d7] : List Int32))) + (F3 (7 : Int32) f t ([d0, d1, d2, d3, d4, d5, d6, d7] : List Int32)))), .unset, .unset] [(.int (10 : Int32)), (.int ((((((((F3 (0 : Int32) f t ([d0, d1, d2, d3, d4, d5, d6, d7] : List Int32)) + (F3 (1 : Int32) f t ([d0, d1, d2, d3, d4, d5, d6, d7] : List Int32))) + (F3 (2 : Int32) f t ([d0, d1, d2, d3, d4, d5, d6, d7] : List Int32))) + (F3 (3 : Int32) f t ([d0, d1, d2, d3, d4, d5, d6, d7] : List Int32))) + (F3 (4 : Int32) f t ([d0, d1, d2, d3, d4, d5, d6, d7] : List Int32))) + (F3 (5 : Int32) f t ([d0, d1, d2, d3, d4, d5, d6, d7] : List Int32))) + (F3 (6 : Int32) f t ([d0, d1, d2, d3, d4, d5, d6, d7] : List Int32))) + (F3 (7 : Int32) f t ([d0, d1, d2, d3, d4, d5, d6, d7] : List Int32)))), (.int (10 : Int32))])) _
      refine iremM X146 hx rfl (hb hby at_301) rfl (by decide) ?_
      show Steps p.tables e below (T146.setTop (mkF m 302 #[.val (.int x0), .val (.int x1), .val (.int x2), .val (.int x3), .val (.int x4), .val (.ref b2), .val (.ref b62), .val (.int f), .val (.int t), .val (.int ((((((((F3 (0 : Int32) f t ([d0, d1, d2, d3, d4, d5, d6, d7] : List Int32)) + (F3 (1 : Int32) f t ([d0, d1, d2, d3, d4, d5, d6, d7] : List Int32))) + (F3 (2 : Int32) f t ([d0, d1, d2, d3, d4, d5, d6, d7] : List Int32))) + (F3 (3 : Int32) f t ([d0, d1, d2, d3, d4, d5, d6, d7] : List Int32))) + (F3 (4 : Int32) f t ([d0, d1, d2, d3, d4, d5, d6, d7] : List Int32))) + (F3 (5 : Int32) f t ([d0, d1, d2, d3, d4, d5, d6, d7] : List Int32))) + (F3 (6 : Int32) f t ([d0, d1, d2, d3, d4, d5, d6, d7] : List Int32))) + (F3 (7 : Int32) f t ([d0, d1, d2, d3, d4, d5, d6, d7] : List Int32)))), .unset, .unset] [(.int (((((((((F3 (0 : Int32) f t ([d0, d1, d2, d3, d4, d5, d6, d7] : List Int32)) + (F3 (1 : Int32) f t ([d0, d1, d2, d3, d4, d5, d6, d7] : List Int32))) + (F3 (2 : Int32) f t ([d0, d1, d2, d3, d4, d5, d6, d7] : List Int32))) + (F3 (3 : Int32) f t ([d0, d1, d2, d3, d4, d5, d6, d7] : List Int32))) + (F3 (4 : Int32) f t ([d0, d1, d2, d3, d4, d5, d6, d7] : List Int32))) + (F3 (5 : Int32) f t ([d0, d1, d2, d3, d4, d5, d6, d7] : List Int32))) + (F3 (6 : Int32) f t ([d0, d1, d2, d3, d4, d5, d6, d7] : List Int32))) + (F3 (7 : Int32) f t ([d0, d1, d2, d3, d4, d5, d6, d7] : List Int32))) % (10 : Int32))), (.int (10 : Int32))])) _
      refine XS.isub X146.here hx rfl (hb hby at_302) rfl ?_
      show Steps p.tables e below (T146.setTop (mkF m 303 #[.val (.int x0), .val (.int x1), .val (.int x2), .val (.int x3), .val (.int x4), .val (.ref b2), .val (.ref b62), .val (.int f), .val (.int t), .val (.int ((((((((F3 (0 : Int32) f t ([d0, d1, d2, d3, d4, d5, d6, d7] : List Int32)) + (F3 (1 : Int32) f t ([d0, d1, d2, d3, d4, d5, d6, d7] : List Int32))) + (F3 (2 : Int32) f t ([d0, d1, d2, d3, d4, d5, d6, d7] : List Int32))) + (F3 (3 : Int32) f t ([d0, d1, d2, d3, d4, d5, d6, d7] : List Int32))) + (F3 (4 : Int32) f t ([d0, d1, d2, d3, d4, d5, d6, d7] : List Int32))) + (F3 (5 : Int32) f t ([d0, d1, d2, d3, d4, d5, d6, d7] : List Int32))) + (F3 (6 : Int32) f t ([d0, d1, d2, d3, d4, d5, d6, d7] : List Int32))) + (F3 (7 : Int32) f t ([d0, d1, d2, d3, d4, d5, d6, d7] : List Int32)))), .unset, .unset] [(.int ((10 : Int32) - (((((((((F3 (0 : Int32) f t ([d0, d1, d2, d3, d4, d5, d6, d7] : List Int32)) + (F3 (1 : Int32) f t ([d0, d1, d2, d3, d4, d5, d6, d7] : List Int32))) + (F3 (2 : Int32) f t ([d0, d1, d2, d3, d4, d5, d6, d7] : List Int32))) + (F3 (3 : Int32) f t ([d0, d1, d2, d3, d4, d5, d6, d7] : List Int32))) + (F3 (4 : Int32) f t ([d0, d1, d2, d3, d4, d5, d6, d7] : List Int32))) + (F3 (5 : Int32) f t ([d0, d1, d2, d3, d4, d5, d6, d7] : List Int32))) + (F3 (6 : Int32) f t ([d0, d1, d2, d3, d4, d5, d6, d7] : List Int32))) + (F3 (7 : Int32) f t ([d0, d1, d2, d3, d4, d5, d6, d7] : List Int32))) % (10 : Int32))))])) _
      refine XS.bipush X146.here hx rfl (hb hby at_303) ?_
      show Steps p.tables e below (T146.setTop (mkF m 305 #[.val (.int x0), .val (.int x1), .val (.int x2), .val (.int x3), .val (.int x4), .val (.ref b2), .val (.ref b62), .val (.int f), .val (.int t), .val (.int ((((((((F3 (0 : Int32) f t ([d0, d1, d2, d3, d4, d5, d6, d7] : List Int32)) + (F3 (1 : Int32) f t ([d0, d1, d2, d3, d4, d5, d6, d7] : List Int32))) + (F3 (2 : Int32) f t ([d0, d1, d2, d3, d4, d5, d6, d7] : List Int32))) + (F3 (3 : Int32) f t ([d0, d1, d2, d3, d4, d5, d6, d7] : List Int32))) + (F3 (4 : Int32) f t ([d0, d1, d2, d3, d4, d5, d6, d7] : List Int32))) + (F3 (5 : Int32) f t ([d0, d1, d2, d3, d4, d5, d6, d7] : List Int32))) + (F3 (6 : Int32) f t ([d0, d1, d2, d3, d4, d5, d6, d7] : List Int32))) + (F3 (7 : Int32) f t ([d0, d1, d2, d3, d4, d5, d6, d7] : List Int32)))), .unset, .unset] [(.int (10 : Int32)), (.int ((10 : Int32) - (((((((((F3 (0 : Int32) f t ([d0, d1, d2, d3, d4, d5, d6, d7] : List Int32)) + (F3 (1 : Int32) f t ([d0, d1, d2, d3, d4, d5, d6, d7] : List Int32))) + (F3 (2 : Int32) f t ([d0, d1, d2, d3, d4, d5, d6, d7] : List Int32))) + (F3 (3 : Int32) f t ([d0, d1, d2, d3, d4, d5, d6, d7] : List Int32))) + (F3 (4 : Int32) f t ([d0, d1, d2, d3, d4, d5, d6, d7] : List Int32))) + (F3 (5 : Int32) f t ([d0, d1, d2, d3, d4, d5, d6, d7] : List Int32))) + (F3 (6 : Int32) f t ([d0, d1, d2, d3, d4, d5, d6, d7] : List Int32))) + (F3 (7 : Int32) f t ([d0, d1, d2, d3, d4, d5, d6, d7] : List Int32))) % (10 : Int32))))])) _
      refine iremM X146 hx rfl (hb hby at_305) rfl (by decide) ?_
      show Steps p.tables e below (T146.setTop (mkF m 306 #[.val (.int x0), .val (.int x1), .val (.int x2), .val (.int x3), .val (.int x4), .val (.ref b2), .val (.ref b62), .val (.int f), .val (.int t), .val (.int ((((((((F3 (0 : Int32) f t ([d0, d1, d2, d3, d4, d5, d6, d7] : List Int32)) + (F3 (1 : Int32) f t ([d0, d1, d2, d3, d4, d5, d6, d7] : List Int32))) + (F3 (2 : Int32) f t ([d0, d1, d2, d3, d4, d5, d6, d7] : List Int32))) + (F3 (3 : Int32) f t ([d0, d1, d2, d3, d4, d5, d6, d7] : List Int32))) + (F3 (4 : Int32) f t ([d0, d1, d2, d3, d4, d5, d6, d7] : List Int32))) + (F3 (5 : Int32) f t ([d0, d1, d2, d3, d4, d5, d6, d7] : List Int32))) + (F3 (6 : Int32) f t ([d0, d1, d2, d3, d4, d5, d6, d7] : List Int32))) + (F3 (7 : Int32) f t ([d0, d1, d2, d3, d4, d5, d6, d7] : List Int32)))), .unset, .unset] [(.int (((10 : Int32) - (((((((((F3 (0 : Int32) f t ([d0, d1, d2, d3, d4, d5, d6, d7] : List Int32)) + (F3 (1 : Int32) f t ([d0, d1, d2, d3, d4, d5, d6, d7] : List Int32))) + (F3 (2 : Int32) f t ([d0, d1, d2, d3, d4, d5, d6, d7] : List Int32))) + (F3 (3 : Int32) f t ([d0, d1, d2, d3, d4, d5, d6, d7] : List Int32))) + (F3 (4 : Int32) f t ([d0, d1, d2, d3, d4, d5, d6, d7] : List Int32))) + (F3 (5 : Int32) f t ([d0, d1, d2, d3, d4, d5, d6, d7] : List Int32))) + (F3 (6 : Int32) f t ([d0, d1, d2, d3, d4, d5, d6, d7] : List Int32))) + (F3 (7 : Int32) f t ([d0, d1, d2, d3, d4, d5, d6, d7] : List Int32))) % (10 : Int32))) % (10 : Int32)))])) _
      refine XS.istore X146.here hx rfl (hb hby at_306) rfl (l' := #[.val (.int x0), .val (.int x1), .val (.int x2), .val (.int x3), .val (.int x4), .val (.ref b2), .val (.ref b62), .val (.int f), .val (.int t), .val (.int ((((((((F3 (0 : Int32) f t ([d0, d1, d2, d3, d4, d5, d6, d7] : List Int32)) + (F3 (1 : Int32) f t ([d0, d1, d2, d3, d4, d5, d6, d7] : List Int32))) + (F3 (2 : Int32) f t ([d0, d1, d2, d3, d4, d5, d6, d7] : List Int32))) + (F3 (3 : Int32) f t ([d0, d1, d2, d3, d4, d5, d6, d7] : List Int32))) + (F3 (4 : Int32) f t ([d0, d1, d2, d3, d4, d5, d6, d7] : List Int32))) + (F3 (5 : Int32) f t ([d0, d1, d2, d3, d4, d5, d6, d7] : List Int32))) + (F3 (6 : Int32) f t ([d0, d1, d2, d3, d4, d5, d6, d7] : List Int32))) + (F3 (7 : Int32) f t ([d0, d1, d2, d3, d4, d5, d6, d7] : List Int32)))), .val (.int (((10 : Int32) - (((((((((F3 (0 : Int32) f t ([d0, d1, d2, d3, d4, d5, d6, d7] : List Int32)) + (F3 (1 : Int32) f t ([d0, d1, d2, d3, d4, d5, d6, d7] : List Int32))) + (F3 (2 : Int32) f t ([d0, d1, d2, d3, d4, d5, d6, d7] : List Int32))) + (F3 (3 : Int32) f t ([d0, d1, d2, d3, d4, d5, d6, d7] : List Int32))) + (F3 (4 : Int32) f t ([d0, d1, d2, d3, d4, d5, d6, d7] : List Int32))) + (F3 (5 : Int32) f t ([d0, d1, d2, d3, d4, d5, d6, d7] : List Int32))) + (F3 (6 : Int32) f t ([d0, d1, d2, d3, d4, d5, d6, d7] : List Int32))) + (F3 (7 : Int32) f t ([d0, d1, d2, d3, d4, d5, d6, d7] : List Int32))) % (10 : Int32))) % (10 : Int32))), .unset]) rfl ?_
      show Steps p.tables e below (T146.setTop (mkF m 308 #[.val (.int x0), .val (.int x1), .val (.int x2), .val (.int x3), .val (.int x4), .val (.ref b2), .val (.ref b62), .val (.int f), .val (.int t), .val (.int ((((((((F3 (0 : Int32) f t ([d0, d1, d2, d3, d4, d5, d6, d7] : List Int32)) + (F3 (1 : Int32) f t ([d0, d1, d2, d3, d4, d5, d6, d7] : List Int32))) + (F3 (2 : Int32) f t ([d0, d1, d2, d3, d4, d5, d6, d7] : List Int32))) + (F3 (3 : Int32) f t ([d0, d1, d2, d3, d4, d5, d6, d7] : List Int32))) + (F3 (4 : Int32) f t ([d0, d1, d2, d3, d4, d5, d6, d7] : List Int32))) + (F3 (5 : Int32) f t ([d0, d1, d2, d3, d4, d5, d6, d7] : List Int32))) + (F3 (6 : Int32) f t ([d0, d1, d2, d3, d4, d5, d6, d7] : List Int32))) + (F3 (7 : Int32) f t ([d0, d1, d2, d3, d4, d5, d6, d7] : List Int32)))), .val (.int (((10 : Int32) - (((((((((F3 (0 : Int32) f t ([d0, d1, d2, d3, d4, d5, d6, d7] : List Int32)) + (F3 (1 : Int32) f t ([d0, d1, d2, d3, d4, d5, d6, d7] : List Int32))) + (F3 (2 : Int32) f t ([d0, d1, d2, d3, d4, d5, d6, d7] : List Int32))) + (F3 (3 : Int32) f t ([d0, d1, d2, d3, d4, d5, d6, d7] : List Int32))) + (F3 (4 : Int32) f t ([d0, d1, d2, d3, d4, d5, d6, d7] : List Int32))) + (F3 (5 : Int32) f t ([d0, d1, d2, d3, d4, d5, d6, d7] : List Int32))) + (F3 (6 : Int32) f t ([d0, d1, d2, d3, d4, d5, d6, d7] : List Int32))) + (F3 (7 : Int32) f t ([d0, d1, d2, d3, d4, d5, d6, d7] : List Int32))) % (10 : Int32))) % (10 : Int32))), .unset] [])) _
      refine XS.aload X146.here hx rfl (hb hby at_308) rfl rfl ?_
      show Steps p.tables e below (T146.setTop (mkF m 310 #[.val (.int x0), .val (.int x1), .val (.int x2), .val (.int x3), .val (.int x4), .val (.ref b2), .val (.ref b62), .val (.int f), .val (.int t), .val (.int ((((((((F3 (0 : Int32) f t ([d0, d1, d2, d3, d4, d5, d6, d7] : List Int32)) + (F3 (1 : Int32) f t ([d0, d1, d2, d3, d4, d5, d6, d7] : List Int32))) + (F3 (2 : Int32) f t ([d0, d1, d2, d3, d4, d5, d6, d7] : List Int32))) + (F3 (3 : Int32) f t ([d0, d1, d2, d3, d4, d5, d6, d7] : List Int32))) + (F3 (4 : Int32) f t ([d0, d1, d2, d3, d4, d5, d6, d7] : List Int32))) + (F3 (5 : Int32) f t ([d0, d1, d2, d3, d4, d5, d6, d7] : List Int32))) + (F3 (6 : Int32) f t ([d0, d1, d2, d3, d4, d5, d6, d7] : List Int32))) + (F3 (7 : Int32) f t ([d0, d1, d2, d3, d4, d5, d6, d7] : List Int32)))), .val (.int (((10 : Int32) - (((((((((F3 (0 : Int32) f t ([d0, d1, d2, d3, d4, d5, d6, d7] : List Int32)) + (F3 (1 : Int32) f t ([d0, d1, d2, d3, d4, d5, d6, d7] : List Int32))) + (F3 (2 : Int32) f t ([d0, d1, d2, d3, d4, d5, d6, d7] : List Int32))) + (F3 (3 : Int32) f t ([d0, d1, d2, d3, d4, d5, d6, d7] : List Int32))) + (F3 (4 : Int32) f t ([d0, d1, d2, d3, d4, d5, d6, d7] : List Int32))) + (F3 (5 : Int32) f t ([d0, d1, d2, d3, d4, d5, d6, d7] : List Int32))) + (F3 (6 : Int32) f t ([d0, d1, d2, d3, d4, d5, d6, d7] : List Int32))) + (F3 (7 : Int32) f t ([d0, d1, d2, d3, d4, d5, d6, d7] : List Int32))) % (10 : Int32))) % (10 : Int32))), .unset] [(.ref b62)])) _
      refine XS.iload X146.here hx rfl (hb hby at_310) rfl ?_
      show Steps p.tables e below (T146.setTop (mkF m 312 #[.val (.int x0), .val (.int x1), .val (.int x2), .val (.int x3), .val (.int x4), .val (.ref b2), .val (.ref b62), .val (.int f), .val (.int t), .val (.int ((((((((F3 (0 : Int32) f t ([d0, d1, d2, d3, d4, d5, d6, d7] : List Int32)) + (F3 (1 : Int32) f t ([d0, d1, d2, d3, d4, d5, d6, d7] : List Int32))) + (F3 (2 : Int32) f t ([d0, d1, d2, d3, d4, d5, d6, d7] : List Int32))) + (F3 (3 : Int32) f t ([d0, d1, d2, d3, d4, d5, d6, d7] : List Int32))) + (F3 (4 : Int32) f t ([d0, d1, d2, d3, d4, d5, d6, d7] : List Int32))) + (F3 (5 : Int32) f t ([d0, d1, d2, d3, d4, d5, d6, d7] : List Int32))) + (F3 (6 : Int32) f t ([d0, d1, d2, d3, d4, d5, d6, d7] : List Int32))) + (F3 (7 : Int32) f t ([d0, d1, d2, d3, d4, d5, d6, d7] : List Int32)))), .val (.int (((10 : Int32) - (((((((((F3 (0 : Int32) f t ([d0, d1, d2, d3, d4, d5, d6, d7] : List Int32)) + (F3 (1 : Int32) f t ([d0, d1, d2, d3, d4, d5, d6, d7] : List Int32))) + (F3 (2 : Int32) f t ([d0, d1, d2, d3, d4, d5, d6, d7] : List Int32))) + (F3 (3 : Int32) f t ([d0, d1, d2, d3, d4, d5, d6, d7] : List Int32))) + (F3 (4 : Int32) f t ([d0, d1, d2, d3, d4, d5, d6, d7] : List Int32))) + (F3 (5 : Int32) f t ([d0, d1, d2, d3, d4, d5, d6, d7] : List Int32))) + (F3 (6 : Int32) f t ([d0, d1, d2, d3, d4, d5, d6, d7] : List Int32))) + (F3 (7 : Int32) f t ([d0, d1, d2, d3, d4, d5, d6, d7] : List Int32))) % (10 : Int32))) % (10 : Int32))), .unset] [(.int f), (.ref b62)])) _
      refine XS.iload X146.here hx rfl (hb hby at_312) rfl ?_
      exact Steps.refl _)
  obtain ⟨_, _, ⟨T149, L149, k149, n149⟩, -, X149, ⟨Lc149, hQ149, l149, y149, z149⟩, sr149⟩ := Jvm.LawKit.callS X146 hx (y := (⟨"com/example/escritural/escritural/boleto/Digits", "modulo10", "([BII)I"⟩ : MethodName)) hown (mvT hZ (hw _ (List.mem_of_getElem? (i := 13) rfl))) (mvT hZ (hw _ (List.mem_of_getElem? (i := 14) rfl))) (mvT hZ (hw _ (List.mem_of_getElem? (i := 15) rfl))) (mvT hZ (hw _ (List.mem_of_getElem? (i := 16) rfl))) (by decide) (backOf (W := 0) (rm4 l Z a0 hw [] b62 f t k62 ([((((48 : Int32) + d0).toInt8.toInt32)).toInt8.toInt32, ((((48 : Int32) + d1).toInt8.toInt32)).toInt8.toInt32, ((((48 : Int32) + d2).toInt8.toInt32)).toInt8.toInt32, ((((48 : Int32) + d3).toInt8.toInt32)).toInt8.toInt32, ((((48 : Int32) + d4).toInt8.toInt32)).toInt8.toInt32, ((((48 : Int32) + d5).toInt8.toInt32)).toInt8.toInt32, ((((48 : Int32) + d6).toInt8.toInt32)).toInt8.toInt32, ((((48 : Int32) + d7).toInt8.toInt32)).toInt8.toInt32] : List Int32) h118 n0 Z118 f120 hft) hZ (hw _ (List.mem_of_getElem? (i := 16) rfl)) (hw _ (List.mem_of_getElem? (i := 15) rfl)) (by decide) (by decide)) (g := (mkF m 314 #[.val (.int x0), .val (.int x1), .val (.int x2), .val (.int x3), .val (.int x4), .val (.ref b2), .val (.ref b62), .val (.int f), .val (.int t), .val (.int ((((((((F3 (0 : Int32) f t ([d0, d1, d2, d3, d4, d5, d6, d7] : List Int32)) + (F3 (1 : Int32) f t ([d0, d1, d2, d3, d4, d5, d6, d7] : List Int32))) + (F3 (2 : Int32) f t ([d0, d1, d2, d3, d4, d5, d6, d7] : List Int32))) + (F3 (3 : Int32) f t ([d0, d1, d2, d3, d4, d5, d6, d7] : List Int32))) + (F3 (4 : Int32) f t ([d0, d1, d2, d3, d4, d5, d6, d7] : List Int32))) + (F3 (5 : Int32) f t ([d0, d1, d2, d3, d4, d5, d6, d7] : List Int32))) + (F3 (6 : Int32) f t ([d0, d1, d2, d3, d4, d5, d6, d7] : List Int32))) + (F3 (7 : Int32) f t ([d0, d1, d2, d3, d4, d5, d6, d7] : List Int32)))), .val (.int (((10 : Int32) - (((((((((F3 (0 : Int32) f t ([d0, d1, d2, d3, d4, d5, d6, d7] : List Int32)) + (F3 (1 : Int32) f t ([d0, d1, d2, d3, d4, d5, d6, d7] : List Int32))) + (F3 (2 : Int32) f t ([d0, d1, d2, d3, d4, d5, d6, d7] : List Int32))) + (F3 (3 : Int32) f t ([d0, d1, d2, d3, d4, d5, d6, d7] : List Int32))) + (F3 (4 : Int32) f t ([d0, d1, d2, d3, d4, d5, d6, d7] : List Int32))) + (F3 (5 : Int32) f t ([d0, d1, d2, d3, d4, d5, d6, d7] : List Int32))) + (F3 (6 : Int32) f t ([d0, d1, d2, d3, d4, d5, d6, d7] : List Int32))) + (F3 (7 : Int32) f t ([d0, d1, d2, d3, d4, d5, d6, d7] : List Int32))) % (10 : Int32))) % (10 : Int32))), .unset] [(.int t), (.int f), (.ref b62)])) rfl (by rw [hml]; rfl) (argsL := [(.ref b62), (.int f), (.int t)]) (rest := []) (lenOf pd_2 rfl) rfl (by show 2 * 0 + _ ≤ _; exact Nat.le_of_eq rfl) (hb hby at_314) (fun _ _ => ⟨rfl, hh146, (by decide : 2 + 0 ≤ _), (by decide : 16 + 0 ≤ _)⟩)
  dsimp only [Pt.U, Pt.locs, Pt.cells, Pt.slots] at X149 l149 y149 z149 sr149 hQ149
  subst l149 y149 z149
  obtain ⟨rfl, N149q, hh149⟩ := hQ149
  have N149 := Fr.app N146 N149q
  obtain ⟨LL149, X149, N149⟩ := own_hide X149 N149
  have st150 : Steps p.tables e below (s₁.setTop (entryFrame m #[(.int x0), (.int x1), (.int x2), (.int x3), (.int x4)] maxLocals)) (T149.setTop (mkF m 317 #[.val (.int x0), .val (.int x1), .val (.int x2), .val (.int x3), .val (.int x4), .val (.ref b2), .val (.ref b62), .val (.int f), .val (.int t), .val (.int ((((((((F3 (0 : Int32) f t ([d0, d1, d2, d3, d4, d5, d6, d7] : List Int32)) + (F3 (1 : Int32) f t ([d0, d1, d2, d3, d4, d5, d6, d7] : List Int32))) + (F3 (2 : Int32) f t ([d0, d1, d2, d3, d4, d5, d6, d7] : List Int32))) + (F3 (3 : Int32) f t ([d0, d1, d2, d3, d4, d5, d6, d7] : List Int32))) + (F3 (4 : Int32) f t ([d0, d1, d2, d3, d4, d5, d6, d7] : List Int32))) + (F3 (5 : Int32) f t ([d0, d1, d2, d3, d4, d5, d6, d7] : List Int32))) + (F3 (6 : Int32) f t ([d0, d1, d2, d3, d4, d5, d6, d7] : List Int32))) + (F3 (7 : Int32) f t ([d0, d1, d2, d3, d4, d5, d6, d7] : List Int32)))), .val (.int (((10 : Int32) - (((((((((F3 (0 : Int32) f t ([d0, d1, d2, d3, d4, d5, d6, d7] : List Int32)) + (F3 (1 : Int32) f t ([d0, d1, d2, d3, d4, d5, d6, d7] : List Int32))) + (F3 (2 : Int32) f t ([d0, d1, d2, d3, d4, d5, d6, d7] : List Int32))) + (F3 (3 : Int32) f t ([d0, d1, d2, d3, d4, d5, d6, d7] : List Int32))) + (F3 (4 : Int32) f t ([d0, d1, d2, d3, d4, d5, d6, d7] : List Int32))) + (F3 (5 : Int32) f t ([d0, d1, d2, d3, d4, d5, d6, d7] : List Int32))) + (F3 (6 : Int32) f t ([d0, d1, d2, d3, d4, d5, d6, d7] : List Int32))) + (F3 (7 : Int32) f t ([d0, d1, d2, d3, d4, d5, d6, d7] : List Int32))) % (10 : Int32))) % (10 : Int32))), .unset] [(.int (own_res f t ([((((48 : Int32) + d0).toInt8.toInt32)).toInt8.toInt32, ((((48 : Int32) + d1).toInt8.toInt32)).toInt8.toInt32, ((((48 : Int32) + d2).toInt8.toInt32)).toInt8.toInt32, ((((48 : Int32) + d3).toInt8.toInt32)).toInt8.toInt32, ((((48 : Int32) + d4).toInt8.toInt32)).toInt8.toInt32, ((((48 : Int32) + d5).toInt8.toInt32)).toInt8.toInt32, ((((48 : Int32) + d6).toInt8.toInt32)).toInt8.toInt32, ((((48 : Int32) + d7).toInt8.toInt32)).toInt8.toInt32] : List Int32)))])) := st148.trans (sr149 _ (Steps.refl _))
  have st151 : Steps p.tables e below (s₁.setTop (entryFrame m #[(.int x0), (.int x1), (.int x2), (.int x3), (.int x4)] maxLocals)) (T149.setTop (mkF m 323 #[.val (.int x0), .val (.int x1), .val (.int x2), .val (.int x3), .val (.int x4), .val (.ref b2), .val (.ref b62), .val (.int f), .val (.int t), .val (.int ((((((((F3 (0 : Int32) f t ([d0, d1, d2, d3, d4, d5, d6, d7] : List Int32)) + (F3 (1 : Int32) f t ([d0, d1, d2, d3, d4, d5, d6, d7] : List Int32))) + (F3 (2 : Int32) f t ([d0, d1, d2, d3, d4, d5, d6, d7] : List Int32))) + (F3 (3 : Int32) f t ([d0, d1, d2, d3, d4, d5, d6, d7] : List Int32))) + (F3 (4 : Int32) f t ([d0, d1, d2, d3, d4, d5, d6, d7] : List Int32))) + (F3 (5 : Int32) f t ([d0, d1, d2, d3, d4, d5, d6, d7] : List Int32))) + (F3 (6 : Int32) f t ([d0, d1, d2, d3, d4, d5, d6, d7] : List Int32))) + (F3 (7 : Int32) f t ([d0, d1, d2, d3, d4, d5, d6, d7] : List Int32)))), .val (.int (((10 : Int32) - (((((((((F3 (0 : Int32) f t ([d0, d1, d2, d3, d4, d5, d6, d7] : List Int32)) + (F3 (1 : Int32) f t ([d0, d1, d2, d3, d4, d5, d6, d7] : List Int32))) + (F3 (2 : Int32) f t ([d0, d1, d2, d3, d4, d5, d6, d7] : List Int32))) + (F3 (3 : Int32) f t ([d0, d1, d2, d3, d4, d5, d6, d7] : List Int32))) + (F3 (4 : Int32) f t ([d0, d1, d2, d3, d4, d5, d6, d7] : List Int32))) + (F3 (5 : Int32) f t ([d0, d1, d2, d3, d4, d5, d6, d7] : List Int32))) + (F3 (6 : Int32) f t ([d0, d1, d2, d3, d4, d5, d6, d7] : List Int32))) + (F3 (7 : Int32) f t ([d0, d1, d2, d3, d4, d5, d6, d7] : List Int32))) % (10 : Int32))) % (10 : Int32))), .val (.int (own_res f t ([((((48 : Int32) + d0).toInt8.toInt32)).toInt8.toInt32, ((((48 : Int32) + d1).toInt8.toInt32)).toInt8.toInt32, ((((48 : Int32) + d2).toInt8.toInt32)).toInt8.toInt32, ((((48 : Int32) + d3).toInt8.toInt32)).toInt8.toInt32, ((((48 : Int32) + d4).toInt8.toInt32)).toInt8.toInt32, ((((48 : Int32) + d5).toInt8.toInt32)).toInt8.toInt32, ((((48 : Int32) + d6).toInt8.toInt32)).toInt8.toInt32, ((((48 : Int32) + d7).toInt8.toInt32)).toInt8.toInt32] : List Int32)))] [(.int (((10 : Int32) - (((((((((F3 (0 : Int32) f t ([d0, d1, d2, d3, d4, d5, d6, d7] : List Int32)) + (F3 (1 : Int32) f t ([d0, d1, d2, d3, d4, d5, d6, d7] : List Int32))) + (F3 (2 : Int32) f t ([d0, d1, d2, d3, d4, d5, d6, d7] : List Int32))) + (F3 (3 : Int32) f t ([d0, d1, d2, d3, d4, d5, d6, d7] : List Int32))) + (F3 (4 : Int32) f t ([d0, d1, d2, d3, d4, d5, d6, d7] : List Int32))) + (F3 (5 : Int32) f t ([d0, d1, d2, d3, d4, d5, d6, d7] : List Int32))) + (F3 (6 : Int32) f t ([d0, d1, d2, d3, d4, d5, d6, d7] : List Int32))) + (F3 (7 : Int32) f t ([d0, d1, d2, d3, d4, d5, d6, d7] : List Int32))) % (10 : Int32))) % (10 : Int32))), (.int (own_res f t ([((((48 : Int32) + d0).toInt8.toInt32)).toInt8.toInt32, ((((48 : Int32) + d1).toInt8.toInt32)).toInt8.toInt32, ((((48 : Int32) + d2).toInt8.toInt32)).toInt8.toInt32, ((((48 : Int32) + d3).toInt8.toInt32)).toInt8.toInt32, ((((48 : Int32) + d4).toInt8.toInt32)).toInt8.toInt32, ((((48 : Int32) + d5).toInt8.toInt32)).toInt8.toInt32, ((((48 : Int32) + d6).toInt8.toInt32)).toInt8.toInt32, ((((48 : Int32) + d7).toInt8.toInt32)).toInt8.toInt32] : List Int32)))])) := st150.trans (by
      show Steps p.tables e below (T149.setTop (mkF m 317 #[.val (.int x0), .val (.int x1), .val (.int x2), .val (.int x3), .val (.int x4), .val (.ref b2), .val (.ref b62), .val (.int f), .val (.int t), .val (.int ((((((((F3 (0 : Int32) f t ([d0, d1, d2, d3, d4, d5, d6, d7] : List Int32)) + (F3 (1 : Int32) f t ([d0, d1, d2, d3, d4, d5, d6, d7] : List Int32))) + (F3 (2 : Int32) f t ([d0, d1, d2, d3, d4, d5, d6, d7] : List Int32))) + (F3 (3 : Int32) f t ([d0, d1, d2, d3, d4, d5, d6, d7] : List Int32))) + (F3 (4 : Int32) f t ([d0, d1, d2, d3, d4, d5, d6, d7] : List Int32))) + (F3 (5 : Int32) f t ([d0, d1, d2, d3, d4, d5, d6, d7] : List Int32))) + (F3 (6 : Int32) f t ([d0, d1, d2, d3, d4, d5, d6, d7] : List Int32))) + (F3 (7 : Int32) f t ([d0, d1, d2, d3, d4, d5, d6, d7] : List Int32)))), .val (.int (((10 : Int32) - (((((((((F3 (0 : Int32) f t ([d0, d1, d2, d3, d4, d5, d6, d7] : List Int32)) + (F3 (1 : Int32) f t ([d0, d1, d2, d3, d4, d5, d6, d7] : List Int32))) + (F3 (2 : Int32) f t ([d0, d1, d2, d3, d4, d5, d6, d7] : List Int32))) + (F3 (3 : Int32) f t ([d0, d1, d2, d3, d4, d5, d6, d7] : List Int32))) + (F3 (4 : Int32) f t ([d0, d1, d2, d3, d4, d5, d6, d7] : List Int32))) + (F3 (5 : Int32) f t ([d0, d1, d2, d3, d4, d5, d6, d7] : List Int32))) + (F3 (6 : Int32) f t ([d0, d1, d2, d3, d4, d5, d6, d7] : List Int32))) + (F3 (7 : Int32) f t ([d0, d1, d2, d3, d4, d5, d6, d7] : List Int32))) % (10 : Int32))) % (10 : Int32))), .unset] [(.int (own_res f t ([((((48 : Int32) + d0).toInt8.toInt32)).toInt8.toInt32, ((((48 : Int32) + d1).toInt8.toInt32)).toInt8.toInt32, ((((48 : Int32) + d2).toInt8.toInt32)).toInt8.toInt32, ((((48 : Int32) + d3).toInt8.toInt32)).toInt8.toInt32, ((((48 : Int32) + d4).toInt8.toInt32)).toInt8.toInt32, ((((48 : Int32) + d5).toInt8.toInt32)).toInt8.toInt32, ((((48 : Int32) + d6).toInt8.toInt32)).toInt8.toInt32, ((((48 : Int32) + d7).toInt8.toInt32)).toInt8.toInt32] : List Int32)))])) _
      refine XS.istore X149.here hx rfl (hb hby at_317) rfl (l' := #[.val (.int x0), .val (.int x1), .val (.int x2), .val (.int x3), .val (.int x4), .val (.ref b2), .val (.ref b62), .val (.int f), .val (.int t), .val (.int ((((((((F3 (0 : Int32) f t ([d0, d1, d2, d3, d4, d5, d6, d7] : List Int32)) + (F3 (1 : Int32) f t ([d0, d1, d2, d3, d4, d5, d6, d7] : List Int32))) + (F3 (2 : Int32) f t ([d0, d1, d2, d3, d4, d5, d6, d7] : List Int32))) + (F3 (3 : Int32) f t ([d0, d1, d2, d3, d4, d5, d6, d7] : List Int32))) + (F3 (4 : Int32) f t ([d0, d1, d2, d3, d4, d5, d6, d7] : List Int32))) + (F3 (5 : Int32) f t ([d0, d1, d2, d3, d4, d5, d6, d7] : List Int32))) + (F3 (6 : Int32) f t ([d0, d1, d2, d3, d4, d5, d6, d7] : List Int32))) + (F3 (7 : Int32) f t ([d0, d1, d2, d3, d4, d5, d6, d7] : List Int32)))), .val (.int (((10 : Int32) - (((((((((F3 (0 : Int32) f t ([d0, d1, d2, d3, d4, d5, d6, d7] : List Int32)) + (F3 (1 : Int32) f t ([d0, d1, d2, d3, d4, d5, d6, d7] : List Int32))) + (F3 (2 : Int32) f t ([d0, d1, d2, d3, d4, d5, d6, d7] : List Int32))) + (F3 (3 : Int32) f t ([d0, d1, d2, d3, d4, d5, d6, d7] : List Int32))) + (F3 (4 : Int32) f t ([d0, d1, d2, d3, d4, d5, d6, d7] : List Int32))) + (F3 (5 : Int32) f t ([d0, d1, d2, d3, d4, d5, d6, d7] : List Int32))) + (F3 (6 : Int32) f t ([d0, d1, d2, d3, d4, d5, d6, d7] : List Int32))) + (F3 (7 : Int32) f t ([d0, d1, d2, d3, d4, d5, d6, d7] : List Int32))) % (10 : Int32))) % (10 : Int32))), .val (.int (own_res f t ([((((48 : Int32) + d0).toInt8.toInt32)).toInt8.toInt32, ((((48 : Int32) + d1).toInt8.toInt32)).toInt8.toInt32, ((((48 : Int32) + d2).toInt8.toInt32)).toInt8.toInt32, ((((48 : Int32) + d3).toInt8.toInt32)).toInt8.toInt32, ((((48 : Int32) + d4).toInt8.toInt32)).toInt8.toInt32, ((((48 : Int32) + d5).toInt8.toInt32)).toInt8.toInt32, ((((48 : Int32) + d6).toInt8.toInt32)).toInt8.toInt32, ((((48 : Int32) + d7).toInt8.toInt32)).toInt8.toInt32] : List Int32)))]) rfl ?_
      show Steps p.tables e below (T149.setTop (mkF m 319 #[.val (.int x0), .val (.int x1), .val (.int x2), .val (.int x3), .val (.int x4), .val (.ref b2), .val (.ref b62), .val (.int f), .val (.int t), .val (.int ((((((((F3 (0 : Int32) f t ([d0, d1, d2, d3, d4, d5, d6, d7] : List Int32)) + (F3 (1 : Int32) f t ([d0, d1, d2, d3, d4, d5, d6, d7] : List Int32))) + (F3 (2 : Int32) f t ([d0, d1, d2, d3, d4, d5, d6, d7] : List Int32))) + (F3 (3 : Int32) f t ([d0, d1, d2, d3, d4, d5, d6, d7] : List Int32))) + (F3 (4 : Int32) f t ([d0, d1, d2, d3, d4, d5, d6, d7] : List Int32))) + (F3 (5 : Int32) f t ([d0, d1, d2, d3, d4, d5, d6, d7] : List Int32))) + (F3 (6 : Int32) f t ([d0, d1, d2, d3, d4, d5, d6, d7] : List Int32))) + (F3 (7 : Int32) f t ([d0, d1, d2, d3, d4, d5, d6, d7] : List Int32)))), .val (.int (((10 : Int32) - (((((((((F3 (0 : Int32) f t ([d0, d1, d2, d3, d4, d5, d6, d7] : List Int32)) + (F3 (1 : Int32) f t ([d0, d1, d2, d3, d4, d5, d6, d7] : List Int32))) + (F3 (2 : Int32) f t ([d0, d1, d2, d3, d4, d5, d6, d7] : List Int32))) + (F3 (3 : Int32) f t ([d0, d1, d2, d3, d4, d5, d6, d7] : List Int32))) + (F3 (4 : Int32) f t ([d0, d1, d2, d3, d4, d5, d6, d7] : List Int32))) + (F3 (5 : Int32) f t ([d0, d1, d2, d3, d4, d5, d6, d7] : List Int32))) + (F3 (6 : Int32) f t ([d0, d1, d2, d3, d4, d5, d6, d7] : List Int32))) + (F3 (7 : Int32) f t ([d0, d1, d2, d3, d4, d5, d6, d7] : List Int32))) % (10 : Int32))) % (10 : Int32))), .val (.int (own_res f t ([((((48 : Int32) + d0).toInt8.toInt32)).toInt8.toInt32, ((((48 : Int32) + d1).toInt8.toInt32)).toInt8.toInt32, ((((48 : Int32) + d2).toInt8.toInt32)).toInt8.toInt32, ((((48 : Int32) + d3).toInt8.toInt32)).toInt8.toInt32, ((((48 : Int32) + d4).toInt8.toInt32)).toInt8.toInt32, ((((48 : Int32) + d5).toInt8.toInt32)).toInt8.toInt32, ((((48 : Int32) + d6).toInt8.toInt32)).toInt8.toInt32, ((((48 : Int32) + d7).toInt8.toInt32)).toInt8.toInt32] : List Int32)))] [])) _
      refine XS.iload X149.here hx rfl (hb hby at_319) rfl ?_
      show Steps p.tables e below (T149.setTop (mkF m 321 #[.val (.int x0), .val (.int x1), .val (.int x2), .val (.int x3), .val (.int x4), .val (.ref b2), .val (.ref b62), .val (.int f), .val (.int t), .val (.int ((((((((F3 (0 : Int32) f t ([d0, d1, d2, d3, d4, d5, d6, d7] : List Int32)) + (F3 (1 : Int32) f t ([d0, d1, d2, d3, d4, d5, d6, d7] : List Int32))) + (F3 (2 : Int32) f t ([d0, d1, d2, d3, d4, d5, d6, d7] : List Int32))) + (F3 (3 : Int32) f t ([d0, d1, d2, d3, d4, d5, d6, d7] : List Int32))) + (F3 (4 : Int32) f t ([d0, d1, d2, d3, d4, d5, d6, d7] : List Int32))) + (F3 (5 : Int32) f t ([d0, d1, d2, d3, d4, d5, d6, d7] : List Int32))) + (F3 (6 : Int32) f t ([d0, d1, d2, d3, d4, d5, d6, d7] : List Int32))) + (F3 (7 : Int32) f t ([d0, d1, d2, d3, d4, d5, d6, d7] : List Int32)))), .val (.int (((10 : Int32) - (((((((((F3 (0 : Int32) f t ([d0, d1, d2, d3, d4, d5, d6, d7] : List Int32)) + (F3 (1 : Int32) f t ([d0, d1, d2, d3, d4, d5, d6, d7] : List Int32))) + (F3 (2 : Int32) f t ([d0, d1, d2, d3, d4, d5, d6, d7] : List Int32))) + (F3 (3 : Int32) f t ([d0, d1, d2, d3, d4, d5, d6, d7] : List Int32))) + (F3 (4 : Int32) f t ([d0, d1, d2, d3, d4, d5, d6, d7] : List Int32))) + (F3 (5 : Int32) f t ([d0, d1, d2, d3, d4, d5, d6, d7] : List Int32))) + (F3 (6 : Int32) f t ([d0, d1, d2, d3, d4, d5, d6, d7] : List Int32))) + (F3 (7 : Int32) f t ([d0, d1, d2, d3, d4, d5, d6, d7] : List Int32))) % (10 : Int32))) % (10 : Int32))), .val (.int (own_res f t ([((((48 : Int32) + d0).toInt8.toInt32)).toInt8.toInt32, ((((48 : Int32) + d1).toInt8.toInt32)).toInt8.toInt32, ((((48 : Int32) + d2).toInt8.toInt32)).toInt8.toInt32, ((((48 : Int32) + d3).toInt8.toInt32)).toInt8.toInt32, ((((48 : Int32) + d4).toInt8.toInt32)).toInt8.toInt32, ((((48 : Int32) + d5).toInt8.toInt32)).toInt8.toInt32, ((((48 : Int32) + d6).toInt8.toInt32)).toInt8.toInt32, ((((48 : Int32) + d7).toInt8.toInt32)).toInt8.toInt32] : List Int32)))] [(.int (own_res f t ([((((48 : Int32) + d0).toInt8.toInt32)).toInt8.toInt32, ((((48 : Int32) + d1).toInt8.toInt32)).toInt8.toInt32, ((((48 : Int32) + d2).toInt8.toInt32)).toInt8.toInt32, ((((48 : Int32) + d3).toInt8.toInt32)).toInt8.toInt32, ((((48 : Int32) + d4).toInt8.toInt32)).toInt8.toInt32, ((((48 : Int32) + d5).toInt8.toInt32)).toInt8.toInt32, ((((48 : Int32) + d6).toInt8.toInt32)).toInt8.toInt32, ((((48 : Int32) + d7).toInt8.toInt32)).toInt8.toInt32] : List Int32)))])) _
      refine XS.iload X149.here hx rfl (hb hby at_321) rfl ?_
      exact Steps.refl _)
  have hf152 : (own_res f t ([((((48 : Int32) + d0).toInt8.toInt32)).toInt8.toInt32, ((((48 : Int32) + d1).toInt8.toInt32)).toInt8.toInt32, ((((48 : Int32) + d2).toInt8.toInt32)).toInt8.toInt32, ((((48 : Int32) + d3).toInt8.toInt32)).toInt8.toInt32, ((((48 : Int32) + d4).toInt8.toInt32)).toInt8.toInt32, ((((48 : Int32) + d5).toInt8.toInt32)).toInt8.toInt32, ((((48 : Int32) + d6).toInt8.toInt32)).toInt8.toInt32, ((((48 : Int32) + d7).toInt8.toInt32)).toInt8.toInt32] : List Int32)) = (((10 : Int32) - (((((((((F3 (0 : Int32) f t ([d0, d1, d2, d3, d4, d5, d6, d7] : List Int32)) + (F3 (1 : Int32) f t ([d0, d1, d2, d3, d4, d5, d6, d7] : List Int32))) + (F3 (2 : Int32) f t ([d0, d1, d2, d3, d4, d5, d6, d7] : List Int32))) + (F3 (3 : Int32) f t ([d0, d1, d2, d3, d4, d5, d6, d7] : List Int32))) + (F3 (4 : Int32) f t ([d0, d1, d2, d3, d4, d5, d6, d7] : List Int32))) + (F3 (5 : Int32) f t ([d0, d1, d2, d3, d4, d5, d6, d7] : List Int32))) + (F3 (6 : Int32) f t ([d0, d1, d2, d3, d4, d5, d6, d7] : List Int32))) + (F3 (7 : Int32) f t ([d0, d1, d2, d3, d4, d5, d6, d7] : List Int32))) % (10 : Int32))) % (10 : Int32)) := own_main d0 d1 d2 d3 d4 d5 d6 d7 f t hd0 hd1 hd2 hd3 hd4 hd5 hd6 hd7 hft
  have st153 : Steps p.tables e below (s₁.setTop (entryFrame m #[(.int x0), (.int x1), (.int x2), (.int x3), (.int x4)] maxLocals)) (T149.setTop (mkF m 331 #[.val (.int x0), .val (.int x1), .val (.int x2), .val (.int x3), .val (.int x4), .val (.ref b2), .val (.ref b62), .val (.int f), .val (.int t), .val (.int ((((((((F3 (0 : Int32) f t ([d0, d1, d2, d3, d4, d5, d6, d7] : List Int32)) + (F3 (1 : Int32) f t ([d0, d1, d2, d3, d4, d5, d6, d7] : List Int32))) + (F3 (2 : Int32) f t ([d0, d1, d2, d3, d4, d5, d6, d7] : List Int32))) + (F3 (3 : Int32) f t ([d0, d1, d2, d3, d4, d5, d6, d7] : List Int32))) + (F3 (4 : Int32) f t ([d0, d1, d2, d3, d4, d5, d6, d7] : List Int32))) + (F3 (5 : Int32) f t ([d0, d1, d2, d3, d4, d5, d6, d7] : List Int32))) + (F3 (6 : Int32) f t ([d0, d1, d2, d3, d4, d5, d6, d7] : List Int32))) + (F3 (7 : Int32) f t ([d0, d1, d2, d3, d4, d5, d6, d7] : List Int32)))), .val (.int (((10 : Int32) - (((((((((F3 (0 : Int32) f t ([d0, d1, d2, d3, d4, d5, d6, d7] : List Int32)) + (F3 (1 : Int32) f t ([d0, d1, d2, d3, d4, d5, d6, d7] : List Int32))) + (F3 (2 : Int32) f t ([d0, d1, d2, d3, d4, d5, d6, d7] : List Int32))) + (F3 (3 : Int32) f t ([d0, d1, d2, d3, d4, d5, d6, d7] : List Int32))) + (F3 (4 : Int32) f t ([d0, d1, d2, d3, d4, d5, d6, d7] : List Int32))) + (F3 (5 : Int32) f t ([d0, d1, d2, d3, d4, d5, d6, d7] : List Int32))) + (F3 (6 : Int32) f t ([d0, d1, d2, d3, d4, d5, d6, d7] : List Int32))) + (F3 (7 : Int32) f t ([d0, d1, d2, d3, d4, d5, d6, d7] : List Int32))) % (10 : Int32))) % (10 : Int32))), .val (.int (own_res f t ([((((48 : Int32) + d0).toInt8.toInt32)).toInt8.toInt32, ((((48 : Int32) + d1).toInt8.toInt32)).toInt8.toInt32, ((((48 : Int32) + d2).toInt8.toInt32)).toInt8.toInt32, ((((48 : Int32) + d3).toInt8.toInt32)).toInt8.toInt32, ((((48 : Int32) + d4).toInt8.toInt32)).toInt8.toInt32, ((((48 : Int32) + d5).toInt8.toInt32)).toInt8.toInt32, ((((48 : Int32) + d6).toInt8.toInt32)).toInt8.toInt32, ((((48 : Int32) + d7).toInt8.toInt32)).toInt8.toInt32] : List Int32)))] [(.int (1 : Int32))])) := st151.trans (by
      show Steps p.tables e below (T149.setTop (mkF m 323 #[.val (.int x0), .val (.int x1), .val (.int x2), .val (.int x3), .val (.int x4), .val (.ref b2), .val (.ref b62), .val (.int f), .val (.int t), .val (.int ((((((((F3 (0 : Int32) f t ([d0, d1, d2, d3, d4, d5, d6, d7] : List Int32)) + (F3 (1 : Int32) f t ([d0, d1, d2, d3, d4, d5, d6, d7] : List Int32))) + (F3 (2 : Int32) f t ([d0, d1, d2, d3, d4, d5, d6, d7] : List Int32))) + (F3 (3 : Int32) f t ([d0, d1, d2, d3, d4, d5, d6, d7] : List Int32))) + (F3 (4 : Int32) f t ([d0, d1, d2, d3, d4, d5, d6, d7] : List Int32))) + (F3 (5 : Int32) f t ([d0, d1, d2, d3, d4, d5, d6, d7] : List Int32))) + (F3 (6 : Int32) f t ([d0, d1, d2, d3, d4, d5, d6, d7] : List Int32))) + (F3 (7 : Int32) f t ([d0, d1, d2, d3, d4, d5, d6, d7] : List Int32)))), .val (.int (((10 : Int32) - (((((((((F3 (0 : Int32) f t ([d0, d1, d2, d3, d4, d5, d6, d7] : List Int32)) + (F3 (1 : Int32) f t ([d0, d1, d2, d3, d4, d5, d6, d7] : List Int32))) + (F3 (2 : Int32) f t ([d0, d1, d2, d3, d4, d5, d6, d7] : List Int32))) + (F3 (3 : Int32) f t ([d0, d1, d2, d3, d4, d5, d6, d7] : List Int32))) + (F3 (4 : Int32) f t ([d0, d1, d2, d3, d4, d5, d6, d7] : List Int32))) + (F3 (5 : Int32) f t ([d0, d1, d2, d3, d4, d5, d6, d7] : List Int32))) + (F3 (6 : Int32) f t ([d0, d1, d2, d3, d4, d5, d6, d7] : List Int32))) + (F3 (7 : Int32) f t ([d0, d1, d2, d3, d4, d5, d6, d7] : List Int32))) % (10 : Int32))) % (10 : Int32))), .val (.int (own_res f t ([((((48 : Int32) + d0).toInt8.toInt32)).toInt8.toInt32, ((((48 : Int32) + d1).toInt8.toInt32)).toInt8.toInt32, ((((48 : Int32) + d2).toInt8.toInt32)).toInt8.toInt32, ((((48 : Int32) + d3).toInt8.toInt32)).toInt8.toInt32, ((((48 : Int32) + d4).toInt8.toInt32)).toInt8.toInt32, ((((48 : Int32) + d5).toInt8.toInt32)).toInt8.toInt32, ((((48 : Int32) + d6).toInt8.toInt32)).toInt8.toInt32, ((((48 : Int32) + d7).toInt8.toInt32)).toInt8.toInt32] : List Int32)))] [(.int (((10 : Int32) - (((((((((F3 (0 : Int32) f t ([d0, d1, d2, d3, d4, d5, d6, d7] : List Int32)) + (F3 (1 : Int32) f t ([d0, d1, d2, d3, d4, d5, d6, d7] : List Int32))) + (F3 (2 : Int32) f t ([d0, d1, d2, d3, d4, d5, d6, d7] : List Int32))) + (F3 (3 : Int32) f t ([d0, d1, d2, d3, d4, d5, d6, d7] : List Int32))) + (F3 (4 : Int32) f t ([d0, d1, d2, d3, d4, d5, d6, d7] : List Int32))) + (F3 (5 : Int32) f t ([d0, d1, d2, d3, d4, d5, d6, d7] : List Int32))) + (F3 (6 : Int32) f t ([d0, d1, d2, d3, d4, d5, d6, d7] : List Int32))) + (F3 (7 : Int32) f t ([d0, d1, d2, d3, d4, d5, d6, d7] : List Int32))) % (10 : Int32))) % (10 : Int32))), (.int (own_res f t ([((((48 : Int32) + d0).toInt8.toInt32)).toInt8.toInt32, ((((48 : Int32) + d1).toInt8.toInt32)).toInt8.toInt32, ((((48 : Int32) + d2).toInt8.toInt32)).toInt8.toInt32, ((((48 : Int32) + d3).toInt8.toInt32)).toInt8.toInt32, ((((48 : Int32) + d4).toInt8.toInt32)).toInt8.toInt32, ((((48 : Int32) + d5).toInt8.toInt32)).toInt8.toInt32, ((((48 : Int32) + d6).toInt8.toInt32)).toInt8.toInt32, ((((48 : Int32) + d7).toInt8.toInt32)).toInt8.toInt32] : List Int32)))])) _
      refine XS.icmpNo X149.here hx rfl (hb hby at_323) rfl (teq hf152).2 ?_
      show Steps p.tables e below (T149.setTop (mkF m 326 #[.val (.int x0), .val (.int x1), .val (.int x2), .val (.int x3), .val (.int x4), .val (.ref b2), .val (.ref b62), .val (.int f), .val (.int t), .val (.int ((((((((F3 (0 : Int32) f t ([d0, d1, d2, d3, d4, d5, d6, d7] : List Int32)) + (F3 (1 : Int32) f t ([d0, d1, d2, d3, d4, d5, d6, d7] : List Int32))) + (F3 (2 : Int32) f t ([d0, d1, d2, d3, d4, d5, d6, d7] : List Int32))) + (F3 (3 : Int32) f t ([d0, d1, d2, d3, d4, d5, d6, d7] : List Int32))) + (F3 (4 : Int32) f t ([d0, d1, d2, d3, d4, d5, d6, d7] : List Int32))) + (F3 (5 : Int32) f t ([d0, d1, d2, d3, d4, d5, d6, d7] : List Int32))) + (F3 (6 : Int32) f t ([d0, d1, d2, d3, d4, d5, d6, d7] : List Int32))) + (F3 (7 : Int32) f t ([d0, d1, d2, d3, d4, d5, d6, d7] : List Int32)))), .val (.int (((10 : Int32) - (((((((((F3 (0 : Int32) f t ([d0, d1, d2, d3, d4, d5, d6, d7] : List Int32)) + (F3 (1 : Int32) f t ([d0, d1, d2, d3, d4, d5, d6, d7] : List Int32))) + (F3 (2 : Int32) f t ([d0, d1, d2, d3, d4, d5, d6, d7] : List Int32))) + (F3 (3 : Int32) f t ([d0, d1, d2, d3, d4, d5, d6, d7] : List Int32))) + (F3 (4 : Int32) f t ([d0, d1, d2, d3, d4, d5, d6, d7] : List Int32))) + (F3 (5 : Int32) f t ([d0, d1, d2, d3, d4, d5, d6, d7] : List Int32))) + (F3 (6 : Int32) f t ([d0, d1, d2, d3, d4, d5, d6, d7] : List Int32))) + (F3 (7 : Int32) f t ([d0, d1, d2, d3, d4, d5, d6, d7] : List Int32))) % (10 : Int32))) % (10 : Int32))), .val (.int (own_res f t ([((((48 : Int32) + d0).toInt8.toInt32)).toInt8.toInt32, ((((48 : Int32) + d1).toInt8.toInt32)).toInt8.toInt32, ((((48 : Int32) + d2).toInt8.toInt32)).toInt8.toInt32, ((((48 : Int32) + d3).toInt8.toInt32)).toInt8.toInt32, ((((48 : Int32) + d4).toInt8.toInt32)).toInt8.toInt32, ((((48 : Int32) + d5).toInt8.toInt32)).toInt8.toInt32, ((((48 : Int32) + d6).toInt8.toInt32)).toInt8.toInt32, ((((48 : Int32) + d7).toInt8.toInt32)).toInt8.toInt32] : List Int32)))] [])) _
      refine XS.iconst X149.here hx rfl (hb hby at_326) ?_
      show Steps p.tables e below (T149.setTop (mkF m 327 #[.val (.int x0), .val (.int x1), .val (.int x2), .val (.int x3), .val (.int x4), .val (.ref b2), .val (.ref b62), .val (.int f), .val (.int t), .val (.int ((((((((F3 (0 : Int32) f t ([d0, d1, d2, d3, d4, d5, d6, d7] : List Int32)) + (F3 (1 : Int32) f t ([d0, d1, d2, d3, d4, d5, d6, d7] : List Int32))) + (F3 (2 : Int32) f t ([d0, d1, d2, d3, d4, d5, d6, d7] : List Int32))) + (F3 (3 : Int32) f t ([d0, d1, d2, d3, d4, d5, d6, d7] : List Int32))) + (F3 (4 : Int32) f t ([d0, d1, d2, d3, d4, d5, d6, d7] : List Int32))) + (F3 (5 : Int32) f t ([d0, d1, d2, d3, d4, d5, d6, d7] : List Int32))) + (F3 (6 : Int32) f t ([d0, d1, d2, d3, d4, d5, d6, d7] : List Int32))) + (F3 (7 : Int32) f t ([d0, d1, d2, d3, d4, d5, d6, d7] : List Int32)))), .val (.int (((10 : Int32) - (((((((((F3 (0 : Int32) f t ([d0, d1, d2, d3, d4, d5, d6, d7] : List Int32)) + (F3 (1 : Int32) f t ([d0, d1, d2, d3, d4, d5, d6, d7] : List Int32))) + (F3 (2 : Int32) f t ([d0, d1, d2, d3, d4, d5, d6, d7] : List Int32))) + (F3 (3 : Int32) f t ([d0, d1, d2, d3, d4, d5, d6, d7] : List Int32))) + (F3 (4 : Int32) f t ([d0, d1, d2, d3, d4, d5, d6, d7] : List Int32))) + (F3 (5 : Int32) f t ([d0, d1, d2, d3, d4, d5, d6, d7] : List Int32))) + (F3 (6 : Int32) f t ([d0, d1, d2, d3, d4, d5, d6, d7] : List Int32))) + (F3 (7 : Int32) f t ([d0, d1, d2, d3, d4, d5, d6, d7] : List Int32))) % (10 : Int32))) % (10 : Int32))), .val (.int (own_res f t ([((((48 : Int32) + d0).toInt8.toInt32)).toInt8.toInt32, ((((48 : Int32) + d1).toInt8.toInt32)).toInt8.toInt32, ((((48 : Int32) + d2).toInt8.toInt32)).toInt8.toInt32, ((((48 : Int32) + d3).toInt8.toInt32)).toInt8.toInt32, ((((48 : Int32) + d4).toInt8.toInt32)).toInt8.toInt32, ((((48 : Int32) + d5).toInt8.toInt32)).toInt8.toInt32, ((((48 : Int32) + d6).toInt8.toInt32)).toInt8.toInt32, ((((48 : Int32) + d7).toInt8.toInt32)).toInt8.toInt32] : List Int32)))] [(.int (1 : Int32))])) _
      refine XS.goto X149.here hx rfl (pc0 := 327) (pc' := 331) rfl (hb hby at_327) (by decide) (by decide) ?_
      exact Steps.refl _)
  obtain ⟨fs, hr, hrun, hended, hW, hsame⟩ := X149.leave (v := some (.int (1 : Int32))) (fun h => by rw [Bd.returns] at h; cases h)
  refine ⟨_, _, st153.trans ?_, hrun, hended, _, _, rfl, ?_, ⟨_, rfl⟩, hW, hsame.mono (by decide) (by decide)⟩
  · exact retN X149 hx (t := .boolean) Bd.returns (by simp) (hb hby at_331) hr
  · show Q0 Z x0 x1 x2 x3 x4 h0 n0 _ T149.heap _
    rw [hh149]
    exact ⟨rfl, N149⟩
set_option maxRecDepth 65536 in
set_option maxHeartbeats 40000000 in
theorem comes_1 {Post : Tables → Env → Array Value → State → Outcome → State → Prop} (hpost : ∀ tb e args s v u, (limb_1_1.after args s (.returned v) u = true ∧ limb_1_2.after args s (.returned v) u = true ∧ True) → FrameEnd s (.returned v) u (Jvm.fieldLocs frame_1_writes args s ++ Jvm.arrayLocs frame_1_arrays args s ++ Jvm.staticLocs frame_1_statics s) 16 128 → Post tb e args s (.returned v) u) :
    ArmFor flags0 classFile x code maxLocals ret World_1 tables_1 room_1 Calls_1 rest_1 Pre_1 Post := by
  intro l hfl _ _ p e ha hc hk s m args below hf hA hF happ hP
  obtain ⟨hcalls, hrest, hpre⟩ := hP
  obtain ⟨-, -, -, hnamed, -, -, -, hat⟩ := (Spec.applies_iff hf).mp happ
  obtain ⟨hg, hn⟩ := and_e (Cond.before_iff.mp (show (Jvm.Cond.and given_1 narrow_1).before args s = true from hpre))
  obtain ⟨g1, g2⟩ := and_e hg
  obtain ⟨g3, g4⟩ := and_e g2
  obtain ⟨g5, g6⟩ := and_e g4
  obtain ⟨g7, g8⟩ := and_e g6
  obtain ⟨g9, g10⟩ := and_e g8
  obtain ⟨w0, w1, w2, w3, w4, rfl⟩ : ∃ w0 w1 w2 w3 w4 : Value, args = #[w0, w1, w2, w3, w4] := by
    have hs : args.size = 5 := by simpa [Cond.value, given_1] using g1
    obtain ⟨L⟩ := args
    match L, hs with
    | [w0, w1, w2, w3, w4], _ => exact ⟨w0, w1, w2, w3, w4, rfl⟩
  have hw := fun d (hd : d ∈ tables_1) => atoms_spec (ws := Jvm.Cond.code x code maxLocals ret :: tables_1) hat d (List.mem_cons_of_mem _ hd)
  have hfit : Fit s := fun {y c} hc i hi => by
    obtain ⟨ha, rfl⟩ := Array.getElem?_eq_some_iff.mp hc
    have q := List.all_eq_true.mp ((Array.all_eq_true_iff_forall_mem.mp hF) _ (Array.getElem_mem ha)) i (List.mem_range.mpr hi)
    simpa [Array.getElem?_eq_getElem hi] using q
  obtain ⟨i0, ei0⟩ := is_v g3
  obtain rfl : w0 = (.int i0) := Option.some.inj ei0
  obtain ⟨i1, ei1⟩ := is_v g5
  obtain rfl : w1 = (.int i1) := Option.some.inj ei1
  obtain ⟨i2, ei2⟩ := is_v g7
  obtain rfl : w2 = (.int i2) := Option.some.inj ei2
  obtain ⟨i3, ei3⟩ := is_v g9
  obtain rfl : w3 = (.int i3) := Option.some.inj ei3
  obtain ⟨i4, ei4⟩ := is_v g10
  obtain rfl : w4 = (.int i4) := Option.some.inj ei4
  obtain ⟨n, o, h1, h2, h3, _, L, rfl, ⟨hv, N⟩, hq⟩ := rm0 l s _ hw tables_1 i0 i1 i2 i3 i4  s.heap s.heap.size (Nat.le_refl _)  p e ha hc hk s m _ below hf ((Spec.applies_iff_loose hf).mp happ).1 ⟨rfl, State.Warmed39.refl s, rfl⟩ trivial
  subst hv
  refine ⟨n, _, h1, h2, h3, hpost _ _ _ _ _ _ ⟨Cond.after_iff.mpr rfl, Cond.after_iff.mpr (eq_i res_at (Term.int_eval (1)) rfl), trivial⟩ ⟨hq.1, hq.2.1, (hq.2.2.sift fun y hy => Or.inr (N y hy)).mono (by decide) (by decide)⟩⟩
theorem main_1_1 : Claimed_1_1 := comes_1 fun _ _ _ _ _ _ h hF => ⟨h.1, hF⟩
theorem main_1_2 : Claimed_1_2 := comes_1 fun _ _ _ _ _ _ h hF => ⟨h.2.1, hF⟩
end Jvm.Pilot.@@N@@
namespace Jvm.Pilot.@@N@@
open Jvm Jvm.ClassFile Sem Op Lib Jvm.Free Jvm.Stand Jvm.Pilot.@@N@@.Jvm.D
/-! MADE BY PROGRAM (witnessworld.py) out of the Statement's table words and the real class files: 9 classes; the members and pool entries that the words name. The judged class is class 1, her method 4. -/
namespace start1
open Jvm.ClassFile
def u (s : String) : CpInfo := .utf8 (stringToUtf16 s)
/-- a pool by its gaps: so many unusable entries, then the entry; so many at the end -/
def gap : Nat → List CpInfo → List CpInfo
  | 0, r => r
  | n + 1, r => .unusable :: gap n r
def poolList (es : List (Nat × CpInfo)) (last : Nat) : List CpInfo := es.foldr (fun e r => gap e.1 (e.2 :: r)) (gap last [])
def pool (es : List (Nat × CpInfo)) (last : Nat) : Array CpInfo := ⟨poolList es last⟩
def fileOf (pool : Array CpInfo) (this : Nat) (attrs : Array Attribute := #[]) (ms : Array MethodInfo := #[]) (fl : Nat := 33) (sup : Nat := 0) (ifs : Array Nat := #[]) (fds : Array FieldInfo := #[]) : ClassFile where
  minorVersion := 0
  majorVersion := 65
  constantPool := pool
  accessFlags := fl
  thisClass := this
  superClass := sup
  interfaces := ifs
  fields := fds
  methods := ms
  attributes := attrs
def plain (name : String) (sup : Option ClassId) : Class where
  name := name
  kind := .ordinary
  loader := none
  accessFlags := 33
  super := sup
  interfaces := #[]
  cf := none
  fields := #[]
  methods := #[]
  instanceTypes := #[]
  staticTypes := #[]
  resolved := #[]
  callSites := []
  init := .initialized
  statics := none
  mirror := none

def pool0 : Array CpInfo := pool [(5, u "<init>"), (0, u "()V"), (1, .class_ 10), (1, u "java/lang/Object")] 113

def k0m0 : Method := { name := "<init>", desc := "()V", sig := { parameters := [], returnType := none }, accessFlags := 1, code := none }
/-- java/lang/Object -/
def k0 : Class := { plain "java/lang/Object" none with
  accessFlags := 33
  interfaces := #[]
  cf := some (fileOf pool0 8 #[] #[{ accessFlags := 1, nameIndex := 5, descriptorIndex := 6, attributes := #[] }] 33 0 #[] #[])
  fields := #[]
  methods := #[k0m0]
  instanceTypes := #[]
  staticTypes := #[]
  resolved := Array.replicate 124 none
  statics := none }

def pool1 : Array CpInfo := pool [(2, .class_ 4), (1, u "java/lang/Object"), (0, u "<init>"), (0, u "()V"), (0, .integer 2147483647), (0, .methodref 9 10), (0, .class_ 11), (0, .nameAndType 12 13), (0, u "com/example/escritural/escritural/boleto/DigitsModulo10PinLaw"), (0, u "lo"), (0, u "(I)I"), (0, .methodref 9 15), (0, .nameAndType 16 13), (0, u "hi"), (0, .methodref 9 18), (0, .nameAndType 19 20), (0, u "term"), (0, u "([IIII)I"), (0, .methodref 22 23), (0, .class_ 24), (0, .nameAndType 25 26), (0, u "com/example/escritural/escritural/boleto/Digits"), (0, u "modulo10"), (0, u "([BII)I"), (3, u "law"), (0, u "(IIIII)Z")] 6

def k1m0 : Method := { name := "<init>", desc := "()V", sig := { parameters := [], returnType := none }, accessFlags := 1, code := none }
def k1c1 : Code := { maxStack := 2, maxLocals := 1, code := method_2_code, exceptionTable := #[], attributes := #[] }
def k1m1 : Method := { name := "lo", desc := "(I)I", sig := { parameters := [.int], returnType := some .int }, accessFlags := 10, code := some k1c1 }
def k1c2 : Code := { maxStack := 2, maxLocals := 1, code := method_3_code, exceptionTable := #[], attributes := #[] }
def k1m2 : Method := { name := "hi", desc := "(I)I", sig := { parameters := [.int], returnType := some .int }, accessFlags := 10, code := some k1c2 }
def k1c3 : Code := { maxStack := 2, maxLocals := 5, code := method_4_code, exceptionTable := #[], attributes := #[] }
def k1m3 : Method := { name := "term", desc := "([IIII)I", sig := { parameters := [(.array .int), .int, .int, .int], returnType := some .int }, accessFlags := 10, code := some k1c3 }
def k1c4 : Code := { maxStack := 5, maxLocals := 12, code := code, exceptionTable := #[], attributes := #[] }
def k1m4 : Method := { name := "law", desc := "(IIIII)Z", sig := { parameters := [.int, .int, .int, .int, .int], returnType := some .boolean }, accessFlags := 9, code := some k1c4 }
/-- com/example/escritural/escritural/boleto/DigitsModulo10PinLaw -/
def k1 : Class := { plain "com/example/escritural/escritural/boleto/DigitsModulo10PinLaw" (some 0) with
  accessFlags := 49
  interfaces := #[]
  cf := some (fileOf pool1 9 #[] #[{ accessFlags := 1, nameIndex := 5, descriptorIndex := 6, attributes := #[] }, { accessFlags := 10, nameIndex := 12, descriptorIndex := 13, attributes := #[] }, { accessFlags := 10, nameIndex := 16, descriptorIndex := 13, attributes := #[] }, { accessFlags := 10, nameIndex := 19, descriptorIndex := 20, attributes := #[] }, { accessFlags := 9, nameIndex := 30, descriptorIndex := 31, attributes := #[] }] 49 2 #[] #[])
  fields := #[]
  methods := #[k1m0, k1m1, k1m2, k1m3, k1m4]
  instanceTypes := #[]
  staticTypes := #[]
  resolved := Array.replicate 38 none
  statics := none }

def pool2 : Array CpInfo := pool [(2, .class_ 4), (1, u "java/lang/Object"), (0, u "<init>"), (0, u "()V"), (15, .class_ 24), (1, u "com/example/escritural/escritural/boleto/Digits"), (28, u "HIGHEST_WEIGHT"), (0, u "I"), (7, u "modulo10"), (0, u "([BII)I")] 6

def k2m0 : Method := { name := "<init>", desc := "()V", sig := { parameters := [], returnType := none }, accessFlags := 2, code := none }
def k2c1 : Code := { maxStack := 4, maxLocals := 7, code := prog_11_method_6_code, exceptionTable := #[], attributes := #[] }
def k2m1 : Method := { name := "modulo10", desc := "([BII)I", sig := { parameters := [(.array .byte), .int, .int], returnType := some .int }, accessFlags := 8, code := some k2c1 }
/-- com/example/escritural/escritural/boleto/Digits -/
def k2 : Class := { plain "com/example/escritural/escritural/boleto/Digits" (some 0) with
  accessFlags := 49
  interfaces := #[]
  cf := some (fileOf pool2 22 #[] #[{ accessFlags := 2, nameIndex := 5, descriptorIndex := 6, attributes := #[] }, { accessFlags := 8, nameIndex := 62, descriptorIndex := 63, attributes := #[] }] 49 2 #[] #[{ accessFlags := 24, nameIndex := 53, descriptorIndex := 54, attributes := #[] }])
  fields := #[{ name := "HIGHEST_WEIGHT", type := .int, accessFlags := 24, slot := 0, constantValue := 0 }]
  methods := #[k2m0, k2m1]
  instanceTypes := #[]
  staticTypes := #[.int]
  resolved := Array.replicate 70 none
  statics := none }

def pool3 : Array CpInfo := pool [(1, u "java/lang/Cloneable"), (0, .class_ 1), (0, u "java/lang/Object"), (0, .class_ 3)] 3

/-- java/lang/Cloneable -/
def k3 : Class := { plain "java/lang/Cloneable" (some 0) with
  accessFlags := 1537
  interfaces := #[]
  cf := some (fileOf pool3 2 #[] #[] 1537 4 #[] #[])
  fields := #[]
  methods := #[]
  instanceTypes := #[]
  staticTypes := #[]
  resolved := Array.replicate 8 none
  statics := none }

def pool4 : Array CpInfo := pool [(1, u "java/io/Serializable"), (0, .class_ 1), (0, u "java/lang/Object"), (0, .class_ 3)] 3

/-- java/io/Serializable -/
def k4 : Class := { plain "java/io/Serializable" (some 0) with
  accessFlags := 1537
  interfaces := #[]
  cf := some (fileOf pool4 2 #[] #[] 1537 4 #[] #[])
  fields := #[]
  methods := #[]
  instanceTypes := #[]
  staticTypes := #[]
  resolved := Array.replicate 8 none
  statics := none }

/-- the primitive byte -/
def k5 : Class := { plain "byte" none with kind := .primitive 'B', accessFlags := 0x411 }
/-- [B -/
def k6 : Class := { plain "[B" (some 0) with kind := .array 5 .byte, interfaces := #[3, 4], accessFlags := 1041 }

/-- the primitive int -/
def k7 : Class := { plain "int" none with kind := .primitive 'I', accessFlags := 0x411 }
/-- [I -/
def k8 : Class := { plain "[I" (some 0) with kind := .array 7 .int, interfaces := #[3, 4], accessFlags := 1041 }

def heap : Heap := #[]
def classes : Array Class := #[k0, k1, k2, k3, k4, k5, k6, k7, k8]
def interned : List (Array UInt16 × Addr) := []
def slotsUsed : Nat := 0
def theMethod : MethodId := ⟨1, 4⟩
def args0 : Array Value := #[.int 5, .int 7, .int 1, .int 5, .int 3]
def aboutOver (below : List Frame) : State where
  vm := { classes := classes, interned := interned.toArray }
  heap := heap
  slotsUsed := slotsUsed
  threads := #[{ frames := .invoking theMethod args0 :: below }]
def below0 : List Frame := [.native { method := ⟨0, 0⟩, args := #[] }]
def about1 : State := aboutOver below0
def p0 : Program := .bare "" "" ""
def e0 : Env := launch0.env 0 0 0
theorem w_frames : about1.frames = Frame.invoking theMethod args0 :: below0 := rfl
set_option maxRecDepth 65536 in
theorem w_args : argsFit about1.vm theMethod args0 = true := by decide +kernel
set_option maxRecDepth 65536 in
theorem w_heap : heapFits about1 = true := by decide +kernel
set_option maxRecDepth 65536 in
theorem w_runnable : about1.curStatus? = some .runnable := by decide +kernel
set_option maxRecDepth 65536 in
theorem w_alone : about1.alone = true := by decide +kernel
set_option maxRecDepth 65536 in
theorem w_named : about1.methodNamed? x = some theMethod := by decide +kernel
set_option maxRecDepth 65536 in
theorem w_hears : about1.hears theMethod below0 = true := by decide +kernel
set_option maxRecDepth 65536 in
theorem w_ripe : about1.ripe theMethod args0 below0 = true := by decide +kernel
theorem w_running : about1.status = .running := rfl
set_option maxRecDepth 65536 in
theorem w_room : about1.hasRoom e0.platform room_1 = true :=
  launch0.hasRoom_least _ room_1 (by decide +kernel) (by decide +kernel) (by decide +kernel) (by decide +kernel) (by decide +kernel) (by decide +kernel)
theorem allAtoms_all (ts : List Jvm.Cond) (a : Array Jvm.Value) (st : Jvm.State) : (allAtoms ts).before a st = ts.all (fun c => c.before a st) := by
  induction ts with
  | nil => rfl
  | cons c t ih =>
    show (Jvm.Cond.and c (allAtoms t)).before a st = _
    rw [Jvm.Cond.before_and, ih, List.all_cons]
def words1 : List Jvm.Cond := Jvm.Cond.code x code maxLocals ret :: tables_1
/-- a 'code' word, met by the world's own term for the bytes: nothing is compared byte by byte -/
theorem code_word {y : MethodName} {bytes : ByteArray} {mx : Nat} {rt : Option FieldType} {a : Array Value} {s : State} {m : MethodId} {meth : Method} {c : Code} (h1 : s.methodNamed? y = some m) (h2 : s.vm.method? m = some meth) (h3 : meth.code = some c) (h4 : c.code = bytes)
    (h5 : (c.maxLocals == mx && c.exceptionTable.isEmpty && decide (c.maxStack ≤ mostOperands) && decide (meth.sig.returnType = rt) && !meth.locks && decide (parseMethodDescriptor y.desc = some meth.sig)) = true) : (Jvm.Cond.code y bytes mx rt).before a s = true := by
  simp only [Bool.and_eq_true, beq_iff_eq, Bool.not_eq_true', decide_eq_true_eq] at h5
  obtain ⟨⟨⟨⟨⟨g1, g2⟩, g3⟩, g4⟩, g5⟩, g6⟩ := h5
  simp [Cond.before, Cond.holds, Cond.value, h1, h2, h3, h4, g1, g2, g3, g4, g5, g6]
def isCode : Jvm.Cond → Bool
  | .code _ _ _ _ => true
  | _ => false
theorem all_split {L : List Jvm.Cond} {P : Jvm.Cond → Bool} (h1 : L.all (fun c => isCode c || P c) = true) (h2 : ∀ c ∈ L.filter isCode, P c = true) : L.all P = true := by
  refine List.all_eq_true.mpr fun c hc => ?_
  have h := List.all_eq_true.mp h1 c hc
  rcases Bool.eq_false_or_eq_true (isCode c) with hi | hi
  · exact h2 c (List.mem_filter.mpr ⟨hc, hi⟩)
  · simpa [hi] using h
set_option maxRecDepth 65536 in
theorem w_c0 : (Jvm.Cond.code x code maxLocals ret).before args0 about1 = true := code_word (m := ⟨1, 4⟩) (meth := k1m4) (c := k1c4) (by decide +kernel) rfl rfl rfl (by decide +kernel)
set_option maxRecDepth 65536 in
theorem w_c1 : (Jvm.Cond.code ({ cls := "com/example/escritural/escritural/boleto/DigitsModulo10PinLaw", name := "lo", desc := "(I)I" } : Jvm.MethodName) method_2_code (1 : Nat) (Option.some Jvm.ClassFile.FieldType.int)).before args0 about1 = true := code_word (m := ⟨1, 1⟩) (meth := k1m1) (c := k1c1) (by decide +kernel) rfl rfl rfl (by decide +kernel)
set_option maxRecDepth 65536 in
theorem w_c2 : (Jvm.Cond.code ({ cls := "com/example/escritural/escritural/boleto/DigitsModulo10PinLaw", name := "hi", desc := "(I)I" } : Jvm.MethodName) method_3_code (1 : Nat) (Option.some Jvm.ClassFile.FieldType.int)).before args0 about1 = true := code_word (m := ⟨1, 2⟩) (meth := k1m2) (c := k1c2) (by decide +kernel) rfl rfl rfl (by decide +kernel)
set_option maxRecDepth 65536 in
theorem w_c3 : (Jvm.Cond.code ({ cls := "com/example/escritural/escritural/boleto/DigitsModulo10PinLaw", name := "term", desc := "([IIII)I" } : Jvm.MethodName) method_4_code (5 : Nat) (Option.some Jvm.ClassFile.FieldType.int)).before args0 about1 = true := code_word (m := ⟨1, 3⟩) (meth := k1m3) (c := k1c3) (by decide +kernel) rfl rfl rfl (by decide +kernel)
set_option maxRecDepth 65536 in
theorem w_c4 : (Jvm.Cond.code ({ cls := "com/example/escritural/escritural/boleto/Digits", name := "modulo10", desc := "([BII)I" } : Jvm.MethodName) prog_11_method_6_code (7 : Nat) (Option.some Jvm.ClassFile.FieldType.int)).before args0 about1 = true := code_word (m := ⟨2, 1⟩) (meth := k2m1) (c := k2c1) (by decide +kernel) rfl rfl rfl (by decide +kernel)
def codes1 : List Jvm.Cond := [Jvm.Cond.code x code maxLocals ret, Jvm.Cond.code ({ cls := "com/example/escritural/escritural/boleto/DigitsModulo10PinLaw", name := "lo", desc := "(I)I" } : Jvm.MethodName) method_2_code (1 : Nat) (Option.some Jvm.ClassFile.FieldType.int), Jvm.Cond.code ({ cls := "com/example/escritural/escritural/boleto/DigitsModulo10PinLaw", name := "hi", desc := "(I)I" } : Jvm.MethodName) method_3_code (1 : Nat) (Option.some Jvm.ClassFile.FieldType.int), Jvm.Cond.code ({ cls := "com/example/escritural/escritural/boleto/DigitsModulo10PinLaw", name := "term", desc := "([IIII)I" } : Jvm.MethodName) method_4_code (5 : Nat) (Option.some Jvm.ClassFile.FieldType.int), Jvm.Cond.code ({ cls := "com/example/escritural/escritural/boleto/Digits", name := "modulo10", desc := "([BII)I" } : Jvm.MethodName) prog_11_method_6_code (7 : Nat) (Option.some Jvm.ClassFile.FieldType.int)]
set_option maxRecDepth 65536 in
theorem codes_eq : words1.filter isCode = codes1 := rfl
theorem w_codes : ∀ c ∈ words1.filter isCode, c.before args0 about1 = true := by
  rw [codes_eq]
  intro c hc
  simp only [codes1, List.mem_cons, List.not_mem_nil, or_false] at hc
  rcases hc with rfl | rfl | rfl | rfl | rfl
  · exact w_c0
  · exact w_c1
  · exact w_c2
  · exact w_c3
  · exact w_c4
set_option maxRecDepth 65536 in
theorem w_t1 : words1.all (fun c => isCode c || c.before args0 about1) = true := by decide +kernel
theorem w_tables : (allAtoms (Jvm.Cond.code x code maxLocals ret :: tables_1)).before args0 about1 = true := by
  rw [allAtoms_all]
  show words1.all (fun c => c.before args0 about1) = true
  refine all_split ?_ w_codes
  rw [w_t1]
set_option maxRecDepth 65536 in
theorem w_case : (Jvm.Cond.and given_1 narrow_1).before args0 about1 = true := by decide +kernel
theorem w_applies : (headSpec (Jvm.Cond.code x code maxLocals ret :: tables_1) room_1).applies x e0.platform about1 = true :=
  (Spec.applies_iff w_frames).mpr ⟨w_running, w_runnable, w_alone, w_named, w_hears, w_ripe, w_room, w_tables⟩
theorem atStart : AtStart classFile x code maxLocals ret World_1 tables_1 room_1 Calls_1 rest_1 Pre_1 launch0 p0 e0 about1 theMethod args0 below0 :=
  ⟨lists_1, trivial, launch0.admits_env _ _ _, launch0.least_env, fairChoices_fair.cas, fairChoices_fair.clock, w_frames, w_args, w_heap, w_applies, trivial, trivial, w_case⟩
end start1
theorem witness_1 : WitnessClaimed_1 := ⟨start1.p0, start1.e0, start1.about1, start1.theMethod, start1.args0, start1.below0, start1.atStart⟩
end Jvm.Pilot.@@N@@
