import JvmDerived
import JvmDerived.Pilot.@@N@@Statement
import JvmDerived.Pilot.@@N@@Code
set_option linter.unusedVariables false
set_option linter.unusedSimpArgs false
namespace Jvm.RoadKit
open Sem ClassFile Op Lib Jvm.Stand Jvm.Free Jvm.LawKit
section New
variable {p : Program} {l : Launch} {e : Env} {R : Room} {s : State} {m : MethodId} {args : Array Value} {below : List Frame} {meth : Method} {c : Code} {T : State} {locs : List Loc} {cells slots : Nat}
theorem retI (X : Stand p l e R s m args below meth c T locs cells slots) (hx : p.tables.exec = Jvm.exec) {pc : Nat} {Ls : Array Slot} {z : Int32} {rest : List Value} (hret : meth.sig.returnType = some .int) (hd : decode c.code pc = .ok (.ireturn, 1)) {fs : List Frame}
    (hl : ∀ (f : JFrame) (acts : List Action), f.method = m → f.locked = none → f.entered = [] → (doReturn e (T.setTop f) acts (some (.int z))).1 = T.setFrames fs) : Steps p.tables e below (T.setTop (mkF m pc Ls (.int z :: rest))) (T.setFrames fs) := by
  have hm' : T.vm.method? m = some meth := X.method'
  have hn : narrow .int (.int z) = .int z := rfl
  show Steps p.tables e below (T.setTop { method := m, pc := pc, locals := Ls, stack := _ :: rest, locked := none }) _
  jvm_step X.here [X.here.top, hx, hd, hm', hret, hn]
  first | (intro acts; rw [hl _ acts rfl rfl rfl]) | rw [hl _ _ rfl rfl rfl]
  exact Steps.refl _
end New
end Jvm.RoadKit
namespace Jvm.Pilot.@@N@@
open Jvm Jvm.ClassFile Sem Op Lib Jvm.Free Jvm.Stand Jvm.LawKit Jvm.RoadKit Bundle Jvm.Pilot.@@N@@.Jvm.D
theorem own_bt {P : Prop} [Decidable P] (h : P) : ifCond.holds .eq (if P then (1 : Int32) else (0 : Int32)) = false ∧ ifCond.holds .ne (if P then (1 : Int32) else (0 : Int32)) = true := by rw [if_pos h]; exact ⟨rfl, rfl⟩
theorem own_bf {P : Prop} [Decidable P] (h : ¬ P) : ifCond.holds .eq (if P then (1 : Int32) else (0 : Int32)) = true ∧ ifCond.holds .ne (if P then (1 : Int32) else (0 : Int32)) = false := by rw [if_neg h]; exact ⟨rfl, rfl⟩
theorem own_getI (L : List Int32) (i : Nat) : (List.map Value.int L).getD i (.int (0 : Int32)) = .int (L.getD i 0) := by
  simp only [List.getD_eq_getElem?_getD, List.getElem?_map]; cases L[i]? <;> rfl
theorem own_getJ (L : List Int64) (i : Nat) : (List.map Value.long L).getD i (.long (0 : Int64)) = .long (L.getD i 0) := by
  simp only [List.getD_eq_getElem?_getD, List.getElem?_map]; cases L[i]? <;> rfl
theorem own_setI (L : List Int32) (i : Nat) (x : Int32) : (List.map Value.int L).set i (.int x) = List.map Value.int (L.set i x) := (List.map_set).symm
theorem own_setJ (L : List Int64) (i : Nat) (x : Int64) : (List.map Value.long L).set i (.long x) = List.map Value.long (L.set i x) := (List.map_set).symm
theorem own_ns {Z : State} {h : Heap} {o : Addr} {C : String} (E : Exa Z h o C) : ∃ c : Cell, h[o]? = some c ∧ c.vm.isStatics = false := by
  obtain ⟨c, k, h1, -, -, h4, -⟩ := E; exact ⟨c, h1, h4⟩
theorem own_sta_keep {Z : State} {h h' : Heap} {ws : List Addr} {C n d : String} {v : Value} (S : Sta Z h C n d v) (K : Keep h h' ws) (q : ∀ w ∈ ws, ∃ c : Cell, h[w]? = some c ∧ c.vm.isStatics = false) : Sta Z h' C n d v := by
  obtain ⟨cf, i, k, f, st, cell, h1, h2, h3, h4, h5, h6, h7⟩ := S
  refine ⟨cf, i, k, f, st, cell, h1, h2, h3, h4, K.2.1 _ _ h5 (fun z => ?_), h6, h7⟩
  obtain ⟨c, e1, e2⟩ := q _ z
  cases h5.symm.trans e1; rw [e2] at h6; cases h6
theorem own_selp {s : State} {args args' : Array Value} {y z : MethodName} (hcls : z.cls = y.cls) (hnf : NotFace s z) (hz : (Cond.instanceMethod z).before args' s = true) (hpriv : s.PrivateAt y) (hinst : (Cond.instanceMethod y).before args s = true) (hy : y.cls ≠ "java/lang/invoke/MethodHandle" ∧ y.cls ≠ "java/lang/invoke/VarHandle") : (Cond.selects y.cls y y).before args s = true := by
  obtain ⟨mz, _, hnz, _⟩ := Cond.instanceMethod_spec hz
  obtain ⟨k, hk, hni⟩ := hnf mz hnz
  exact selects_self_of_private (by rw [← hcls]; exact findClass_of_methodNamed hnz) hk hni hpriv hinst hy
theorem own_swne {x k : Int32} {n : Int} (h : ¬ x = k) (e : k.toInt = n) : n ≠ x.toInt := fun q => h (Int32.toInt_inj.mp (by rw [e, q]))
theorem own_wS {Z : State} {a0 : Array Value} (hw : ∀ d ∈ tables_1, d.before a0 Z = true) : ∀ a ∈ Bundle.stringAtoms, a.before a0 Z = true := fun a ha => by
  simp only [Bundle.stringAtoms, List.mem_cons, List.not_mem_nil, or_false] at ha
  rcases ha with rfl | rfl | rfl | rfl | rfl | rfl | rfl
  · exact (hw _ (List.mem_of_getElem? (i := 16) rfl))
  · exact (hw _ (List.mem_of_getElem? (i := 17) rfl))
  · exact (hw _ (List.mem_of_getElem? (i := 18) rfl))
  · exact (hw _ (List.mem_of_getElem? (i := 19) rfl))
  · exact (hw _ (List.mem_of_getElem? (i := 20) rfl))
  · exact (hw _ (List.mem_of_getElem? (i := 21) rfl))
  · exact (hw _ (List.mem_of_getElem? (i := 22) rfl))
theorem d2_0 : decode jdk_30_method_1_code 0 = .ok (.aload_n 0, 1) := by decide +kernel
theorem d2_1 : decode jdk_30_method_1_code 1 = .ok (.invokespecial 1, 3) := by decide +kernel
theorem d2_4 : decode jdk_30_method_1_code 4 = .ok (.return_, 1) := by decide +kernel
theorem pn_0 : plainName "java/lang/Record" = true := by first | (simp [plainName, overriddenIn]; done) | decide +kernel
theorem ef_2 (m : MethodId) (x0 : Addr)  : entryFrame m #[(.ref x0)] 1 = mkF m 0 #[.val (.ref x0)] [] := by first | (simp [entryFrame, mkF, argsToLocals, Value.category]; done) | rfl
def Q2 (Z : State) (x0 : Addr) (h0 : Heap) (n0 : Nat) (vE : Option Value) (hE : Heap) (LE : List Loc) : Prop := vE = none ∧ Fr n0 LE ∧ hE = h0
set_option maxRecDepth 65536 in
set_option maxHeartbeats 40000000 in
theorem rm2 (l : Launch) (Z : State) (a0 : Array Value) (hw : ∀ d ∈ tables_1, d.before a0 Z = true) (ws : List Jvm.Cond) (x0 : Addr) (h0 : Heap) (n0 : Nat) (Z0 : n0 ≤ h0.size) :
    MetFree l (⟨"java/lang/Record", "<init>", "()V"⟩ : MethodName) (head1 (Jvm.Cond.code (⟨"java/lang/Record", "<init>", "()V"⟩ : MethodName) jdk_30_method_1_code 1 none :: ws) ({ frames := 1, cells := 0, slots := 0, locals := 12 } : Room)) (fun a U => a = #[(.ref x0)] ∧ Z.Warmed39 U.vm ∧ U.heap = h0) (fun _ _ _ _ _ => True) (fun _ U o U' => ∃ vE LE, o = .returned vE ∧ Q2 Z x0 h0 n0 vE U'.heap LE ∧ FrameEnd U o U' LE ({ frames := 1, cells := 0, slots := 0, locals := 12 } : Room).cells ({ frames := 1, cells := 0, slots := 0, locals := 12 } : Room).slots) := by
  refine MetFree.of_bodySF (plainFor_of_name pn_0) hisR ?_
  intro p e s m args below meth c s₁ Bd hml0 hP hK
  obtain ⟨rfl, hZ, hh⟩ := hP
  have hx := Bd.exec
  have hby := Bd.bytes
  have hml : c.maxLocals = 1 := hml0
  have hown : s.vm.findClass "java/lang/Record" = some m.cls := findClass_of_methodNamed Bd.named
  have hnm := (name_of_methodNamed Bd.named Bd.method).1
  have X0 : Stand p l e ({ frames := 1, cells := 0, slots := 0, locals := 12 } : Room) s m #[(.ref x0)] below meth c s₁ [] 0 0 := Stand.of_body Bd
  have e0 : s₁.heap = h0 := by rw [← hh, Bd.state]; rfl
  have N0 := Fr.nil n0
  have st0 : Steps p.tables e below (s₁.setTop (entryFrame m #[(.ref x0)] 1)) (s₁.setTop (mkF m 0 #[.val (.ref x0)] [])) := castTop (ef_2 m x0) (Steps.refl _)
  have st1 : Steps p.tables e below (s₁.setTop (entryFrame m #[(.ref x0)] 1)) (s₁.setTop (mkF m 1 #[.val (.ref x0)] [(.ref x0)])) := st0.trans (by
      show Steps p.tables e below (s₁.setTop (mkF m 0 #[.val (.ref x0)] [])) _
      refine XS.aloadN X0.here hx rfl (hb hby d2_0) rfl rfl ?_
      exact Steps.refl _)
  obtain ⟨T2, X2, e2, sr2⟩ := initO X0 hx hZ hown (hw _ (List.mem_of_getElem? (i := 12) rfl)) (hw _ (List.mem_of_getElem? (i := 13) rfl)) (hw _ (List.mem_of_getElem? (i := 14) rfl)) e0 (g := (mkF m 1 #[.val (.ref x0)] [(.ref x0)])) rfl (by rw [hml]; rfl) rfl (hb hby d2_1) (by decide) (W := 0) (by show 2 * 0 + _ ≤ _; exact Nat.le_of_eq rfl) (by decide)
  have st3 : Steps p.tables e below (s₁.setTop (entryFrame m #[(.ref x0)] 1)) (T2.setTop (mkF m 4 #[.val (.ref x0)] [])) := st1.trans (sr2 _ (Steps.refl _))
  obtain ⟨fs, hr, hrun, hended, hW, hsame⟩ := X2.leave (v := none) (fun _ => rfl)
  refine ⟨_, _, st3.trans ?_, hrun, hended, _, _, rfl, ?_, ⟨_, rfl⟩, hW, hsame.mono (by decide) (by decide)⟩
  · exact X2.returnOut hx Bd.returns (hb hby d2_4) hr
  · show Q2 Z x0 h0 n0 _ T2.heap _
    rw [e2]
    exact ⟨rfl, N0, rfl⟩
theorem d4_0 : decode prog_6_method_4_code 0 = .ok (.iload_n 1, 1) := by decide +kernel
theorem d4_1 : decode prog_6_method_4_code 1 = .ok (.iconst 1, 1) := by decide +kernel
theorem d4_2 : decode prog_6_method_4_code 2 = .ok (.if_icmp .lt 8, 3) := by decide +kernel
theorem d4_5 : decode prog_6_method_4_code 5 = .ok (.iload_n 1, 1) := by decide +kernel
theorem d4_6 : decode prog_6_method_4_code 6 = .ok (.iload_n 2, 1) := by decide +kernel
theorem d4_7 : decode prog_6_method_4_code 7 = .ok (.if_icmp .le 18, 3) := by decide +kernel
theorem d4_25 : decode prog_6_method_4_code 25 = .ok (.return_, 1) := by decide +kernel
theorem pn_1 : plainName "com/example/vireo/vireo/RetryPolicy" = true := by first | (simp [plainName, overriddenIn]; done) | decide +kernel
theorem ef_4 (m : MethodId) (x0 : Addr) (x1 : Int32) (x2 : Int32)  : entryFrame m #[(.ref x0), (.int x1), (.int x2)] 3 = mkF m 0 #[.val (.ref x0), .val (.int x1), .val (.int x2)] [] := by first | (simp [entryFrame, mkF, argsToLocals, Value.category]; done) | rfl
def Q4 (Z : State) (x0 : Addr) (x1 : Int32) (x2 : Int32) (h0 : Heap) (n0 : Nat) (vE : Option Value) (hE : Heap) (LE : List Loc) : Prop := vE = none ∧ Fr n0 LE ∧ hE = h0
set_option maxRecDepth 65536 in
set_option maxHeartbeats 40000000 in
theorem rm4 (l : Launch) (Z : State) (a0 : Array Value) (hw : ∀ d ∈ tables_1, d.before a0 Z = true) (ws : List Jvm.Cond) (x0 : Addr) (x1 : Int32) (x2 : Int32) (h0 : Heap) (n0 : Nat) (Z0 : n0 ≤ h0.size) (ha1 : ¬ x1 < (1 : Int32)) (ha2 : ¬ x2 < x1) :
    MetFree l (⟨"com/example/vireo/vireo/RetryPolicy", "requireRange", "(Ljava/lang/String;II)V"⟩ : MethodName) (head1 (Jvm.Cond.code (⟨"com/example/vireo/vireo/RetryPolicy", "requireRange", "(Ljava/lang/String;II)V"⟩ : MethodName) prog_6_method_4_code 3 none :: ws) ({ frames := 0, cells := 0, slots := 0, locals := 0 } : Room)) (fun a U => a = #[(.ref x0), (.int x1), (.int x2)] ∧ Z.Warmed39 U.vm ∧ U.heap = h0) (fun _ _ _ _ _ => True) (fun _ U o U' => ∃ vE LE, o = .returned vE ∧ Q4 Z x0 x1 x2 h0 n0 vE U'.heap LE ∧ FrameEnd U o U' LE ({ frames := 0, cells := 0, slots := 0, locals := 0 } : Room).cells ({ frames := 0, cells := 0, slots := 0, locals := 0 } : Room).slots) := by
  refine MetFree.of_bodySF (plainFor_of_name pn_1) hisR ?_
  intro p e s m args below meth c s₁ Bd hml0 hP hK
  obtain ⟨rfl, hZ, hh⟩ := hP
  have hx := Bd.exec
  have hby := Bd.bytes
  have hml : c.maxLocals = 3 := hml0
  have hown : s.vm.findClass "com/example/vireo/vireo/RetryPolicy" = some m.cls := findClass_of_methodNamed Bd.named
  have hnm := (name_of_methodNamed Bd.named Bd.method).1
  have X0 : Stand p l e ({ frames := 0, cells := 0, slots := 0, locals := 0 } : Room) s m #[(.ref x0), (.int x1), (.int x2)] below meth c s₁ [] 0 0 := Stand.of_body Bd
  have e0 : s₁.heap = h0 := by rw [← hh, Bd.state]; rfl
  have N0 := Fr.nil n0
  have st0 : Steps p.tables e below (s₁.setTop (entryFrame m #[(.ref x0), (.int x1), (.int x2)] 3)) (s₁.setTop (mkF m 0 #[.val (.ref x0), .val (.int x1), .val (.int x2)] [])) := castTop (ef_4 m x0 x1 x2) (Steps.refl _)
  have st1 : Steps p.tables e below (s₁.setTop (entryFrame m #[(.ref x0), (.int x1), (.int x2)] 3)) (s₁.setTop (mkF m 2 #[.val (.ref x0), .val (.int x1), .val (.int x2)] [(.int (1 : Int32)), (.int x1)])) := st0.trans (by
      show Steps p.tables e below (s₁.setTop (mkF m 0 #[.val (.ref x0), .val (.int x1), .val (.int x2)] [])) _
      refine XS.iloadN X0.here hx rfl (hb hby d4_0) rfl ?_
      show Steps p.tables e below (s₁.setTop (mkF m 1 #[.val (.ref x0), .val (.int x1), .val (.int x2)] [(.int x1)])) _
      refine XS.iconst X0.here hx rfl (hb hby d4_1) ?_
      exact Steps.refl _)
  have hf2 : ¬ (x1 < (1 : Int32)) := ha1
  have st3 : Steps p.tables e below (s₁.setTop (entryFrame m #[(.ref x0), (.int x1), (.int x2)] 3)) (s₁.setTop (mkF m 7 #[.val (.ref x0), .val (.int x1), .val (.int x2)] [(.int x2), (.int x1)])) := st1.trans (by
      show Steps p.tables e below (s₁.setTop (mkF m 2 #[.val (.ref x0), .val (.int x1), .val (.int x2)] [(.int (1 : Int32)), (.int x1)])) _
      refine XS.icmpNo X0.here hx rfl (hb hby d4_2) rfl (flt hf2).1 ?_
      show Steps p.tables e below (s₁.setTop (mkF m 5 #[.val (.ref x0), .val (.int x1), .val (.int x2)] [])) _
      refine XS.iloadN X0.here hx rfl (hb hby d4_5) rfl ?_
      show Steps p.tables e below (s₁.setTop (mkF m 6 #[.val (.ref x0), .val (.int x1), .val (.int x2)] [(.int x1)])) _
      refine XS.iloadN X0.here hx rfl (hb hby d4_6) rfl ?_
      exact Steps.refl _)
  have hf4 : ¬ (x2 < x1) := ha2
  have st5 : Steps p.tables e below (s₁.setTop (entryFrame m #[(.ref x0), (.int x1), (.int x2)] 3)) (s₁.setTop (mkF m 25 #[.val (.ref x0), .val (.int x1), .val (.int x2)] [])) := st3.trans (by
      show Steps p.tables e below (s₁.setTop (mkF m 7 #[.val (.ref x0), .val (.int x1), .val (.int x2)] [(.int x2), (.int x1)])) _
      refine XS.icmpYes X0.here hx rfl (pc0 := 7) (pc' := 25) rfl (hb hby d4_7) rfl (flt hf4).2.2.2 (by decide) (by decide) ?_
      exact Steps.refl _)
  obtain ⟨fs, hr, hrun, hended, hW, hsame⟩ := X0.leave (v := none) (fun _ => rfl)
  refine ⟨_, _, st5.trans ?_, hrun, hended, _, _, rfl, ?_, ⟨_, rfl⟩, hW, hsame.mono (by decide) (by decide)⟩
  · exact X0.returnOut hx Bd.returns (hb hby d4_25) hr
  · show Q4 Z x0 x1 x2 h0 n0 _ s₁.heap _
    rw [e0]
    exact ⟨rfl, N0, rfl⟩
theorem pd_0 : parseMethodDescriptor "()V" = some ⟨[], none⟩ := by decide +kernel
theorem pd_1 : parseMethodDescriptor "(Ljava/lang/String;II)V" = some ⟨[(.object "java/lang/String"), .int, .int], none⟩ := by decide +kernel
theorem d1_0 : decode prog_6_method_1_code 0 = .ok (.aload_n 0, 1) := by decide +kernel
theorem d1_1 : decode prog_6_method_1_code 1 = .ok (.invokespecial 1, 3) := by decide +kernel
theorem d1_4 : decode prog_6_method_1_code 4 = .ok (.ldc 7, 2) := by decide +kernel
theorem d1_6 : decode prog_6_method_1_code 6 = .ok (.iload_n 1, 1) := by decide +kernel
theorem d1_7 : decode prog_6_method_1_code 7 = .ok (.bipush 30, 2) := by decide +kernel
theorem d1_9 : decode prog_6_method_1_code 9 = .ok (.invokestatic 11, 3) := by decide +kernel
theorem d1_12 : decode prog_6_method_1_code 12 = .ok (.ldc 15, 2) := by decide +kernel
theorem d1_14 : decode prog_6_method_1_code 14 = .ok (.iload_n 2, 1) := by decide +kernel
theorem d1_15 : decode prog_6_method_1_code 15 = .ok (.sipush 1440, 3) := by decide +kernel
theorem d1_18 : decode prog_6_method_1_code 18 = .ok (.invokestatic 11, 3) := by decide +kernel
theorem d1_21 : decode prog_6_method_1_code 21 = .ok (.aload_n 0, 1) := by decide +kernel
theorem d1_22 : decode prog_6_method_1_code 22 = .ok (.iload_n 1, 1) := by decide +kernel
theorem d1_23 : decode prog_6_method_1_code 23 = .ok (.putfield 17, 3) := by decide +kernel
theorem d1_26 : decode prog_6_method_1_code 26 = .ok (.aload_n 0, 1) := by decide +kernel
theorem d1_27 : decode prog_6_method_1_code 27 = .ok (.iload_n 2, 1) := by decide +kernel
theorem d1_28 : decode prog_6_method_1_code 28 = .ok (.putfield 20, 3) := by decide +kernel
theorem d1_31 : decode prog_6_method_1_code 31 = .ok (.return_, 1) := by decide +kernel
theorem ef_1 (m : MethodId) (x0 : Addr) (x1 : Int32) (x2 : Int32)  : entryFrame m #[(.ref x0), (.int x1), (.int x2)] 3 = mkF m 0 #[.val (.ref x0), .val (.int x1), .val (.int x2)] [] := by first | (simp [entryFrame, mkF, argsToLocals, Value.category]; done) | rfl
def Q1 (Z : State) (x0 : Addr) (x1 : Int32) (x2 : Int32) (h0 : Heap) (n0 : Nat) (vE : Option Value) (hE : Heap) (LE : List Loc) : Prop := vE = none ∧ Fr n0 LE ∧ Keep h0 hE [x0] ∧ Exa Z hE x0 "com/example/vireo/vireo/RetryPolicy" ∧ Fld Z hE x0 "com/example/vireo/vireo/RetryPolicy" "maxDeliveryAttempts" "I" (.int x1) ∧ Fld Z hE x0 "com/example/vireo/vireo/RetryPolicy" "eventTimeToLiveInMinutes" "I" (.int x2)
set_option maxRecDepth 65536 in
set_option maxHeartbeats 40000000 in
theorem rm1 (l : Launch) (Z : State) (a0 : Array Value) (hw : ∀ d ∈ tables_1, d.before a0 Z = true) (ws : List Jvm.Cond) (x0 : Addr) (x1 : Int32) (x2 : Int32) (h0 : Heap) (n0 : Nat) (Z0 : n0 ≤ h0.size) (E_x : Exa Z h0 x0 "com/example/vireo/vireo/RetryPolicy") (F_m : Fld Z h0 x0 "com/example/vireo/vireo/RetryPolicy" "maxDeliveryAttempts" "I" (.int (0 : Int32))) (F_t : Fld Z h0 x0 "com/example/vireo/vireo/RetryPolicy" "eventTimeToLiveInMinutes" "I" (.int (0 : Int32))) (g_x : n0 ≤ x0) (ha1 : ¬ x1 < (1 : Int32)) (ha2 : ¬ (30 : Int32) < x1) (ha3 : ¬ x2 < (1 : Int32)) (ha4 : ¬ (1440 : Int32) < x2) :
    MetFree l (⟨"com/example/vireo/vireo/RetryPolicy", "<init>", "(II)V"⟩ : MethodName) (head1 (Jvm.Cond.code (⟨"com/example/vireo/vireo/RetryPolicy", "<init>", "(II)V"⟩ : MethodName) prog_6_method_1_code 3 none :: ws) ({ frames := 2, cells := 4, slots := 180, locals := 24 } : Room)) (fun a U => a = #[(.ref x0), (.int x1), (.int x2)] ∧ Z.Warmed39 U.vm ∧ U.heap = h0) (fun _ _ _ _ _ => True) (fun _ U o U' => ∃ vE LE, o = .returned vE ∧ Q1 Z x0 x1 x2 h0 n0 vE U'.heap LE ∧ ReturnedEndW U o U' LE ({ frames := 2, cells := 4, slots := 180, locals := 24 } : Room).cells ({ frames := 2, cells := 4, slots := 180, locals := 24 } : Room).slots) := by
  refine MetFree.of_bodySF (plainFor_of_name pn_1) hisR ?_
  intro p e s m args below meth c s₁ Bd hml0 hP hK
  obtain ⟨rfl, hZ, hh⟩ := hP
  have hx := Bd.exec
  have hby := Bd.bytes
  have hml : c.maxLocals = 3 := hml0
  have hown : s.vm.findClass "com/example/vireo/vireo/RetryPolicy" = some m.cls := findClass_of_methodNamed Bd.named
  have hnm := (name_of_methodNamed Bd.named Bd.method).1
  have X0 : Stand p l e ({ frames := 2, cells := 4, slots := 180, locals := 24 } : Room) s m #[(.ref x0), (.int x1), (.int x2)] below meth c s₁ [] 0 0 := Stand.of_body Bd
  have e0 : s₁.heap = h0 := by rw [← hh, Bd.state]; rfl
  have N0 := Fr.nil n0
  have st0 : Steps p.tables e below (s₁.setTop (entryFrame m #[(.ref x0), (.int x1), (.int x2)] 3)) (s₁.setTop (mkF m 0 #[.val (.ref x0), .val (.int x1), .val (.int x2)] [])) := castTop (ef_1 m x0 x1 x2) (Steps.refl _)
  have X0 : Stand p l e ({ frames := 2, cells := 4, slots := 180, locals := 24 } : Room) (s.setVm s.vm) m #[(.ref x0), (.int x1), (.int x2)] below meth c s₁ [] 0 0 := X0
  have hZ : Z.Warmed39 (s.setVm s.vm).vm := hZ
  have hown : (s.setVm s.vm).vm.findClass "com/example/vireo/vireo/RetryPolicy" = some m.cls := hown
  obtain ⟨kS, ekS⟩ : ∃ k : Nat, k = 0 := ⟨_, rfl⟩
  have hS : s.Since s.vm kS := (State.WarmedH.refl s).since kS
  have hk : kS ≤ h0.size := by rw [ekS]; exact Nat.zero_le _
  have K0 : Keep h0 h0 [x0] := Keep.refl _ _
  have st1 : Steps p.tables e below (s₁.setTop (entryFrame m #[(.ref x0), (.int x1), (.int x2)] 3)) (s₁.setTop (mkF m 1 #[.val (.ref x0), .val (.int x1), .val (.int x2)] [(.ref x0)])) := st0.trans (by
      show Steps p.tables e below (s₁.setTop (mkF m 0 #[.val (.ref x0), .val (.int x1), .val (.int x2)] [])) _
      refine XS.aloadN X0.here hx rfl (hb hby d1_0) rfl rfl ?_
      exact Steps.refl _)
  obtain ⟨_, _, ⟨T2, L2, k2, n2⟩, -, X2, ⟨Lc2, hQ2, l2, y2, z2⟩, sr2⟩ := X0.specialBack hx (y := (⟨"java/lang/Record", "<init>", "()V"⟩ : MethodName)) rfl hown (mvT hZ (hw _ (List.mem_of_getElem? (i := 7) rfl))) (mvT hZ (hw _ (List.mem_of_getElem? (i := 8) rfl))) (mvT hZ (hw _ (List.mem_of_getElem? (i := 11) rfl))) (by decide) (backOf (W := 0) (rm2 l Z a0 hw [] x0  h0 n0 Z0 ) hZ (hw _ (List.mem_of_getElem? (i := 11) rfl)) (hw _ (List.mem_of_getElem? (i := 10) rfl)) (by decide) (by decide)) (g := (mkF m 1 #[.val (.ref x0), .val (.int x1), .val (.int x2)] [(.ref x0)])) rfl (by rw [hml]; rfl) (Steps.refl _) (a := x0) (argsL := []) (rest := []) (lenOf pd_0 rfl) rfl (by show 2 * 0 + _ ≤ _; exact Nat.le_of_eq rfl) (hb hby d1_1) (fun _ _ => ⟨rfl, e0, (by decide : 0 + 0 ≤ _), (by decide : 0 + 0 ≤ _)⟩)
  dsimp only [Pt.U, Pt.locs, Pt.cells, Pt.slots] at X2 l2 y2 z2 sr2 hQ2
  subst l2 y2 z2
  obtain ⟨rfl, N2q, hh2⟩ := hQ2
  have N2 := Fr.app N0 N2q
  have st3 : Steps p.tables e below (s₁.setTop (entryFrame m #[(.ref x0), (.int x1), (.int x2)] 3)) (T2.setTop (mkF m 4 #[.val (.ref x0), .val (.int x1), .val (.int x2)] [])) := st1.trans (sr2)
  obtain ⟨a4, T4, h4, kS, X4, e4, E4, hS, hk, hZ, hown, sr4⟩ := ldcS (s := s) X2 hx hZ hown (hw _ (List.mem_of_getElem? (i := 15) rfl)) (own_wS hw) hh2 hS hk (g := (mkF m 4 #[.val (.ref x0), .val (.int x1), .val (.int x2)] [])) rfl (hb hby d1_4) (n := 76) (by decide) (by decide) (by decide) (by decide)
  have f5 : Exa Z h4 x0 "com/example/vireo/vireo/RetryPolicy" := E_x.ext E4
  have f6 : Fld Z h4 x0 "com/example/vireo/vireo/RetryPolicy" "maxDeliveryAttempts" "I" (.int (0 : Int32)) := F_m.ext E4
  have f7 : Fld Z h4 x0 "com/example/vireo/vireo/RetryPolicy" "eventTimeToLiveInMinutes" "I" (.int (0 : Int32)) := F_t.ext E4
  have K8 : Keep h0 h4 [x0] := K0.ext E4
  have Z4 : n0 ≤ h4.size := Nat.le_trans Z0 E4.1
  have st9 : Steps p.tables e below (s₁.setTop (entryFrame m #[(.ref x0), (.int x1), (.int x2)] 3)) (T4.setTop (mkF m 6 #[.val (.ref x0), .val (.int x1), .val (.int x2)] [(.ref a4)])) := st3.trans (sr4 _ (Steps.refl _))
  have st10 : Steps p.tables e below (s₁.setTop (entryFrame m #[(.ref x0), (.int x1), (.int x2)] 3)) (T4.setTop (mkF m 9 #[.val (.ref x0), .val (.int x1), .val (.int x2)] [(.int (30 : Int32)), (.int x1), (.ref a4)])) := st9.trans (by
      show Steps p.tables e below (T4.setTop (mkF m 6 #[.val (.ref x0), .val (.int x1), .val (.int x2)] [(.ref a4)])) _
      refine XS.iloadN X4.here hx rfl (hb hby d1_6) rfl ?_
      show Steps p.tables e below (T4.setTop (mkF m 7 #[.val (.ref x0), .val (.int x1), .val (.int x2)] [(.int x1), (.ref a4)])) _
      refine XS.bipush X4.here hx rfl (hb hby d1_7) ?_
      exact Steps.refl _)
  obtain ⟨_, _, ⟨T11, L11, k11, n11⟩, -, X11, ⟨Lc11, hQ11, l11, y11, z11⟩, sr11⟩ := Jvm.LawKit.callS X4 hx (y := (⟨"com/example/vireo/vireo/RetryPolicy", "requireRange", "(Ljava/lang/String;II)V"⟩ : MethodName)) hown (mvT hZ (hw _ (List.mem_of_getElem? (i := 23) rfl))) (mvT hZ (hw _ (List.mem_of_getElem? (i := 24) rfl))) (mvT hZ (hw _ (List.mem_of_getElem? (i := 3) rfl))) (mvT hZ (hw _ (List.mem_of_getElem? (i := 25) rfl))) (by decide) (backOf (W := 0) (rm4 l Z a0 hw [] a4 x1 (30 : Int32)  h4 n0 Z4 ha1 ha2) hZ (hw _ (List.mem_of_getElem? (i := 25) rfl)) (hw _ (List.mem_of_getElem? (i := 3) rfl)) (by decide) (by decide)) (g := (mkF m 9 #[.val (.ref x0), .val (.int x1), .val (.int x2)] [(.int (30 : Int32)), (.int x1), (.ref a4)])) rfl (by rw [hml]; rfl) (argsL := [(.ref a4), (.int x1), (.int (30 : Int32))]) (rest := []) (lenOf pd_1 rfl) rfl (by show 2 * 0 + _ ≤ _; exact Nat.le_of_eq rfl) (hb hby d1_9) (fun _ _ => ⟨rfl, e4, (by decide : 2 + 0 ≤ _), (by decide : 80 + 0 ≤ _)⟩)
  dsimp only [Pt.U, Pt.locs, Pt.cells, Pt.slots] at X11 l11 y11 z11 sr11 hQ11
  subst l11 y11 z11
  obtain ⟨rfl, N11q, hh11⟩ := hQ11
  have N11 := Fr.app N2 N11q
  have st12 : Steps p.tables e below (s₁.setTop (entryFrame m #[(.ref x0), (.int x1), (.int x2)] 3)) (T11.setTop (mkF m 12 #[.val (.ref x0), .val (.int x1), .val (.int x2)] [])) := st10.trans (sr11 _ (Steps.refl _))
  obtain ⟨a13, T13, h13, kS, X13, e13, E13, hS, hk, hZ, hown, sr13⟩ := ldcS (s := s) X11 hx hZ hown (hw _ (List.mem_of_getElem? (i := 26) rfl)) (own_wS hw) hh11 hS hk (g := (mkF m 12 #[.val (.ref x0), .val (.int x1), .val (.int x2)] [])) rfl (hb hby d1_12) (n := 96) (by decide) (by decide) (by decide) (by decide)
  have f14 : Exa Z h13 x0 "com/example/vireo/vireo/RetryPolicy" := f5.ext E13
  have f15 : Fld Z h13 x0 "com/example/vireo/vireo/RetryPolicy" "maxDeliveryAttempts" "I" (.int (0 : Int32)) := f6.ext E13
  have f16 : Fld Z h13 x0 "com/example/vireo/vireo/RetryPolicy" "eventTimeToLiveInMinutes" "I" (.int (0 : Int32)) := f7.ext E13
  have K17 : Keep h0 h13 [x0] := K8.ext E13
  have Z13 : n0 ≤ h13.size := Nat.le_trans Z4 E13.1
  have st18 : Steps p.tables e below (s₁.setTop (entryFrame m #[(.ref x0), (.int x1), (.int x2)] 3)) (T13.setTop (mkF m 14 #[.val (.ref x0), .val (.int x1), .val (.int x2)] [(.ref a13)])) := st12.trans (sr13 _ (Steps.refl _))
  have st19 : Steps p.tables e below (s₁.setTop (entryFrame m #[(.ref x0), (.int x1), (.int x2)] 3)) (T13.setTop (mkF m 18 #[.val (.ref x0), .val (.int x1), .val (.int x2)] [(.int (1440 : Int32)), (.int x2), (.ref a13)])) := st18.trans (by
      show Steps p.tables e below (T13.setTop (mkF m 14 #[.val (.ref x0), .val (.int x1), .val (.int x2)] [(.ref a13)])) _
      refine XS.iloadN X13.here hx rfl (hb hby d1_14) rfl ?_
      show Steps p.tables e below (T13.setTop (mkF m 15 #[.val (.ref x0), .val (.int x1), .val (.int x2)] [(.int x2), (.ref a13)])) _
      refine XS.sipush X13.here hx rfl (hb hby d1_15) ?_
      exact Steps.refl _)
  obtain ⟨_, _, ⟨T20, L20, k20, n20⟩, -, X20, ⟨Lc20, hQ20, l20, y20, z20⟩, sr20⟩ := Jvm.LawKit.callS X13 hx (y := (⟨"com/example/vireo/vireo/RetryPolicy", "requireRange", "(Ljava/lang/String;II)V"⟩ : MethodName)) hown (mvT hZ (hw _ (List.mem_of_getElem? (i := 23) rfl))) (mvT hZ (hw _ (List.mem_of_getElem? (i := 24) rfl))) (mvT hZ (hw _ (List.mem_of_getElem? (i := 3) rfl))) (mvT hZ (hw _ (List.mem_of_getElem? (i := 25) rfl))) (by decide) (backOf (W := 0) (rm4 l Z a0 hw [] a13 x2 (1440 : Int32)  h13 n0 Z13 ha3 ha4) hZ (hw _ (List.mem_of_getElem? (i := 25) rfl)) (hw _ (List.mem_of_getElem? (i := 3) rfl)) (by decide) (by decide)) (g := (mkF m 18 #[.val (.ref x0), .val (.int x1), .val (.int x2)] [(.int (1440 : Int32)), (.int x2), (.ref a13)])) rfl (by rw [hml]; rfl) (argsL := [(.ref a13), (.int x2), (.int (1440 : Int32))]) (rest := []) (lenOf pd_1 rfl) rfl (by show 2 * 0 + _ ≤ _; exact Nat.le_of_eq rfl) (hb hby d1_18) (fun _ _ => ⟨rfl, e13, (by decide : 4 + 0 ≤ _), (by decide : 180 + 0 ≤ _)⟩)
  dsimp only [Pt.U, Pt.locs, Pt.cells, Pt.slots] at X20 l20 y20 z20 sr20 hQ20
  subst l20 y20 z20
  obtain ⟨rfl, N20q, hh20⟩ := hQ20
  have N20 := Fr.app N11 N20q
  have st21 : Steps p.tables e below (s₁.setTop (entryFrame m #[(.ref x0), (.int x1), (.int x2)] 3)) (T20.setTop (mkF m 21 #[.val (.ref x0), .val (.int x1), .val (.int x2)] [])) := st19.trans (sr20 _ (Steps.refl _))
  have st22 : Steps p.tables e below (s₁.setTop (entryFrame m #[(.ref x0), (.int x1), (.int x2)] 3)) (T20.setTop (mkF m 23 #[.val (.ref x0), .val (.int x1), .val (.int x2)] [(.int x1), (.ref x0)])) := st21.trans (by
      show Steps p.tables e below (T20.setTop (mkF m 21 #[.val (.ref x0), .val (.int x1), .val (.int x2)] [])) _
      refine XS.aloadN X20.here hx rfl (hb hby d1_21) rfl rfl ?_
      show Steps p.tables e below (T20.setTop (mkF m 22 #[.val (.ref x0), .val (.int x1), .val (.int x2)] [(.ref x0)])) _
      refine XS.iloadN X20.here hx rfl (hb hby d1_22) rfl ?_
      exact Steps.refl _)
  obtain ⟨T23, h23, X23, e23, W23, sr23⟩ := putF X20 hx hZ hown (host := "") (Or.inl (hw _ (List.mem_of_getElem? (i := 27) rfl))) Via.refl hh20 f15 f14 (Or.inr ⟨(hw _ (List.mem_of_getElem? (i := 28) rfl)), rfl, hnm⟩) (hw _ (List.mem_of_getElem? (i := 2) rfl)) (ty := .int) (by decide) rfl rfl (g := (mkF m 23 #[.val (.ref x0), .val (.int x1), .val (.int x2)] [(.int x1), (.ref x0)])) rfl rfl (hb hby d1_23)
  have f24 : Exa Z h23 x0 "com/example/vireo/vireo/RetryPolicy" := f14.wr W23
  have f25 : Fld Z h23 x0 "com/example/vireo/vireo/RetryPolicy" "eventTimeToLiveInMinutes" "I" (.int (0 : Int32)) := f16.other W23 (Or.inr (slot_ne (Or.inr (hw _ (List.mem_of_getElem? (i := 30) rfl))) (Or.inr (hw _ (List.mem_of_getElem? (i := 28) rfl))) (by decide) (t := .int) (t' := .int) (by decide) (by decide)))
  have f26 : Fld Z h23 x0 "com/example/vireo/vireo/RetryPolicy" "maxDeliveryAttempts" "I" (.int x1) := f15.same W23
  have K27 : Keep h0 h23 [x0] := K17.wr W23 (Or.inl (List.mem_of_getElem? (i := 0) rfl))
  have Z23 : n0 ≤ h23.size := Nat.le_trans Z13 (Keep.of_wr W23).1
  have hk : kS ≤ h23.size := Nat.le_trans hk (Keep.of_wr W23).1
  have N23 := Fr.snoc X23 N20 g_x
  have st28 : Steps p.tables e below (s₁.setTop (entryFrame m #[(.ref x0), (.int x1), (.int x2)] 3)) (T23.setTop (mkF m 26 #[.val (.ref x0), .val (.int x1), .val (.int x2)] [])) := st22.trans (sr23 _ (Steps.refl _))
  have st29 : Steps p.tables e below (s₁.setTop (entryFrame m #[(.ref x0), (.int x1), (.int x2)] 3)) (T23.setTop (mkF m 28 #[.val (.ref x0), .val (.int x1), .val (.int x2)] [(.int x2), (.ref x0)])) := st28.trans (by
      show Steps p.tables e below (T23.setTop (mkF m 26 #[.val (.ref x0), .val (.int x1), .val (.int x2)] [])) _
      refine XS.aloadN X23.here hx rfl (hb hby d1_26) rfl rfl ?_
      show Steps p.tables e below (T23.setTop (mkF m 27 #[.val (.ref x0), .val (.int x1), .val (.int x2)] [(.ref x0)])) _
      refine XS.iloadN X23.here hx rfl (hb hby d1_27) rfl ?_
      exact Steps.refl _)
  obtain ⟨T30, h30, X30, e30, W30, sr30⟩ := putF X23 hx hZ hown (host := "") (Or.inl (hw _ (List.mem_of_getElem? (i := 29) rfl))) Via.refl e23 f25 f24 (Or.inr ⟨(hw _ (List.mem_of_getElem? (i := 30) rfl)), rfl, hnm⟩) (hw _ (List.mem_of_getElem? (i := 2) rfl)) (ty := .int) (by decide) rfl rfl (g := (mkF m 28 #[.val (.ref x0), .val (.int x1), .val (.int x2)] [(.int x2), (.ref x0)])) rfl rfl (hb hby d1_28)
  have f31 : Exa Z h30 x0 "com/example/vireo/vireo/RetryPolicy" := f24.wr W30
  have f32 : Fld Z h30 x0 "com/example/vireo/vireo/RetryPolicy" "maxDeliveryAttempts" "I" (.int x1) := f26.other W30 (Or.inr (slot_ne (Or.inr (hw _ (List.mem_of_getElem? (i := 28) rfl))) (Or.inr (hw _ (List.mem_of_getElem? (i := 30) rfl))) (by decide) (t := .int) (t' := .int) (by decide) (by decide)))
  have f33 : Fld Z h30 x0 "com/example/vireo/vireo/RetryPolicy" "eventTimeToLiveInMinutes" "I" (.int x2) := f25.same W30
  have K34 : Keep h0 h30 [x0] := K27.wr W30 (Or.inl (List.mem_of_getElem? (i := 0) rfl))
  have Z30 : n0 ≤ h30.size := Nat.le_trans Z23 (Keep.of_wr W30).1
  have hk : kS ≤ h30.size := Nat.le_trans hk (Keep.of_wr W30).1
  have N30 := Fr.snoc X30 N23 g_x
  have st35 : Steps p.tables e below (s₁.setTop (entryFrame m #[(.ref x0), (.int x1), (.int x2)] 3)) (T30.setTop (mkF m 31 #[.val (.ref x0), .val (.int x1), .val (.int x2)] [])) := st29.trans (sr30 _ (Steps.refl _))
  obtain ⟨fs, hr, hrun, hended, hEW⟩ := X30.leaveW hS (by rw [e30]; exact hk) (v := none) (fun _ => rfl)
  refine ⟨_, _, st35.trans ?_, hrun, hended, _, _, rfl, ?_, hEW.1, hEW.2.1, hEW.2.2.1, hEW.2.2.2.mono (by decide) (by decide)⟩
  · exact X30.returnOut hx Bd.returns (hb hby d1_31) hr
  · show Q1 Z x0 x1 x2 h0 n0 _ T30.heap _
    rw [e30]
    exact ⟨rfl, N30, K34, f31, f32, f33⟩
theorem d5_0 : decode prog_6_method_2_code 0 = .ok (.iload_n 1, 1) := by decide +kernel
theorem d5_1 : decode prog_6_method_2_code 1 = .ok (.aload_n 0, 1) := by decide +kernel
theorem d5_2 : decode prog_6_method_2_code 2 = .ok (.getfield 17, 3) := by decide +kernel
theorem d5_5 : decode prog_6_method_2_code 5 = .ok (.if_icmp .ge 7, 3) := by decide +kernel
theorem d5_8 : decode prog_6_method_2_code 8 = .ok (.iconst 1, 1) := by decide +kernel
theorem d5_9 : decode prog_6_method_2_code 9 = .ok (.goto 4, 3) := by decide +kernel
theorem d5_12 : decode prog_6_method_2_code 12 = .ok (.iconst 0, 1) := by decide +kernel
theorem d5_13 : decode prog_6_method_2_code 13 = .ok (.ireturn, 1) := by decide +kernel
theorem ef_5 (m : MethodId) (x0 : Addr) (x1 : Int32)  : entryFrame m #[(.ref x0), (.int x1)] 2 = mkF m 0 #[.val (.ref x0), .val (.int x1)] [] := by first | (simp [entryFrame, mkF, argsToLocals, Value.category]; done) | rfl
def Q5 (Z : State) (x0 : Addr) (x1 : Int32) (mx : Int32) (h0 : Heap) (n0 : Nat) (vE : Option Value) (hE : Heap) (LE : List Loc) : Prop := vE = some (.int (if x1 < mx then (1 : Int32) else (0 : Int32))) ∧ Fr n0 LE ∧ hE = h0
set_option maxRecDepth 65536 in
set_option maxHeartbeats 40000000 in
theorem rm5 (l : Launch) (Z : State) (a0 : Array Value) (hw : ∀ d ∈ tables_1, d.before a0 Z = true) (ws : List Jvm.Cond) (x0 : Addr) (x1 : Int32) (mx : Int32) (h0 : Heap) (n0 : Nat) (Z0 : n0 ≤ h0.size) (F_m : Fld Z h0 x0 "com/example/vireo/vireo/RetryPolicy" "maxDeliveryAttempts" "I" (.int mx)) :
    MetFree l (⟨"com/example/vireo/vireo/RetryPolicy", "allowsAttemptAfter", "(I)Z"⟩ : MethodName) (head1 (Jvm.Cond.code (⟨"com/example/vireo/vireo/RetryPolicy", "allowsAttemptAfter", "(I)Z"⟩ : MethodName) prog_6_method_2_code 2 (some .boolean) :: ws) ({ frames := 0, cells := 0, slots := 0, locals := 0 } : Room)) (fun a U => a = #[(.ref x0), (.int x1)] ∧ Z.Warmed39 U.vm ∧ U.heap = h0) (fun _ _ _ _ _ => True) (fun _ U o U' => ∃ vE LE, o = .returned vE ∧ Q5 Z x0 x1 mx h0 n0 vE U'.heap LE ∧ FrameEnd U o U' LE ({ frames := 0, cells := 0, slots := 0, locals := 0 } : Room).cells ({ frames := 0, cells := 0, slots := 0, locals := 0 } : Room).slots) := by
  refine MetFree.of_bodySF (plainFor_of_name pn_1) hisR ?_
  intro p e s m args below meth c s₁ Bd hml0 hP hK
  obtain ⟨rfl, hZ, hh⟩ := hP
  have hx := Bd.exec
  have hby := Bd.bytes
  have hml : c.maxLocals = 2 := hml0
  have hown : s.vm.findClass "com/example/vireo/vireo/RetryPolicy" = some m.cls := findClass_of_methodNamed Bd.named
  have hnm := (name_of_methodNamed Bd.named Bd.method).1
  have X0 : Stand p l e ({ frames := 0, cells := 0, slots := 0, locals := 0 } : Room) s m #[(.ref x0), (.int x1)] below meth c s₁ [] 0 0 := Stand.of_body Bd
  have e0 : s₁.heap = h0 := by rw [← hh, Bd.state]; rfl
  have N0 := Fr.nil n0
  have st0 : Steps p.tables e below (s₁.setTop (entryFrame m #[(.ref x0), (.int x1)] 2)) (s₁.setTop (mkF m 0 #[.val (.ref x0), .val (.int x1)] [])) := castTop (ef_5 m x0 x1) (Steps.refl _)
  have st1 : Steps p.tables e below (s₁.setTop (entryFrame m #[(.ref x0), (.int x1)] 2)) (s₁.setTop (mkF m 2 #[.val (.ref x0), .val (.int x1)] [(.ref x0), (.int x1)])) := st0.trans (by
      show Steps p.tables e below (s₁.setTop (mkF m 0 #[.val (.ref x0), .val (.int x1)] [])) _
      refine XS.iloadN X0.here hx rfl (hb hby d5_0) rfl ?_
      show Steps p.tables e below (s₁.setTop (mkF m 1 #[.val (.ref x0), .val (.int x1)] [(.int x1)])) _
      refine XS.aloadN X0.here hx rfl (hb hby d5_1) rfl rfl ?_
      exact Steps.refl _)
  obtain ⟨T2, X2, e2, sr2⟩ := getF X0 hx hZ hown (host := "") (Or.inl (hw _ (List.mem_of_getElem? (i := 27) rfl))) Via.refl e0 F_m (g := (mkF m 2 #[.val (.ref x0), .val (.int x1)] [(.ref x0), (.int x1)])) rfl rfl (hb hby d5_2)
  have st3 : Steps p.tables e below (s₁.setTop (entryFrame m #[(.ref x0), (.int x1)] 2)) (T2.setTop (mkF m 5 #[.val (.ref x0), .val (.int x1)] [(.int mx), (.int x1)])) := st1.trans (sr2 _ (Steps.refl _))
  by_cases hc4 : x1 < mx
  · have st5 : Steps p.tables e below (s₁.setTop (entryFrame m #[(.ref x0), (.int x1)] 2)) (T2.setTop (mkF m 13 #[.val (.ref x0), .val (.int x1)] [(.int (1 : Int32))])) := st3.trans (by
        show Steps p.tables e below (T2.setTop (mkF m 5 #[.val (.ref x0), .val (.int x1)] [(.int mx), (.int x1)])) _
        refine XS.icmpNo X2.here hx rfl (hb hby d5_5) rfl (tlt hc4).2.1 ?_
        show Steps p.tables e below (T2.setTop (mkF m 8 #[.val (.ref x0), .val (.int x1)] [])) _
        refine XS.iconst X2.here hx rfl (hb hby d5_8) ?_
        show Steps p.tables e below (T2.setTop (mkF m 9 #[.val (.ref x0), .val (.int x1)] [(.int (1 : Int32))])) _
        refine XS.goto X2.here hx rfl (pc0 := 9) (pc' := 13) rfl (hb hby d5_9) (by decide) (by decide) ?_
        exact Steps.refl _)
    obtain ⟨fs, hr, hrun, hended, hW, hsame⟩ := X2.leave (v := some (.int (1 : Int32))) (fun h => by rw [Bd.returns] at h; cases h)
    refine ⟨_, _, st5.trans ?_, hrun, hended, _, _, rfl, ?_, ⟨_, rfl⟩, hW, hsame.mono (by decide) (by decide)⟩
    · exact retN X2 hx (t := .boolean) Bd.returns (by simp) (hb hby d5_13) hr
    · show Q5 Z x0 x1 mx h0 n0 _ T2.heap _
      rw [e2]
      exact ⟨by simp only [if_pos hc4], N0, rfl⟩
  · have st6 : Steps p.tables e below (s₁.setTop (entryFrame m #[(.ref x0), (.int x1)] 2)) (T2.setTop (mkF m 13 #[.val (.ref x0), .val (.int x1)] [(.int (0 : Int32))])) := st3.trans (by
        show Steps p.tables e below (T2.setTop (mkF m 5 #[.val (.ref x0), .val (.int x1)] [(.int mx), (.int x1)])) _
        refine XS.icmpYes X2.here hx rfl (pc0 := 5) (pc' := 12) rfl (hb hby d5_5) rfl (flt hc4).2.1 (by decide) (by decide) ?_
        show Steps p.tables e below (T2.setTop (mkF m 12 #[.val (.ref x0), .val (.int x1)] [])) _
        refine XS.iconst X2.here hx rfl (hb hby d5_12) ?_
        exact Steps.refl _)
    obtain ⟨fs, hr, hrun, hended, hW, hsame⟩ := X2.leave (v := some (.int (0 : Int32))) (fun h => by rw [Bd.returns] at h; cases h)
    refine ⟨_, _, st6.trans ?_, hrun, hended, _, _, rfl, ?_, ⟨_, rfl⟩, hW, hsame.mono (by decide) (by decide)⟩
    · exact retN X2 hx (t := .boolean) Bd.returns (by simp) (hb hby d5_13) hr
    · show Q5 Z x0 x1 mx h0 n0 _ T2.heap _
      rw [e2]
      exact ⟨by simp only [if_neg hc4], N0, rfl⟩
theorem own_m (x m k : Int32) (d : Int) (hd : 0 < d) (hd2 : d < 2000) (hk : k.toInt = d) (hm : m = (1 : Int32) + (x &&& (2147483647 : Int32)) % k) : ¬ m < (1 : Int32) ∧ ¬ k < m := by
  have e1 : (x &&& 2147483647).toInt = x.toInt % (2 ^ 31 : Nat) := c_mask x 2147483647 31 (by decide) (by decide)
  have e2 := (c_irem (x &&& 2147483647) k d hk).1 (by omega)
  have k1 : (1 : Int32).toInt = 1 := by decide
  have e3 := c_iadd 1 ((x &&& 2147483647) % k)
  have b1 := Int.emod_nonneg (x &&& 2147483647).toInt (show d ≠ 0 by omega)
  have b2 := Int.emod_lt_of_pos (x &&& 2147483647).toInt hd
  have r := rng32 m
  rw [← hm, k1, e2] at e3
  rw [Int32.lt_iff_toInt_lt, Int32.lt_iff_toInt_lt, k1, hk]
  omega
theorem own_got (n m : Int32) : (if n < m then (1 : Int32) else (0 : Int32)) = (if (m.toInt64) < ((n.toInt64) + (1 : Int64)) then (0 : Int32) else (1 : Int32)) := by
  have r1 := rng32 n; have r2 := rng32 m
  have a1 := c_i2l n; have a2 := c_i2l m
  have e := c_ladd n.toInt64 1
  have r3 := rng64 (n.toInt64 + 1)
  rw [show (1 : Int64).toInt = 1 by decide] at e
  have h : n < m ↔ ¬ (m.toInt64 < n.toInt64 + 1) := by rw [Int32.lt_iff_toInt_lt, Int64.lt_iff_toInt_lt]; omega
  by_cases q : n < m
  · rw [if_pos q, if_neg (h.mp q)]
  · rw [if_neg q, if_pos (by by_cases z : m.toInt64 < n.toInt64 + 1; exact z; exact absurd (h.mpr z) q)]
theorem own_pred (m : Int32) (h : ¬ m < (1 : Int32)) : m - (1 : Int32) < m := by
  have r := rng32 m
  have e := c_isub m 1
  have r1 := rng32 (m - 1)
  rw [show (1 : Int32).toInt = 1 by decide] at e
  rw [Int32.lt_iff_toInt_lt, show (1 : Int32).toInt = 1 by decide] at h
  rw [Int32.lt_iff_toInt_lt]; omega
theorem own_irr (m : Int32) : ¬ m < m := by rw [Int32.lt_iff_toInt_lt]; omega
theorem pd_2 : parseMethodDescriptor "(II)V" = some ⟨[.int, .int], none⟩ := by decide +kernel
theorem pd_3 : parseMethodDescriptor "(I)Z" = some ⟨[.int], some .boolean⟩ := by decide +kernel
theorem pn_2 : plainName "com/example/vireo/vireo/RetryPolicyAllowsAttemptAfterPinLaw" = true := by first | (simp [plainName, overriddenIn]; done) | decide +kernel
theorem ef_0 (m : MethodId) (x0 : Int32) (x1 : Int32) (x2 : Int32)  : entryFrame m #[(.int x0), (.int x1), (.int x2)] maxLocals = mkF m 0 #[.val (.int x0), .val (.int x1), .val (.int x2), .unset, .unset, .unset, .unset, .unset, .unset, .unset] [] := by first | (simp [entryFrame, mkF, argsToLocals, Value.category, maxLocals]; done) | rfl
def Q0 (Z : State) (x0 : Int32) (x1 : Int32) (x2 : Int32) (h0 : Heap) (n0 : Nat) (vE : Option Value) (hE : Heap) (LE : List Loc) : Prop := vE = some (.int (1 : Int32)) ∧ Fr n0 LE
set_option maxRecDepth 65536 in
set_option maxHeartbeats 40000000 in
theorem rm0 (l : Launch) (Z : State) (a0 : Array Value) (hw : ∀ d ∈ tables_1, d.before a0 Z = true) (ws : List Jvm.Cond) (x0 : Int32) (x1 : Int32) (x2 : Int32) (h0 : Heap) (n0 : Nat) (Z0 : n0 ≤ h0.size) :
    MetFree l x (head1 (Jvm.Cond.code x code maxLocals ret :: ws) room_1) (fun a U => a = #[(.int x0), (.int x1), (.int x2)] ∧ Z.Warmed39 U.vm ∧ U.heap = h0) (fun _ _ _ _ _ => True) (fun _ U o U' => ∃ vE LE, o = .returned vE ∧ Q0 Z x0 x1 x2 h0 n0 vE U'.heap LE ∧ ReturnedEndW U o U' LE room_1.cells room_1.slots) := by
  refine MetFree.of_bodySF (plainFor_of_name pn_2) hisR ?_
  intro p e s m args below meth c s₁ Bd hml0 hP hK
  obtain ⟨rfl, hZ, hh⟩ := hP
  have hx := Bd.exec
  have hby := Bd.bytes
  have hml : c.maxLocals = 10 := hml0
  have hown : s.vm.findClass "com/example/vireo/vireo/RetryPolicyAllowsAttemptAfterPinLaw" = some m.cls := findClass_of_methodNamed Bd.named
  have hnm := (name_of_methodNamed Bd.named Bd.method).1
  have X0 : Stand p l e room_1 s m #[(.int x0), (.int x1), (.int x2)] below meth c s₁ [] 0 0 := Stand.of_body Bd
  have e0 : s₁.heap = h0 := by rw [← hh, Bd.state]; rfl
  have N0 := Fr.nil n0
  have st0 : Steps p.tables e below (s₁.setTop (entryFrame m #[(.int x0), (.int x1), (.int x2)] maxLocals)) (s₁.setTop (mkF m 0 #[.val (.int x0), .val (.int x1), .val (.int x2), .unset, .unset, .unset, .unset, .unset, .unset, .unset] [])) := castTop (ef_0 m x0 x1 x2) (Steps.refl _)
  have X0 : Stand p l e room_1 (s.setVm s.vm) m #[(.int x0), (.int x1), (.int x2)] below meth c s₁ [] 0 0 := X0
  have hZ : Z.Warmed39 (s.setVm s.vm).vm := hZ
  have hown : (s.setVm s.vm).vm.findClass "com/example/vireo/vireo/RetryPolicyAllowsAttemptAfterPinLaw" = some m.cls := hown
  obtain ⟨kS, ekS⟩ : ∃ k : Nat, k = 0 := ⟨_, rfl⟩
  have hS : s.Since s.vm kS := (State.WarmedH.refl s).since kS
  have hk : kS ≤ h0.size := by rw [ekS]; exact Nat.zero_le _
  have st1 : Steps p.tables e below (s₁.setTop (entryFrame m #[(.int x0), (.int x1), (.int x2)] maxLocals)) (s₁.setTop (mkF m 9 #[.val (.int x0), .val (.int x1), .val (.int x2), .unset, .unset, .unset, .unset, .unset, .unset, .unset] [(.int ((1 : Int32) + ((x0 &&& (2147483647 : Int32)) % (30 : Int32))))])) := st0.trans (by
      show Steps p.tables e below (s₁.setTop (mkF m 0 #[.val (.int x0), .val (.int x1), .val (.int x2), .unset, .unset, .unset, .unset, .unset, .unset, .unset] [])) _
      refine XS.iconst X0.here hx rfl (hb hby at_0) ?_
      show Steps p.tables e below (s₁.setTop (mkF m 1 #[.val (.int x0), .val (.int x1), .val (.int x2), .unset, .unset, .unset, .unset, .unset, .unset, .unset] [(.int (1 : Int32))])) _
      refine XS.iloadN X0.here hx rfl (hb hby at_1) rfl ?_
      show Steps p.tables e below (s₁.setTop (mkF m 2 #[.val (.int x0), .val (.int x1), .val (.int x2), .unset, .unset, .unset, .unset, .unset, .unset, .unset] [(.int x0), (.int (1 : Int32))])) _
      refine X0.ldcInt hx hown (mvT hZ (hw _ (List.mem_of_getElem? (i := 0) rfl))) (g := (mkF m 2 #[.val (.int x0), .val (.int x1), .val (.int x2), .unset, .unset, .unset, .unset, .unset, .unset, .unset] [(.int x0), (.int (1 : Int32))])) rfl (hb hby at_2) _ ?_
      show Steps p.tables e below (s₁.setTop (mkF m 4 #[.val (.int x0), .val (.int x1), .val (.int x2), .unset, .unset, .unset, .unset, .unset, .unset, .unset] [(.int (2147483647 : Int32)), (.int x0), (.int (1 : Int32))])) _
      refine XS.iand X0.here hx rfl (hb hby at_4) rfl ?_
      show Steps p.tables e below (s₁.setTop (mkF m 5 #[.val (.int x0), .val (.int x1), .val (.int x2), .unset, .unset, .unset, .unset, .unset, .unset, .unset] [(.int (x0 &&& (2147483647 : Int32))), (.int (1 : Int32))])) _
      refine XS.bipush X0.here hx rfl (hb hby at_5) ?_
      show Steps p.tables e below (s₁.setTop (mkF m 7 #[.val (.int x0), .val (.int x1), .val (.int x2), .unset, .unset, .unset, .unset, .unset, .unset, .unset] [(.int (30 : Int32)), (.int (x0 &&& (2147483647 : Int32))), (.int (1 : Int32))])) _
      refine iremM X0 hx rfl (hb hby at_7) rfl (by decide) ?_
      show Steps p.tables e below (s₁.setTop (mkF m 8 #[.val (.int x0), .val (.int x1), .val (.int x2), .unset, .unset, .unset, .unset, .unset, .unset, .unset] [(.int ((x0 &&& (2147483647 : Int32)) % (30 : Int32))), (.int (1 : Int32))])) _
      refine XS.iadd X0.here hx rfl (hb hby at_8) rfl ?_
      exact Steps.refl _)
  obtain ⟨mm, e_mm⟩ : ∃ z, z = ((1 : Int32) + ((x0 &&& (2147483647 : Int32)) % (30 : Int32))) := ⟨_, rfl⟩
  rw [← e_mm] at st1
  have hm := own_m x0 mm 30 30 (by decide) (by decide) (by decide) e_mm
  have st2 : Steps p.tables e below (s₁.setTop (entryFrame m #[(.int x0), (.int x1), (.int x2)] maxLocals)) (s₁.setTop (mkF m 20 #[.val (.int x0), .val (.int x1), .val (.int x2), .val (.int mm), .unset, .unset, .unset, .unset, .unset, .unset] [(.int ((1 : Int32) + ((x1 &&& (2147483647 : Int32)) % (1440 : Int32))))])) := st1.trans (by
      show Steps p.tables e below (s₁.setTop (mkF m 9 #[.val (.int x0), .val (.int x1), .val (.int x2), .unset, .unset, .unset, .unset, .unset, .unset, .unset] [(.int mm)])) _
      refine XS.istoreN X0.here hx rfl (hb hby at_9) rfl (l' := #[.val (.int x0), .val (.int x1), .val (.int x2), .val (.int mm), .unset, .unset, .unset, .unset, .unset, .unset]) rfl ?_
      show Steps p.tables e below (s₁.setTop (mkF m 10 #[.val (.int x0), .val (.int x1), .val (.int x2), .val (.int mm), .unset, .unset, .unset, .unset, .unset, .unset] [])) _
      refine XS.iconst X0.here hx rfl (hb hby at_10) ?_
      show Steps p.tables e below (s₁.setTop (mkF m 11 #[.val (.int x0), .val (.int x1), .val (.int x2), .val (.int mm), .unset, .unset, .unset, .unset, .unset, .unset] [(.int (1 : Int32))])) _
      refine XS.iloadN X0.here hx rfl (hb hby at_11) rfl ?_
      show Steps p.tables e below (s₁.setTop (mkF m 12 #[.val (.int x0), .val (.int x1), .val (.int x2), .val (.int mm), .unset, .unset, .unset, .unset, .unset, .unset] [(.int x1), (.int (1 : Int32))])) _
      refine X0.ldcInt hx hown (mvT hZ (hw _ (List.mem_of_getElem? (i := 0) rfl))) (g := (mkF m 12 #[.val (.int x0), .val (.int x1), .val (.int x2), .val (.int mm), .unset, .unset, .unset, .unset, .unset, .unset] [(.int x1), (.int (1 : Int32))])) rfl (hb hby at_12) _ ?_
      show Steps p.tables e below (s₁.setTop (mkF m 14 #[.val (.int x0), .val (.int x1), .val (.int x2), .val (.int mm), .unset, .unset, .unset, .unset, .unset, .unset] [(.int (2147483647 : Int32)), (.int x1), (.int (1 : Int32))])) _
      refine XS.iand X0.here hx rfl (hb hby at_14) rfl ?_
      show Steps p.tables e below (s₁.setTop (mkF m 15 #[.val (.int x0), .val (.int x1), .val (.int x2), .val (.int mm), .unset, .unset, .unset, .unset, .unset, .unset] [(.int (x1 &&& (2147483647 : Int32))), (.int (1 : Int32))])) _
      refine XS.sipush X0.here hx rfl (hb hby at_15) ?_
      show Steps p.tables e below (s₁.setTop (mkF m 18 #[.val (.int x0), .val (.int x1), .val (.int x2), .val (.int mm), .unset, .unset, .unset, .unset, .unset, .unset] [(.int (1440 : Int32)), (.int (x1 &&& (2147483647 : Int32))), (.int (1 : Int32))])) _
      refine iremM X0 hx rfl (hb hby at_18) rfl (by decide) ?_
      show Steps p.tables e below (s₁.setTop (mkF m 19 #[.val (.int x0), .val (.int x1), .val (.int x2), .val (.int mm), .unset, .unset, .unset, .unset, .unset, .unset] [(.int ((x1 &&& (2147483647 : Int32)) % (1440 : Int32))), (.int (1 : Int32))])) _
      refine XS.iadd X0.here hx rfl (hb hby at_19) rfl ?_
      exact Steps.refl _)
  obtain ⟨tt, e_tt⟩ : ∃ z, z = ((1 : Int32) + ((x1 &&& (2147483647 : Int32)) % (1440 : Int32))) := ⟨_, rfl⟩
  rw [← e_tt] at st2
  have ht := own_m x1 tt 1440 1440 (by decide) (by decide) (by decide) e_tt
  have st3 : Steps p.tables e below (s₁.setTop (entryFrame m #[(.int x0), (.int x1), (.int x2)] maxLocals)) (s₁.setTop (mkF m 22 #[.val (.int x0), .val (.int x1), .val (.int x2), .val (.int mm), .val (.int tt), .unset, .unset, .unset, .unset, .unset] [])) := st2.trans (by
      show Steps p.tables e below (s₁.setTop (mkF m 20 #[.val (.int x0), .val (.int x1), .val (.int x2), .val (.int mm), .unset, .unset, .unset, .unset, .unset, .unset] [(.int tt)])) _
      refine XS.istore X0.here hx rfl (hb hby at_20) rfl (l' := #[.val (.int x0), .val (.int x1), .val (.int x2), .val (.int mm), .val (.int tt), .unset, .unset, .unset, .unset, .unset]) rfl ?_
      exact Steps.refl _)
  obtain ⟨T4, h4, X4, e4, E4, A4, D4, -, sr4⟩ := newO X0 hx hZ hown (hw _ (List.mem_of_getElem? (i := 1) rfl)) (hw _ (List.mem_of_getElem? (i := 2) rfl)) (hw _ (List.mem_of_getElem? (i := 3) rfl)) e0 (g := (mkF m 22 #[.val (.int x0), .val (.int x1), .val (.int x2), .val (.int mm), .val (.int tt), .unset, .unset, .unset, .unset, .unset] [])) rfl (hb hby at_22) (by decide) (by decide)
  obtain ⟨b4, g4⟩ : ∃ z, z = h0.size := ⟨_, rfl⟩
  rw [← g4] at A4 D4 sr4
  have g_b4 : n0 ≤ b4 := Nat.le_trans Z0 (Nat.le_of_eq g4.symm)
  have f5 : Fld Z h4 b4 "com/example/vireo/vireo/RetryPolicy" "maxDeliveryAttempts" "I" (.int (0 : Int32)) := D4 (Or.inr (hw _ (List.mem_of_getElem? (i := 28) rfl))) (ty := .int) (by decide)
  have f6 : Fld Z h4 b4 "com/example/vireo/vireo/RetryPolicy" "eventTimeToLiveInMinutes" "I" (.int (0 : Int32)) := D4 (Or.inr (hw _ (List.mem_of_getElem? (i := 30) rfl))) (ty := .int) (by decide)
  have Z4 : n0 ≤ h4.size := Nat.le_trans Z0 E4.1
  have hk : kS ≤ h4.size := Nat.le_trans hk E4.1
  have st7 : Steps p.tables e below (s₁.setTop (entryFrame m #[(.int x0), (.int x1), (.int x2)] maxLocals)) (T4.setTop (mkF m 25 #[.val (.int x0), .val (.int x1), .val (.int x2), .val (.int mm), .val (.int tt), .unset, .unset, .unset, .unset, .unset] [(.ref b4)])) := st3.trans (sr4 _ (Steps.refl _))
  have st8 : Steps p.tables e below (s₁.setTop (entryFrame m #[(.int x0), (.int x1), (.int x2)] maxLocals)) (T4.setTop (mkF m 29 #[.val (.int x0), .val (.int x1), .val (.int x2), .val (.int mm), .val (.int tt), .unset, .unset, .unset, .unset, .unset] [(.int tt), (.int mm), (.ref b4), (.ref b4)])) := st7.trans (by
      show Steps p.tables e below (T4.setTop (mkF m 25 #[.val (.int x0), .val (.int x1), .val (.int x2), .val (.int mm), .val (.int tt), .unset, .unset, .unset, .unset, .unset] [(.ref b4)])) _
      refine XS.dup X4.here hx rfl (hb hby at_25) rfl rfl ?_
      show Steps p.tables e below (T4.setTop (mkF m 26 #[.val (.int x0), .val (.int x1), .val (.int x2), .val (.int mm), .val (.int tt), .unset, .unset, .unset, .unset, .unset] [(.ref b4), (.ref b4)])) _
      refine XS.iloadN X4.here hx rfl (hb hby at_26) rfl ?_
      show Steps p.tables e below (T4.setTop (mkF m 27 #[.val (.int x0), .val (.int x1), .val (.int x2), .val (.int mm), .val (.int tt), .unset, .unset, .unset, .unset, .unset] [(.int mm), (.ref b4), (.ref b4)])) _
      refine XS.iload X4.here hx rfl (hb hby at_27) rfl ?_
      exact Steps.refl _)
  obtain ⟨_, _, ⟨T9, L9, k9, n9⟩, -, X9, hSn9, hgn9, ⟨Lc9, hQ9, l9, y9, z9⟩, sr9⟩ := X4.specialBackS hx (y := (⟨"com/example/vireo/vireo/RetryPolicy", "<init>", "(II)V"⟩ : MethodName)) rfl hown (mvT hZ (hw _ (List.mem_of_getElem? (i := 4) rfl))) (mvT hZ (hw _ (List.mem_of_getElem? (i := 5) rfl))) (mvT hZ (hw _ (List.mem_of_getElem? (i := 6) rfl))) (by decide) (backOfS (W := 1) (rm1 l Z a0 hw [] b4 mm tt  h4 n0 Z4 A4 f5 f6 g_b4 hm.1 hm.2 ht.1 ht.2) hZ (hw _ (List.mem_of_getElem? (i := 6) rfl)) (hw _ (List.mem_of_getElem? (i := 3) rfl)) (by decide) (by decide)) (g := (mkF m 29 #[.val (.int x0), .val (.int x1), .val (.int x2), .val (.int mm), .val (.int tt), .unset, .unset, .unset, .unset, .unset] [(.int tt), (.int mm), (.ref b4), (.ref b4)])) rfl (by rw [hml]; rfl) (Steps.refl _) (a := b4) (argsL := [(.int mm), (.int tt)]) (rest := [(.ref b4)]) (lenOf pd_2 rfl) rfl (by show 2 * 0 + _ ≤ _; exact Nat.le_of_eq rfl) (hb hby at_29) (fun _ _ => ⟨rfl, e4, (by decide : 1 + 4 ≤ _), (by decide : 2 + 180 ≤ _)⟩)
  dsimp only [Pt.U, Pt.locs, Pt.cells, Pt.slots] at X9 l9 y9 z9 sr9 hQ9 hSn9 hgn9
  obtain ⟨X9, hS, hZ, hown⟩ := rebS hS (by rw [e4]; exact hk) X9 hSn9 hgn9 hZ hown
  have hk := Nat.le_refl T9.heap.size
  obtain ⟨kS, ekS⟩ : ∃ z, z = T9.heap.size := ⟨_, rfl⟩
  rw [← ekS] at hS
  have hk : kS ≤ T9.heap.size := Nat.le_of_eq ekS
  subst l9 y9 z9
  obtain ⟨rfl, N9q, K9c, f9_0, f9_1, f9_2⟩ := hQ9
  have N9 := Fr.app N0 N9q
  have f10 : Exa Z T9.heap b4 "com/example/vireo/vireo/RetryPolicy" := A4.keep K9c
  have Z11 : n0 ≤ T9.heap.size := Nat.le_trans Z4 K9c.1
  have st12 : Steps p.tables e below (s₁.setTop (entryFrame m #[(.int x0), (.int x1), (.int x2)] maxLocals)) (T9.setTop (mkF m 32 #[.val (.int x0), .val (.int x1), .val (.int x2), .val (.int mm), .val (.int tt), .unset, .unset, .unset, .unset, .unset] [(.ref b4)])) := st8.trans (sr9)
  have st13 : Steps p.tables e below (s₁.setTop (entryFrame m #[(.int x0), (.int x1), (.int x2)] maxLocals)) (T9.setTop (mkF m 37 #[.val (.int x0), .val (.int x1), .val (.int x2), .val (.int mm), .val (.int tt), .val (.ref b4), .unset, .unset, .unset, .unset] [(.int x2), (.ref b4)])) := st12.trans (by
      show Steps p.tables e below (T9.setTop (mkF m 32 #[.val (.int x0), .val (.int x1), .val (.int x2), .val (.int mm), .val (.int tt), .unset, .unset, .unset, .unset, .unset] [(.ref b4)])) _
      refine XS.astore X9.here hx rfl (hb hby at_32) rfl rfl (l' := #[.val (.int x0), .val (.int x1), .val (.int x2), .val (.int mm), .val (.int tt), .val (.ref b4), .unset, .unset, .unset, .unset]) rfl ?_
      show Steps p.tables e below (T9.setTop (mkF m 34 #[.val (.int x0), .val (.int x1), .val (.int x2), .val (.int mm), .val (.int tt), .val (.ref b4), .unset, .unset, .unset, .unset] [])) _
      refine XS.aload X9.here hx rfl (hb hby at_34) rfl rfl ?_
      show Steps p.tables e below (T9.setTop (mkF m 36 #[.val (.int x0), .val (.int x1), .val (.int x2), .val (.int mm), .val (.int tt), .val (.ref b4), .unset, .unset, .unset, .unset] [(.ref b4)])) _
      refine XS.iloadN X9.here hx rfl (hb hby at_36) rfl ?_
      exact Steps.refl _)
  obtain ⟨cq14, kq14, q14a, q14b, q14c⟩ := isOf hZ rfl f9_0
  obtain ⟨_, _, ⟨T14, L14, k14, n14⟩, -, X14, ⟨Lc14, hQ14, l14, y14, z14⟩, sr14⟩ := X9.virtualBack hx (y := (⟨"com/example/vireo/vireo/RetryPolicy", "allowsAttemptAfter", "(I)Z"⟩ : MethodName)) (z := (⟨"com/example/vireo/vireo/RetryPolicy", "allowsAttemptAfter", "(I)Z"⟩ : MethodName)) hown (mvT hZ (hw _ (List.mem_of_getElem? (i := 31) rfl))) (mvT hZ (hw _ (List.mem_of_getElem? (i := 32) rfl))) (notFace_of_selects (args := #[]) (mvT hZ (hw _ (List.mem_of_getElem? (i := 34) rfl)))) (mvT hZ (hw _ (List.mem_of_getElem? (i := 34) rfl))) (mvT hZ (hw _ (List.mem_of_getElem? (i := 33) rfl))) (by decide) (backOf (W := 0) (rm5 l Z a0 hw [] b4 x2 mm T9.heap n0 Z11 f9_1) hZ (hw _ (List.mem_of_getElem? (i := 35) rfl)) (hw _ (List.mem_of_getElem? (i := 3) rfl)) (by decide) (by decide)) q14a q14c (g := (mkF m 37 #[.val (.int x0), .val (.int x1), .val (.int x2), .val (.int mm), .val (.int tt), .val (.ref b4), .unset, .unset, .unset, .unset] [(.int x2), (.ref b4)])) rfl (by rw [hml]; rfl) (Steps.refl _) (argsL := [(.int x2)]) (rest := []) (lenOf pd_3 rfl) rfl (by show 2 * 0 + _ ≤ _; exact Nat.le_of_eq rfl) (hb hby at_37) (fun _ _ => ⟨rfl, rfl, (by decide : 5 + 0 ≤ _), (by decide : 182 + 0 ≤ _)⟩)
  dsimp only [Pt.U, Pt.locs, Pt.cells, Pt.slots] at X14 l14 y14 z14 sr14 hQ14
  subst l14 y14 z14
  obtain ⟨rfl, N14q, hh14⟩ := hQ14
  have N14 := Fr.app N9 N14q
  have st15 : Steps p.tables e below (s₁.setTop (entryFrame m #[(.int x0), (.int x1), (.int x2)] maxLocals)) (T14.setTop (mkF m 40 #[.val (.int x0), .val (.int x1), .val (.int x2), .val (.int mm), .val (.int tt), .val (.ref b4), .unset, .unset, .unset, .unset] [(.int (if x2 < mm then (1 : Int32) else (0 : Int32)))])) := st13.trans (sr14)
  have st16 : Steps p.tables e below (s₁.setTop (entryFrame m #[(.int x0), (.int x1), (.int x2)] maxLocals)) (T14.setTop (mkF m 49 #[.val (.int x0), .val (.int x1), .val (.int x2), .val (.int mm), .val (.int tt), .val (.ref b4), .val (.int (if x2 < mm then (1 : Int32) else (0 : Int32))), .unset, .unset, .unset] [(.int (lcmpW ((x2.toInt64) + (1 : Int64)) (mm.toInt64)))])) := st15.trans (by
      show Steps p.tables e below (T14.setTop (mkF m 40 #[.val (.int x0), .val (.int x1), .val (.int x2), .val (.int mm), .val (.int tt), .val (.ref b4), .unset, .unset, .unset, .unset] [(.int (if x2 < mm then (1 : Int32) else (0 : Int32)))])) _
      refine XS.istore X14.here hx rfl (hb hby at_40) rfl (l' := #[.val (.int x0), .val (.int x1), .val (.int x2), .val (.int mm), .val (.int tt), .val (.ref b4), .val (.int (if x2 < mm then (1 : Int32) else (0 : Int32))), .unset, .unset, .unset]) rfl ?_
      show Steps p.tables e below (T14.setTop (mkF m 42 #[.val (.int x0), .val (.int x1), .val (.int x2), .val (.int mm), .val (.int tt), .val (.ref b4), .val (.int (if x2 < mm then (1 : Int32) else (0 : Int32))), .unset, .unset, .unset] [])) _
      refine XS.iloadN X14.here hx rfl (hb hby at_42) rfl ?_
      show Steps p.tables e below (T14.setTop (mkF m 43 #[.val (.int x0), .val (.int x1), .val (.int x2), .val (.int mm), .val (.int tt), .val (.ref b4), .val (.int (if x2 < mm then (1 : Int32) else (0 : Int32))), .unset, .unset, .unset] [(.int x2)])) _
      refine XS.i2l X14.here hx rfl (hb hby at_43) rfl ?_
      show Steps p.tables e below (T14.setTop (mkF m 44 #[.val (.int x0), .val (.int x1), .val (.int x2), .val (.int mm), .val (.int tt), .val (.ref b4), .val (.int (if x2 < mm then (1 : Int32) else (0 : Int32))), .unset, .unset, .unset] [(.long (x2.toInt64))])) _
      refine XS.lconst X14.here hx rfl (hb hby at_44) ?_
      show Steps p.tables e below (T14.setTop (mkF m 45 #[.val (.int x0), .val (.int x1), .val (.int x2), .val (.int mm), .val (.int tt), .val (.ref b4), .val (.int (if x2 < mm then (1 : Int32) else (0 : Int32))), .unset, .unset, .unset] [(.long (1 : Int64)), (.long (x2.toInt64))])) _
      refine XS.ladd X14.here hx rfl (hb hby at_45) rfl ?_
      show Steps p.tables e below (T14.setTop (mkF m 46 #[.val (.int x0), .val (.int x1), .val (.int x2), .val (.int mm), .val (.int tt), .val (.ref b4), .val (.int (if x2 < mm then (1 : Int32) else (0 : Int32))), .unset, .unset, .unset] [(.long ((x2.toInt64) + (1 : Int64)))])) _
      refine XS.iloadN X14.here hx rfl (hb hby at_46) rfl ?_
      show Steps p.tables e below (T14.setTop (mkF m 47 #[.val (.int x0), .val (.int x1), .val (.int x2), .val (.int mm), .val (.int tt), .val (.ref b4), .val (.int (if x2 < mm then (1 : Int32) else (0 : Int32))), .unset, .unset, .unset] [(.int mm), (.long ((x2.toInt64) + (1 : Int64)))])) _
      refine XS.i2l X14.here hx rfl (hb hby at_47) rfl ?_
      show Steps p.tables e below (T14.setTop (mkF m 48 #[.val (.int x0), .val (.int x1), .val (.int x2), .val (.int mm), .val (.int tt), .val (.ref b4), .val (.int (if x2 < mm then (1 : Int32) else (0 : Int32))), .unset, .unset, .unset] [(.long (mm.toInt64)), (.long ((x2.toInt64) + (1 : Int64)))])) _
      refine XS.lcmp X14.here hx rfl (hb hby at_48) rfl ?_
      exact Steps.refl _)
  have st18 : Steps p.tables e below (s₁.setTop (entryFrame m #[(.int x0), (.int x1), (.int x2)] maxLocals)) (T14.setTop (mkF m 57 #[.val (.int x0), .val (.int x1), .val (.int x2), .val (.int mm), .val (.int tt), .val (.ref b4), .val (.int (if x2 < mm then (1 : Int32) else (0 : Int32))), .unset, .unset, .unset] [(.int (if (mm.toInt64) < ((x2.toInt64) + (1 : Int64)) then (0 : Int32) else (1 : Int32)))])) := st16.trans (by
      show Steps p.tables e below (T14.setTop (mkF m 49 #[.val (.int x0), .val (.int x1), .val (.int x2), .val (.int mm), .val (.int tt), .val (.ref b4), .val (.int (if x2 < mm then (1 : Int32) else (0 : Int32))), .unset, .unset, .unset] [(.int (lcmpW ((x2.toInt64) + (1 : Int64)) (mm.toInt64)))])) _
      by_cases hc17 : (mm.toInt64) < ((x2.toInt64) + (1 : Int64))
      · show Steps p.tables e below (T14.setTop (mkF m 49 #[.val (.int x0), .val (.int x1), .val (.int x2), .val (.int mm), .val (.int tt), .val (.ref b4), .val (.int (if x2 < mm then (1 : Int32) else (0 : Int32))), .unset, .unset, .unset] [(.int (lcmpW ((x2.toInt64) + (1 : Int64)) (mm.toInt64)))])) _
        refine XS.ifYes X14.here hx rfl (pc0 := 49) (pc' := 56) rfl (hb hby at_49) rfl ((if0 _ _).trans (tlt ((lw_gt _ _).mpr hc17)).2.2.1) (by decide) (by decide) ?_
        show Steps p.tables e below (T14.setTop (mkF m 56 #[.val (.int x0), .val (.int x1), .val (.int x2), .val (.int mm), .val (.int tt), .val (.ref b4), .val (.int (if x2 < mm then (1 : Int32) else (0 : Int32))), .unset, .unset, .unset] [])) _
        refine XS.iconst X14.here hx rfl (hb hby at_56) ?_
        simp only [if_pos hc17]
        exact Steps.refl _
      · show Steps p.tables e below (T14.setTop (mkF m 49 #[.val (.int x0), .val (.int x1), .val (.int x2), .val (.int mm), .val (.int tt), .val (.ref b4), .val (.int (if x2 < mm then (1 : Int32) else (0 : Int32))), .unset, .unset, .unset] [(.int (lcmpW ((x2.toInt64) + (1 : Int64)) (mm.toInt64)))])) _
        refine XS.ifNo X14.here hx rfl (hb hby at_49) rfl ((if0 _ _).trans (flt (fun q => hc17 ((lw_gt _ _).mp q))).2.2.1) ?_
        show Steps p.tables e below (T14.setTop (mkF m 52 #[.val (.int x0), .val (.int x1), .val (.int x2), .val (.int mm), .val (.int tt), .val (.ref b4), .val (.int (if x2 < mm then (1 : Int32) else (0 : Int32))), .unset, .unset, .unset] [])) _
        refine XS.iconst X14.here hx rfl (hb hby at_52) ?_
        show Steps p.tables e below (T14.setTop (mkF m 53 #[.val (.int x0), .val (.int x1), .val (.int x2), .val (.int mm), .val (.int tt), .val (.ref b4), .val (.int (if x2 < mm then (1 : Int32) else (0 : Int32))), .unset, .unset, .unset] [(.int (1 : Int32))])) _
        refine XS.goto X14.here hx rfl (pc0 := 53) (pc' := 57) rfl (hb hby at_53) (by decide) (by decide) ?_
        simp only [if_neg hc17]
        exact Steps.refl _
      )
  have st19 : Steps p.tables e below (s₁.setTop (entryFrame m #[(.int x0), (.int x1), (.int x2)] maxLocals)) (T14.setTop (mkF m 64 #[.val (.int x0), .val (.int x1), .val (.int x2), .val (.int mm), .val (.int tt), .val (.ref b4), .val (.int (if x2 < mm then (1 : Int32) else (0 : Int32))), .val (.int (if (mm.toInt64) < ((x2.toInt64) + (1 : Int64)) then (0 : Int32) else (1 : Int32))), .unset, .unset] [(.int (mm - (1 : Int32))), (.ref b4)])) := st18.trans (by
      show Steps p.tables e below (T14.setTop (mkF m 57 #[.val (.int x0), .val (.int x1), .val (.int x2), .val (.int mm), .val (.int tt), .val (.ref b4), .val (.int (if x2 < mm then (1 : Int32) else (0 : Int32))), .unset, .unset, .unset] [(.int (if (mm.toInt64) < ((x2.toInt64) + (1 : Int64)) then (0 : Int32) else (1 : Int32)))])) _
      refine XS.istore X14.here hx rfl (hb hby at_57) rfl (l' := #[.val (.int x0), .val (.int x1), .val (.int x2), .val (.int mm), .val (.int tt), .val (.ref b4), .val (.int (if x2 < mm then (1 : Int32) else (0 : Int32))), .val (.int (if (mm.toInt64) < ((x2.toInt64) + (1 : Int64)) then (0 : Int32) else (1 : Int32))), .unset, .unset]) rfl ?_
      show Steps p.tables e below (T14.setTop (mkF m 59 #[.val (.int x0), .val (.int x1), .val (.int x2), .val (.int mm), .val (.int tt), .val (.ref b4), .val (.int (if x2 < mm then (1 : Int32) else (0 : Int32))), .val (.int (if (mm.toInt64) < ((x2.toInt64) + (1 : Int64)) then (0 : Int32) else (1 : Int32))), .unset, .unset] [])) _
      refine XS.aload X14.here hx rfl (hb hby at_59) rfl rfl ?_
      show Steps p.tables e below (T14.setTop (mkF m 61 #[.val (.int x0), .val (.int x1), .val (.int x2), .val (.int mm), .val (.int tt), .val (.ref b4), .val (.int (if x2 < mm then (1 : Int32) else (0 : Int32))), .val (.int (if (mm.toInt64) < ((x2.toInt64) + (1 : Int64)) then (0 : Int32) else (1 : Int32))), .unset, .unset] [(.ref b4)])) _
      refine XS.iloadN X14.here hx rfl (hb hby at_61) rfl ?_
      show Steps p.tables e below (T14.setTop (mkF m 62 #[.val (.int x0), .val (.int x1), .val (.int x2), .val (.int mm), .val (.int tt), .val (.ref b4), .val (.int (if x2 < mm then (1 : Int32) else (0 : Int32))), .val (.int (if (mm.toInt64) < ((x2.toInt64) + (1 : Int64)) then (0 : Int32) else (1 : Int32))), .unset, .unset] [(.int mm), (.ref b4)])) _
      refine XS.iconst X14.here hx rfl (hb hby at_62) ?_
      show Steps p.tables e below (T14.setTop (mkF m 63 #[.val (.int x0), .val (.int x1), .val (.int x2), .val (.int mm), .val (.int tt), .val (.ref b4), .val (.int (if x2 < mm then (1 : Int32) else (0 : Int32))), .val (.int (if (mm.toInt64) < ((x2.toInt64) + (1 : Int64)) then (0 : Int32) else (1 : Int32))), .unset, .unset] [(.int (1 : Int32)), (.int mm), (.ref b4)])) _
      refine XS.isub X14.here hx rfl (hb hby at_63) rfl ?_
      exact Steps.refl _)
  obtain ⟨cq20, kq20, q20a, q20b, q20c⟩ := isOf hZ hh14 f9_0
  obtain ⟨_, _, ⟨T20, L20, k20, n20⟩, -, X20, ⟨Lc20, hQ20, l20, y20, z20⟩, sr20⟩ := X14.virtualBack hx (y := (⟨"com/example/vireo/vireo/RetryPolicy", "allowsAttemptAfter", "(I)Z"⟩ : MethodName)) (z := (⟨"com/example/vireo/vireo/RetryPolicy", "allowsAttemptAfter", "(I)Z"⟩ : MethodName)) hown (mvT hZ (hw _ (List.mem_of_getElem? (i := 31) rfl))) (mvT hZ (hw _ (List.mem_of_getElem? (i := 32) rfl))) (notFace_of_selects (args := #[]) (mvT hZ (hw _ (List.mem_of_getElem? (i := 34) rfl)))) (mvT hZ (hw _ (List.mem_of_getElem? (i := 34) rfl))) (mvT hZ (hw _ (List.mem_of_getElem? (i := 33) rfl))) (by decide) (backOf (W := 0) (rm5 l Z a0 hw [] b4 (mm - (1 : Int32)) mm T9.heap n0 Z11 f9_1) hZ (hw _ (List.mem_of_getElem? (i := 35) rfl)) (hw _ (List.mem_of_getElem? (i := 3) rfl)) (by decide) (by decide)) q20a q20c (g := (mkF m 64 #[.val (.int x0), .val (.int x1), .val (.int x2), .val (.int mm), .val (.int tt), .val (.ref b4), .val (.int (if x2 < mm then (1 : Int32) else (0 : Int32))), .val (.int (if (mm.toInt64) < ((x2.toInt64) + (1 : Int64)) then (0 : Int32) else (1 : Int32))), .unset, .unset] [(.int (mm - (1 : Int32))), (.ref b4)])) rfl (by rw [hml]; rfl) (Steps.refl _) (argsL := [(.int (mm - (1 : Int32)))]) (rest := []) (lenOf pd_3 rfl) rfl (by show 2 * 0 + _ ≤ _; exact Nat.le_of_eq rfl) (hb hby at_64) (fun _ _ => ⟨rfl, hh14, (by decide : 5 + 0 ≤ _), (by decide : 182 + 0 ≤ _)⟩)
  dsimp only [Pt.U, Pt.locs, Pt.cells, Pt.slots] at X20 l20 y20 z20 sr20 hQ20
  subst l20 y20 z20
  obtain ⟨rfl, N20q, hh20⟩ := hQ20
  have N20 := Fr.app N14 N20q
  have st21 : Steps p.tables e below (s₁.setTop (entryFrame m #[(.int x0), (.int x1), (.int x2)] maxLocals)) (T20.setTop (mkF m 67 #[.val (.int x0), .val (.int x1), .val (.int x2), .val (.int mm), .val (.int tt), .val (.ref b4), .val (.int (if x2 < mm then (1 : Int32) else (0 : Int32))), .val (.int (if (mm.toInt64) < ((x2.toInt64) + (1 : Int64)) then (0 : Int32) else (1 : Int32))), .unset, .unset] [(.int (if (mm - (1 : Int32)) < mm then (1 : Int32) else (0 : Int32)))])) := st19.trans (sr20)
  have st22 : Steps p.tables e below (s₁.setTop (entryFrame m #[(.int x0), (.int x1), (.int x2)] maxLocals)) (T20.setTop (mkF m 72 #[.val (.int x0), .val (.int x1), .val (.int x2), .val (.int mm), .val (.int tt), .val (.ref b4), .val (.int (if x2 < mm then (1 : Int32) else (0 : Int32))), .val (.int (if (mm.toInt64) < ((x2.toInt64) + (1 : Int64)) then (0 : Int32) else (1 : Int32))), .val (.int (if (mm - (1 : Int32)) < mm then (1 : Int32) else (0 : Int32))), .unset] [(.int mm), (.ref b4)])) := st21.trans (by
      show Steps p.tables e below (T20.setTop (mkF m 67 #[.val (.int x0), .val (.int x1), .val (.int x2), .val (.int mm), .val (.int tt), .val (.ref b4), .val (.int (if x2 < mm then (1 : Int32) else (0 : Int32))), .val (.int (if (mm.toInt64) < ((x2.toInt64) + (1 : Int64)) then (0 : Int32) else (1 : Int32))), .unset, .unset] [(.int (if (mm - (1 : Int32)) < mm then (1 : Int32) else (0 : Int32)))])) _
      refine XS.istore X20.here hx rfl (hb hby at_67) rfl (l' := #[.val (.int x0), .val (.int x1), .val (.int x2), .val (.int mm), .val (.int tt), .val (.ref b4), .val (.int (if x2 < mm then (1 : Int32) else (0 : Int32))), .val (.int (if (mm.toInt64) < ((x2.toInt64) + (1 : Int64)) then (0 : Int32) else (1 : Int32))), .val (.int (if (mm - (1 : Int32)) < mm then (1 : Int32) else (0 : Int32))), .unset]) rfl ?_
      show Steps p.tables e below (T20.setTop (mkF m 69 #[.val (.int x0), .val (.int x1), .val (.int x2), .val (.int mm), .val (.int tt), .val (.ref b4), .val (.int (if x2 < mm then (1 : Int32) else (0 : Int32))), .val (.int (if (mm.toInt64) < ((x2.toInt64) + (1 : Int64)) then (0 : Int32) else (1 : Int32))), .val (.int (if (mm - (1 : Int32)) < mm then (1 : Int32) else (0 : Int32))), .unset] [])) _
      refine XS.aload X20.here hx rfl (hb hby at_69) rfl rfl ?_
      show Steps p.tables e below (T20.setTop (mkF m 71 #[.val (.int x0), .val (.int x1), .val (.int x2), .val (.int mm), .val (.int tt), .val (.ref b4), .val (.int (if x2 < mm then (1 : Int32) else (0 : Int32))), .val (.int (if (mm.toInt64) < ((x2.toInt64) + (1 : Int64)) then (0 : Int32) else (1 : Int32))), .val (.int (if (mm - (1 : Int32)) < mm then (1 : Int32) else (0 : Int32))), .unset] [(.ref b4)])) _
      refine XS.iloadN X20.here hx rfl (hb hby at_71) rfl ?_
      exact Steps.refl _)
  obtain ⟨cq23, kq23, q23a, q23b, q23c⟩ := isOf hZ hh20 f9_0
  obtain ⟨_, _, ⟨T23, L23, k23, n23⟩, -, X23, ⟨Lc23, hQ23, l23, y23, z23⟩, sr23⟩ := X20.virtualBack hx (y := (⟨"com/example/vireo/vireo/RetryPolicy", "allowsAttemptAfter", "(I)Z"⟩ : MethodName)) (z := (⟨"com/example/vireo/vireo/RetryPolicy", "allowsAttemptAfter", "(I)Z"⟩ : MethodName)) hown (mvT hZ (hw _ (List.mem_of_getElem? (i := 31) rfl))) (mvT hZ (hw _ (List.mem_of_getElem? (i := 32) rfl))) (notFace_of_selects (args := #[]) (mvT hZ (hw _ (List.mem_of_getElem? (i := 34) rfl)))) (mvT hZ (hw _ (List.mem_of_getElem? (i := 34) rfl))) (mvT hZ (hw _ (List.mem_of_getElem? (i := 33) rfl))) (by decide) (backOf (W := 0) (rm5 l Z a0 hw [] b4 mm mm T9.heap n0 Z11 f9_1) hZ (hw _ (List.mem_of_getElem? (i := 35) rfl)) (hw _ (List.mem_of_getElem? (i := 3) rfl)) (by decide) (by decide)) q23a q23c (g := (mkF m 72 #[.val (.int x0), .val (.int x1), .val (.int x2), .val (.int mm), .val (.int tt), .val (.ref b4), .val (.int (if x2 < mm then (1 : Int32) else (0 : Int32))), .val (.int (if (mm.toInt64) < ((x2.toInt64) + (1 : Int64)) then (0 : Int32) else (1 : Int32))), .val (.int (if (mm - (1 : Int32)) < mm then (1 : Int32) else (0 : Int32))), .unset] [(.int mm), (.ref b4)])) rfl (by rw [hml]; rfl) (Steps.refl _) (argsL := [(.int mm)]) (rest := []) (lenOf pd_3 rfl) rfl (by show 2 * 0 + _ ≤ _; exact Nat.le_of_eq rfl) (hb hby at_72) (fun _ _ => ⟨rfl, hh20, (by decide : 5 + 0 ≤ _), (by decide : 182 + 0 ≤ _)⟩)
  dsimp only [Pt.U, Pt.locs, Pt.cells, Pt.slots] at X23 l23 y23 z23 sr23 hQ23
  subst l23 y23 z23
  obtain ⟨rfl, N23q, hh23⟩ := hQ23
  have N23 := Fr.app N20 N23q
  have st24 : Steps p.tables e below (s₁.setTop (entryFrame m #[(.int x0), (.int x1), (.int x2)] maxLocals)) (T23.setTop (mkF m 75 #[.val (.int x0), .val (.int x1), .val (.int x2), .val (.int mm), .val (.int tt), .val (.ref b4), .val (.int (if x2 < mm then (1 : Int32) else (0 : Int32))), .val (.int (if (mm.toInt64) < ((x2.toInt64) + (1 : Int64)) then (0 : Int32) else (1 : Int32))), .val (.int (if (mm - (1 : Int32)) < mm then (1 : Int32) else (0 : Int32))), .unset] [(.int (if mm < mm then (1 : Int32) else (0 : Int32)))])) := st22.trans (sr23)
  have st26 : Steps p.tables e below (s₁.setTop (entryFrame m #[(.int x0), (.int x1), (.int x2)] maxLocals)) (T23.setTop (mkF m 83 #[.val (.int x0), .val (.int x1), .val (.int x2), .val (.int mm), .val (.int tt), .val (.ref b4), .val (.int (if x2 < mm then (1 : Int32) else (0 : Int32))), .val (.int (if (mm.toInt64) < ((x2.toInt64) + (1 : Int64)) then (0 : Int32) else (1 : Int32))), .val (.int (if (mm - (1 : Int32)) < mm then (1 : Int32) else (0 : Int32))), .unset] [(.int (if mm < mm then (0 : Int32) else (1 : Int32)))])) := st24.trans (by
      show Steps p.tables e below (T23.setTop (mkF m 75 #[.val (.int x0), .val (.int x1), .val (.int x2), .val (.int mm), .val (.int tt), .val (.ref b4), .val (.int (if x2 < mm then (1 : Int32) else (0 : Int32))), .val (.int (if (mm.toInt64) < ((x2.toInt64) + (1 : Int64)) then (0 : Int32) else (1 : Int32))), .val (.int (if (mm - (1 : Int32)) < mm then (1 : Int32) else (0 : Int32))), .unset] [(.int (if mm < mm then (1 : Int32) else (0 : Int32)))])) _
      by_cases hc25 : mm < mm
      · show Steps p.tables e below (T23.setTop (mkF m 75 #[.val (.int x0), .val (.int x1), .val (.int x2), .val (.int mm), .val (.int tt), .val (.ref b4), .val (.int (if x2 < mm then (1 : Int32) else (0 : Int32))), .val (.int (if (mm.toInt64) < ((x2.toInt64) + (1 : Int64)) then (0 : Int32) else (1 : Int32))), .val (.int (if (mm - (1 : Int32)) < mm then (1 : Int32) else (0 : Int32))), .unset] [(.int (if mm < mm then (1 : Int32) else (0 : Int32)))])) _
        refine XS.ifYes X23.here hx rfl (pc0 := 75) (pc' := 82) rfl (hb hby at_75) rfl (own_bt hc25).2 (by decide) (by decide) ?_
        show Steps p.tables e below (T23.setTop (mkF m 82 #[.val (.int x0), .val (.int x1), .val (.int x2), .val (.int mm), .val (.int tt), .val (.ref b4), .val (.int (if x2 < mm then (1 : Int32) else (0 : Int32))), .val (.int (if (mm.toInt64) < ((x2.toInt64) + (1 : Int64)) then (0 : Int32) else (1 : Int32))), .val (.int (if (mm - (1 : Int32)) < mm then (1 : Int32) else (0 : Int32))), .unset] [])) _
        refine XS.iconst X23.here hx rfl (hb hby at_82) ?_
        simp only [if_pos hc25]
        exact Steps.refl _
      · show Steps p.tables e below (T23.setTop (mkF m 75 #[.val (.int x0), .val (.int x1), .val (.int x2), .val (.int mm), .val (.int tt), .val (.ref b4), .val (.int (if x2 < mm then (1 : Int32) else (0 : Int32))), .val (.int (if (mm.toInt64) < ((x2.toInt64) + (1 : Int64)) then (0 : Int32) else (1 : Int32))), .val (.int (if (mm - (1 : Int32)) < mm then (1 : Int32) else (0 : Int32))), .unset] [(.int (if mm < mm then (1 : Int32) else (0 : Int32)))])) _
        refine XS.ifNo X23.here hx rfl (hb hby at_75) rfl (own_bf hc25).2 ?_
        show Steps p.tables e below (T23.setTop (mkF m 78 #[.val (.int x0), .val (.int x1), .val (.int x2), .val (.int mm), .val (.int tt), .val (.ref b4), .val (.int (if x2 < mm then (1 : Int32) else (0 : Int32))), .val (.int (if (mm.toInt64) < ((x2.toInt64) + (1 : Int64)) then (0 : Int32) else (1 : Int32))), .val (.int (if (mm - (1 : Int32)) < mm then (1 : Int32) else (0 : Int32))), .unset] [])) _
        refine XS.iconst X23.here hx rfl (hb hby at_78) ?_
        show Steps p.tables e below (T23.setTop (mkF m 79 #[.val (.int x0), .val (.int x1), .val (.int x2), .val (.int mm), .val (.int tt), .val (.ref b4), .val (.int (if x2 < mm then (1 : Int32) else (0 : Int32))), .val (.int (if (mm.toInt64) < ((x2.toInt64) + (1 : Int64)) then (0 : Int32) else (1 : Int32))), .val (.int (if (mm - (1 : Int32)) < mm then (1 : Int32) else (0 : Int32))), .unset] [(.int (1 : Int32))])) _
        refine XS.goto X23.here hx rfl (pc0 := 79) (pc' := 83) rfl (hb hby at_79) (by decide) (by decide) ?_
        simp only [if_neg hc25]
        exact Steps.refl _
      )
  have st27 : Steps p.tables e below (s₁.setTop (entryFrame m #[(.int x0), (.int x1), (.int x2)] maxLocals)) (T23.setTop (mkF m 89 #[.val (.int x0), .val (.int x1), .val (.int x2), .val (.int mm), .val (.int tt), .val (.ref b4), .val (.int (if x2 < mm then (1 : Int32) else (0 : Int32))), .val (.int (if (mm.toInt64) < ((x2.toInt64) + (1 : Int64)) then (0 : Int32) else (1 : Int32))), .val (.int (if (mm - (1 : Int32)) < mm then (1 : Int32) else (0 : Int32))), .val (.int (if mm < mm then (0 : Int32) else (1 : Int32)))] [(.int (if (mm.toInt64) < ((x2.toInt64) + (1 : Int64)) then (0 : Int32) else (1 : Int32))), (.int (if x2 < mm then (1 : Int32) else (0 : Int32)))])) := st26.trans (by
      show Steps p.tables e below (T23.setTop (mkF m 83 #[.val (.int x0), .val (.int x1), .val (.int x2), .val (.int mm), .val (.int tt), .val (.ref b4), .val (.int (if x2 < mm then (1 : Int32) else (0 : Int32))), .val (.int (if (mm.toInt64) < ((x2.toInt64) + (1 : Int64)) then (0 : Int32) else (1 : Int32))), .val (.int (if (mm - (1 : Int32)) < mm then (1 : Int32) else (0 : Int32))), .unset] [(.int (if mm < mm then (0 : Int32) else (1 : Int32)))])) _
      refine XS.istore X23.here hx rfl (hb hby at_83) rfl (l' := #[.val (.int x0), .val (.int x1), .val (.int x2), .val (.int mm), .val (.int tt), .val (.ref b4), .val (.int (if x2 < mm then (1 : Int32) else (0 : Int32))), .val (.int (if (mm.toInt64) < ((x2.toInt64) + (1 : Int64)) then (0 : Int32) else (1 : Int32))), .val (.int (if (mm - (1 : Int32)) < mm then (1 : Int32) else (0 : Int32))), .val (.int (if mm < mm then (0 : Int32) else (1 : Int32)))]) rfl ?_
      show Steps p.tables e below (T23.setTop (mkF m 85 #[.val (.int x0), .val (.int x1), .val (.int x2), .val (.int mm), .val (.int tt), .val (.ref b4), .val (.int (if x2 < mm then (1 : Int32) else (0 : Int32))), .val (.int (if (mm.toInt64) < ((x2.toInt64) + (1 : Int64)) then (0 : Int32) else (1 : Int32))), .val (.int (if (mm - (1 : Int32)) < mm then (1 : Int32) else (0 : Int32))), .val (.int (if mm < mm then (0 : Int32) else (1 : Int32)))] [])) _
      refine XS.iload X23.here hx rfl (hb hby at_85) rfl ?_
      show Steps p.tables e below (T23.setTop (mkF m 87 #[.val (.int x0), .val (.int x1), .val (.int x2), .val (.int mm), .val (.int tt), .val (.ref b4), .val (.int (if x2 < mm then (1 : Int32) else (0 : Int32))), .val (.int (if (mm.toInt64) < ((x2.toInt64) + (1 : Int64)) then (0 : Int32) else (1 : Int32))), .val (.int (if (mm - (1 : Int32)) < mm then (1 : Int32) else (0 : Int32))), .val (.int (if mm < mm then (0 : Int32) else (1 : Int32)))] [(.int (if x2 < mm then (1 : Int32) else (0 : Int32)))])) _
      refine XS.iload X23.here hx rfl (hb hby at_87) rfl ?_
      exact Steps.refl _)
  have hf28 : (if x2 < mm then (1 : Int32) else (0 : Int32)) = (if (mm.toInt64) < ((x2.toInt64) + (1 : Int64)) then (0 : Int32) else (1 : Int32)) := own_got x2 mm
  have st29 : Steps p.tables e below (s₁.setTop (entryFrame m #[(.int x0), (.int x1), (.int x2)] maxLocals)) (T23.setTop (mkF m 94 #[.val (.int x0), .val (.int x1), .val (.int x2), .val (.int mm), .val (.int tt), .val (.ref b4), .val (.int (if x2 < mm then (1 : Int32) else (0 : Int32))), .val (.int (if (mm.toInt64) < ((x2.toInt64) + (1 : Int64)) then (0 : Int32) else (1 : Int32))), .val (.int (if (mm - (1 : Int32)) < mm then (1 : Int32) else (0 : Int32))), .val (.int (if mm < mm then (0 : Int32) else (1 : Int32)))] [(.int (if (mm - (1 : Int32)) < mm then (1 : Int32) else (0 : Int32)))])) := st27.trans (by
      show Steps p.tables e below (T23.setTop (mkF m 89 #[.val (.int x0), .val (.int x1), .val (.int x2), .val (.int mm), .val (.int tt), .val (.ref b4), .val (.int (if x2 < mm then (1 : Int32) else (0 : Int32))), .val (.int (if (mm.toInt64) < ((x2.toInt64) + (1 : Int64)) then (0 : Int32) else (1 : Int32))), .val (.int (if (mm - (1 : Int32)) < mm then (1 : Int32) else (0 : Int32))), .val (.int (if mm < mm then (0 : Int32) else (1 : Int32)))] [(.int (if (mm.toInt64) < ((x2.toInt64) + (1 : Int64)) then (0 : Int32) else (1 : Int32))), (.int (if x2 < mm then (1 : Int32) else (0 : Int32)))])) _
      refine XS.icmpNo X23.here hx rfl (hb hby at_89) rfl (teq hf28).2 ?_
      show Steps p.tables e below (T23.setTop (mkF m 92 #[.val (.int x0), .val (.int x1), .val (.int x2), .val (.int mm), .val (.int tt), .val (.ref b4), .val (.int (if x2 < mm then (1 : Int32) else (0 : Int32))), .val (.int (if (mm.toInt64) < ((x2.toInt64) + (1 : Int64)) then (0 : Int32) else (1 : Int32))), .val (.int (if (mm - (1 : Int32)) < mm then (1 : Int32) else (0 : Int32))), .val (.int (if mm < mm then (0 : Int32) else (1 : Int32)))] [])) _
      refine XS.iload X23.here hx rfl (hb hby at_92) rfl ?_
      exact Steps.refl _)
  have hf30 : (mm - (1 : Int32)) < mm := own_pred mm hm.1
  have st31 : Steps p.tables e below (s₁.setTop (entryFrame m #[(.int x0), (.int x1), (.int x2)] maxLocals)) (T23.setTop (mkF m 99 #[.val (.int x0), .val (.int x1), .val (.int x2), .val (.int mm), .val (.int tt), .val (.ref b4), .val (.int (if x2 < mm then (1 : Int32) else (0 : Int32))), .val (.int (if (mm.toInt64) < ((x2.toInt64) + (1 : Int64)) then (0 : Int32) else (1 : Int32))), .val (.int (if (mm - (1 : Int32)) < mm then (1 : Int32) else (0 : Int32))), .val (.int (if mm < mm then (0 : Int32) else (1 : Int32)))] [(.int (if mm < mm then (0 : Int32) else (1 : Int32)))])) := st29.trans (by
      show Steps p.tables e below (T23.setTop (mkF m 94 #[.val (.int x0), .val (.int x1), .val (.int x2), .val (.int mm), .val (.int tt), .val (.ref b4), .val (.int (if x2 < mm then (1 : Int32) else (0 : Int32))), .val (.int (if (mm.toInt64) < ((x2.toInt64) + (1 : Int64)) then (0 : Int32) else (1 : Int32))), .val (.int (if (mm - (1 : Int32)) < mm then (1 : Int32) else (0 : Int32))), .val (.int (if mm < mm then (0 : Int32) else (1 : Int32)))] [(.int (if (mm - (1 : Int32)) < mm then (1 : Int32) else (0 : Int32)))])) _
      refine XS.ifNo X23.here hx rfl (hb hby at_94) rfl (own_bt hf30).1 ?_
      show Steps p.tables e below (T23.setTop (mkF m 97 #[.val (.int x0), .val (.int x1), .val (.int x2), .val (.int mm), .val (.int tt), .val (.ref b4), .val (.int (if x2 < mm then (1 : Int32) else (0 : Int32))), .val (.int (if (mm.toInt64) < ((x2.toInt64) + (1 : Int64)) then (0 : Int32) else (1 : Int32))), .val (.int (if (mm - (1 : Int32)) < mm then (1 : Int32) else (0 : Int32))), .val (.int (if mm < mm then (0 : Int32) else (1 : Int32)))] [])) _
      refine XS.iload X23.here hx rfl (hb hby at_97) rfl ?_
      exact Steps.refl _)
  have hf32 : ¬ ((if mm < mm then (0 : Int32) else (1 : Int32)) = (0 : Int32)) := by rw [if_neg (own_irr mm)]; decide
  have st33 : Steps p.tables e below (s₁.setTop (entryFrame m #[(.int x0), (.int x1), (.int x2)] maxLocals)) (T23.setTop (mkF m 107 #[.val (.int x0), .val (.int x1), .val (.int x2), .val (.int mm), .val (.int tt), .val (.ref b4), .val (.int (if x2 < mm then (1 : Int32) else (0 : Int32))), .val (.int (if (mm.toInt64) < ((x2.toInt64) + (1 : Int64)) then (0 : Int32) else (1 : Int32))), .val (.int (if (mm - (1 : Int32)) < mm then (1 : Int32) else (0 : Int32))), .val (.int (if mm < mm then (0 : Int32) else (1 : Int32)))] [(.int (1 : Int32))])) := st31.trans (by
      show Steps p.tables e below (T23.setTop (mkF m 99 #[.val (.int x0), .val (.int x1), .val (.int x2), .val (.int mm), .val (.int tt), .val (.ref b4), .val (.int (if x2 < mm then (1 : Int32) else (0 : Int32))), .val (.int (if (mm.toInt64) < ((x2.toInt64) + (1 : Int64)) then (0 : Int32) else (1 : Int32))), .val (.int (if (mm - (1 : Int32)) < mm then (1 : Int32) else (0 : Int32))), .val (.int (if mm < mm then (0 : Int32) else (1 : Int32)))] [(.int (if mm < mm then (0 : Int32) else (1 : Int32)))])) _
      refine XS.ifNo X23.here hx rfl (hb hby at_99) rfl ((if0 _ _).trans (feq hf32).1) ?_
      show Steps p.tables e below (T23.setTop (mkF m 102 #[.val (.int x0), .val (.int x1), .val (.int x2), .val (.int mm), .val (.int tt), .val (.ref b4), .val (.int (if x2 < mm then (1 : Int32) else (0 : Int32))), .val (.int (if (mm.toInt64) < ((x2.toInt64) + (1 : Int64)) then (0 : Int32) else (1 : Int32))), .val (.int (if (mm - (1 : Int32)) < mm then (1 : Int32) else (0 : Int32))), .val (.int (if mm < mm then (0 : Int32) else (1 : Int32)))] [])) _
      refine XS.iconst X23.here hx rfl (hb hby at_102) ?_
      show Steps p.tables e below (T23.setTop (mkF m 103 #[.val (.int x0), .val (.int x1), .val (.int x2), .val (.int mm), .val (.int tt), .val (.ref b4), .val (.int (if x2 < mm then (1 : Int32) else (0 : Int32))), .val (.int (if (mm.toInt64) < ((x2.toInt64) + (1 : Int64)) then (0 : Int32) else (1 : Int32))), .val (.int (if (mm - (1 : Int32)) < mm then (1 : Int32) else (0 : Int32))), .val (.int (if mm < mm then (0 : Int32) else (1 : Int32)))] [(.int (1 : Int32))])) _
      refine XS.goto X23.here hx rfl (pc0 := 103) (pc' := 107) rfl (hb hby at_103) (by decide) (by decide) ?_
      exact Steps.refl _)
  obtain ⟨fs, hr, hrun, hended, hEW⟩ := X23.leaveW hS (by rw [hh23]; exact hk) (v := some (.int (1 : Int32))) (fun h => by rw [Bd.returns] at h; cases h)
  refine ⟨_, _, st33.trans ?_, hrun, hended, _, _, rfl, ?_, hEW.1, hEW.2.1, hEW.2.2.1, hEW.2.2.2.mono (by decide) (by decide)⟩
  · exact retN X23 hx (t := .boolean) Bd.returns (by simp) (hb hby at_107) hr
  · show Q0 Z x0 x1 x2 h0 n0 _ T23.heap _
    rw [hh23]
    exact ⟨rfl, N23⟩
set_option maxRecDepth 65536 in
set_option maxHeartbeats 40000000 in
theorem comes_1 {Post : Tables → Env → Array Value → State → Outcome → State → Prop} (hpost : ∀ tb e args s v u, (limb_1_1.after args s (.returned v) u = true ∧ limb_1_2.after args s (.returned v) u = true ∧ True) → ReturnedEndW s (.returned v) u (Jvm.fieldLocs frame_1_writes args s ++ Jvm.arrayLocs frame_1_arrays args s ++ Jvm.staticLocs frame_1_statics s) 16 2176 → Post tb e args s (.returned v) u) :
    ArmFor flags0 classFile x code maxLocals ret World_1 tables_1 room_1 Calls_1 rest_1 Pre_1 Post := by
  intro l hfl _ _ p e ha hc hk s m args below hf hA hF happ hP
  obtain ⟨hcalls, hrest, hpre⟩ := hP
  obtain ⟨-, -, -, hnamed, -, -, -, hat⟩ := (Spec.applies_iff hf).mp happ
  obtain ⟨hg, hn⟩ := and_e (Cond.before_iff.mp (show (Jvm.Cond.and given_1 narrow_1).before args s = true from hpre))
  obtain ⟨g1, g2⟩ := and_e hg
  obtain ⟨g3, g4⟩ := and_e g2
  obtain ⟨g5, g6⟩ := and_e g4
  obtain ⟨w0, w1, w2, rfl⟩ : ∃ w0 w1 w2 : Value, args = #[w0, w1, w2] := by
    have hs : args.size = 3 := by simpa [Cond.value, given_1] using g1
    obtain ⟨L⟩ := args
    match L, hs with
    | [w0, w1, w2], _ => exact ⟨w0, w1, w2, rfl⟩
  have hw := fun d (hd : d ∈ tables_1) => atoms_spec (ws := Jvm.Cond.code x code maxLocals ret :: tables_1) hat d (List.mem_cons_of_mem _ hd)
  have hfit : Fit s := fun {y c} hc i hi => by
    obtain ⟨ha, rfl⟩ := Array.getElem?_eq_some_iff.mp hc
    have q := List.all_eq_true.mp ((Array.all_eq_true_iff_forall_mem.mp hF) _ (Array.getElem_mem ha)) i (List.mem_range.mpr hi)
    simpa [Array.getElem?_eq_getElem hi] using q
  obtain ⟨i0, ei0⟩ := is_v g3
  obtain rfl : w0 = (.int i0) := Option.some.inj ei0
  obtain ⟨i1, ei1⟩ := is_v g5
  obtain rfl : w1 = (.int i1) := Option.some.inj ei1
  obtain ⟨i2, ei2⟩ := is_v g6
  obtain rfl : w2 = (.int i2) := Option.some.inj ei2
  obtain ⟨n, o, h1, h2, h3, _, L, rfl, ⟨hv, N⟩, hq⟩ := rm0 l s _ hw tables_1 i0 i1 i2  s.heap s.heap.size (Nat.le_refl _)  p e ha hc hk s m _ below hf ((Spec.applies_iff_loose hf).mp happ).1 ⟨rfl, State.Warmed39.refl s, rfl⟩ trivial
  subst hv
  refine ⟨n, _, h1, h2, h3, hpost _ _ _ _ _ _ ⟨Cond.after_iff.mpr rfl, Cond.after_iff.mpr (eq_i res_at (Term.int_eval (1)) rfl), trivial⟩ ⟨hq.1, hq.2.1, hq.2.2.1, (hq.2.2.2.sift fun y hy => Or.inr (N y hy)).mono (by decide) (by decide)⟩⟩
theorem main_1_1 : Claimed_1_1 := comes_1 fun _ _ _ _ _ _ h hF => ⟨h.1, hF⟩
theorem main_1_2 : Claimed_1_2 := comes_1 fun _ _ _ _ _ _ h hF => ⟨h.2.1, hF⟩
end Jvm.Pilot.@@N@@
namespace Jvm.Pilot.@@N@@
open Jvm Jvm.ClassFile Sem Op Lib Jvm.Free Jvm.Stand Jvm.Pilot.@@N@@.Jvm.D
/-! MADE BY PROGRAM (witnessworld.py) out of the Statement's table words and the real class files: 15 classes; the members and pool entries that the words name. The judged class is class 1, her method 1. -/
namespace start1
open Jvm.ClassFile
def u (s : String) : CpInfo := .utf8 (stringToUtf16 s)
/-- a pool by its gaps: so many unusable entries, then the entry; so many at the end -/
def gap : Nat → List CpInfo → List CpInfo
  | 0, r => r
  | n + 1, r => .unusable :: gap n r
def poolList (es : List (Nat × CpInfo)) (last : Nat) : List CpInfo := es.foldr (fun e r => gap e.1 (e.2 :: r)) (gap last [])
def pool (es : List (Nat × CpInfo)) (last : Nat) : Array CpInfo := ⟨poolList es last⟩
def fileOf (pool : Array CpInfo) (this : Nat) (attrs : Array Attribute := #[]) (ms : Array MethodInfo := #[]) (fl : Nat := 33) (sup : Nat := 0) (ifs : Array Nat := #[]) (fds : Array FieldInfo := #[]) : ClassFile where
  minorVersion := 0
  majorVersion := 65
  constantPool := pool
  accessFlags := fl
  thisClass := this
  superClass := sup
  interfaces := ifs
  fields := fds
  methods := ms
  attributes := attrs
def plain (name : String) (sup : Option ClassId) : Class where
  name := name
  kind := .ordinary
  loader := none
  accessFlags := 33
  super := sup
  interfaces := #[]
  cf := none
  fields := #[]
  methods := #[]
  instanceTypes := #[]
  staticTypes := #[]
  resolved := #[]
  callSites := []
  init := .initialized
  statics := none
  mirror := none

def pool0 : Array CpInfo := pool [(5, u "<init>"), (0, u "()V"), (1, .class_ 10), (1, u "java/lang/Object")] 113

def k0c0 : Code := { maxStack := 0, maxLocals := 1, code := object_method_1_code, exceptionTable := #[], attributes := #[] }
def k0m0 : Method := { name := "<init>", desc := "()V", sig := { parameters := [], returnType := none }, accessFlags := 1, code := some k0c0 }
/-- java/lang/Object -/
def k0 : Class := { plain "java/lang/Object" none with
  accessFlags := 33
  interfaces := #[]
  cf := some (fileOf pool0 8 #[] #[{ accessFlags := 1, nameIndex := 5, descriptorIndex := 6, attributes := #[] }] 33 0 #[] #[])
  fields := #[]
  methods := #[k0m0]
  instanceTypes := #[]
  staticTypes := #[]
  resolved := Array.replicate 124 none
  statics := none }

def pool1 : Array CpInfo := pool [(2, .class_ 4), (1, u "java/lang/Object"), (0, u "<init>"), (0, u "()V"), (0, .integer 2147483647), (0, .class_ 9), (0, u "com/example/vireo/vireo/RetryPolicy"), (0, .methodref 8 11), (0, .nameAndType 5 12), (0, u "(II)V"), (0, .methodref 8 14), (0, .nameAndType 15 16), (0, u "allowsAttemptAfter"), (0, u "(I)Z"), (0, .class_ 18), (0, u "com/example/vireo/vireo/RetryPolicyAllowsAttemptAfterPinLaw"), (2, u "law"), (0, u "(III)Z")] 3

def k1m0 : Method := { name := "<init>", desc := "()V", sig := { parameters := [], returnType := none }, accessFlags := 1, code := none }
def k1c1 : Code := { maxStack := 4, maxLocals := 10, code := code, exceptionTable := #[], attributes := #[] }
def k1m1 : Method := { name := "law", desc := "(III)Z", sig := { parameters := [.int, .int, .int], returnType := some .boolean }, accessFlags := 9, code := some k1c1 }
/-- com/example/vireo/vireo/RetryPolicyAllowsAttemptAfterPinLaw -/
def k1 : Class := { plain "com/example/vireo/vireo/RetryPolicyAllowsAttemptAfterPinLaw" (some 0) with
  accessFlags := 49
  interfaces := #[]
  cf := some (fileOf pool1 17 #[] #[{ accessFlags := 1, nameIndex := 5, descriptorIndex := 6, attributes := #[] }, { accessFlags := 9, nameIndex := 21, descriptorIndex := 22, attributes := #[] }] 49 2 #[] #[])
  fields := #[]
  methods := #[k1m0, k1m1]
  instanceTypes := #[]
  staticTypes := #[]
  resolved := Array.replicate 26 none
  statics := none }

def pool2 : Array CpInfo := pool [(1, .methodref 2 3), (0, .class_ 4), (0, .nameAndType 5 6), (0, u "java/lang/Object"), (0, u "<init>"), (0, u "()V"), (0, .class_ 8), (0, u "java/lang/Record")] 13

def k2c0 : Code := { maxStack := 1, maxLocals := 1, code := jdk_30_method_1_code, exceptionTable := #[], attributes := #[] }
def k2m0 : Method := { name := "<init>", desc := "()V", sig := { parameters := [], returnType := none }, accessFlags := 4, code := some k2c0 }
/-- java/lang/Record -/
def k2 : Class := { plain "java/lang/Record" (some 0) with
  accessFlags := 1057
  interfaces := #[]
  cf := some (fileOf pool2 7 #[] #[{ accessFlags := 4, nameIndex := 5, descriptorIndex := 6, attributes := #[] }] 1057 2 #[] #[])
  fields := #[]
  methods := #[k2m0]
  instanceTypes := #[]
  staticTypes := #[]
  resolved := Array.replicate 22 none
  statics := none }

def pool3 : Array CpInfo := pool [(1, .methodref 2 3), (0, .class_ 4), (0, .nameAndType 5 6), (0, u "java/lang/Record"), (0, u "<init>"), (0, u "()V"), (0, .string 8), (0, u "maxDeliveryAttempts"), (0, .class_ 10), (0, u "com/example/vireo/vireo/RetryPolicy"), (0, .methodref 9 12), (0, .nameAndType 13 14), (0, u "requireRange"), (0, u "(Ljava/lang/String;II)V"), (0, .string 16), (0, u "eventTimeToLiveInMinutes"), (0, .fieldref 9 18), (0, .nameAndType 8 19), (0, u "I"), (0, .fieldref 9 21), (0, .nameAndType 16 19), (29, u "(II)V"), (2, u "DEFAULT"), (0, u "Lcom/example/vireo/vireo/RetryPolicy;"), (0, u "MAX_DELIVERY_ATTEMPTS"), (2, u "MAX_TIME_TO_LIVE_MINUTES"), (4, u "allowsAttemptAfter"), (0, u "(I)Z")] 36

def k3c0 : Code := { maxStack := 3, maxLocals := 3, code := prog_6_method_1_code, exceptionTable := #[], attributes := #[] }
def k3m0 : Method := { name := "<init>", desc := "(II)V", sig := { parameters := [.int, .int], returnType := none }, accessFlags := 1, code := some k3c0 }
def k3c1 : Code := { maxStack := 2, maxLocals := 2, code := prog_6_method_2_code, exceptionTable := #[], attributes := #[] }
def k3m1 : Method := { name := "allowsAttemptAfter", desc := "(I)Z", sig := { parameters := [.int], returnType := some .boolean }, accessFlags := 1, code := some k3c1 }
def k3c2 : Code := { maxStack := 4, maxLocals := 3, code := prog_6_method_4_code, exceptionTable := #[], attributes := #[] }
def k3m2 : Method := { name := "requireRange", desc := "(Ljava/lang/String;II)V", sig := { parameters := [(.object "java/lang/String"), .int, .int], returnType := none }, accessFlags := 10, code := some k3c2 }
/-- com/example/vireo/vireo/RetryPolicy -/
def k3 : Class := { plain "com/example/vireo/vireo/RetryPolicy" (some 2) with
  accessFlags := 49
  interfaces := #[]
  cf := some (fileOf pool3 9 #[] #[{ accessFlags := 1, nameIndex := 5, descriptorIndex := 51, attributes := #[] }, { accessFlags := 1, nameIndex := 64, descriptorIndex := 65, attributes := #[] }, { accessFlags := 10, nameIndex := 13, descriptorIndex := 14, attributes := #[] }] 49 2 #[] #[{ accessFlags := 18, nameIndex := 8, descriptorIndex := 19, attributes := #[] }, { accessFlags := 18, nameIndex := 16, descriptorIndex := 19, attributes := #[] }, { accessFlags := 25, nameIndex := 56, descriptorIndex := 19, attributes := #[] }, { accessFlags := 25, nameIndex := 59, descriptorIndex := 19, attributes := #[] }, { accessFlags := 25, nameIndex := 54, descriptorIndex := 55, attributes := #[] }])
  fields := #[{ name := "maxDeliveryAttempts", type := .int, accessFlags := 18, slot := 0, constantValue := 0 }, { name := "eventTimeToLiveInMinutes", type := .int, accessFlags := 18, slot := 1, constantValue := 0 }, { name := "MAX_DELIVERY_ATTEMPTS", type := .int, accessFlags := 25, slot := 0, constantValue := 0 }, { name := "MAX_TIME_TO_LIVE_MINUTES", type := .int, accessFlags := 25, slot := 1, constantValue := 0 }, { name := "DEFAULT", type := (.object "com/example/vireo/vireo/RetryPolicy"), accessFlags := 25, slot := 2, constantValue := 0 }]
  methods := #[k3m0, k3m1, k3m2]
  instanceTypes := #[.int, .int]
  staticTypes := #[.int, .int, (.object "com/example/vireo/vireo/RetryPolicy")]
  resolved := Array.replicate 102 none
  statics := none }

def pool4 : Array CpInfo := pool [(1, .class_ 2), (0, u "java/io/Serializable"), (0, .class_ 4), (0, u "java/lang/Object")] 2

/-- java/io/Serializable -/
def k4 : Class := { plain "java/io/Serializable" (some 0) with
  accessFlags := 1537
  interfaces := #[]
  cf := some (fileOf pool4 1 #[] #[] 1537 3 #[] #[])
  fields := #[]
  methods := #[]
  instanceTypes := #[]
  staticTypes := #[]
  resolved := Array.replicate 7 none
  statics := none }

def pool5 : Array CpInfo := pool [(1, .class_ 2), (0, u "java/lang/Comparable"), (0, .class_ 4), (0, u "java/lang/Object")] 7

/-- java/lang/Comparable -/
def k5 : Class := { plain "java/lang/Comparable" (some 0) with
  accessFlags := 1537
  interfaces := #[]
  cf := some (fileOf pool5 1 #[] #[] 1537 3 #[] #[])
  fields := #[]
  methods := #[]
  instanceTypes := #[]
  staticTypes := #[]
  resolved := Array.replicate 12 none
  statics := none }

def pool6 : Array CpInfo := pool [(2, .class_ 4), (1, u "java/lang/CharSequence"), (42, .class_ 48), (0, u "java/lang/CharSequence$1CodePointIterator"), (10, .class_ 60), (0, u "java/lang/CharSequence$1CharIterator"), (5, .class_ 67), (0, u "java/lang/Object")] 63

/-- java/lang/CharSequence -/
def k6 : Class := { plain "java/lang/CharSequence" (some 0) with
  accessFlags := 1537
  interfaces := #[]
  cf := some (fileOf pool6 2 #[.nestMembers #[47, 59]] #[] 1537 66 #[] #[])
  fields := #[]
  methods := #[]
  instanceTypes := #[]
  staticTypes := #[]
  resolved := Array.replicate 131 none
  statics := none }

def pool7 : Array CpInfo := pool [(1, .class_ 2), (0, u "java/lang/constant/Constable"), (0, .class_ 4), (0, u "java/lang/Object")] 6

/-- java/lang/constant/Constable -/
def k7 : Class := { plain "java/lang/constant/Constable" (some 0) with
  accessFlags := 1537
  interfaces := #[]
  cf := some (fileOf pool7 1 #[] #[] 1537 3 #[] #[])
  fields := #[]
  methods := #[]
  instanceTypes := #[]
  staticTypes := #[]
  resolved := Array.replicate 11 none
  statics := none }

def pool8 : Array CpInfo := pool [(1, .class_ 2), (0, u "java/lang/constant/ConstantDesc"), (0, .class_ 4), (0, u "java/lang/Object")] 32

/-- java/lang/constant/ConstantDesc -/
def k8 : Class := { plain "java/lang/constant/ConstantDesc" (some 0) with
  accessFlags := 1537
  interfaces := #[]
  cf := some (fileOf pool8 1 #[] #[] 1537 3 #[] #[])
  fields := #[]
  methods := #[]
  instanceTypes := #[]
  staticTypes := #[]
  resolved := Array.replicate 37 none
  statics := none }

def pool9 : Array CpInfo := pool [(2, .class_ 4), (1, u "java/lang/Object"), (0, u "<init>"), (0, u "()V"), (3, .class_ 12), (1, u "java/lang/String"), (0, u "value"), (0, u "[B"), (2, u "coder"), (0, u "B"), (2, u "hash"), (0, u "I"), (2, u "hashIsZero"), (0, u "Z"), (13, u "COMPACT_STRINGS"), (534, .class_ 576), (0, u "java/lang/CharSequence"), (22, u "CASE_INSENSITIVE_ORDER"), (0, u "Ljava/util/Comparator;"), (500, u "serialPersistentFields"), (0, u "[Ljava/io/ObjectStreamField;"), (0, .class_ 1104), (0, u "java/lang/String$CaseInsensitiveComparator"), (1, .class_ 1107), (0, u "java/io/Serializable"), (0, .class_ 1109), (0, u "java/lang/Comparable"), (0, .class_ 1111), (0, u "java/lang/constant/Constable"), (0, .class_ 1113), (0, u "java/lang/constant/ConstantDesc"), (2, u "serialVersionUID"), (0, u "J"), (3, u "REPL"), (0, u "C"), (2, u "LATIN1"), (1, u "UTF16")] 323

def k9m0 : Method := { name := "<init>", desc := "()V", sig := { parameters := [], returnType := none }, accessFlags := 1, code := none }
/-- java/lang/String -/
def k9 : Class := { plain "java/lang/String" (some 0) with
  accessFlags := 49
  interfaces := #[4, 5, 6, 7, 8]
  cf := some (fileOf pool9 10 #[.nestMembers #[1103]] #[{ accessFlags := 1, nameIndex := 5, descriptorIndex := 6, attributes := #[] }] 49 2 #[1106, 1108, 575, 1110, 1112] #[{ accessFlags := 18, nameIndex := 13, descriptorIndex := 14, attributes := #[] }, { accessFlags := 18, nameIndex := 17, descriptorIndex := 18, attributes := #[] }, { accessFlags := 2, nameIndex := 21, descriptorIndex := 22, attributes := #[] }, { accessFlags := 2, nameIndex := 25, descriptorIndex := 26, attributes := #[] }, { accessFlags := 26, nameIndex := 1116, descriptorIndex := 1117, attributes := #[] }, { accessFlags := 24, nameIndex := 40, descriptorIndex := 26, attributes := #[] }, { accessFlags := 26, nameIndex := 1101, descriptorIndex := 1102, attributes := #[] }, { accessFlags := 26, nameIndex := 1121, descriptorIndex := 1122, attributes := #[] }, { accessFlags := 25, nameIndex := 599, descriptorIndex := 600, attributes := #[] }, { accessFlags := 24, nameIndex := 1125, descriptorIndex := 18, attributes := #[] }, { accessFlags := 24, nameIndex := 1127, descriptorIndex := 18, attributes := #[] }])
  fields := #[{ name := "value", type := (.array .byte), accessFlags := 18, slot := 0, constantValue := 0 }, { name := "coder", type := .byte, accessFlags := 18, slot := 1, constantValue := 0 }, { name := "hash", type := .int, accessFlags := 2, slot := 2, constantValue := 0 }, { name := "hashIsZero", type := .boolean, accessFlags := 2, slot := 3, constantValue := 0 }, { name := "serialVersionUID", type := .long, accessFlags := 26, slot := 0, constantValue := 0 }, { name := "COMPACT_STRINGS", type := .boolean, accessFlags := 24, slot := 1, constantValue := 0 }, { name := "serialPersistentFields", type := (.array (.object "java/io/ObjectStreamField")), accessFlags := 26, slot := 2, constantValue := 0 }, { name := "REPL", type := .char, accessFlags := 26, slot := 3, constantValue := 0 }, { name := "CASE_INSENSITIVE_ORDER", type := (.object "java/util/Comparator"), accessFlags := 25, slot := 4, constantValue := 0 }, { name := "LATIN1", type := .byte, accessFlags := 24, slot := 5, constantValue := 0 }, { name := "UTF16", type := .byte, accessFlags := 24, slot := 6, constantValue := 0 }]
  methods := #[k9m0]
  instanceTypes := #[(.array .byte), .byte, .int, .boolean]
  staticTypes := #[.long, .boolean, (.array (.object "java/io/ObjectStreamField")), .char, (.object "java/util/Comparator"), .byte, .byte]
  resolved := Array.replicate 1451 none
  statics := none }

def pool10 : Array CpInfo := pool [(1, u "java/lang/Cloneable"), (0, .class_ 1), (0, u "java/lang/Object"), (0, .class_ 3)] 3

/-- java/lang/Cloneable -/
def k10 : Class := { plain "java/lang/Cloneable" (some 0) with
  accessFlags := 1537
  interfaces := #[]
  cf := some (fileOf pool10 2 #[] #[] 1537 4 #[] #[])
  fields := #[]
  methods := #[]
  instanceTypes := #[]
  staticTypes := #[]
  resolved := Array.replicate 8 none
  statics := none }

/-- the primitive byte -/
def k11 : Class := { plain "byte" none with kind := .primitive 'B', accessFlags := 0x411 }
/-- [B -/
def k12 : Class := { plain "[B" (some 0) with kind := .array 11 .byte, interfaces := #[10, 4], accessFlags := 1041 }

/-- the primitive int -/
def k13 : Class := { plain "int" none with kind := .primitive 'I', accessFlags := 0x411 }
/-- [I -/
def k14 : Class := { plain "[I" (some 0) with kind := .array 13 .int, interfaces := #[10, 4], accessFlags := 1041 }

def heap : Heap := #[]
def classes : Array Class := #[k0, k1, k2, k3, k4, k5, k6, k7, k8, k9, k10, k11, k12, k13, k14]
def interned : List (Array UInt16 × Addr) := []
def slotsUsed : Nat := 0
def theMethod : MethodId := ⟨1, 1⟩
def args0 : Array Value := #[.int 5, .int 7, .int 3]
def aboutOver (below : List Frame) : State where
  vm := { classes := classes, interned := interned.toArray }
  heap := heap
  slotsUsed := slotsUsed
  threads := #[{ frames := .invoking theMethod args0 :: below }]
def below0 : List Frame := [.native { method := ⟨0, 0⟩, args := #[] }]
def about1 : State := aboutOver below0
def p0 : Program := .bare "" "" ""
def e0 : Env := launch0.env 0 0 0
theorem w_frames : about1.frames = Frame.invoking theMethod args0 :: below0 := rfl
set_option maxRecDepth 65536 in
theorem w_args : argsFit about1.vm theMethod args0 = true := by decide +kernel
set_option maxRecDepth 65536 in
theorem w_heap : heapFits about1 = true := by decide +kernel
set_option maxRecDepth 65536 in
theorem w_runnable : about1.curStatus? = some .runnable := by decide +kernel
set_option maxRecDepth 65536 in
theorem w_alone : about1.alone = true := by decide +kernel
set_option maxRecDepth 65536 in
theorem w_named : about1.methodNamed? x = some theMethod := by decide +kernel
set_option maxRecDepth 65536 in
theorem w_hears : about1.hears theMethod below0 = true := by decide +kernel
set_option maxRecDepth 65536 in
theorem w_ripe : about1.ripe theMethod args0 below0 = true := by decide +kernel
theorem w_running : about1.status = .running := rfl
set_option maxRecDepth 65536 in
theorem w_room : about1.hasRoom e0.platform room_1 = true :=
  launch0.hasRoom_least _ room_1 (by decide +kernel) (by decide +kernel) (by decide +kernel) (by decide +kernel) (by decide +kernel) (by decide +kernel)
theorem allAtoms_all (ts : List Jvm.Cond) (a : Array Jvm.Value) (st : Jvm.State) : (allAtoms ts).before a st = ts.all (fun c => c.before a st) := by
  induction ts with
  | nil => rfl
  | cons c t ih =>
    show (Jvm.Cond.and c (allAtoms t)).before a st = _
    rw [Jvm.Cond.before_and, ih, List.all_cons]
def words1 : List Jvm.Cond := Jvm.Cond.code x code maxLocals ret :: tables_1
/-- a 'code' word, met by the world's own term for the bytes: nothing is compared byte by byte -/
theorem code_word {y : MethodName} {bytes : ByteArray} {mx : Nat} {rt : Option FieldType} {a : Array Value} {s : State} {m : MethodId} {meth : Method} {c : Code} (h1 : s.methodNamed? y = some m) (h2 : s.vm.method? m = some meth) (h3 : meth.code = some c) (h4 : c.code = bytes)
    (h5 : (c.maxLocals == mx && c.exceptionTable.isEmpty && decide (c.maxStack ≤ mostOperands) && decide (meth.sig.returnType = rt) && !meth.locks && decide (parseMethodDescriptor y.desc = some meth.sig)) = true) : (Jvm.Cond.code y bytes mx rt).before a s = true := by
  simp only [Bool.and_eq_true, beq_iff_eq, Bool.not_eq_true', decide_eq_true_eq] at h5
  obtain ⟨⟨⟨⟨⟨g1, g2⟩, g3⟩, g4⟩, g5⟩, g6⟩ := h5
  simp [Cond.before, Cond.holds, Cond.value, h1, h2, h3, h4, g1, g2, g3, g4, g5, g6]
def isCode : Jvm.Cond → Bool
  | .code _ _ _ _ => true
  | _ => false
theorem all_split {L : List Jvm.Cond} {P : Jvm.Cond → Bool} (h1 : L.all (fun c => isCode c || P c) = true) (h2 : ∀ c ∈ L.filter isCode, P c = true) : L.all P = true := by
  refine List.all_eq_true.mpr fun c hc => ?_
  have h := List.all_eq_true.mp h1 c hc
  rcases Bool.eq_false_or_eq_true (isCode c) with hi | hi
  · exact h2 c (List.mem_filter.mpr ⟨hc, hi⟩)
  · simpa [hi] using h
set_option maxRecDepth 65536 in
theorem w_c0 : (Jvm.Cond.code x code maxLocals ret).before args0 about1 = true := code_word (m := ⟨1, 1⟩) (meth := k1m1) (c := k1c1) (by decide +kernel) rfl rfl rfl (by decide +kernel)
set_option maxRecDepth 65536 in
theorem w_c1 : (Jvm.Cond.code ({ cls := "com/example/vireo/vireo/RetryPolicy", name := "<init>", desc := "(II)V" } : Jvm.MethodName) prog_6_method_1_code (3 : Nat) (Option.none : Option Jvm.ClassFile.FieldType)).before args0 about1 = true := code_word (m := ⟨3, 0⟩) (meth := k3m0) (c := k3c0) (by decide +kernel) rfl rfl rfl (by decide +kernel)
set_option maxRecDepth 65536 in
theorem w_c2 : (Jvm.Cond.code ({ cls := "java/lang/Record", name := "<init>", desc := "()V" } : Jvm.MethodName) jdk_30_method_1_code (1 : Nat) (Option.none : Option Jvm.ClassFile.FieldType)).before args0 about1 = true := code_word (m := ⟨2, 0⟩) (meth := k2m0) (c := k2c0) (by decide +kernel) rfl rfl rfl (by decide +kernel)
set_option maxRecDepth 65536 in
theorem w_c3 : (Jvm.Cond.code ({ cls := "java/lang/Object", name := "<init>", desc := "()V" } : Jvm.MethodName) object_method_1_code (1 : Nat) (Option.none : Option Jvm.ClassFile.FieldType)).before args0 about1 = true := code_word (m := ⟨0, 0⟩) (meth := k0m0) (c := k0c0) (by decide +kernel) rfl rfl rfl (by decide +kernel)
set_option maxRecDepth 65536 in
theorem w_c4 : (Jvm.Cond.code ({ cls := "com/example/vireo/vireo/RetryPolicy", name := "requireRange", desc := "(Ljava/lang/String;II)V" } : Jvm.MethodName) prog_6_method_4_code (3 : Nat) (Option.none : Option Jvm.ClassFile.FieldType)).before args0 about1 = true := code_word (m := ⟨3, 2⟩) (meth := k3m2) (c := k3c2) (by decide +kernel) rfl rfl rfl (by decide +kernel)
set_option maxRecDepth 65536 in
theorem w_c5 : (Jvm.Cond.code ({ cls := "com/example/vireo/vireo/RetryPolicy", name := "allowsAttemptAfter", desc := "(I)Z" } : Jvm.MethodName) prog_6_method_2_code (2 : Nat) (Option.some Jvm.ClassFile.FieldType.boolean)).before args0 about1 = true := code_word (m := ⟨3, 1⟩) (meth := k3m1) (c := k3c1) (by decide +kernel) rfl rfl rfl (by decide +kernel)
def codes1 : List Jvm.Cond := [Jvm.Cond.code x code maxLocals ret, Jvm.Cond.code ({ cls := "com/example/vireo/vireo/RetryPolicy", name := "<init>", desc := "(II)V" } : Jvm.MethodName) prog_6_method_1_code (3 : Nat) (Option.none : Option Jvm.ClassFile.FieldType), Jvm.Cond.code ({ cls := "java/lang/Record", name := "<init>", desc := "()V" } : Jvm.MethodName) jdk_30_method_1_code (1 : Nat) (Option.none : Option Jvm.ClassFile.FieldType), Jvm.Cond.code ({ cls := "java/lang/Object", name := "<init>", desc := "()V" } : Jvm.MethodName) object_method_1_code (1 : Nat) (Option.none : Option Jvm.ClassFile.FieldType), Jvm.Cond.code ({ cls := "com/example/vireo/vireo/RetryPolicy", name := "requireRange", desc := "(Ljava/lang/String;II)V" } : Jvm.MethodName) prog_6_method_4_code (3 : Nat) (Option.none : Option Jvm.ClassFile.FieldType), Jvm.Cond.code ({ cls := "com/example/vireo/vireo/RetryPolicy", name := "allowsAttemptAfter", desc := "(I)Z" } : Jvm.MethodName) prog_6_method_2_code (2 : Nat) (Option.some Jvm.ClassFile.FieldType.boolean)]
set_option maxRecDepth 65536 in
theorem codes_eq : words1.filter isCode = codes1 := rfl
theorem w_codes : ∀ c ∈ words1.filter isCode, c.before args0 about1 = true := by
  rw [codes_eq]
  intro c hc
  simp only [codes1, List.mem_cons, List.not_mem_nil, or_false] at hc
  rcases hc with rfl | rfl | rfl | rfl | rfl | rfl
  · exact w_c0
  · exact w_c1
  · exact w_c2
  · exact w_c3
  · exact w_c4
  · exact w_c5
set_option maxRecDepth 65536 in
theorem w_t1 : (words1.take 24).all (fun c => isCode c || c.before args0 about1) = true := by decide +kernel
set_option maxRecDepth 65536 in
theorem w_t2 : (words1.drop 24).all (fun c => isCode c || c.before args0 about1) = true := by decide +kernel
theorem w_tables : (allAtoms (Jvm.Cond.code x code maxLocals ret :: tables_1)).before args0 about1 = true := by
  rw [allAtoms_all]
  show words1.all (fun c => c.before args0 about1) = true
  refine all_split ?_ w_codes
  rw [← List.take_append_drop 24 words1, List.all_append, w_t1, w_t2]
  rfl
set_option maxRecDepth 65536 in
theorem w_case : (Jvm.Cond.and given_1 narrow_1).before args0 about1 = true := by decide +kernel
theorem w_applies : (headSpec (Jvm.Cond.code x code maxLocals ret :: tables_1) room_1).applies x e0.platform about1 = true :=
  (Spec.applies_iff w_frames).mpr ⟨w_running, w_runnable, w_alone, w_named, w_hears, w_ripe, w_room, w_tables⟩
theorem atStart : AtStart classFile x code maxLocals ret World_1 tables_1 room_1 Calls_1 rest_1 Pre_1 launch0 p0 e0 about1 theMethod args0 below0 :=
  ⟨lists_1, trivial, launch0.admits_env _ _ _, launch0.least_env, fairChoices_fair.cas, fairChoices_fair.clock, w_frames, w_args, w_heap, w_applies, trivial, trivial, w_case⟩
end start1
theorem witness_1 : WitnessClaimed_1 := ⟨start1.p0, start1.e0, start1.about1, start1.theMethod, start1.args0, start1.below0, start1.atStart⟩
end Jvm.Pilot.@@N@@
